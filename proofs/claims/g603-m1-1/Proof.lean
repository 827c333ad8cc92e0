import JvmDerived
import JvmDerived.Pilot.@@N@@Statement
import JvmDerived.Pilot.@@N@@Code
set_option linter.unusedVariables false
set_option linter.unusedSimpArgs false
namespace Jvm.Pilot.@@N@@
namespace GK
open Jvm Jvm.ClassFile Sem Op Lib Jvm.Free Jvm.Stand Jvm.LawKit Jvm.RoadKit Bundle
/-! A small program logic over the library's walks: 'Go' says that from a frame at pc the body runs to its return, and what holds there. -/
abbrev Md := Option (List (String × Nat))
def Bk0 (md : Md) (Z s : State) (sf : List Addr) (vm0 : Vm) (h : Heap) : Prop :=
  match md with
  | none => vm0 = s.vm
  | some EL => (∃ k, s.Since vm0 k ∧ k ≤ h.size) ∧ (∃ a0, EW Z a0 EL) ∧ CHr Z EL s.vm s.heap vm0 h ∧ ∀ x ∈ sf, x < h.size ∧ Safe Z EL vm0 h x
/-- what is kept along a walk: the start's cells stand; the tables' book -/
def Bok (md : Md) (Z : State) (n0 : Nat) (s : State) (sf : List Addr) (vm0 : Vm) (h : Heap) : Prop := Old Z n0 h ∧ Bk0 md Z s sf vm0 h
def SafeAll (md : Md) (Z : State) (sf : List Addr) (vm : Vm) (h : Heap) : Prop :=
  match md with
  | none => True
  | some EL => ∀ x ∈ sf, x < h.size ∧ Safe Z EL vm h x
def FinE (md : Md) (Z s : State) (o : Outcome) (t : State) (L : List Loc) (k n : Nat) : Prop :=
  match md with
  | none => FrameEnd s o t L k n
  | some EL => CHr Z EL s.vm s.heap t.vm t.heap ∧ ReturnedEndW s o t L k n
section B
variable {md : Md} {EL : List (String × Nat)} {Z s : State} {n0 : Nat} {sf sf' ws : List Addr} {vm0 vm1 : Vm} {h h' h2 : Heap} {x a : Addr} {sl : Nat} {v : Value}
theorem extR (h : Heap) : Ext h h := ⟨Nat.le_refl _, fun _ _ q => q⟩
theorem extT (E : Ext h h') (E' : Ext h' h2) : Ext h h2 := ⟨Nat.le_trans E.1 E'.1, fun a c q => E'.2 a c (E.2 a c q)⟩
/-- a write beyond h -/
theorem extW (E : Ext h h') (W : Wr h' h2 a sl v) (q : h.size ≤ a) : Ext h h2 := by
  obtain ⟨c, -, -, -, rfl⟩ := W
  refine ⟨by simpa using E.1, fun b cb hb => ?_⟩
  have hlt := (Array.getElem?_eq_some_iff.mp hb).1
  rw [Array.getElem?_setIfInBounds_ne (by omega)]
  exact E.2 b cb hb
theorem extK (E : Ext h h') (K : Keep h' h2 ws) (q : ∀ x ∈ ws, h.size ≤ x) : Ext h h2 :=
  ⟨Nat.le_trans E.1 K.1, fun b cb hb => K.2.1 b cb (E.2 b cb hb) fun z => by
    have hlt := (Array.getElem?_eq_some_iff.mp hb).1
    have := q b z; omega⟩
theorem keepE (E : Ext h h') (ws : List Addr) : Keep h h' ws := (Keep.refl h ws).ext E
theorem Bok.n0le (B : Bok md Z n0 s sf vm0 h) : n0 ≤ h.size := B.1.1 ▸ B.1.2.1
theorem Bok.sub (B : Bok md Z n0 s sf vm0 h) (q : ∀ x ∈ sf', x ∈ sf) : Bok md Z n0 s sf' vm0 h := by
  cases md with
  | none => exact B
  | some EL => exact ⟨B.1, B.2.1, B.2.2.1, B.2.2.2.1, fun x hx => B.2.2.2.2 x (q x hx)⟩
theorem Bok.keep (B : Bok md Z n0 s sf vm0 h) (K : Keep h h' ws) (q : ∀ x ∈ ws, x ∈ sf) (q0 : ∀ x ∈ ws, n0 ≤ x) : Bok md Z n0 s sf vm0 h' := by
  refine ⟨B.1.keep K q0, ?_⟩
  cases md with
  | none => exact B.2
  | some EL =>
    obtain ⟨-, ⟨k, h1, h2⟩, h3, h4, h5⟩ := B
    have C := CHr.keep K (fun x hx => (h5 x (q x hx)).2) h4.1
    exact ⟨⟨k, h1, Nat.le_trans h2 K.1⟩, h3, h4.trans C, fun x hx => ⟨Nat.lt_of_lt_of_le (h5 x hx).1 K.1, C.safe (h5 x hx).1 (h5 x hx).2⟩⟩
theorem Bok.wr (B : Bok md Z n0 s sf vm0 h) (W : Wr h h' a sl v) (q : a ∈ sf) (q0 : n0 ≤ a) : Bok md Z n0 s sf vm0 h' :=
  B.keep (Keep.of_wr W) (fun x hx => by cases List.mem_singleton.mp hx; exact q) (fun x hx => by cases List.mem_singleton.mp hx; exact q0)
theorem Bok.ext (B : Bok md Z n0 s sf vm0 h) (E : Ext h h') : Bok md Z n0 s sf vm0 h' :=
  B.keep (keepE E []) (fun x hx => nomatch hx) (fun x hx => nomatch hx)
theorem Bok.new (B : Bok md Z n0 s sf vm0 h) (E : Ext h h') (q : x < h'.size) (r : h.size ≤ x) : Bok md Z n0 s (x :: sf) vm0 h' := by
  have B' := B.ext E
  cases md with
  | none => exact B'
  | some EL =>
    refine ⟨B'.1, B'.2.1, B'.2.2.1, B'.2.2.2.1, fun y hy => ?_⟩
    rcases List.mem_cons.mp hy with rfl | hy
    · exact ⟨q, fun b => Safe.new r ((B.2.2.2.1.1.step fun _ _ _ q => E.2 _ _ q).2 _ b)⟩
    · exact B'.2.2.2.2 y hy
end B
/-- Java's x >>> y -/
def ushr (x y : Int32) : Int32 := (x.toUInt32 >>> (y &&& 31).toUInt32).toInt32
def ushrL (x : Int64) (y : Int32) : Int64 := (x.toUInt64 >>> (y &&& 0x3f).toInt64.toUInt64).toInt64
/-- (char) x -/
def chr (x : Int32) : Int32 := x.toUInt32.toUInt16.toUInt32.toInt32
def Go (md : Md) (l : Launch) (Z : State) (n0 : Nat) (R : Room) (bytes : ByteArray) (ml : Nat) (ret : Option FieldType) (own mn : String) (Ψ : Option Value → Heap → List Addr → Prop)
    (cells slots : Nat) (sf : List Addr) (h : Heap) (pc : Nat) (L : Array Slot) (S : List Value) : Prop :=
  ∀ (p : Program) (e : Env) (s : State) (m : MethodId) (args : Array Value) (below : List Frame) (meth : Method) (c : Code) (vm0 : Vm) (T : State) (locs : List Loc),
    p.tables.exec = Jvm.exec → c.code = bytes → c.maxLocals = ml → meth.sig.returnType = ret → meth.locks = false → meth.name = mn → Z.vm.findClass own = some m.cls →
    Stand p l e R (s.setVm vm0) m args below meth c T locs cells slots → T.heap = h → Z.Warmed39 vm0 → Bok md Z n0 s sf vm0 h → Fr n0 locs →
    ∃ (s₂ : State) (o : Outcome), Steps p.tables e below (T.setTop (mkF m pc L S)) s₂ ∧ s₂.status = .running ∧ Ended s₂ below o ∧
      ∃ (v : Option Value) (L' : List Loc) (sf' : List Addr), o = .returned v ∧ Ψ v s₂.heap sf' ∧ Old Z n0 s₂.heap ∧ Fr n0 L' ∧ SafeAll md Z sf' s₂.vm s₂.heap ∧ FinE md Z s o s₂ L' R.cells R.slots
section G
variable {md : Md} {EL : List (String × Nat)} {l : Launch} {Z : State} {n0 : Nat} {R : Room} {bytes : ByteArray} {ml : Nat} {ret : Option FieldType} {own mn : String} {Ψ : Option Value → Heap → List Addr → Prop}
  {cells slots : Nat} {sf : List Addr} {h h' : Heap} {pc : Nat} {L : Array Slot} {S : List Value} {a0 : Array Value}
theorem Go.more {cells' slots' : Nat} {sf' : List Addr} (G : Go md l Z n0 R bytes ml ret own mn Ψ cells' slots' sf' h pc L S) (hc : cells ≤ cells') (hs : slots ≤ slots') (q : ∀ x ∈ sf', x ∈ sf) : Go md l Z n0 R bytes ml ret own mn Ψ cells slots sf h pc L S := by
  intro p e s m args below meth c vm0 T locs hx hby hml hr hlk hn ho X eT hZ B N
  exact G p e s m args below meth c vm0 T locs hx hby hml hr hlk hn ho (X.more hc hs) eT hZ (B.sub q) N
theorem Go.old (G : Old Z n0 h → n0 ≤ h.size → Go md l Z n0 R bytes ml ret own mn Ψ cells slots sf h pc L S) : Go md l Z n0 R bytes ml ret own mn Ψ cells slots sf h pc L S := by
  intro p e s m args below meth c vm0 T locs hx hby hml hr hlk hn ho X eT hZ B N
  exact G B.1 B.n0le p e s m args below meth c vm0 T locs hx hby hml hr hlk hn ho X eT hZ B N
theorem Go.pure {L' : Array Slot} {S' : List Value} (pc' : Nat) (k : ∀ (p : Program) (e : Env) (below : List Frame) (T target : State) (m : MethodId) (c : Code), At T m c below → p.tables.exec = Jvm.exec → c.code = bytes → Steps p.tables e below (T.setTop (mkF m pc' L' S')) target → Steps p.tables e below (T.setTop (mkF m pc L S)) target)
    (G : Go md l Z n0 R bytes ml ret own mn Ψ cells slots sf h pc' L' S') : Go md l Z n0 R bytes ml ret own mn Ψ cells slots sf h pc L S := by
  intro p e s m args below meth c vm0 T locs hx hby hml hr hlk hn ho X eT hZ B N
  obtain ⟨s₂, o, h1, r⟩ := G p e s m args below meth c vm0 T locs hx hby hml hr hlk hn ho X eT hZ B N
  exact ⟨s₂, o, k _ _ _ _ _ _ _ X.here hx hby h1, r⟩
/-- a step that may warm the tables and leaves the heap as it was -/
theorem Go.warm {L' : Array Slot} {S' : List Value} (pc' : Nat) (k : ∀ (p : Program) (e : Env) (s : State) (m : MethodId) (args : Array Value) (below : List Frame) (meth : Method) (c : Code) (T : State) (locs : List Loc), p.tables.exec = Jvm.exec → c.code = bytes → c.maxLocals = ml → Z.Warmed39 s.vm → s.vm.findClass own = some m.cls →
      Stand p l e R s m args below meth c T locs cells slots → T.heap = h → ∃ T', Stand p l e R s m args below meth c T' locs cells slots ∧ T'.heap = h ∧ ∀ target, Steps p.tables e below (T'.setTop (mkF m pc' L' S')) target → Steps p.tables e below (T.setTop (mkF m pc L S)) target)
    (G : Go md l Z n0 R bytes ml ret own mn Ψ cells slots sf h pc' L' S') : Go md l Z n0 R bytes ml ret own mn Ψ cells slots sf h pc L S := by
  intro p e s m args below meth c vm0 T locs hx hby hml hr hlk hn ho X eT hZ B N
  obtain ⟨T', X', e', st⟩ := k p e (s.setVm vm0) m args below meth c T locs hx hby hml hZ (by rw [show (s.setVm vm0).vm = vm0 from rfl, hZ.alike.findClass]; exact ho) X eT
  obtain ⟨s₂, o, h1, r⟩ := G p e s m args below meth c vm0 T' locs hx hby hml hr hlk hn ho X' e' hZ B N
  exact ⟨s₂, o, st _ h1, r⟩
/-- a write at a place of the object a -/
theorem Go.write {L' : Array Slot} {S' : List Value} {a : Addr} {sl : Nat} {v : Value} (pc' : Nat) (ha : a ∈ sf) (hn0 : n0 ≤ a) (k : ∀ (p : Program) (e : Env) (s : State) (m : MethodId) (args : Array Value) (below : List Frame) (meth : Method) (c : Code) (T : State) (locs : List Loc), p.tables.exec = Jvm.exec → c.code = bytes → c.maxLocals = ml → meth.name = mn → Z.Warmed39 s.vm → s.vm.findClass own = some m.cls →
      Stand p l e R s m args below meth c T locs cells slots → T.heap = h → ∃ T' h', Stand p l e R s m args below meth c T' (locs ++ [⟨a, sl⟩]) cells slots ∧ T'.heap = h' ∧ Wr h h' a sl v ∧ ∀ target, Steps p.tables e below (T'.setTop (mkF m pc' L' S')) target → Steps p.tables e below (T.setTop (mkF m pc L S)) target)
    (G : ∀ h', Wr h h' a sl v → Go md l Z n0 R bytes ml ret own mn Ψ cells slots sf h' pc' L' S') : Go md l Z n0 R bytes ml ret own mn Ψ cells slots sf h pc L S := by
  intro p e s m args below meth c vm0 T locs hx hby hml hr hlk hn ho X eT hZ B N
  obtain ⟨T', h', X', e', W, st⟩ := k p e (s.setVm vm0) m args below meth c T locs hx hby hml hn hZ (by rw [show (s.setVm vm0).vm = vm0 from rfl, hZ.alike.findClass]; exact ho) X eT
  obtain ⟨s₂, o, h1, r⟩ := G h' W p e s m args below meth c vm0 T' _ hx hby hml hr hlk hn ho X' e' hZ (B.wr W ha hn0) (Fr.snoc X' N hn0)
  exact ⟨s₂, o, st _ h1, r⟩
/-! the ends -/
theorem fin_ret {p : Program} {e : Env} {s : State} {m : MethodId} {args : Array Value} {below : List Frame} {meth : Method} {c : Code} {vm0 : Vm} {T : State} {locs : List Loc} {sf' : List Addr} {g : JFrame}
    (X : Stand p l e R (s.setVm vm0) m args below meth c T locs cells slots) (eT : T.heap = h) (hZ : Z.Warmed39 vm0) (B : Bok md Z n0 s sf vm0 h) (N : Fr n0 locs) {v : Option Value} (hv : meth.sig.returnType = none → v = none) (hlk : meth.locks = false) (hc : cells ≤ R.cells) (hs : slots ≤ R.slots)
    (Q : Ψ v h sf') (hsub : ∀ x ∈ sf', x ∈ sf)
    (st : ∀ fs, (∀ (f : JFrame) (acts : List Action), f.method = m → f.locked = none → f.entered = [] → (doReturn e (T.setTop f) acts v).1 = T.setFrames fs) → Steps p.tables e below (T.setTop g) (T.setFrames fs)) :
    ∃ (s₂ : State) (o : Outcome), Steps p.tables e below (T.setTop g) s₂ ∧ s₂.status = .running ∧ Ended s₂ below o ∧
      ∃ (v : Option Value) (L' : List Loc) (sf' : List Addr), o = .returned v ∧ Ψ v s₂.heap sf' ∧ Old Z n0 s₂.heap ∧ Fr n0 L' ∧ SafeAll md Z sf' s₂.vm s₂.heap ∧ FinE md Z s o s₂ L' R.cells R.slots := by
  have eh : ∀ fs, (T.setFrames fs).heap = h := fun fs => eT
  cases md with
  | none =>
    obtain rfl : vm0 = s.vm := B.2
    obtain ⟨fs, hr, hrun, hended, hW, hsame⟩ := X.leave hv hlk
    exact ⟨_, _, st fs hr, hrun, hended, v, locs, sf', rfl, by rw [eh]; exact Q, by rw [eh]; exact B.1, N, trivial, ⟨_, rfl⟩, hW, hsame.mono hc hs⟩
  | some EL =>
    obtain ⟨h0, ⟨k, h1, h2⟩, ⟨a0, h3⟩, h4, h5⟩ := B
    obtain ⟨fs, hr, hrun, hended, hW⟩ := X.leaveW h1 (by rw [eT]; exact h2) hv hlk
    have C : CHr Z EL vm0 h T.vm h := CHv.at X hZ h3 h4.1
    refine ⟨_, _, st fs hr, hrun, hended, v, locs, sf', rfl, by rw [eh]; exact Q, by rw [eh]; exact h0, N, fun x hx => ?_, ?_, hW.1, hW.2.1, hW.2.2.1, hW.2.2.2.mono hc hs⟩
    · rw [eh]; exact ⟨(h5 x (hsub x hx)).1, C.safe (h5 x (hsub x hx)).1 (h5 x (hsub x hx)).2⟩
    · rw [eh]; exact h4.trans C
theorem Go.ret0 (hd : decode bytes pc = .ok (.return_, 1)) (hret : ret = none) {sf' : List Addr} (Q : Ψ none h sf') (hsub : ∀ x ∈ sf', x ∈ sf) (hc : cells ≤ R.cells) (hs : slots ≤ R.slots) : Go md l Z n0 R bytes ml ret own mn Ψ cells slots sf h pc L [] := by
  intro p e s m args below meth c vm0 T locs hx hby hml hr hlk hn ho X eT hZ B N
  exact fin_ret X eT hZ B N (fun _ => rfl) hlk hc hs Q hsub fun fs hl => X.returnOut hx (hr.trans hret) (hb hby hd) hl
theorem Go.retW {t : FieldType} {w : Value} {i : Instr} (hd : decode bytes pc = .ok (i, 1)) (hret : ret = some t) (hn' : narrow t w = w)
    (hi : (i = .ireturn ∧ (t = .int ∨ t = .boolean ∨ t = .byte ∨ t = .char ∨ t = .short) ∧ ∃ z, w = .int z) ∨ (i = .lreturn ∧ t = .long ∧ ∃ z, w = .long z) ∨ (i = .dreturn ∧ t = .double ∧ ∃ z, w = .double z) ∨ (i = .freturn ∧ t = .float ∧ ∃ z, w = .float z) ∨ (i = .areturn ∧ t.isReference = true ∧ w.isRef = true))
    {sf' : List Addr} (Q : Ψ (some w) h sf') (hsub : ∀ x ∈ sf', x ∈ sf) (hc : cells ≤ R.cells) (hs : slots ≤ R.slots) : Go md l Z n0 R bytes ml ret own mn Ψ cells slots sf h pc L (w :: S) := by
  intro p e s m args below meth c vm0 T locs hx hby hml hr hlk hn ho X eT hZ B N
  exact fin_ret X eT hZ B N (fun q => by rw [hr, hret] at q; cases q) hlk hc hs Q hsub fun fs hl => retOut X hx (hr.trans hret) hn' hi (hb hby hd) hl
theorem Go.retI {z : Int32} (hd : decode bytes pc = .ok (.ireturn, 1)) (hret : ret = some .int) {sf' : List Addr} (Q : Ψ (some (.int z)) h sf') (hsub : ∀ x ∈ sf', x ∈ sf) (hc : cells ≤ R.cells) (hs : slots ≤ R.slots) : Go md l Z n0 R bytes ml ret own mn Ψ cells slots sf h pc L (.int z :: S) :=
  Go.retW hd hret rfl (Or.inl ⟨rfl, Or.inl rfl, _, rfl⟩) Q hsub hc hs
theorem Go.retJ {z : Int64} (hd : decode bytes pc = .ok (.lreturn, 1)) (hret : ret = some .long) {sf' : List Addr} (Q : Ψ (some (.long z)) h sf') (hsub : ∀ x ∈ sf', x ∈ sf) (hc : cells ≤ R.cells) (hs : slots ≤ R.slots) : Go md l Z n0 R bytes ml ret own mn Ψ cells slots sf h pc L (.long z :: S) :=
  Go.retW hd hret rfl (Or.inr (Or.inl ⟨rfl, rfl, _, rfl⟩)) Q hsub hc hs
theorem Go.retA {t : FieldType} {w : Value} (hd : decode bytes pc = .ok (.areturn, 1)) (hret : ret = some t) (ht : t.isReference = true) (hw : w.isRef = true) {sf' : List Addr} (Q : Ψ (some w) h sf') (hsub : ∀ x ∈ sf', x ∈ sf) (hc : cells ≤ R.cells) (hs : slots ≤ R.slots) : Go md l Z n0 R bytes ml ret own mn Ψ cells slots sf h pc L (w :: S) :=
  Go.retW hd hret (by cases t <;> cases w <;> first | rfl | cases ht | cases hw) (Or.inr (Or.inr (Or.inr (Or.inr ⟨rfl, ht, hw⟩)))) Q hsub hc hs
theorem Go.retN {t : FieldType} {z : Int32} (v : Int32) (hd : decode bytes pc = .ok (.ireturn, 1)) (hret : ret = some t) (ht : t = .boolean ∨ t = .byte ∨ t = .char ∨ t = .short) (hv : nar t z = v) {sf' : List Addr} (Q : Ψ (some (.int v)) h sf') (hsub : ∀ x ∈ sf', x ∈ sf) (hc : cells ≤ R.cells) (hs : slots ≤ R.slots) :
    Go md l Z n0 R bytes ml ret own mn Ψ cells slots sf h pc L (.int z :: S) := by
  subst hv
  intro p e s m args below meth c vm0 T locs hx hby hml hr hlk hn ho X eT hZ B N
  exact fin_ret X eT hZ B N (fun q => by rw [hr, hret] at q; cases q) hlk hc hs Q hsub fun fs hl => Jvm.RoadKit.retN X hx (hr.trans hret) ht (hb hby hd) hl
/-! plain steps -/
theorem Go.aload {k : Nat} {v : Value} (pc' : Nat) (hd : decode bytes pc = .ok (.aload k, 2)) (hp : pc + 2 = pc') (hl : L[k]? = some (.val v)) (hv : v.isRef = true) (G : Go md l Z n0 R bytes ml ret own mn Ψ cells slots sf h pc' L (v :: S)) : Go md l Z n0 R bytes ml ret own mn Ψ cells slots sf h pc L S := by
  subst hp; exact Go.pure _ (fun p e below T target m c A hx hby k => XS.aload A hx rfl (hb hby hd) hl hv k) G
theorem Go.aloadN {k : Fin 4} {v : Value} (pc' : Nat) (hd : decode bytes pc = .ok (.aload_n k, 1)) (hp : pc + 1 = pc') (hl : L[k.val]? = some (.val v)) (hv : v.isRef = true) (G : Go md l Z n0 R bytes ml ret own mn Ψ cells slots sf h pc' L (v :: S)) : Go md l Z n0 R bytes ml ret own mn Ψ cells slots sf h pc L S := by
  subst hp; exact Go.pure _ (fun p e below T target m c A hx hby k => XS.aloadN A hx rfl (hb hby hd) hl hv k) G
theorem Go.iload {k : Nat} {v : Int32} (pc' : Nat) (hd : decode bytes pc = .ok (.iload k, 2)) (hp : pc + 2 = pc') (hl : L[k]? = some (.val (.int v))) (G : Go md l Z n0 R bytes ml ret own mn Ψ cells slots sf h pc' L (.int v :: S)) : Go md l Z n0 R bytes ml ret own mn Ψ cells slots sf h pc L S := by
  subst hp; exact Go.pure _ (fun p e below T target m c A hx hby k => XS.iload A hx rfl (hb hby hd) hl k) G
theorem Go.iloadN {k : Fin 4} {v : Int32} (pc' : Nat) (hd : decode bytes pc = .ok (.iload_n k, 1)) (hp : pc + 1 = pc') (hl : L[k.val]? = some (.val (.int v))) (G : Go md l Z n0 R bytes ml ret own mn Ψ cells slots sf h pc' L (.int v :: S)) : Go md l Z n0 R bytes ml ret own mn Ψ cells slots sf h pc L S := by
  subst hp; exact Go.pure _ (fun p e below T target m c A hx hby k => XS.iloadN A hx rfl (hb hby hd) hl k) G
theorem Go.lload {k : Nat} {v : Int64} (pc' : Nat) (hd : decode bytes pc = .ok (.lload k, 2)) (hp : pc + 2 = pc') (hl : L[k]? = some (.val (.long v))) (G : Go md l Z n0 R bytes ml ret own mn Ψ cells slots sf h pc' L (.long v :: S)) : Go md l Z n0 R bytes ml ret own mn Ψ cells slots sf h pc L S := by
  subst hp; exact Go.pure _ (fun p e below T target m c A hx hby k => XS.lload A hx rfl (hb hby hd) hl k) G
theorem Go.lloadN {k : Fin 4} {v : Int64} (pc' : Nat) (hd : decode bytes pc = .ok (.lload_n k, 1)) (hp : pc + 1 = pc') (hl : L[k.val]? = some (.val (.long v))) (G : Go md l Z n0 R bytes ml ret own mn Ψ cells slots sf h pc' L (.long v :: S)) : Go md l Z n0 R bytes ml ret own mn Ψ cells slots sf h pc L S := by
  subst hp; exact Go.pure _ (fun p e below T target m c A hx hby k => XS.lloadN A hx rfl (hb hby hd) hl k) G
theorem Go.astore {k : Nat} {v : Value} (pc' : Nat) (L' : Array Slot) (hd : decode bytes pc = .ok (.astore k, 2)) (hp : pc + 2 = pc') (hv : v.isRef = true) (hl : storeLocals L k v = some L') (G : Go md l Z n0 R bytes ml ret own mn Ψ cells slots sf h pc' L' S) : Go md l Z n0 R bytes ml ret own mn Ψ cells slots sf h pc L (v :: S) := by
  subst hp; exact Go.pure _ (fun p e below T target m c A hx hby k => XS.astore A hx rfl (hb hby hd) rfl hv hl k) G
theorem Go.astoreN {k : Fin 4} {v : Value} (pc' : Nat) (L' : Array Slot) (hd : decode bytes pc = .ok (.astore_n k, 1)) (hp : pc + 1 = pc') (hv : v.isRef = true) (hl : storeLocals L k.val v = some L') (G : Go md l Z n0 R bytes ml ret own mn Ψ cells slots sf h pc' L' S) : Go md l Z n0 R bytes ml ret own mn Ψ cells slots sf h pc L (v :: S) := by
  subst hp; exact Go.pure _ (fun p e below T target m c A hx hby k => XS.astoreN A hx rfl (hb hby hd) rfl hv hl k) G
theorem Go.istore {k : Nat} {x : Int32} (pc' : Nat) (L' : Array Slot) (hd : decode bytes pc = .ok (.istore k, 2)) (hp : pc + 2 = pc') (hl : storeLocals L k (.int x) = some L') (G : Go md l Z n0 R bytes ml ret own mn Ψ cells slots sf h pc' L' S) : Go md l Z n0 R bytes ml ret own mn Ψ cells slots sf h pc L (.int x :: S) := by
  subst hp; exact Go.pure _ (fun p e below T target m c A hx hby k => XS.istore A hx rfl (hb hby hd) rfl hl k) G
theorem Go.istoreN {k : Fin 4} {x : Int32} (pc' : Nat) (L' : Array Slot) (hd : decode bytes pc = .ok (.istore_n k, 1)) (hp : pc + 1 = pc') (hl : storeLocals L k.val (.int x) = some L') (G : Go md l Z n0 R bytes ml ret own mn Ψ cells slots sf h pc' L' S) : Go md l Z n0 R bytes ml ret own mn Ψ cells slots sf h pc L (.int x :: S) := by
  subst hp; exact Go.pure _ (fun p e below T target m c A hx hby k => XS.istoreN A hx rfl (hb hby hd) rfl hl k) G
theorem Go.lstore {k : Nat} {x : Int64} (pc' : Nat) (L' : Array Slot) (hd : decode bytes pc = .ok (.lstore k, 2)) (hp : pc + 2 = pc') (hl : storeLocals L k (.long x) = some L') (G : Go md l Z n0 R bytes ml ret own mn Ψ cells slots sf h pc' L' S) : Go md l Z n0 R bytes ml ret own mn Ψ cells slots sf h pc L (.long x :: S) := by
  subst hp; exact Go.pure _ (fun p e below T target m c A hx hby k => XS.lstore A hx rfl (hb hby hd) rfl hl k) G
theorem Go.lstoreN {k : Fin 4} {x : Int64} (pc' : Nat) (L' : Array Slot) (hd : decode bytes pc = .ok (.lstore_n k, 1)) (hp : pc + 1 = pc') (hl : storeLocals L k.val (.long x) = some L') (G : Go md l Z n0 R bytes ml ret own mn Ψ cells slots sf h pc' L' S) : Go md l Z n0 R bytes ml ret own mn Ψ cells slots sf h pc L (.long x :: S) := by
  subst hp; exact Go.pure _ (fun p e below T target m c A hx hby k => XS.lstoreN A hx rfl (hb hby hd) rfl hl k) G
theorem Go.iinc {k : Nat} {cst : Int} {x : Int32} (pc' : Nat) (L' : Array Slot) (v : Int32) (hd : decode bytes pc = .ok (.iinc k cst, 3)) (hp : pc + 3 = pc') (hl : L[k]? = some (.val (.int x))) (hv : Int32.ofInt cst = v) (hl' : storeLocals L k (.int (x + v)) = some L') (G : Go md l Z n0 R bytes ml ret own mn Ψ cells slots sf h pc' L' S) : Go md l Z n0 R bytes ml ret own mn Ψ cells slots sf h pc L S := by
  subst hp; subst hv; exact Go.pure _ (fun p e below T target m c A hx hby k => XS.iinc A hx rfl (hb hby hd) hl hl' k) G
theorem Go.iconst {i : Int} (pc' : Nat) (v : Int32) (hd : decode bytes pc = .ok (.iconst i, 1)) (hp : pc + 1 = pc') (hv : Int32.ofInt i = v) (G : Go md l Z n0 R bytes ml ret own mn Ψ cells slots sf h pc' L (.int v :: S)) : Go md l Z n0 R bytes ml ret own mn Ψ cells slots sf h pc L S := by
  subst hp; subst hv; exact Go.pure _ (fun p e below T target m c A hx hby k => XS.iconst A hx rfl (hb hby hd) k) G
theorem Go.bipush {i : Int} (pc' : Nat) (v : Int32) (hd : decode bytes pc = .ok (.bipush i, 2)) (hp : pc + 2 = pc') (hv : (Int8.ofInt i).toInt32 = v) (G : Go md l Z n0 R bytes ml ret own mn Ψ cells slots sf h pc' L (.int v :: S)) : Go md l Z n0 R bytes ml ret own mn Ψ cells slots sf h pc L S := by
  subst hp; subst hv; exact Go.pure _ (fun p e below T target m c A hx hby k => XS.bipush A hx rfl (hb hby hd) k) G
theorem Go.sipush {i : Int} (pc' : Nat) (v : Int32) (hd : decode bytes pc = .ok (.sipush i, 3)) (hp : pc + 3 = pc') (hv : (Int16.ofInt i).toInt32 = v) (G : Go md l Z n0 R bytes ml ret own mn Ψ cells slots sf h pc' L (.int v :: S)) : Go md l Z n0 R bytes ml ret own mn Ψ cells slots sf h pc L S := by
  subst hp; subst hv; exact Go.pure _ (fun p e below T target m c A hx hby k => XS.sipush A hx rfl (hb hby hd) k) G
theorem Go.lconst {i : Fin 2} (pc' : Nat) (v : Int64) (hd : decode bytes pc = .ok (.lconst i, 1)) (hp : pc + 1 = pc') (hv : Int64.ofNat i = v) (G : Go md l Z n0 R bytes ml ret own mn Ψ cells slots sf h pc' L (.long v :: S)) : Go md l Z n0 R bytes ml ret own mn Ψ cells slots sf h pc L S := by
  subst hp; subst hv; exact Go.pure _ (fun p e below T target m c A hx hby k => XS.lconst A hx rfl (hb hby hd) k) G
theorem Go.aconstNull (pc' : Nat) (hd : decode bytes pc = .ok (.aconst_null, 1)) (hp : pc + 1 = pc') (G : Go md l Z n0 R bytes ml ret own mn Ψ cells slots sf h pc' L (.null :: S)) : Go md l Z n0 R bytes ml ret own mn Ψ cells slots sf h pc L S := by
  subst hp; exact Go.pure _ (fun p e below T target m c A hx hby k => XS.aconstNull A hx rfl (hb hby hd) k) G
theorem Go.dup {v : Value} (pc' : Nat) (hd : decode bytes pc = .ok (.dup, 1)) (hp : pc + 1 = pc') (hv : v.category = 1) (G : Go md l Z n0 R bytes ml ret own mn Ψ cells slots sf h pc' L (v :: v :: S)) : Go md l Z n0 R bytes ml ret own mn Ψ cells slots sf h pc L (v :: S) := by
  subst hp; exact Go.pure _ (fun p e below T target m c A hx hby k => XS.dup A hx rfl (hb hby hd) rfl hv k) G
theorem Go.pop {v : Value} (pc' : Nat) (hd : decode bytes pc = .ok (.pop, 1)) (hp : pc + 1 = pc') (hv : v.category = 1) (G : Go md l Z n0 R bytes ml ret own mn Ψ cells slots sf h pc' L S) : Go md l Z n0 R bytes ml ret own mn Ψ cells slots sf h pc L (v :: S) := by
  subst hp; exact Go.pure _ (fun p e below T target m c A hx hby k => XS.pop A hx rfl (hb hby hd) rfl hv k) G
theorem Go.goto {o : Int} (pc' : Nat) (hd : decode bytes pc = .ok (.goto o, 3)) (ho' : 0 ≤ (pc : Int) + o) (hp : ((pc : Int) + o).toNat = pc') (G : Go md l Z n0 R bytes ml ret own mn Ψ cells slots sf h pc' L S) : Go md l Z n0 R bytes ml ret own mn Ψ cells slots sf h pc L S :=
  Go.pure pc' (fun p e below T target m c A hx hby k => XS.goto A hx rfl (pc0 := pc) (pc' := pc') rfl (hb hby hd) ho' hp k) G
theorem Go.ifY {cd : ClassFile.Cond} {x : Int32} {o : Int} (pc' : Nat) (hd : decode bytes pc = .ok (.ifCond cd o, 3)) (ho' : 0 ≤ (pc : Int) + o) (hp : ((pc : Int) + o).toNat = pc') (hc : if_icmp.holds cd x 0 = true) (G : Go md l Z n0 R bytes ml ret own mn Ψ cells slots sf h pc' L S) : Go md l Z n0 R bytes ml ret own mn Ψ cells slots sf h pc L (.int x :: S) :=
  Go.pure pc' (fun p e below T target m c A hx hby k => XS.ifYes A hx rfl (pc0 := pc) (pc' := pc') rfl (hb hby hd) rfl ((if0 _ _).trans hc) ho' hp k) G
theorem Go.ifN {cd : ClassFile.Cond} {x : Int32} {o : Int} (pc' : Nat) (hd : decode bytes pc = .ok (.ifCond cd o, 3)) (hp : pc + 3 = pc') (hc : if_icmp.holds cd x 0 = false) (G : Go md l Z n0 R bytes ml ret own mn Ψ cells slots sf h pc' L S) : Go md l Z n0 R bytes ml ret own mn Ψ cells slots sf h pc L (.int x :: S) := by
  subst hp; exact Go.pure _ (fun p e below T target m c A hx hby k => XS.ifNo A hx rfl (hb hby hd) rfl ((if0 _ _).trans hc) k) G
theorem Go.icmpY {cd : ClassFile.Cond} {x y : Int32} {o : Int} (pc' : Nat) (hd : decode bytes pc = .ok (.if_icmp cd o, 3)) (ho' : 0 ≤ (pc : Int) + o) (hp : ((pc : Int) + o).toNat = pc') (hc : if_icmp.holds cd x y = true) (G : Go md l Z n0 R bytes ml ret own mn Ψ cells slots sf h pc' L S) : Go md l Z n0 R bytes ml ret own mn Ψ cells slots sf h pc L (.int y :: .int x :: S) :=
  Go.pure pc' (fun p e below T target m c A hx hby k => XS.icmpYes A hx rfl (pc0 := pc) (pc' := pc') rfl (hb hby hd) rfl hc ho' hp k) G
theorem Go.icmpN {cd : ClassFile.Cond} {x y : Int32} {o : Int} (pc' : Nat) (hd : decode bytes pc = .ok (.if_icmp cd o, 3)) (hp : pc + 3 = pc') (hc : if_icmp.holds cd x y = false) (G : Go md l Z n0 R bytes ml ret own mn Ψ cells slots sf h pc' L S) : Go md l Z n0 R bytes ml ret own mn Ψ cells slots sf h pc L (.int y :: .int x :: S) := by
  subst hp; exact Go.pure _ (fun p e below T target m c A hx hby k => XS.icmpNo A hx rfl (hb hby hd) rfl hc k) G
theorem Go.acmpY {cd : ClassFile.ACond} {x y : Value} {o : Int} (pc' : Nat) (hd : decode bytes pc = .ok (.if_acmp cd o, 3)) (ho' : 0 ≤ (pc : Int) + o) (hp : ((pc : Int) + o).toNat = pc') (hx' : x.isRef = true) (hy' : y.isRef = true) (hc : acV cd (decide (x = y)) = true) (G : Go md l Z n0 R bytes ml ret own mn Ψ cells slots sf h pc' L S) : Go md l Z n0 R bytes ml ret own mn Ψ cells slots sf h pc L (y :: x :: S) :=
  Go.warm pc' (fun p e s m args below meth c T locs hx hby hml hZ hown X eT => ⟨T, X, eT, fun target k => Jvm.RoadKit.acmp (g := mkF m pc L (y :: x :: S)) X hx rfl hx' hy' (pc0 := pc) rfl (hb hby hd) rfl rfl ho' (by rw [if_pos hc]; exact hp.symm) k⟩) G
theorem Go.acmpN {cd : ClassFile.ACond} {x y : Value} {o : Int} (pc' : Nat) (hd : decode bytes pc = .ok (.if_acmp cd o, 3)) (ho' : 0 ≤ (pc : Int) + o) (hp : pc + 3 = pc') (hx' : x.isRef = true) (hy' : y.isRef = true) (hc : acV cd (decide (x = y)) = false) (G : Go md l Z n0 R bytes ml ret own mn Ψ cells slots sf h pc' L S) : Go md l Z n0 R bytes ml ret own mn Ψ cells slots sf h pc L (y :: x :: S) :=
  Go.warm pc' (fun p e s m args below meth c T locs hx hby hml hZ hown X eT => ⟨T, X, eT, fun target k => Jvm.RoadKit.acmp (g := mkF m pc L (y :: x :: S)) X hx rfl hx' hy' (pc0 := pc) rfl (hb hby hd) rfl rfl ho' (by rw [if_neg (by rw [hc]; exact Bool.false_ne_true)]; exact hp.symm) k⟩) G
theorem Go.nullY {o : Int} (pc' : Nat) (hd : decode bytes pc = .ok (.ifnull o, 3)) (ho' : 0 ≤ (pc : Int) + o) (hp : ((pc : Int) + o).toNat = pc') (G : Go md l Z n0 R bytes ml ret own mn Ψ cells slots sf h pc' L S) : Go md l Z n0 R bytes ml ret own mn Ψ cells slots sf h pc L (.null :: S) :=
  Go.pure pc' (fun p e below T target m c A hx hby k => XS.ifnullYes A hx rfl (pc0 := pc) (pc' := pc') rfl (hb hby hd) rfl ho' hp k) G
theorem Go.nullN {o : Int} {a : Addr} (pc' : Nat) (hd : decode bytes pc = .ok (.ifnull o, 3)) (hp : pc + 3 = pc') (G : Go md l Z n0 R bytes ml ret own mn Ψ cells slots sf h pc' L S) : Go md l Z n0 R bytes ml ret own mn Ψ cells slots sf h pc L (.ref a :: S) := by
  subst hp; exact Go.pure _ (fun p e below T target m c A hx hby k => XS.ifnullNo A hx rfl (hb hby hd) rfl k) G
theorem Go.nonnullY {o : Int} {a : Addr} (pc' : Nat) (hd : decode bytes pc = .ok (.ifnonnull o, 3)) (ho' : 0 ≤ (pc : Int) + o) (hp : ((pc : Int) + o).toNat = pc') (G : Go md l Z n0 R bytes ml ret own mn Ψ cells slots sf h pc' L S) : Go md l Z n0 R bytes ml ret own mn Ψ cells slots sf h pc L (.ref a :: S) :=
  Go.pure pc' (fun p e below T target m c A hx hby k => XS.ifnonnullYes A hx rfl (pc0 := pc) (pc' := pc') rfl (hb hby hd) rfl ho' hp k) G
theorem Go.nonnullN {o : Int} (pc' : Nat) (hd : decode bytes pc = .ok (.ifnonnull o, 3)) (hp : pc + 3 = pc') (G : Go md l Z n0 R bytes ml ret own mn Ψ cells slots sf h pc' L S) : Go md l Z n0 R bytes ml ret own mn Ψ cells slots sf h pc L (.null :: S) := by
  subst hp; exact Go.pure _ (fun p e below T target m c A hx hby k => XS.ifnonnullNo A hx rfl (hb hby hd) rfl k) G
theorem Go.iadd {x y : Int32} (pc' : Nat) (hd : decode bytes pc = .ok (.iadd, 1)) (hp : pc + 1 = pc') (G : Go md l Z n0 R bytes ml ret own mn Ψ cells slots sf h pc' L (.int (x + y) :: S)) : Go md l Z n0 R bytes ml ret own mn Ψ cells slots sf h pc L (.int y :: .int x :: S) := by
  subst hp; exact Go.pure _ (fun p e below T target m c A hx hby k => XS.iadd A hx rfl (hb hby hd) rfl k) G
theorem Go.isub {x y : Int32} (pc' : Nat) (hd : decode bytes pc = .ok (.isub, 1)) (hp : pc + 1 = pc') (G : Go md l Z n0 R bytes ml ret own mn Ψ cells slots sf h pc' L (.int (x - y) :: S)) : Go md l Z n0 R bytes ml ret own mn Ψ cells slots sf h pc L (.int y :: .int x :: S) := by
  subst hp; exact Go.pure _ (fun p e below T target m c A hx hby k => XS.isub A hx rfl (hb hby hd) rfl k) G
theorem Go.imul {x y : Int32} (pc' : Nat) (hd : decode bytes pc = .ok (.imul, 1)) (hp : pc + 1 = pc') (G : Go md l Z n0 R bytes ml ret own mn Ψ cells slots sf h pc' L (.int (x * y) :: S)) : Go md l Z n0 R bytes ml ret own mn Ψ cells slots sf h pc L (.int y :: .int x :: S) := by
  subst hp; exact Go.pure _ (fun p e below T target m c A hx hby k => XS.imul A hx rfl (hb hby hd) rfl k) G
theorem Go.iand {x y : Int32} (pc' : Nat) (hd : decode bytes pc = .ok (.iand, 1)) (hp : pc + 1 = pc') (G : Go md l Z n0 R bytes ml ret own mn Ψ cells slots sf h pc' L (.int (x &&& y) :: S)) : Go md l Z n0 R bytes ml ret own mn Ψ cells slots sf h pc L (.int y :: .int x :: S) := by
  subst hp; exact Go.pure _ (fun p e below T target m c A hx hby k => XS.iand A hx rfl (hb hby hd) rfl k) G
theorem Go.ior {x y : Int32} (pc' : Nat) (hd : decode bytes pc = .ok (.ior, 1)) (hp : pc + 1 = pc') (G : Go md l Z n0 R bytes ml ret own mn Ψ cells slots sf h pc' L (.int (x ||| y) :: S)) : Go md l Z n0 R bytes ml ret own mn Ψ cells slots sf h pc L (.int y :: .int x :: S) := by
  subst hp; exact Go.pure _ (fun p e below T target m c A hx hby k => XS.ior A hx rfl (hb hby hd) rfl k) G
theorem Go.ixor {x y : Int32} (pc' : Nat) (hd : decode bytes pc = .ok (.ixor, 1)) (hp : pc + 1 = pc') (G : Go md l Z n0 R bytes ml ret own mn Ψ cells slots sf h pc' L (.int (x ^^^ y) :: S)) : Go md l Z n0 R bytes ml ret own mn Ψ cells slots sf h pc L (.int y :: .int x :: S) := by
  subst hp; exact Go.pure _ (fun p e below T target m c A hx hby k => XS.ixor A hx rfl (hb hby hd) rfl k) G
theorem Go.ishl {x y : Int32} (pc' : Nat) (hd : decode bytes pc = .ok (.ishl, 1)) (hp : pc + 1 = pc') (G : Go md l Z n0 R bytes ml ret own mn Ψ cells slots sf h pc' L (.int (x <<< (y &&& 31)) :: S)) : Go md l Z n0 R bytes ml ret own mn Ψ cells slots sf h pc L (.int y :: .int x :: S) := by
  subst hp; exact Go.pure _ (fun p e below T target m c A hx hby k => XS.ishl A hx rfl (hb hby hd) rfl k) G
theorem Go.ishr {x y : Int32} (pc' : Nat) (hd : decode bytes pc = .ok (.ishr, 1)) (hp : pc + 1 = pc') (G : Go md l Z n0 R bytes ml ret own mn Ψ cells slots sf h pc' L (.int (x >>> (y &&& 31)) :: S)) : Go md l Z n0 R bytes ml ret own mn Ψ cells slots sf h pc L (.int y :: .int x :: S) := by
  subst hp; exact Go.pure _ (fun p e below T target m c A hx hby k => XS.ishr A hx rfl (hb hby hd) rfl k) G
theorem Go.iushr {x y : Int32} (pc' : Nat) (hd : decode bytes pc = .ok (.iushr, 1)) (hp : pc + 1 = pc') (G : Go md l Z n0 R bytes ml ret own mn Ψ cells slots sf h pc' L (.int (ushr x y) :: S)) : Go md l Z n0 R bytes ml ret own mn Ψ cells slots sf h pc L (.int y :: .int x :: S) := by
  subst hp; exact Go.pure _ (fun p e below T target m c A hx hby k => XS.iushr A hx rfl (hb hby hd) rfl k) G
theorem Go.idiv {x y : Int32} (pc' : Nat) (hd : decode bytes pc = .ok (.idiv, 1)) (hp : pc + 1 = pc') (hy : y ≠ 0) (G : Go md l Z n0 R bytes ml ret own mn Ψ cells slots sf h pc' L (.int (x / y) :: S)) : Go md l Z n0 R bytes ml ret own mn Ψ cells slots sf h pc L (.int y :: .int x :: S) := by
  subst hp; exact Go.pure _ (fun p e below T target m c A hx hby k => XS.idiv A hx rfl (hb hby hd) rfl hy k) G
theorem Go.ineg {x : Int32} (pc' : Nat) (hd : decode bytes pc = .ok (.ineg, 1)) (hp : pc + 1 = pc') (G : Go md l Z n0 R bytes ml ret own mn Ψ cells slots sf h pc' L (.int (-x) :: S)) : Go md l Z n0 R bytes ml ret own mn Ψ cells slots sf h pc L (.int x :: S) := by
  subst hp; exact Go.pure _ (fun p e below T target m c A hx hby k => XS.ineg A hx rfl (hb hby hd) rfl k) G
theorem Go.ladd {x y : Int64} (pc' : Nat) (hd : decode bytes pc = .ok (.ladd, 1)) (hp : pc + 1 = pc') (G : Go md l Z n0 R bytes ml ret own mn Ψ cells slots sf h pc' L (.long (x + y) :: S)) : Go md l Z n0 R bytes ml ret own mn Ψ cells slots sf h pc L (.long y :: .long x :: S) := by
  subst hp; exact Go.pure _ (fun p e below T target m c A hx hby k => XS.ladd A hx rfl (hb hby hd) rfl k) G
theorem Go.lsub {x y : Int64} (pc' : Nat) (hd : decode bytes pc = .ok (.lsub, 1)) (hp : pc + 1 = pc') (G : Go md l Z n0 R bytes ml ret own mn Ψ cells slots sf h pc' L (.long (x - y) :: S)) : Go md l Z n0 R bytes ml ret own mn Ψ cells slots sf h pc L (.long y :: .long x :: S) := by
  subst hp; exact Go.pure _ (fun p e below T target m c A hx hby k => XS.lsub A hx rfl (hb hby hd) rfl k) G
theorem Go.lmul {x y : Int64} (pc' : Nat) (hd : decode bytes pc = .ok (.lmul, 1)) (hp : pc + 1 = pc') (G : Go md l Z n0 R bytes ml ret own mn Ψ cells slots sf h pc' L (.long (x * y) :: S)) : Go md l Z n0 R bytes ml ret own mn Ψ cells slots sf h pc L (.long y :: .long x :: S) := by
  subst hp; exact Go.pure _ (fun p e below T target m c A hx hby k => XS.lmul A hx rfl (hb hby hd) rfl k) G
theorem Go.land {x y : Int64} (pc' : Nat) (hd : decode bytes pc = .ok (.land, 1)) (hp : pc + 1 = pc') (G : Go md l Z n0 R bytes ml ret own mn Ψ cells slots sf h pc' L (.long (x &&& y) :: S)) : Go md l Z n0 R bytes ml ret own mn Ψ cells slots sf h pc L (.long y :: .long x :: S) := by
  subst hp; exact Go.pure _ (fun p e below T target m c A hx hby k => XS.land A hx rfl (hb hby hd) rfl k) G
theorem Go.lor {x y : Int64} (pc' : Nat) (hd : decode bytes pc = .ok (.lor, 1)) (hp : pc + 1 = pc') (G : Go md l Z n0 R bytes ml ret own mn Ψ cells slots sf h pc' L (.long (x ||| y) :: S)) : Go md l Z n0 R bytes ml ret own mn Ψ cells slots sf h pc L (.long y :: .long x :: S) := by
  subst hp; exact Go.pure _ (fun p e below T target m c A hx hby k => XS.lor A hx rfl (hb hby hd) rfl k) G
theorem Go.lxor {x y : Int64} (pc' : Nat) (hd : decode bytes pc = .ok (.lxor, 1)) (hp : pc + 1 = pc') (G : Go md l Z n0 R bytes ml ret own mn Ψ cells slots sf h pc' L (.long (x ^^^ y) :: S)) : Go md l Z n0 R bytes ml ret own mn Ψ cells slots sf h pc L (.long y :: .long x :: S) := by
  subst hp; exact Go.pure _ (fun p e below T target m c A hx hby k => XS.lxor A hx rfl (hb hby hd) rfl k) G
theorem Go.lneg {x : Int64} (pc' : Nat) (hd : decode bytes pc = .ok (.lneg, 1)) (hp : pc + 1 = pc') (G : Go md l Z n0 R bytes ml ret own mn Ψ cells slots sf h pc' L (.long (-x) :: S)) : Go md l Z n0 R bytes ml ret own mn Ψ cells slots sf h pc L (.long x :: S) := by
  subst hp; exact Go.pure _ (fun p e below T target m c A hx hby k => XS.lneg A hx rfl (hb hby hd) rfl k) G
theorem Go.lcmp {x y : Int64} (pc' : Nat) (hd : decode bytes pc = .ok (.lcmp, 1)) (hp : pc + 1 = pc') (G : Go md l Z n0 R bytes ml ret own mn Ψ cells slots sf h pc' L (.int (lcmpW x y) :: S)) : Go md l Z n0 R bytes ml ret own mn Ψ cells slots sf h pc L (.long y :: .long x :: S) := by
  subst hp; exact Go.pure _ (fun p e below T target m c A hx hby k => XS.lcmp A hx rfl (hb hby hd) rfl k) G
theorem Go.lushr {x : Int64} {y : Int32} (pc' : Nat) (hd : decode bytes pc = .ok (.lushr, 1)) (hp : pc + 1 = pc') (G : Go md l Z n0 R bytes ml ret own mn Ψ cells slots sf h pc' L (.long (ushrL x y) :: S)) : Go md l Z n0 R bytes ml ret own mn Ψ cells slots sf h pc L (.int y :: .long x :: S) := by
  subst hp; exact Go.pure _ (fun p e below T target m c A hx hby k => XS.lushr A hx rfl (hb hby hd) rfl k) G
theorem Go.lshl {x : Int64} {y : Int32} (pc' : Nat) (hd : decode bytes pc = .ok (.lshl, 1)) (hp : pc + 1 = pc') (G : Go md l Z n0 R bytes ml ret own mn Ψ cells slots sf h pc' L (.long (x <<< (y &&& 0x3f).toInt64) :: S)) : Go md l Z n0 R bytes ml ret own mn Ψ cells slots sf h pc L (.int y :: .long x :: S) := by
  subst hp; exact Go.pure _ (fun p e below T target m c A hx hby k => XS.lshl A hx rfl (hb hby hd) rfl k) G
theorem Go.lrem {x y : Int64} (pc' : Nat) (hd : decode bytes pc = .ok (.lrem, 1)) (hp : pc + 1 = pc') (hy : y ≠ 0) (G : Go md l Z n0 R bytes ml ret own mn Ψ cells slots sf h pc' L (.long (x - (x / y) * y) :: S)) : Go md l Z n0 R bytes ml ret own mn Ψ cells slots sf h pc L (.long y :: .long x :: S) := by
  subst hp; exact Go.pure _ (fun p e below T target m c A hx hby k => XS.lrem A hx rfl (hb hby hd) rfl hy k) G
theorem Go.i2l {x : Int32} (pc' : Nat) (hd : decode bytes pc = .ok (.i2l, 1)) (hp : pc + 1 = pc') (G : Go md l Z n0 R bytes ml ret own mn Ψ cells slots sf h pc' L (.long x.toInt64 :: S)) : Go md l Z n0 R bytes ml ret own mn Ψ cells slots sf h pc L (.int x :: S) := by
  subst hp; exact Go.pure _ (fun p e below T target m c A hx hby k => XS.i2l A hx rfl (hb hby hd) rfl k) G
theorem Go.l2i {x : Int64} (pc' : Nat) (hd : decode bytes pc = .ok (.l2i, 1)) (hp : pc + 1 = pc') (G : Go md l Z n0 R bytes ml ret own mn Ψ cells slots sf h pc' L (.int x.toInt32 :: S)) : Go md l Z n0 R bytes ml ret own mn Ψ cells slots sf h pc L (.long x :: S) := by
  subst hp; exact Go.pure _ (fun p e below T target m c A hx hby k => XS.l2i A hx rfl (hb hby hd) rfl k) G
theorem Go.i2b {x : Int32} (pc' : Nat) (hd : decode bytes pc = .ok (.i2b, 1)) (hp : pc + 1 = pc') (G : Go md l Z n0 R bytes ml ret own mn Ψ cells slots sf h pc' L (.int x.toInt8.toInt32 :: S)) : Go md l Z n0 R bytes ml ret own mn Ψ cells slots sf h pc L (.int x :: S) := by
  subst hp; exact Go.pure _ (fun p e below T target m c A hx hby k => XS.i2b A hx rfl (hb hby hd) rfl k) G
theorem Go.i2c {x : Int32} (pc' : Nat) (hd : decode bytes pc = .ok (.i2c, 1)) (hp : pc + 1 = pc') (G : Go md l Z n0 R bytes ml ret own mn Ψ cells slots sf h pc' L (.int (chr x) :: S)) : Go md l Z n0 R bytes ml ret own mn Ψ cells slots sf h pc L (.int x :: S) := by
  subst hp; exact Go.pure _ (fun p e below T target m c A hx hby k => XS.i2c A hx rfl (hb hby hd) rfl k) G
theorem Go.dupX1 {v w : Value} (pc' : Nat) (hd : decode bytes pc = .ok (.dup_x1, 1)) (hp : pc + 1 = pc') (hv : v.category = 1) (hw : w.category = 1) (G : Go md l Z n0 R bytes ml ret own mn Ψ cells slots sf h pc' L (v :: w :: v :: S)) : Go md l Z n0 R bytes ml ret own mn Ψ cells slots sf h pc L (v :: w :: S) := by
  subst hp; exact Go.pure _ (fun p e below T target m c A hx hby k => XS.dupX1 A hx rfl (hb hby hd) rfl hv hw k) G
theorem sub1 {x : Addr} (q : x ∈ sf) : ∀ y ∈ [x], y ∈ sf := fun y hy => by cases List.mem_singleton.mp hy; exact q
/-- one field of an ordinary object known, each laid one holds something -/
theorem Fld.any {a : Addr} {C O n d O' n' d' : String} {v : Value} {k : Nat} (F : Fld Z h a O' n' d' v) (E : Exa Z h a C) (wi : (Jvm.Cond.instantiable C k).before a0 Z = true) (Lw : Laid Z a0 C O n d) : ∃ w, Fld Z h a O n d w := by
  obtain ⟨cell, cf, kk, i, f, h1, -, -, h4, h5, -, -⟩ := F
  obtain ⟨c2, k2, g1, g2, g3, g4, g5⟩ := E
  cases h1.symm.trans g1
  obtain ⟨c3, k3, i1, i2, i3, -⟩ := Cond.instantiable_spec wi
  cases g2.symm.trans i1
  cases g3.symm.trans i2
  obtain ⟨c, kc, cf', kf, j, f', a1, a2, a3, a4, a5, a6, -⟩ := Lw.spec
  cases g2.symm.trans a1
  cases g3.symm.trans a2
  have hs := g5 i3
  have hlt : f'.slot < cell.slots.size := by rw [hs]; exact (Array.getElem?_eq_some_iff.mp a6).1
  exact ⟨cell.slots[f'.slot], cell, cf', kf, j, f', h1, a3, a4, h4, h5, a5, Array.getElem?_eq_getElem hlt⟩
theorem Go.irem {x y : Int32} (pc' : Nat) (hd : decode bytes pc = .ok (.irem, 1)) (hp : pc + 1 = pc') (hy : y ≠ 0) (G : Go md l Z n0 R bytes ml ret own mn Ψ cells slots sf h pc' L (.int (x % y) :: S)) : Go md l Z n0 R bytes ml ret own mn Ψ cells slots sf h pc L (.int y :: .int x :: S) := by
  subst hp; exact Go.warm _ (fun p e s m args below meth c T locs hx hby hml hZ hown X eT => ⟨T, X, eT, fun target k => iremM (g := mkF m pc L (.int y :: .int x :: S)) X hx rfl (hb hby hd) rfl hy k⟩) G
theorem Go.ldcI {index : Nat} {v : Int32} (pc' : Nat) (hd : decode bytes pc = .ok (.ldc index, 2)) (hp : pc + 2 = pc') (w : (Jvm.Cond.constant own index v).before a0 Z = true) (G : Go md l Z n0 R bytes ml ret own mn Ψ cells slots sf h pc' L (.int v :: S)) : Go md l Z n0 R bytes ml ret own mn Ψ cells slots sf h pc L S := by
  subst hp; exact Go.warm _ (fun p e s m args below meth c T locs hx hby hml hZ hown X eT => ⟨T, X, eT, fun target k => X.ldcI (g := mkF m pc L S) hx hown (mvT hZ w) rfl (hb hby hd) k⟩) G
theorem Go.ldc2J {index : Nat} {v : Int64} (pc' : Nat) (hd : decode bytes pc = .ok (.ldc2_w index, 3)) (hp : pc + 3 = pc') (w : (Jvm.Cond.constantLong own index v).before a0 Z = true) (G : Go md l Z n0 R bytes ml ret own mn Ψ cells slots sf h pc' L (.long v :: S)) : Go md l Z n0 R bytes ml ret own mn Ψ cells slots sf h pc L S := by
  subst hp; exact Go.warm _ (fun p e s m args below meth c T locs hx hby hml hZ hown X eT => ⟨T, X, eT, fun target k => X.ldc2J (g := mkF m pc L S) hx hown (mvT hZ w) rfl (hb hby hd) k⟩) G
/-! fields -/
theorem Go.getF {R0 O n d : String} {index : Nat} {a : Addr} {v : Value} (pc' : Nat) (hd : decode bytes pc = .ok (.getfield index, 3)) (hp : pc + 3 = pc') (w : (Jvm.Cond.fieldLink own index R0 n d).before a0 Z = true) (via : Via Z R0 O n d) (F : Fld Z h a O n d v) (G : Go md l Z n0 R bytes ml ret own mn Ψ cells slots sf h pc' L (v :: S)) :
    Go md l Z n0 R bytes ml ret own mn Ψ cells slots sf h pc L (.ref a :: S) := by
  subst hp; exact Go.warm _ (fun p e s m args below meth c T locs hx hby hml hZ hown X eT => Jvm.RoadKit.getF X hx hZ hown (host := "") (Or.inl w) via eT F (g := mkF m pc L (.ref a :: S)) rfl rfl (hb hby hd)) G
theorem Go.getS {R0 O n d : String} {index : Nat} {v : Value} (pc' : Nat) (hd : decode bytes pc = .ok (.getstatic index, 3)) (hp : pc + 3 = pc') (w : (Jvm.Cond.fieldLink own index R0 n d).before a0 Z = true) (via : Via Z R0 O n d) (F : Sta Z Z.heap O n d v) (G : Go md l Z n0 R bytes ml ret own mn Ψ cells slots sf h pc' L (v :: S)) :
    Go md l Z n0 R bytes ml ret own mn Ψ cells slots sf h pc L S := by
  subst hp; exact Go.old fun o _ => Go.warm _ (fun p e s m args below meth c T locs hx hby hml hZ hown X eT => Jvm.RoadKit.getS (host := "") X hx hZ hown w via eT (F.ext o.2) (g := mkF m pc L S) rfl (hb hby hd)) G
theorem Go.putF {R0 O n d C : String} {index kk : Nat} {ty : FieldType} {a : Addr} {v old : Value} (pc' : Nat) (v' : Value) (hd : decode bytes pc = .ok (.putfield index, 3)) (hp : pc + 3 = pc') (w : (Jvm.Cond.fieldLink own index R0 n d).before a0 Z = true) (via : Via Z R0 O n d) (F : Fld Z h a O n d old) (E : Exa Z h a C)
    (Lw : (Jvm.Cond.lays C O n d).before a0 Z = true ∨ ((Jvm.Cond.laysFinal C O n d).before a0 Z = true ∧ own = O ∧ mn = "<init>")) (wi : (Jvm.Cond.instantiable C kk).before a0 Z = true) (hty : parseFieldDescriptor d = some ty) (hnw : narrow ty v = v') (hf : fits ty v' = true) (ha : a ∈ sf) (hn0 : n0 ≤ a)
    (G : ∀ h', Wr h h' a (Jvm.RoadKit.slotOf Z O n d) v' → Go md l Z n0 R bytes ml ret own mn Ψ cells slots sf h' pc' L S) : Go md l Z n0 R bytes ml ret own mn Ψ cells slots sf h pc L (v :: .ref a :: S) := by
  subst hp; exact Go.write _ ha hn0 (fun p e s m args below meth c T locs hx hby hml hnm hZ hown X eT => putFN X hx hZ hown w via eT F E (Lw.imp id fun q => ⟨q.1, q.2.1, hnm.trans q.2.2⟩) wi hty hnw hf (g := mkF m pc L (v :: .ref a :: S)) rfl rfl (hb hby hd)) G
/-! classes -/
theorem Go.castY {K : String} {index : Nat} {a : Addr} (pc' : Nat) (hd : decode bytes pc = .ok (.checkcast index, 3)) (hp : pc + 3 = pc') (w : (Jvm.Cond.classLink own index K).before a0 Z = true) (F : Ins Z h a K true) (G : Go md l Z n0 R bytes ml ret own mn Ψ cells slots sf h pc' L (.ref a :: S)) :
    Go md l Z n0 R bytes ml ret own mn Ψ cells slots sf h pc L (.ref a :: S) := by
  subst hp; exact Go.warm _ (fun p e s m args below meth c T locs hx hby hml hZ hown X eT => Jvm.RoadKit.castY X hx hZ hown w eT F (g := mkF m pc L (.ref a :: S)) rfl rfl (hb hby hd)) G
theorem Go.instY {K : String} {index : Nat} {a : Addr} (pc' : Nat) (hd : decode bytes pc = .ok (.instanceof index, 3)) (hp : pc + 3 = pc') (w : (Jvm.Cond.classLink own index K).before a0 Z = true) (F : Ins Z h a K true) (G : Go md l Z n0 R bytes ml ret own mn Ψ cells slots sf h pc' L (.int 1 :: S)) :
    Go md l Z n0 R bytes ml ret own mn Ψ cells slots sf h pc L (.ref a :: S) := by
  subst hp; exact Go.warm _ (fun p e s m args below meth c T locs hx hby hml hZ hown X eT => Jvm.RoadKit.instY X hx hZ hown w eT F (g := mkF m pc L (.ref a :: S)) rfl rfl (hb hby hd)) G
theorem Go.instNo {K C : String} {index : Nat} {a : Addr} (pc' : Nat) (hd : decode bytes pc = .ok (.instanceof index, 3)) (hp : pc + 3 = pc') (w : (Jvm.Cond.classLink own index K).before a0 Z = true) (E : Exa Z h a C) (F : ∃ c t, Z.vm.findClass C = some c ∧ Z.vm.findClass K = some t ∧ Z.vm.assignable c t = false) (G : Go md l Z n0 R bytes ml ret own mn Ψ cells slots sf h pc' L (.int 0 :: S)) :
    Go md l Z n0 R bytes ml ret own mn Ψ cells slots sf h pc L (.ref a :: S) := by
  subst hp; exact Go.warm _ (fun p e s m args below meth c T locs hx hby hml hZ hown X eT => Jvm.RoadKit.instNo X hx hZ hown w eT E F (g := mkF m pc L (.ref a :: S)) rfl rfl (hb hby hd)) G
theorem Go.instNull {index : Nat} (pc' : Nat) (hd : decode bytes pc = .ok (.instanceof index, 3)) (hp : pc + 3 = pc') (G : Go md l Z n0 R bytes ml ret own mn Ψ cells slots sf h pc' L (.int 0 :: S)) : Go md l Z n0 R bytes ml ret own mn Ψ cells slots sf h pc L (.null :: S) := by
  subst hp; exact Go.warm _ (fun p e s m args below meth c T locs hx hby hml hZ hown X eT => ⟨T, X, eT, fun target k => X.instanceofNull (g := mkF m pc L (.null :: S)) hx rfl rfl (hb hby hd) target k⟩) G
theorem Go.castNull {index : Nat} (pc' : Nat) (hd : decode bytes pc = .ok (.checkcast index, 3)) (hp : pc + 3 = pc') (G : Go md l Z n0 R bytes ml ret own mn Ψ cells slots sf h pc' L (.null :: S)) : Go md l Z n0 R bytes ml ret own mn Ψ cells slots sf h pc L (.null :: S) := by
  subst hp; exact Go.warm _ (fun p e s m args below meth c T locs hx hby hml hZ hown X eT => ⟨T, X, eT, fun target k => X.checkcastNull (g := mkF m pc L (.null :: S)) hx rfl rfl (hb hby hd) target k⟩) G
/-- Object's constructor -/
theorem Go.initO {idx : Nat} {a : Addr} {W : Nat} (pc' : Nat) (hd : decode bytes pc = .ok (.invokespecial idx, 3)) (hp : pc + 3 = pc') (w1 : (Jvm.Cond.methodLink own idx Lib.objectInit).before a0 Z = true) (w2 : (Jvm.Cond.instanceMethod Lib.objectInit).before a0 Z = true) (w3 : (Jvm.Cond.code Lib.objectInit ⟨#[0xb1]⟩ 1 none).before a0 Z = true)
    (hsz : L.size = ml) (hf : 1 ≤ R.frames) (hW : (S.map fun v => v.category).sum ≤ W) (hl : W + 12 ≤ R.locals) (G : Go md l Z n0 R bytes ml ret own mn Ψ cells slots sf h pc' L S) : Go md l Z n0 R bytes ml ret own mn Ψ cells slots sf h pc L (.ref a :: S) := by
  subst hp; exact Go.warm _ (fun p e s m args below meth c T locs hx hby hml hZ hown X eT => Jvm.RoadKit.initO X hx hZ hown w1 w2 w3 eT (g := mkF m pc L (.ref a :: S)) rfl (hsz.trans hml.symm) rfl (hb hby hd) hf (W := W) (by simpa using hW) hl) G
/-! what is made -/
theorem Go.new {C : String} {index n : Nat} (pc' : Nat) (hd : decode bytes pc = .ok (.new index, 3)) (hp : pc + 3 = pc') (w : (Jvm.Cond.classLink own index C).before a0 Z = true) (wi : (Jvm.Cond.instantiable C n).before a0 Z = true) (wz : (Jvm.Cond.initialized C).before a0 Z = true) (hc : cells + 1 ≤ R.cells) (hl : slots + n ≤ R.slots)
    (G : ∀ h' x, h.size = x → n0 ≤ x → Ext h h' → x < h'.size → Exa Z h' x C → (∀ {O nm d : String} {ty : FieldType}, Laid Z a0 C O nm d → parseFieldDescriptor d = some ty → Fld Z h' x O nm d (defaultValue ty)) → Go md l Z n0 R bytes ml ret own mn Ψ (cells + 1) (slots + n) (x :: sf) h' pc' L (.ref x :: S)) :
    Go md l Z n0 R bytes ml ret own mn Ψ cells slots sf h pc L S := by
  subst hp
  intro p e s m args below meth c vm0 T locs hx hby hml hr hlk hn ho X eT hZ B N
  obtain ⟨T', h', X', e', E, A, D, -, st⟩ := newO X hx hZ (by rw [show (s.setVm vm0).vm = vm0 from rfl, hZ.alike.findClass]; exact ho) w wi wz eT (g := mkF m pc L S) rfl (hb hby hd) hc hl
  obtain ⟨s₂, o, h1, r⟩ := G h' _ rfl B.n0le E A.lt A D p e s m args below meth c vm0 T' locs hx hby hml hr hlk hn ho X' e' hZ (B.new E A.lt (Nat.le_refl _)) N
  exact ⟨s₂, o, st _ h1, r⟩
/-- the array at a holds just these -/
def Ary (Z : State) (h : Heap) (a : Addr) (ty : FieldType) (vs : List Value) : Prop := ∃ c : Cell, Arr Z h a c ty ∧ c.slots.toList = vs ∧ vs.length < 2147483648 ∧ ∀ v ∈ vs, fits ty v = true
theorem Ary.lt {a : Addr} {ty : FieldType} {vs : List Value} (A : Ary Z h a ty vs) : a < h.size := by obtain ⟨c, A, -⟩ := A; exact A.lt
theorem Ary.ext {a : Addr} {ty : FieldType} {vs : List Value} (E : Ext h h') (A : Ary Z h a ty vs) : Ary Z h' a ty vs := by obtain ⟨c, A, r⟩ := A; exact ⟨c, A.ext E, r⟩
theorem Ary.other {a b : Addr} {ty : FieldType} {vs : List Value} {sl : Nat} {v : Value} (W : Wr h h' a sl v) (A : Ary Z h b ty vs) (q : b ≠ a) : Ary Z h' b ty vs := by obtain ⟨c, A, r⟩ := A; exact ⟨c, A.other W q, r⟩
theorem Ary.keep {a : Addr} {ty : FieldType} {vs : List Value} {ws : List Addr} (K : Keep h h' ws) (A : Ary Z h a ty vs) (q : a ∉ ws) : Ary Z h' a ty vs := by obtain ⟨c, A, r⟩ := A; exact ⟨c, ⟨K.2.1 a c A.1 q, A.2⟩, r⟩
theorem Ary.set {a : Addr} {ty : FieldType} {vs : List Value} {i : Nat} {v : Value} (W : Wr h h' a i v) (A : Ary Z h a ty vs) (hf : fits ty v = true) : Ary Z h' a ty (vs.set i v) := by
  obtain ⟨c, A, e1, e2, e3⟩ := A
  refine ⟨_, A.same W, by rw [← e1]; simp [Cell.setSlot, Array.toList_setIfInBounds], by simpa using e2, fun w hw => ?_⟩
  rcases List.mem_or_eq_of_mem_set hw with q | rfl
  · exact e3 w q
  · exact hf
theorem clamp_of {j : Int32} {i : Nat} (q : j.toInt = (i : Int)) : ¬ j < 0 ∧ j.toNatClampNeg = i := by
  refine ⟨fun z => ?_, ?_⟩
  · rw [Int32.lt_iff_toInt_lt] at z; rw [q] at z; have : (0 : Int32).toInt = 0 := rfl; omega
  · show j.toInt.toNat = i; rw [q]; rfl
theorem Ary.inb {a : Addr} {ty : FieldType} {vs : List Value} {c : Cell} {j : Int32} {i : Nat} (e1 : c.slots.toList = vs) (q : j.toInt = (i : Int)) (hi : i < vs.length) : ¬ (j < 0 ∨ c.slots.size ≤ j.toNatClampNeg) := by
  obtain ⟨q1, q2⟩ := clamp_of q
  rintro (z | z)
  · exact q1 z
  · rw [q2] at z; subst e1; simp at hi; omega
theorem Ary.at {c : Cell} {vs : List Value} {j : Int32} {i : Nat} {v : Value} (e1 : c.slots.toList = vs) (q : j.toInt = (i : Int)) (hv : vs[i]? = some v) : c.slots[j.toNatClampNeg]? = some v := by
  rw [(clamp_of q).2]; subst e1; rw [← hv]; simp
theorem Go.newA {aty : ArrayType} {n : Int32} {ty : FieldType} (k : Nat) (pc' : Nat) (hd : decode bytes pc = .ok (.newarray aty, 2)) (hp : pc + 2 = pc') (hty : newarray.typeOf aty = ty) (w : (Jvm.Cond.arrayClass ty).before a0 Z = true) (hk : n.toInt = (k : Int)) (cap : Nat) (hcap : k ≤ cap) (hb8 : cap * 8 ≤ 536870912) (hc : cells + 1 ≤ R.cells) (hl : slots + cap ≤ R.slots)
    (G : ∀ h' x, h.size = x → n0 ≤ x → Ext h h' → x < h'.size → Ary Z h' x ty (List.replicate k (defaultValue ty)) → Go md l Z n0 R bytes ml ret own mn Ψ (cells + 1) (slots + cap) (x :: sf) h' pc' L (.ref x :: S)) :
    Go md l Z n0 R bytes ml ret own mn Ψ cells slots sf h pc L (.int n :: S) := by
  subst hp; subst hty
  obtain ⟨q1, q2⟩ := clamp_of hk
  intro p e s m args below meth c vm0 T locs hx hby hml hr hlk hn ho X eT hZ B N
  obtain ⟨T', h', cA, X', e', E, A, st⟩ := newP X hx hZ w eT (g := mkF m pc L (.int n :: S)) rfl (hb hby hd) rfl q1 (cap := cap) (by rw [q2]; exact hcap) hb8 hc hl
  have A' : Ary Z h' h.size (newarray.typeOf aty) (List.replicate k (defaultValue (newarray.typeOf aty))) := ⟨_, A, by simp [Jvm.RoadKit.newA, q2], by simp; omega, fun v hv => by
    rw [(List.mem_replicate.mp hv).2]; cases aty <;> rfl⟩
  obtain ⟨s₂, o, h1, r⟩ := G h' _ rfl B.n0le E A'.lt A' p e s m args below meth c vm0 T' locs hx hby hml hr hlk hn ho X' e' hZ (B.new E A'.lt (Nat.le_refl _)) N
  exact ⟨s₂, o, st _ h1, r⟩
theorem Go.alen {a : Addr} {ty : FieldType} {vs : List Value} (pc' : Nat) (n : Int32) (hd : decode bytes pc = .ok (.arraylength, 1)) (hp : pc + 1 = pc') (A : Ary Z h a ty vs) (hn : Int32.ofNat vs.length = n) (G : Go md l Z n0 R bytes ml ret own mn Ψ cells slots sf h pc' L (.int n :: S)) :
    Go md l Z n0 R bytes ml ret own mn Ψ cells slots sf h pc L (.ref a :: S) := by
  subst hp; subst hn
  obtain ⟨c0, A, e1, e2, e3⟩ := A
  refine Go.warm _ (fun p e s m args below meth c T locs hx hby hml hZ hown X eT => ⟨T, X, eT, fun target k => X.arraylength hx (by rw [eT]; exact A.1) (State.isArrayOf_alike hZ.alike A.2.1) (g := mkF m pc L (.ref a :: S)) rfl rfl (hb hby hd) target ?_⟩) G
  subst e1; simpa using k
theorem Go.caload {a : Addr} {vs : List Value} {j : Int32} (i : Nat) {v : Value} (pc' : Nat) (hd : decode bytes pc = .ok (.caload, 1)) (hp : pc + 1 = pc') (A : Ary Z h a .char vs) (hj : j.toInt = (i : Int)) (hv : vs[i]? = some v) (G : Go md l Z n0 R bytes ml ret own mn Ψ cells slots sf h pc' L (v :: S)) :
    Go md l Z n0 R bytes ml ret own mn Ψ cells slots sf h pc L (.int j :: .ref a :: S) := by
  subst hp
  obtain ⟨c0, A, e1, e2, e3⟩ := A
  have hi := (List.getElem?_eq_some_iff.mp hv).1
  exact Go.warm _ (fun p e s m args below meth c T locs hx hby hml hZ hown X eT => ⟨T, X, eT, fun target k => X.caload hx (by rw [eT]; exact A.1) (State.isArrayOf_alike hZ.alike A.2.1) A.2.2 (Ary.inb (a := a) (ty := .char) e1 hj hi) (Ary.at e1 hj hv) (g := mkF m pc L (.int j :: .ref a :: S)) rfl rfl (hb hby hd) target k⟩) G
theorem Go.baload {a : Addr} {vs : List Value} {j : Int32} (i : Nat) {v : Value} (pc' : Nat) (hd : decode bytes pc = .ok (.baload, 1)) (hp : pc + 1 = pc') (A : Ary Z h a .byte vs) (hj : j.toInt = (i : Int)) (hv : vs[i]? = some v) (G : Go md l Z n0 R bytes ml ret own mn Ψ cells slots sf h pc' L (v :: S)) :
    Go md l Z n0 R bytes ml ret own mn Ψ cells slots sf h pc L (.int j :: .ref a :: S) := by
  subst hp
  obtain ⟨c0, A, e1, e2, e3⟩ := A
  have hi := (List.getElem?_eq_some_iff.mp hv).1
  exact Go.warm _ (fun p e s m args below meth c T locs hx hby hml hZ hown X eT => ⟨T, X, eT, fun target k => X.baloadBytes hx (by rw [eT]; exact A.1) (State.isArrayOf_alike hZ.alike A.2.1) A.2.2 (Ary.inb (a := a) (ty := .byte) e1 hj hi) (Ary.at e1 hj hv) (g := mkF m pc L (.int j :: .ref a :: S)) rfl rfl (hb hby hd) target k⟩) G
theorem Go.laload {a : Addr} {vs : List Value} {j : Int32} (i : Nat) {v : Value} (pc' : Nat) (hd : decode bytes pc = .ok (.laload, 1)) (hp : pc + 1 = pc') (A : Ary Z h a .long vs) (hj : j.toInt = (i : Int)) (hv : vs[i]? = some v) (G : Go md l Z n0 R bytes ml ret own mn Ψ cells slots sf h pc' L (v :: S)) :
    Go md l Z n0 R bytes ml ret own mn Ψ cells slots sf h pc L (.int j :: .ref a :: S) := by
  subst hp
  obtain ⟨c0, A, e1, e2, e3⟩ := A
  have hi := (List.getElem?_eq_some_iff.mp hv).1
  exact Go.warm _ (fun p e s m args below meth c T locs hx hby hml hZ hown X eT => ⟨T, X, eT, fun target k => X.laload hx (by rw [eT]; exact A.1) (State.isArrayOf_alike hZ.alike A.2.1) A.2.2 (Ary.inb (a := a) (ty := .long) e1 hj hi) (Ary.at e1 hj hv) (g := mkF m pc L (.int j :: .ref a :: S)) rfl rfl (hb hby hd) target k⟩) G
theorem Go.aaload {a : Addr} {vs : List Value} {j : Int32} {ty : FieldType} (i : Nat) {v : Value} (pc' : Nat) (hd : decode bytes pc = .ok (.aaload, 1)) (hp : pc + 1 = pc') (hty : ty.isReference = true) (A : Ary Z h a ty vs) (hj : j.toInt = (i : Int)) (hv : vs[i]? = some v) (G : Go md l Z n0 R bytes ml ret own mn Ψ cells slots sf h pc' L (v :: S)) :
    Go md l Z n0 R bytes ml ret own mn Ψ cells slots sf h pc L (.int j :: .ref a :: S) := by
  subst hp
  obtain ⟨c0, A, e1, e2, e3⟩ := A
  have hi := (List.getElem?_eq_some_iff.mp hv).1
  exact Go.warm _ (fun p e s m args below meth c T locs hx hby hml hZ hown X eT => ⟨T, X, eT, fun target k => X.aaload hx (by rw [eT]; exact A.1) (State.isArrayOf_alike hZ.alike A.2.1) hty A.2.2 (Ary.inb (a := a) (ty := ty) e1 hj hi) (Ary.at e1 hj hv) (g := mkF m pc L (.int j :: .ref a :: S)) rfl rfl (hb hby hd) target k⟩) G
theorem Go.castore {a : Addr} {vs : List Value} {j x : Int32} (i : Nat) (pc' : Nat) (hd : decode bytes pc = .ok (.castore, 1)) (hp : pc + 1 = pc') (A : Ary Z h a .char vs) (hj : j.toInt = (i : Int)) (hi : i < vs.length) (ha : a ∈ sf) (hn0 : n0 ≤ a)
    (G : ∀ h', Wr h h' a i (.int (nar .char x)) → Ary Z h' a .char (vs.set i (.int (nar .char x))) → Go md l Z n0 R bytes ml ret own mn Ψ cells slots sf h' pc' L S) : Go md l Z n0 R bytes ml ret own mn Ψ cells slots sf h pc L (.int x :: .int j :: .ref a :: S) := by
  subst hp
  obtain ⟨c0, A0, e1, e2, e3⟩ := A
  obtain ⟨-, q2⟩ := clamp_of hj
  exact Go.write _ ha hn0 (sl := i) (fun p e s m args below meth c T locs hx hby hml hnm hZ hown X eT => by rw [← q2]; exact stC X hx hZ eT A0 (Ary.inb (a := a) (ty := .char) e1 hj hi) (g := mkF m pc L (.int x :: .int j :: .ref a :: S)) rfl rfl (hb hby hd)) (fun h' W => G h' W (Ary.set W ⟨c0, A0, e1, e2, e3⟩ (fits_nar_char _)))
theorem Go.bastore {a : Addr} {vs : List Value} {j x : Int32} (i : Nat) (pc' : Nat) (hd : decode bytes pc = .ok (.bastore, 1)) (hp : pc + 1 = pc') (A : Ary Z h a .byte vs) (hj : j.toInt = (i : Int)) (hi : i < vs.length) (ha : a ∈ sf) (hn0 : n0 ≤ a)
    (G : ∀ h', Wr h h' a i (.int x.toInt8.toInt32) → Ary Z h' a .byte (vs.set i (.int x.toInt8.toInt32)) → Go md l Z n0 R bytes ml ret own mn Ψ cells slots sf h' pc' L S) : Go md l Z n0 R bytes ml ret own mn Ψ cells slots sf h pc L (.int x :: .int j :: .ref a :: S) := by
  subst hp
  obtain ⟨c0, A0, e1, e2, e3⟩ := A
  obtain ⟨-, q2⟩ := clamp_of hj
  exact Go.write _ ha hn0 (sl := i) (fun p e s m args below meth c T locs hx hby hml hnm hZ hown X eT => by rw [← q2]; exact stB X hx hZ eT A0 (Ary.inb (a := a) (ty := .byte) e1 hj hi) (g := mkF m pc L (.int x :: .int j :: .ref a :: S)) rfl rfl (hb hby hd)) (fun h' W => G h' W (Ary.set W ⟨c0, A0, e1, e2, e3⟩ (fits_nar_byte _)))
/-! calls -/
abbrev CPre (R : Room) (as : Array Value) (h : Heap) (kc ks : Nat) : Pt → Array Value → Prop := fun A a => a = as ∧ A.U.heap = h ∧ A.cells + kc ≤ R.cells ∧ A.slots + ks ≤ R.slots
abbrev CPost (Z : State) (n0 : Nat) (Q : Option Value → Heap → List Addr → Prop) (kc ks : Nat) : Pt → Array Value → Option Value → Pt → Prop := fun A _ v B => ∃ (L : List Loc) (sf' : List Addr), Q v B.U.heap sf' ∧ Old Z n0 B.U.heap ∧ Fr n0 L ∧ B.locs = A.locs ++ L ∧ B.cells = A.cells + kc ∧ B.slots = A.slots + ks
abbrev CPostW (Z : State) (EL : List (String × Nat)) (vm0 : Vm) (h : Heap) (n0 : Nat) (Q : Option Value → Heap → List Addr → Prop) (kc ks : Nat) : Pt → Array Value → Option Value → Pt → Prop := fun A _ v B => ∃ (L : List Loc) (sf' : List Addr), Q v B.U.heap sf' ∧ Old Z n0 B.U.heap ∧ Fr n0 L ∧ B.locs = A.locs ++ L ∧ B.cells = A.cells + kc ∧ B.slots = A.slots + ks ∧ CHr Z EL vm0 h B.U.vm B.U.heap ∧ ∀ x ∈ sf', x < B.U.heap.size ∧ Safe Z EL B.U.vm B.U.heap x
def Call (md : Md) (l : Launch) (Z : State) (n0 : Nat) (R : Room) (y : MethodName) (len W : Nat) (as : Array Value) (h : Heap) (sf : List Addr) (kc ks : Nat) (Q : Option Value → Heap → List Addr → Prop) : Prop :=
  ∀ (p : Program) (e : Env) (below : List Frame) (s : State) (vm0 : Vm) (sargs : Array Value), Z.Warmed39 vm0 → Bok md Z n0 s sf vm0 h →
    match md with
    | none => Back l R p e below (s.setVm vm0) sargs y len W (CPre R as h kc ks) (CPost Z n0 Q kc ks)
    | some EL => BackS l R p e below (s.setVm vm0) sargs y len W (CPre R as h kc ks) (CPostW Z EL vm0 h n0 Q kc ks)
theorem Bok.called {s U : State} {vm0 : Vm} {sf' : List Addr} (B : Bok (some EL) Z n0 s sf vm0 h) (h2 : (s.setVm vm0).Since U.vm U.heap.size) (o : Old Z n0 U.heap) (C : CHr Z EL vm0 h U.vm U.heap) (q : ∀ x ∈ sf', x < U.heap.size ∧ Safe Z EL U.vm U.heap x) : Bok (some EL) Z n0 s (sf' ++ sf) U.vm U.heap := by
  obtain ⟨-, ⟨k, b1, b2⟩, b3, b4, b5⟩ := B
  refine ⟨o, ⟨_, b1.trans h2 (Nat.le_trans b2 C.2.1), Nat.le_refl _⟩, b3, b4.trans C, fun x hx => ?_⟩
  rcases List.mem_append.mp hx with hx | hx
  · exact q x hx
  · exact ⟨Nat.lt_of_lt_of_le (b5 x hx).1 C.2.1, C.safe (b5 x hx).1 (b5 x hx).2⟩
theorem Go.callS {y : MethodName} {index maxY kc ks W : Nat} {bytesY : ByteArray} {retY : Option FieldType} {sfc : List Addr} {Q : Option Value → Heap → List Addr → Prop} {St : List Value} (pc' : Nat) (argsL : List Value) (hd : decode bytes pc = .ok (.invokestatic index, 3)) (hp : pc + 3 = pc') (hst : St = argsL.reverse ++ S)
    (wl : (Jvm.Cond.methodLink own index y).before a0 Z = true) (ws : (Jvm.Cond.static y).before a0 Z = true) (wi : (Jvm.Cond.initialized y.cls).before a0 Z = true) (wc : (Jvm.Cond.code y bytesY maxY retY).before a0 Z = true) (hy : y.cls ≠ "java/lang/invoke/MethodHandle" ∧ y.cls ≠ "java/lang/invoke/VarHandle")
    (hC : Call md l Z n0 R y 3 W argsL.toArray h sfc kc ks Q) (hlen : ∀ sig, parseMethodDescriptor y.desc = some sig → argsL.length = sig.parameters.length) (hW : (S.map fun v => v.category).sum ≤ W) (hsz : L.size = ml) (hc : cells + kc ≤ R.cells) (hs : slots + ks ≤ R.slots) (hsf : ∀ x ∈ sfc, x ∈ sf)
    (G : ∀ v h' sf', Q v h' sf' → Go md l Z n0 R bytes ml ret own mn Ψ (cells + kc) (slots + ks) (sf' ++ sf) h' pc' L (v.toList ++ S)) : Go md l Z n0 R bytes ml ret own mn Ψ cells slots sf h pc L St := by
  subst hp; subst hst
  intro p e s m args below meth c vm0 T locs hx hby hml hr hlk hn ho X eT hZ B N
  have hown : (s.setVm vm0).vm.findClass own = some m.cls := by rw [show (s.setVm vm0).vm = vm0 from rfl, hZ.alike.findClass]; exact ho
  have K := hC p e below s vm0 args hZ (B.sub hsf)
  cases md with
  | none =>
    obtain ⟨v, vm₁, ⟨U, L1, c1, n1⟩, -, X', ⟨L', sf', q1, q0, q2, q3, q4, q5⟩, st⟩ := Jvm.LawKit.callS X hx hown (mvT hZ wl) (mvT hZ ws) (mvT hZ wi) (mvT hZ wc) hy K (g := mkF m pc L (argsL.reverse ++ S)) rfl (hsz.trans hml.symm) hlen rfl (by simpa using hW) (hb hby hd) (fun _ _ => ⟨rfl, eT, hc, hs⟩)
    dsimp only [Pt.U, Pt.locs, Pt.cells, Pt.slots] at q1 q0 q3 q4 q5 X' st
    subst q3 q4 q5
    obtain ⟨s₂, o, h1, r⟩ := G v U.heap sf' q1 p e s m args below meth c vm0 U _ hx hby hml hr hlk hn ho X' rfl hZ ⟨q0, B.2⟩ (N.app q2)
    exact ⟨s₂, o, st _ h1, r⟩
  | some EL =>
    obtain ⟨v, vm₁, ⟨U, L1, c1, n1⟩, -, X', hS, hgr, ⟨L', sf', q1, q0, q2, q3, q4, q5, q6, q7⟩, st⟩ := callSS X hx hown (mvT hZ wl) (mvT hZ ws) (mvT hZ wi) (mvT hZ wc) hy K (g := mkF m pc L (argsL.reverse ++ S)) rfl (hsz.trans hml.symm) hlen rfl (by simpa using hW) (hb hby hd) (fun _ _ => ⟨rfl, eT, hc, hs⟩)
    dsimp only [Pt.U, Pt.locs, Pt.cells, Pt.slots] at q1 q0 q3 q4 q5 q6 q7 X' st hS hgr
    subst q3 q4 q5
    obtain ⟨s₂, o, h1, r⟩ := G v U.heap sf' q1 p e s m args below meth c U.vm U _ hx hby hml hr hlk hn ho X' rfl (State.Warmed39.trans (t := s.setVm vm0) hZ hS.1) (B.called hS q0 q6 q7) (N.app q2)
    exact ⟨s₂, o, st.trans h1, r⟩
theorem Go.callC {y : MethodName} {index maxY kc ks W : Nat} {bytesY : ByteArray} {sfc : List Addr} {Q : Option Value → Heap → List Addr → Prop} {St : List Value} {a : Addr} (pc' : Nat) (argsL : List Value) (hd : decode bytes pc = .ok (.invokespecial index, 3)) (hp : pc + 3 = pc') (hst : St = argsL.reverse ++ .ref a :: S) (hy1 : y.name = "<init>")
    (wl : (Jvm.Cond.methodLink own index y).before a0 Z = true) (ws : (Jvm.Cond.instanceMethod y).before a0 Z = true) (wc : (Jvm.Cond.code y bytesY maxY none).before a0 Z = true) (hy : y.cls ≠ "java/lang/invoke/MethodHandle" ∧ y.cls ≠ "java/lang/invoke/VarHandle")
    (hC : Call md l Z n0 R y 3 W (.ref a :: argsL).toArray h sfc kc ks Q) (hlen : ∀ sig, parseMethodDescriptor y.desc = some sig → argsL.length = sig.parameters.length) (hW : (S.map fun v => v.category).sum ≤ W) (hsz : L.size = ml) (hc : cells + kc ≤ R.cells) (hs : slots + ks ≤ R.slots) (hsf : ∀ x ∈ sfc, x ∈ sf)
    (G : ∀ v h' sf', Q v h' sf' → Go md l Z n0 R bytes ml ret own mn Ψ (cells + kc) (slots + ks) (sf' ++ sf) h' pc' L (v.toList ++ S)) : Go md l Z n0 R bytes ml ret own mn Ψ cells slots sf h pc L St := by
  subst hp; subst hst
  intro p e s m args below meth c vm0 T locs hx hby hml hr hlk hn ho X eT hZ B N
  have hown : (s.setVm vm0).vm.findClass own = some m.cls := by rw [show (s.setVm vm0).vm = vm0 from rfl, hZ.alike.findClass]; exact ho
  have K := hC p e below s vm0 args hZ (B.sub hsf)
  cases md with
  | none =>
    obtain ⟨v, vm₁, ⟨U, L1, c1, n1⟩, -, X', ⟨L', sf', q1, q0, q2, q3, q4, q5⟩, st⟩ := X.specialBack hx hy1 hown (mvT hZ wl) (mvT hZ ws) (mvT hZ wc) hy K (g := mkF m pc L (argsL.reverse ++ .ref a :: S)) rfl (hsz.trans hml.symm) (Steps.refl _) hlen rfl (by simpa using hW) (hb hby hd) (fun _ _ => ⟨rfl, eT, hc, hs⟩)
    dsimp only [Pt.U, Pt.locs, Pt.cells, Pt.slots] at q1 q0 q3 q4 q5 X' st
    subst q3 q4 q5
    obtain ⟨s₂, o, h1, r⟩ := G v U.heap sf' q1 p e s m args below meth c vm0 U _ hx hby hml hr hlk hn ho X' rfl hZ ⟨q0, B.2⟩ (N.app q2)
    exact ⟨s₂, o, st.trans h1, r⟩
  | some EL =>
    obtain ⟨v, vm₁, ⟨U, L1, c1, n1⟩, -, X', hS, hgr, ⟨L', sf', q1, q0, q2, q3, q4, q5, q6, q7⟩, st⟩ := X.specialBackS hx hy1 hown (mvT hZ wl) (mvT hZ ws) (mvT hZ wc) hy K (g := mkF m pc L (argsL.reverse ++ .ref a :: S)) rfl (hsz.trans hml.symm) (Steps.refl _) hlen rfl (by simpa using hW) (hb hby hd) (fun _ _ => ⟨rfl, eT, hc, hs⟩)
    dsimp only [Pt.U, Pt.locs, Pt.cells, Pt.slots] at q1 q0 q3 q4 q5 q6 q7 X' st hS hgr
    subst q3 q4 q5
    obtain ⟨s₂, o, h1, r⟩ := G v U.heap sf' q1 p e s m args below meth c U.vm U _ hx hby hml hr hlk hn ho X' rfl (State.Warmed39.trans (t := s.setVm vm0) hZ hS.1) (B.called hS q0 q6 q7) (N.app q2)
    exact ⟨s₂, o, st.trans h1, r⟩
theorem Go.callV {y z : MethodName} {index kc ks W : Nat} {C : String} {sfc : List Addr} {Q : Option Value → Heap → List Addr → Prop} {St : List Value} {a : Addr} (pc' : Nat) (argsL : List Value) (hd : decode bytes pc = .ok (.invokevirtual index, 3)) (hp : pc + 3 = pc') (hst : St = argsL.reverse ++ .ref a :: S)
    (wl : (Jvm.Cond.methodLink own index y).before a0 Z = true) (wd : (Jvm.Cond.declares y).before a0 Z = true) (wse : (Jvm.Cond.selects C y z).before a0 Z = true) (ws : (Jvm.Cond.instanceMethod z).before a0 Z = true) (hnf : ∀ (s : State), Z.Warmed39 s.vm → NotFace s y) (hy : y.cls ≠ "java/lang/invoke/MethodHandle" ∧ y.cls ≠ "java/lang/invoke/VarHandle")
    (E : Exa Z h a C) (hC : Call md l Z n0 R z 3 W (.ref a :: argsL).toArray h sfc kc ks Q) (hlen : ∀ sig, parseMethodDescriptor y.desc = some sig → argsL.length = sig.parameters.length) (hW : (S.map fun v => v.category).sum ≤ W) (hsz : L.size = ml) (hc : cells + kc ≤ R.cells) (hs : slots + ks ≤ R.slots) (hsf : ∀ x ∈ sfc, x ∈ sf)
    (G : ∀ v h' sf', Q v h' sf' → Go md l Z n0 R bytes ml ret own mn Ψ (cells + kc) (slots + ks) (sf' ++ sf) h' pc' L (v.toList ++ S)) : Go md l Z n0 R bytes ml ret own mn Ψ cells slots sf h pc L St := by
  subst hp; subst hst
  intro p e s m args below meth c vm0 T locs hx hby hml hr hlk hn ho X eT hZ B N
  have hown : (s.setVm vm0).vm.findClass own = some m.cls := by rw [show (s.setVm vm0).vm = vm0 from rfl, hZ.alike.findClass]; exact ho
  have K := hC p e below s vm0 args hZ (B.sub hsf)
  obtain ⟨cB, kB, i1, -, i3⟩ := isOf (s := s.setVm vm0) hZ eT E
  cases md with
  | none =>
    obtain ⟨v, vm₁, ⟨U, L1, c1, n1⟩, -, X', ⟨L', sf', q1, q0, q2, q3, q4, q5⟩, st⟩ := X.virtualBack hx hown (mvT hZ wl) (mvT hZ wd) (hnf _ hZ) (mvT hZ wse) (mvT hZ ws) hy K i1 i3 (g := mkF m pc L (argsL.reverse ++ .ref a :: S)) rfl (hsz.trans hml.symm) (Steps.refl _) hlen rfl (by simpa using hW) (hb hby hd) (fun _ _ => ⟨rfl, eT, hc, hs⟩)
    dsimp only [Pt.U, Pt.locs, Pt.cells, Pt.slots] at q1 q0 q3 q4 q5 X' st
    subst q3 q4 q5
    obtain ⟨s₂, o, h1, r⟩ := G v U.heap sf' q1 p e s m args below meth c vm0 U _ hx hby hml hr hlk hn ho X' rfl hZ ⟨q0, B.2⟩ (N.app q2)
    exact ⟨s₂, o, st.trans h1, r⟩
  | some EL =>
    obtain ⟨v, vm₁, ⟨U, L1, c1, n1⟩, -, X', hS, hgr, ⟨L', sf', q1, q0, q2, q3, q4, q5, q6, q7⟩, st⟩ := X.virtualBackS hx hown (mvT hZ wl) (mvT hZ wd) (hnf _ hZ) (mvT hZ wse) (mvT hZ ws) hy K i1 i3 (g := mkF m pc L (argsL.reverse ++ .ref a :: S)) rfl (hsz.trans hml.symm) (Steps.refl _) hlen rfl (by simpa using hW) (hb hby hd) (fun _ _ => ⟨rfl, eT, hc, hs⟩)
    dsimp only [Pt.U, Pt.locs, Pt.cells, Pt.slots] at q1 q0 q3 q4 q5 q6 q7 X' st hS hgr
    subst q3 q4 q5
    obtain ⟨s₂, o, h1, r⟩ := G v U.heap sf' q1 p e s m args below meth c U.vm U _ hx hby hml hr hlk hn ho X' rfl (State.Warmed39.trans (t := s.setVm vm0) hZ hS.1) (B.called hS q0 q6 q7) (N.app q2)
    exact ⟨s₂, o, st.trans h1, r⟩
/-! from a body to a call -/
theorem met_of_go {cls name desc : String} {as : Array Value} {L0 : Array Slot} {Q : Option Value → Heap → List Addr → Prop} {ws : List Jvm.Cond} (hpn : plainFor ⟨cls, name, desc⟩ = true) (hef : ∀ m, entryFrame m as ml = mkF m 0 L0 []) (G : Go md l Z n0 R bytes ml ret cls name Q 0 0 sf h 0 L0 []) :
    MetFree l ⟨cls, name, desc⟩ (head1 (Jvm.Cond.code ⟨cls, name, desc⟩ bytes ml ret :: ws) R) (fun a U => a = as ∧ Z.Warmed39 U.vm ∧ U.heap = h ∧ Bok md Z n0 U sf U.vm h) (fun _ _ _ _ _ => True)
      (fun _ U o U' => ∃ (v : Option Value) (L' : List Loc) (sf' : List Addr), o = .returned v ∧ Q v U'.heap sf' ∧ Old Z n0 U'.heap ∧ Fr n0 L' ∧ SafeAll md Z sf' U'.vm U'.heap ∧ FinE md Z U o U' L' R.cells R.slots) := by
  refine MetFree.of_bodySF hpn hisR ?_
  intro p e s m args below meth c s₁ Bd hml0 hP hK
  obtain ⟨rfl, hZ, hh, hB⟩ := hP
  have X0 : Stand p l e R s m args below meth c s₁ [] 0 0 := Stand.of_body Bd
  have e0 : s₁.heap = h := by rw [← hh, Bd.state]; rfl
  have q := G p e s m args below meth c s.vm s₁ [] Bd.exec Bd.bytes hml0 Bd.returns (BodyLoose.notSynchronized Bd) (name_of_methodNamed Bd.named Bd.method).1 (by rw [← hZ.alike.findClass]; exact findClass_of_methodNamed Bd.named) X0 e0 hZ hB (Fr.nil n0)
  rw [hef]; exact q
theorem call_of_go {cls name desc : String} {as : Array Value} {L0 : Array Slot} {Q : Option Value → Heap → List Addr → Prop} {rm : Room} {len W : Nat} (hpn : plainFor ⟨cls, name, desc⟩ = true) (hef : ∀ m, entryFrame m as ml = mkF m 0 L0 []) (G : Go md l Z n0 rm bytes ml ret cls name Q 0 0 sf h 0 L0 [])
    (wc : (Jvm.Cond.code ⟨cls, name, desc⟩ bytes ml ret).before a0 Z = true) (wz : (Jvm.Cond.initialized cls).before a0 Z = true) (hf : rm.frames + 1 ≤ R.frames) (hl : W + (ml + 11) + rm.locals ≤ R.locals) :
    Call md l Z n0 R ⟨cls, name, desc⟩ len W as h sf rm.cells rm.slots Q := by
  have hM := met_of_go (desc := desc) (ws := []) hpn hef G
  intro p e below s vm0 sargs hZ B
  cases md with
  | none =>
    have hM' : MetFree l ⟨cls, name, desc⟩ (head1 [Jvm.Cond.code ⟨cls, name, desc⟩ bytes ml ret] rm) (fun a U => a = as ∧ Z.Warmed39 U.vm ∧ U.heap = h) (fun _ _ _ _ _ => True) (fun _ U o U' => ∃ v L, o = .returned v ∧ (fun v h' L => ∃ sf', Q v h' sf' ∧ Old Z n0 h' ∧ Fr n0 L) v U'.heap L ∧ FrameEnd U o U' L rm.cells rm.slots) :=
      fun p e ha hc hk s m args below hfr happ hP hK => by
        obtain ⟨n, o, h1, h2, h3, v, L', sf', e1, q1, q0, q2, -, q4⟩ := hM p e ha hc hk s m args below hfr happ ⟨hP.1, hP.2.1, hP.2.2, B.1, rfl⟩ hK
        exact ⟨n, o, h1, h2, h3, v, L', e1, ⟨sf', q1, q0, q2⟩, q4⟩
    have K := backOf (Q := fun v h' L => ∃ sf', Q v h' sf' ∧ Old Z n0 h' ∧ Fr n0 L) (R := R) (p := p) (e := e) (below := below) (s := s.setVm vm0) (args := sargs) (len := len) (W := W) hM' hZ wc wz hf hl
    intro m meth c A g ig mk a X hg hsize hdg hW hn hp
    obtain ⟨v, P, X', ⟨L', ⟨sf', q1, q0, q2⟩, q3, q4, q5⟩, st⟩ := K m meth c A g ig mk a X hg hsize hdg hW hn hp
    exact ⟨v, P, X', ⟨L', sf', q1, q0, q2, q3, q4, q5⟩, st⟩
  | some EL =>
    obtain ⟨b0, ⟨k, b1, b2⟩, ⟨a1, b3⟩, b4, b5⟩ := B
    exact BackS.of_freeW (bytes := bytes) (maxL := ml) (ret := ret) (E := fun _ first o t L k n => k = rm.cells ∧ n = rm.slots ∧ (∃ v sf', o = .returned v ∧ Q v t.heap sf' ∧ Old Z n0 t.heap ∧ Fr n0 L ∧ ∀ x ∈ sf', x < t.heap.size ∧ Safe Z EL t.vm t.heap x) ∧ CHr Z EL first.vm first.heap t.vm t.heap) hM hf hl
      (fun m meth c A a Y hp => have hU : Z.Warmed39 A.U.vm := wtrans (s := s.setVm vm0) hZ Y.warmed
        ⟨by show (Jvm.Cond.and _ .tt).before a A.U = true; rw [Cond.before_and, mv hU wc]; rfl, mv hU wc, mv hU wz, hp.2.2.1, hp.2.2.2⟩)
      (fun m meth c A a g mk Y hp => by
        have C := CHv.at Y hZ b3 b4.1
        exact ⟨hp.1, wtrans (s := s.setVm vm0) hZ Y.warmed, hp.2.1, b0, ⟨_, (State.WarmedH.refl _).since _, Nat.le_refl _⟩, ⟨a1, b3⟩, by show CHr Z EL A.U.vm A.U.heap A.U.vm h; rw [hp.2.1]; exact CHr.refl C.1, fun x hx => ⟨(b5 x hx).1, C.safe (b5 x hx).1 (b5 x hx).2⟩⟩)
      (fun _ _ _ _ _ _ _ _ _ => trivial)
      (fun _ _ _ _ ⟨v, L', sf', e1, q1, q0, q2, q3, q4, q5⟩ => ⟨L', _, _, q5, rfl, rfl, ⟨v, sf', e1, q1, q0, q2, q3⟩, q4⟩)
      (fun m meth c A a g mk v t L' k n Y hp _ _ ⟨e1, e2, ⟨v', sf', e3, q1, q0, q2, q3⟩, q4⟩ => by
        cases e3; subst e1 e2
        refine ⟨L', sf', q1, q0, q2, rfl, rfl, rfl, (CHv.at Y hZ b3 b4.1).trans ?_, q3⟩
        rw [← hp.2.1]; exact q4)
/-- a law of the library or of a pasted text, in backOf's shape -/
theorem call_of_back {y : MethodName} {as : Array Value} {len W kc ks : Nat} {QB : Option Value → Heap → List Loc → Prop} {Q : Option Value → Heap → List Addr → Prop} (ws : List Addr)
    (hB : ∀ (p : Program) (e : Env) (below : List Frame) (s : State) (sargs : Array Value), Z.Warmed39 s.vm → Back l R p e below s sargs y len W (fun A a => a = as ∧ A.U.heap = h ∧ A.cells + kc ≤ R.cells ∧ A.slots + ks ≤ R.slots) (fun A _ v B => ∃ L, QB v B.U.heap L ∧ B.locs = A.locs ++ L ∧ B.cells = A.cells + kc ∧ B.slots = A.slots + ks))
    (hQ : ∀ v h' L, QB v h' L → Fr n0 L ∧ Keep h h' ws ∧ Q v h' []) (hws : ∀ x ∈ ws, x ∈ sf) (hw0 : ∀ x ∈ ws, n0 ≤ x) : Call md l Z n0 R y len W as h sf kc ks Q := by
  intro p e below s vm0 sargs hZ B
  have K := hB p e below (s.setVm vm0) sargs hZ
  cases md with
  | none =>
    intro m meth c A g ig mk a X hg hsize hdg hW hn hp
    obtain ⟨v, P, X', ⟨L', q1, q3, q4, q5⟩, st⟩ := K m meth c A g ig mk a X hg hsize hdg hW hn hp
    obtain ⟨r1, r2, r3⟩ := hQ _ _ _ q1
    exact ⟨v, P, X', ⟨L', [], r3, B.1.keep r2 hw0, r1, q3, q4, q5⟩, st⟩
  | some EL =>
    obtain ⟨b0, ⟨k, b1, b2⟩, ⟨a1, b3⟩, b4, b5⟩ := B
    intro m meth c A g ig mk a X hg hsize hdg hW hn hp
    obtain ⟨v, P, X', ⟨L', q1, q3, q4, q5⟩, st⟩ := K m meth c A g ig mk a X hg hsize hdg hW hn hp
    obtain ⟨r1, r2, r3⟩ := hQ _ _ _ q1
    have C1 : CHr Z EL vm0 h vm0 P.U.heap := CHr.keep r2 (fun x hx => (b5 x (hws x hx)).2) b4.1
    have C2 : CHr Z EL vm0 P.U.heap P.U.vm P.U.heap := CHv.at X' hZ b3 C1.1
    exact ⟨v, P, X'.retabled X'.warmed.wide, X'.warmed.since _, by rw [hp.2.1]; exact r2.1, ⟨L', [], r3, b0.keep r2 hw0, r1, q3, q4, q5, C1.trans C2, fun x hx => nomatch hx⟩, st⟩
/-! String constants -/
theorem Go.ldcL {index : Nat} {text : String} {vs : List Value} {z : Int32} (n : Nat) (pc' : Nat) (hd : decode bytes pc = .ok (.ldc index, 2)) (hp : pc + 2 = pc') (w : (Jvm.Cond.stringLink own index text).before a0 Z = true) (wS : ∀ a ∈ Bundle.stringAtoms, a.before a0 Z = true) (hmem : (own, index) ∈ EL)
    (ht : (∀ c ∈ text.toList, c.toNat < 256) ∧ text.toList.map (fun c => Value.int (Jvm.Lit.byteI c.toNat.toUInt16)) = vs) (hz : ¬ z < 0) (hl : z.toNatClampNeg = vs.length) (hn : 4 * text.toList.length ≤ n) (hbig : n ≤ 536870912) (hc : cells + 2 ≤ R.cells) (hl' : slots + (n + 4) ≤ R.slots)
    (G : ∀ h' a b k, Ext h h' → Exa Z h' a "java/lang/String" → Fld Z h' a "java/lang/String" "coder" "B" (.int 0) → Fld Z h' a "java/lang/String" "value" "[B" (.ref b) → Arv Z h' b k .byte z vs (.int 0) → (∀ x ∈ sf, x ≠ a ∧ x ≠ b) → Go (some EL) l Z n0 R bytes ml ret own mn Ψ (cells + 2) (slots + (n + 4)) sf h' pc' L (.ref a :: S)) :
    Go (some EL) l Z n0 R bytes ml ret own mn Ψ cells slots sf h pc L S := by
  subst hp
  intro p e s m args below meth c vm0 T locs hx hby hml hr hlk hnm ho X eT hZ B N
  obtain ⟨b0, ⟨k0, b1, b2⟩, ⟨a1, b3⟩, b4, b5⟩ := B
  have hown : vm0.findClass own = some m.cls := by rw [hZ.alike.findClass]; exact ho
  obtain ⟨a, T', h', k1, b, k, X', e', E, hS, hk1, hZ', hown', x1, x2, x3, x4, x5, x6, C, -, hsf, st⟩ := ldcCH X hx hZ hown w wS eT b1 b2 b3 hmem b4.1 ht hz hl (g := mkF m pc L S) rfl (hb hby hd) hn hbig hc hl'
  obtain ⟨s₂, o, h1, r⟩ := G h' a b k E x1 x2 x3 x4 (fun x hx => hsf x (C.safe (b5 x hx).1 (b5 x hx).2)) p e s m args below meth c T'.vm T' locs hx hby hml hr hlk hnm ho X' e' hZ' ⟨b0.ext E, ⟨k1, hS, hk1⟩, ⟨a1, b3⟩, b4.trans C, fun x hx => ⟨Nat.lt_of_lt_of_le (b5 x hx).1 C.2.1, C.safe (b5 x hx).1 (b5 x hx).2⟩⟩ N
  exact ⟨s₂, o, st _ h1, r⟩
theorem ofNat_toInt {n : Nat} (q : n < 2147483648) : (Int32.ofNat n).toInt = (n : Int) := Int32.toInt_ofNat_of_lt (by omega)
theorem Ary.arv {a : Addr} {ty : FieldType} {vs : List Value} (A : Ary Z h a ty vs) (d : Value) : ∃ k, Arv Z h a k ty (Int32.ofNat vs.length) vs d := by
  obtain ⟨c, A, e1, e2, e3⟩ := A
  obtain ⟨q1, q2⟩ := clamp_of (ofNat_toInt e2)
  subst e1
  refine ⟨c.cls, c, A, rfl, by rw [q2]; simp, q1, fun k hk => ?_, fun i hi => ?_⟩
  · simp [List.getD, hk]
  · have : c.slots.toList.getD i d = c.slots[i] := by simp [List.getD, hi]
    rw [this]; exact e3 _ (by simp)
theorem Ary.ofArv {a : Addr} {ty : FieldType} {vs : List Value} {k : ClassId} {z : Int32} {d : Value} (A : Arv Z h a k ty z vs d) (hl : z.toNatClampNeg = vs.length) (hb31 : vs.length < 2147483648) : Ary Z h a ty vs := by
  obtain ⟨c, A, -, e2, -, e4, e5⟩ := A
  have hs : c.slots.size = vs.length := e2.trans hl
  have e1 : c.slots.toList = vs := by
    refine List.ext_getElem? fun i => ?_
    by_cases hi : i < vs.length
    · have := e4 i (by omega)
      simp only [List.getD, List.getElem?_eq_getElem hi, Option.getD_some] at this
      rw [List.getElem?_eq_getElem hi, ← this]; simp
    · rw [List.getElem?_eq_none (by simpa using by omega), List.getElem?_eq_none (by omega)]
  refine ⟨c, A, e1, hb31, fun v hv => ?_⟩
  obtain ⟨i, hi, rfl⟩ := List.mem_iff_getElem.mp hv
  have := e5 i (by omega)
  simpa [List.getD, List.getElem?_eq_getElem hi] using this
theorem fld_int {args : Array Value} {s : State} {t : Term} {O n d : String} {v : Int32} {a : Addr} (hv : (Jvm.Cond.eq (Term.field t O n d) (Term.int v)).value args s none s [] = some true) (ev : t.eval args s none [] s = some (.ref a)) : Fld s s.heap a O n d (.int v) := by
  obtain ⟨x, y, e1, e2, k1, k2⟩ := cmp_v (Or.inl hv)
  cases (Term.int_eval v).symm.trans e2
  obtain ⟨z, rfl⟩ := k2
  have := gotT (Cond.eq_ints e1 (Term.int_eval v)) hv
  subst this
  exact Fld.start ((fld_at ev).symm.trans e1)
theorem no_sub {C O K : String} {k : Nat} (w : (Jvm.Cond.superclass C O).before a0 Z = true) (w0 : (Jvm.Cond.noSuperclass O).before a0 Z = true) (wi : (Jvm.Cond.instantiable K k).before a0 Z = true) (hn : C ≠ K) (hn2 : O ≠ K) : ∃ c t, Z.vm.findClass C = some c ∧ Z.vm.findClass K = some t ∧ Z.vm.assignable c t = false := by
  obtain ⟨c, h0⟩ := found_sup w
  obtain ⟨p, kc, kp, h1, h2, h3, h4, h5, -, h7⟩ := Cond.superclass_spec h0 w
  obtain ⟨c', k', g1, g2, g3, -, -⟩ := Cond.noSuperclass_spec w0
  cases h1.symm.trans g1
  obtain ⟨t, kt, i1, i2, i3, i4, -⟩ := Cond.instantiable_spec wi
  have ne1 := ids_ne h0 i1 hn
  have ne2 := ids_ne g1 i1 hn2
  have i5 : kt.isInterface = false := by simp only [Bool.or_eq_false_iff] at i4; exact i4.1
  refine ⟨c, t, h0, i1, ?_⟩
  show Z.vm.assignableAux (255 + 1) c t = false
  have j1 : ∀ f, Z.vm.isSubclassAux f p t = false := fun f => by cases f <;> simp [Vm.isSubclassAux, ne2, g2, g3]
  have j2 : ∀ f, Z.vm.isSubclassAux f c t = false := fun f => by cases f <;> simp [Vm.isSubclassAux, ne1, h2, h4, j1]
  simp [Vm.assignableAux, ne1, h2, i2, h5, i3, i5, Vm.isSubclass, j2]
theorem range_take {vs : List Value} {i n : Nat} {dv : Value} (q : i + n ≤ vs.length) : (List.range n).map (fun k => vs.getD (i + k) dv) = (vs.drop i).take n := by
  refine List.ext_getElem (by simp; omega) fun k h1 h2 => ?_
  have hk : i + k < vs.length := by simp at h1; omega
  simp [List.getD, List.getElem?_eq_getElem hk]
/-- System.arraycopy between two arrays of one primitive kind -/
theorem Go.acopy {index : Nat} {a b : Addr} {ty : FieldType} {vs vd : List Value} {sp dp nn : Int32} {W : Nat} (i j n : Nat) (pc' : Nat) (hd : decode bytes pc = .ok (.invokestatic index, 3)) (hp : pc + 3 = pc') (w1 : (Jvm.Cond.methodLink own index Jvm.Stand.acN).before a0 Z = true) (w2 : (Jvm.Cond.native Jvm.Stand.acN).before a0 Z = true) (w3 : (Jvm.Cond.static Jvm.Stand.acN).before a0 Z = true) (w4 : (Jvm.Cond.initialized "java/lang/System").before a0 Z = true)
    (A : Ary Z h a ty vs) (B : Ary Z h b ty vd) (hty : refKind ty = false) (hi : sp.toInt = (i : Int)) (hj : dp.toInt = (j : Int)) (hn : nn.toInt = (n : Int)) (h4 : i + n ≤ vs.length) (h5 : j + n ≤ vd.length) (hb' : b ∈ sf) (hn0 : n0 ≤ b) (hsz : L.size = ml) (hf : 1 ≤ R.frames) (hW : (S.map fun v => v.category).sum ≤ W) (hlo : W + (nativeFrameWords "java/lang/System" "arraycopy" 5 + 11) ≤ R.locals)
    (G : ∀ h', Keep h h' [b] → Ary Z h' b ty (vd.take j ++ (vs.drop i).take n ++ vd.drop (j + n)) → Go md l Z n0 R bytes ml ret own mn Ψ cells slots sf h' pc' L S) : Go md l Z n0 R bytes ml ret own mn Ψ cells slots sf h pc L (.int nn :: .int dp :: .ref b :: .int sp :: .ref a :: S) := by
  subst hp
  intro p e s m args below meth c vm0 T locs hx hby hml hr hlk hnm ho X eT hZ B0 N
  obtain ⟨i1, i2⟩ := clamp_of hi
  obtain ⟨j1, j2⟩ := clamp_of hj
  obtain ⟨n1, n2⟩ := clamp_of hn
  have la : vs.length < 2147483648 := by obtain ⟨_, _, _, q, _⟩ := A; exact q
  have lb : vd.length < 2147483648 := by obtain ⟨_, _, _, q, _⟩ := B; exact q
  obtain ⟨ka, KA⟩ := A.arv (.int 0)
  obtain ⟨kb, KB⟩ := B.arv (.int 0)
  have za := (clamp_of (ofNat_toInt la)).2
  have zb := (clamp_of (ofNat_toInt lb)).2
  obtain ⟨T', h', L', X', e', N', K, B', st⟩ := cpA X hx hZ (by rw [show (s.setVm vm0).vm = vm0 from rfl, hZ.alike.findClass]; exact ho) w1 w2 w3 w4 eT (us := (vs.drop i).take n) KA KB (Or.inl ⟨rfl, hty⟩) i1 j1 n1 (by rw [i2, n2, za]; exact h4) (by rw [j2, n2, zb]; exact h5) (by rw [i2, n2]; exact (range_take h4).symm) (by rw [j2, n2]; exact h5) N hn0 (g := mkF m pc L (.int nn :: .int dp :: .ref b :: .int sp :: .ref a :: S)) rfl (hsz.trans hml.symm) rfl (hb hby hd) hf (W := W) (by simpa using hW) hlo
  rw [j2, n2] at B'
  have lz : (vd.take j ++ (vs.drop i).take n ++ vd.drop (j + n)).length = vd.length := by simp; omega
  obtain ⟨s₂, o, h1, r⟩ := G h' K (Ary.ofArv B' (by rw [zb, lz]) (by rw [lz]; exact lb)) p e s m args below meth c vm0 T' L' hx hby hml hr hlk hnm ho X' e' hZ (B0.keep K (sub1 hb') (fun y hy => by cases List.mem_singleton.mp hy; exact hn0)) N'
  exact ⟨s₂, o, st _ h1, r⟩
/-- one place of an array known -/
def At1 (Z : State) (h : Heap) (a : Addr) (ty : FieldType) (i : Nat) (v : Value) : Prop := ∃ c : Cell, Arr Z h a c ty ∧ c.slots[i]? = some v
theorem At1.ext {a : Addr} {ty : FieldType} {i : Nat} {v : Value} (A : At1 Z h a ty i v) (E : Ext h h') : At1 Z h' a ty i v := by obtain ⟨c, A, r⟩ := A; exact ⟨c, A.ext E, r⟩
theorem Go.laload1 {a : Addr} {j : Int32} (i : Nat) {v : Value} (pc' : Nat) (hd : decode bytes pc = .ok (.laload, 1)) (hp : pc + 1 = pc') (A : At1 Z h a .long i v) (hj : j.toInt = (i : Int)) (G : Go md l Z n0 R bytes ml ret own mn Ψ cells slots sf h pc' L (v :: S)) :
    Go md l Z n0 R bytes ml ret own mn Ψ cells slots sf h pc L (.int j :: .ref a :: S) := by
  subst hp
  obtain ⟨c0, A, e1⟩ := A
  obtain ⟨q1, q2⟩ := clamp_of hj
  have hi := (Array.getElem?_eq_some_iff.mp e1).1
  exact Go.warm _ (fun p e s m args below meth c T locs hx hby hml hZ hown X eT => ⟨T, X, eT, fun target k => X.laload hx (by rw [eT]; exact A.1) (State.isArrayOf_alike hZ.alike A.2.1) A.2.2 (by rw [q2]; rintro (z | z); exact q1 z; omega) (by rw [q2]; exact e1) (g := mkF m pc L (.int j :: .ref a :: S)) rfl rfl (hb hby hd) target k⟩) G
/-! arrays of references, longs stored, switches -/
/-- the array at a is one over the class C -/
def Ova (Z : State) (h : Heap) (a : Addr) (C : String) : Prop := ∃ c : Cell, h[a]? = some c ∧ Ovr Z c.cls C
theorem Ova.ext {a : Addr} {C : String} (O : Ova Z h a C) (E : Ext h h') : Ova Z h' a C := by obtain ⟨c, q, r⟩ := O; exact ⟨c, E.2 _ _ q, r⟩
theorem Ova.wr {a b : Addr} {C : String} {sl : Nat} {v : Value} (O : Ova Z h a C) (W : Wr h h' b sl v) : Ova Z h' a C := by
  obtain ⟨c, q, r⟩ := O
  obtain ⟨c', e1, e2, -⟩ := wr_at W q
  exact ⟨c', e1, by rw [e2]; exact r⟩
theorem Ova.keep {a : Addr} {C : String} {ws : List Addr} (O : Ova Z h a C) (K : Keep h h' ws) : Ova Z h' a C := by
  obtain ⟨c, q, r⟩ := O
  obtain ⟨c', e1, e2, -⟩ := K.2.2 a c q
  exact ⟨c', e1, by rw [e2]; exact r⟩
theorem sto_of {a y : Addr} {ty : FieldType} {C : String} {vs : List Value} (A : Ary Z h a ty vs) (O : Ova Z h a C) (I : Ins Z h y C true) : Sto Z h a (.ref y) := by
  obtain ⟨c, A, -⟩ := A
  obtain ⟨c', q, r⟩ := O
  cases A.1.symm.trans q
  exact Sto.of A r I
theorem Go.newR {C : String} {index : Nat} {n : Int32} (k : Nat) (pc' : Nat) (hd : decode bytes pc = .ok (.anewarray index, 3)) (hp : pc + 3 = pc') (w1 : (Jvm.Cond.classLink own index C).before a0 Z = true) (w2 : (Jvm.Cond.arrayOver (.object C)).before a0 Z = true) (hk : n.toInt = (k : Int)) (cap : Nat) (hcap : k ≤ cap) (hb8 : cap * 8 ≤ 536870912) (hc : cells + 1 ≤ R.cells) (hl : slots + cap ≤ R.slots)
    (G : ∀ h' x, h.size = x → n0 ≤ x → Ext h h' → x < h'.size → Ary Z h' x (.object C) (List.replicate k .null) → Ova Z h' x C → Go md l Z n0 R bytes ml ret own mn Ψ (cells + 1) (slots + cap) (x :: sf) h' pc' L (.ref x :: S)) :
    Go md l Z n0 R bytes ml ret own mn Ψ cells slots sf h pc L (.int n :: S) := by
  subst hp
  obtain ⟨q1, q2⟩ := clamp_of hk
  intro p e s m args below meth c vm0 T locs hx hby hml hr hlk hn ho X eT hZ B N
  obtain ⟨T', h', cA, X', e', E, A, O, st⟩ := Jvm.RoadKit.newR X hx hZ (by rw [show (s.setVm vm0).vm = vm0 from rfl, hZ.alike.findClass]; exact ho) w1 w2 eT (g := mkF m pc L (.int n :: S)) rfl (hb hby hd) rfl q1 (cap := cap) (by rw [q2]; exact hcap) hb8 hc hl
  have A' : Ary Z h' h.size (.object C) (List.replicate k .null) := ⟨_, A, by simp [Jvm.RoadKit.newA, q2, defaultValue], by simp; omega, fun v hv => by
    rw [(List.mem_replicate.mp hv).2]; rfl⟩
  obtain ⟨s₂, o, h1, r⟩ := G h' _ rfl B.n0le E A'.lt A' ⟨_, A.1, O⟩ p e s m args below meth c vm0 T' locs hx hby hml hr hlk hn ho X' e' hZ (B.new E A'.lt (Nat.le_refl _)) N
  exact ⟨s₂, o, st _ h1, r⟩
theorem Go.aastore {a : Addr} {C : String} {vs : List Value} {j : Int32} {v : Value} (i : Nat) (pc' : Nat) (hd : decode bytes pc = .ok (.aastore, 1)) (hp : pc + 1 = pc') (A : Ary Z h a (.object C) vs) (hj : j.toInt = (i : Int)) (hi : i < vs.length) (F : Sto Z h a v) (hf : fits (.object C) v = true) (ha : a ∈ sf) (hn0 : n0 ≤ a)
    (G : ∀ h', Wr h h' a i v → Ary Z h' a (.object C) (vs.set i v) → Go md l Z n0 R bytes ml ret own mn Ψ cells slots sf h' pc' L S) : Go md l Z n0 R bytes ml ret own mn Ψ cells slots sf h pc L (v :: .int j :: .ref a :: S) := by
  subst hp
  obtain ⟨c0, A0, e1, e2, e3⟩ := A
  obtain ⟨-, q2⟩ := clamp_of hj
  exact Go.write _ ha hn0 (sl := i) (fun p e s m args below meth c T locs hx hby hml hnm hZ hown X eT => by rw [← q2]; exact stR X hx hZ eT A0 (Ary.inb (a := a) (ty := .object C) e1 hj hi) rfl F (g := mkF m pc L (v :: .int j :: .ref a :: S)) rfl rfl (hb hby hd)) (fun h' W => G h' W (Ary.set W ⟨c0, A0, e1, e2, e3⟩ hf))
theorem Go.lastore {a : Addr} {vs : List Value} {j : Int32} {x : Int64} (i : Nat) (pc' : Nat) (hd : decode bytes pc = .ok (.lastore, 1)) (hp : pc + 1 = pc') (A : Ary Z h a .long vs) (hj : j.toInt = (i : Int)) (hi : i < vs.length) (ha : a ∈ sf) (hn0 : n0 ≤ a)
    (G : ∀ h', Wr h h' a i (.long x) → Ary Z h' a .long (vs.set i (.long x)) → Go md l Z n0 R bytes ml ret own mn Ψ cells slots sf h' pc' L S) : Go md l Z n0 R bytes ml ret own mn Ψ cells slots sf h pc L (.long x :: .int j :: .ref a :: S) := by
  subst hp
  obtain ⟨c0, A0, e1, e2, e3⟩ := A
  obtain ⟨-, q2⟩ := clamp_of hj
  exact Go.write _ ha hn0 (sl := i) (fun p e s m args below meth c T locs hx hby hml hnm hZ hown X eT => by rw [← q2]; exact stJ X hx hZ eT A0 (Ary.inb (a := a) (ty := .long) e1 hj hi) (g := mkF m pc L (.long x :: .int j :: .ref a :: S)) rfl rfl (hb hby hd)) (fun h' W => G h' W (Ary.set W ⟨c0, A0, e1, e2, e3⟩ rfl))
theorem Go.dup2 {v w : Value} (pc' : Nat) (hd : decode bytes pc = .ok (.dup2, 1)) (hp : pc + 1 = pc') (hv : v.category = 1) (hw : w.category = 1) (G : Go md l Z n0 R bytes ml ret own mn Ψ cells slots sf h pc' L (v :: w :: v :: w :: S)) : Go md l Z n0 R bytes ml ret own mn Ψ cells slots sf h pc L (v :: w :: S) := by
  subst hp; exact Go.pure _ (fun p e below T target m c A hx hby k => Jvm.Free.XT.dup2 A hx rfl (hb hby hd) rfl hv hw k) G
theorem Go.lswY {k : Int32} {default : Int} {pairs : Array (Int × Int)} {len : Nat} {b off : Int} (pc' : Nat) (hd : decode bytes pc = .ok (.lookupswitch default pairs, len)) (hs : (pairs.toList.zip (pairs.toList.drop 1)).all (fun (a, next) => a.1 < next.1) = true) (hf : pairs.find? (·.1 == k.toInt) = some (b, off)) (h0 : 0 ≤ (pc : Int) + off) (hp : ((pc : Int) + off).toNat = pc')
    (G : Go md l Z n0 R bytes ml ret own mn Ψ cells slots sf h pc' L S) : Go md l Z n0 R bytes ml ret own mn Ψ cells slots sf h pc L (.int k :: S) := by
  subst hp
  exact Go.warm _ (fun p e s m args below meth c T locs hx hby hml hZ hown X eT => ⟨T, X, eT, fun target q => X.lookupswitchHit hx (g := mkF m pc L (.int k :: S)) rfl rfl (hb hby hd) hs hf h0 target q⟩) G
theorem Go.lswN {k : Int32} {default : Int} {pairs : Array (Int × Int)} {len : Nat} (pc' : Nat) (hd : decode bytes pc = .ok (.lookupswitch default pairs, len)) (hs : (pairs.toList.zip (pairs.toList.drop 1)).all (fun (a, next) => a.1 < next.1) = true) (hf : pairs.find? (·.1 == k.toInt) = none) (h0 : 0 ≤ (pc : Int) + default) (hp : ((pc : Int) + default).toNat = pc')
    (G : Go md l Z n0 R bytes ml ret own mn Ψ cells slots sf h pc' L S) : Go md l Z n0 R bytes ml ret own mn Ψ cells slots sf h pc L (.int k :: S) := by
  subst hp
  exact Go.warm _ (fun p e s m args below meth c T locs hx hby hml hZ hown X eT => ⟨T, X, eT, fun target q => X.lookupswitchMiss hx (g := mkF m pc L (.int k :: S)) rfl rfl (hb hby hd) hs hf h0 target q⟩) G
theorem Go.tswY {k : Int32} {default low high : Int} {offs : Array Int} {len : Nat} {off : Int} (pc' : Nat) (hd : decode bytes pc = .ok (.tableswitch default low high offs, len)) (hi : ¬ (k.toInt < low ∨ k.toInt > high)) (hf : offs[(k.toInt - low).toNat]? = some off) (h0 : 0 ≤ (pc : Int) + off) (hp : ((pc : Int) + off).toNat = pc')
    (G : Go md l Z n0 R bytes ml ret own mn Ψ cells slots sf h pc' L S) : Go md l Z n0 R bytes ml ret own mn Ψ cells slots sf h pc L (.int k :: S) := by
  subst hp
  exact Go.warm _ (fun p e s m args below meth c T locs hx hby hml hZ hown X eT => ⟨T, X, eT, fun target q => X.tableswitchIn hx (g := mkF m pc L (.int k :: S)) rfl rfl (hb hby hd) hi hf h0 target q⟩) G
theorem Go.getFN {R0 O n d host : String} {index : Nat} {a : Addr} {v : Value} (pc' : Nat) (hd : decode bytes pc = .ok (.getfield index, 3)) (hp : pc + 3 = pc') (w : (Jvm.Cond.fieldLinkNest own index R0 n d host).before a0 Z = true) (via : Via Z R0 O n d) (F : Fld Z h a O n d v) (G : Go md l Z n0 R bytes ml ret own mn Ψ cells slots sf h pc' L (v :: S)) :
    Go md l Z n0 R bytes ml ret own mn Ψ cells slots sf h pc L (.ref a :: S) := by
  subst hp; exact Go.warm _ (fun p e s m args below meth c T locs hx hby hml hZ hown X eT => Jvm.RoadKit.getF X hx hZ hown (Or.inr w) via eT F (g := mkF m pc L (.ref a :: S)) rfl rfl (hb hby hd)) G
/-- without String constants every address may be written that is new -/
theorem Go.sfN (sf' : List Addr) (G : Go none l Z n0 R bytes ml ret own mn Ψ cells slots sf' h pc L S) : Go none l Z n0 R bytes ml ret own mn Ψ cells slots sf h pc L S := by
  intro p e s m args below meth c vm0 T locs hx hby hml hr hlk hn ho X eT hZ B N
  exact G p e s m args below meth c vm0 T locs hx hby hml hr hlk hn ho X eT hZ B N
theorem Go.callP {y : MethodName} {index maxY kc ks W : Nat} {bytesY : ByteArray} {retY : Option FieldType} {C : String} {sfc : List Addr} {Q : Option Value → Heap → List Addr → Prop} {St : List Value} {a : Addr} (pc' : Nat) (argsL : List Value) (hd : decode bytes pc = .ok (.invokevirtual index, 3)) (hp : pc + 3 = pc') (hst : St = argsL.reverse ++ .ref a :: S)
    (wl : (Jvm.Cond.methodLink own index y).before a0 Z = true) (ws : (Jvm.Cond.instanceMethod y).before a0 Z = true) (wse : (Jvm.Cond.selects y.cls y y).before a0 Z = true) (wp : (Jvm.Cond.privateMethod y).before a0 Z = true) (wc : (Jvm.Cond.code y bytesY maxY retY).before a0 Z = true) (hy : y.cls ≠ "java/lang/invoke/MethodHandle" ∧ y.cls ≠ "java/lang/invoke/VarHandle")
    (E : Exa Z h a C) (hC : Call md l Z n0 R y 3 W (.ref a :: argsL).toArray h sfc kc ks Q) (hlen : ∀ sig, parseMethodDescriptor y.desc = some sig → argsL.length = sig.parameters.length) (hW : (S.map fun v => v.category).sum ≤ W) (hsz : L.size = ml) (hc : cells + kc ≤ R.cells) (hs : slots + ks ≤ R.slots) (hsf : ∀ x ∈ sfc, x ∈ sf)
    (G : ∀ v h' sf', Q v h' sf' → Go md l Z n0 R bytes ml ret own mn Ψ (cells + kc) (slots + ks) (sf' ++ sf) h' pc' L (v.toList ++ S)) : Go md l Z n0 R bytes ml ret own mn Ψ cells slots sf h pc L St := by
  subst hp; subst hst
  intro p e s m args below meth c vm0 T locs hx hby hml hr hlk hn ho X eT hZ B N
  have hown : (s.setVm vm0).vm.findClass own = some m.cls := by rw [show (s.setVm vm0).vm = vm0 from rfl, hZ.alike.findClass]; exact ho
  have K := hC p e below s vm0 args hZ (B.sub hsf)
  obtain ⟨cell, g1, g2⟩ := E.cell
  have g1' : T.heap[a]? = some cell := by rw [eT]; exact g1
  cases md with
  | none =>
    obtain ⟨v, vm₁, ⟨U, L1, c1, n1⟩, -, X', ⟨L', sf', q1, q0, q2, q3, q4, q5⟩, st⟩ := X.privateBack hx hown (mvT hZ wl) (mvT hZ ws) (mvT hZ wse) (Cond.privateMethod_at (mvP (args := args) (s := s.setVm vm0) hZ wp)) (mvT hZ wc) hy K (g := mkF m pc L (argsL.reverse ++ .ref a :: S)) rfl (hsz.trans hml.symm) (Steps.refl _) g1' g2 hlen rfl (by simpa using hW) (hb hby hd) (fun _ _ => ⟨rfl, eT, hc, hs⟩)
    dsimp only [Pt.U, Pt.locs, Pt.cells, Pt.slots] at q1 q0 q3 q4 q5 X' st
    subst q3 q4 q5
    obtain ⟨s₂, o, h1, r⟩ := G v U.heap sf' q1 p e s m args below meth c vm0 U _ hx hby hml hr hlk hn ho X' rfl hZ ⟨q0, B.2⟩ (N.app q2)
    exact ⟨s₂, o, st.trans h1, r⟩
  | some EL =>
    obtain ⟨v, vm₁, ⟨U, L1, c1, n1⟩, -, X', hS, hgr, ⟨L', sf', q1, q0, q2, q3, q4, q5, q6, q7⟩, st⟩ := X.privateBackS hx hown (mvT hZ wl) (mvT hZ ws) (mvT hZ wse) (Cond.privateMethod_at (mvP (args := args) (s := s.setVm vm0) hZ wp)) (mvT hZ wc) hy K (g := mkF m pc L (argsL.reverse ++ .ref a :: S)) rfl (hsz.trans hml.symm) (Steps.refl _) g1' g2 hlen rfl (by simpa using hW) (hb hby hd) (fun _ _ => ⟨rfl, eT, hc, hs⟩)
    dsimp only [Pt.U, Pt.locs, Pt.cells, Pt.slots] at q1 q0 q3 q4 q5 q6 q7 X' st hS hgr
    subst q3 q4 q5
    obtain ⟨s₂, o, h1, r⟩ := G v U.heap sf' q1 p e s m args below meth c U.vm U _ hx hby hml hr hlk hn ho X' rfl (State.Warmed39.trans (t := s.setVm vm0) hZ hS.1) (B.called hS q0 q6 q7) (N.app q2)
    exact ⟨s₂, o, st.trans h1, r⟩
theorem Go.ldcWI {index : Nat} {v : Int32} (pc' : Nat) (hd : decode bytes pc = .ok (.ldc_w index, 3)) (hp : pc + 3 = pc') (w : (Jvm.Cond.constant own index v).before a0 Z = true) (G : Go md l Z n0 R bytes ml ret own mn Ψ cells slots sf h pc' L (.int v :: S)) : Go md l Z n0 R bytes ml ret own mn Ψ cells slots sf h pc L S := by
  subst hp; exact Go.warm _ (fun p e s m args below meth c T locs hx hby hml hZ hown X eT => ⟨T, X, eT, fun target k => X.ldcWI (g := mkF m pc L S) hx hown (mvT hZ w) rfl (hb hby hd) k⟩) G
/-- ldc of a String constant of which nothing is asked -/
theorem Go.ldcO {EL : List (String × Nat)} {index : Nat} {text : String} (n : Nat) (pc' : Nat) (hd : decode bytes pc = .ok (.ldc index, 2)) (hp : pc + 2 = pc') (w : (Jvm.Cond.stringLink own index text).before a0 Z = true) (wS : ∀ a ∈ Bundle.stringAtoms, a.before a0 Z = true) (hn : 4 * text.toList.length ≤ n) (hbig : n ≤ 536870912) (hc : cells + 2 ≤ R.cells) (hl' : slots + (n + 4) ≤ R.slots)
    (G : ∀ h' a, Ext h h' → Go (some EL) l Z n0 R bytes ml ret own mn Ψ (cells + 2) (slots + (n + 4)) sf h' pc' L (.ref a :: S)) : Go (some EL) l Z n0 R bytes ml ret own mn Ψ cells slots sf h pc L S := by
  subst hp
  intro p e s m args below meth c vm0 T locs hx hby hml hr hlk hnm ho X eT hZ B N
  obtain ⟨b0, ⟨k0, b1, b2⟩, ⟨a1, b3⟩, b4, b5⟩ := B
  have hown : vm0.findClass own = some m.cls := by rw [hZ.alike.findClass]; exact ho
  obtain ⟨a, T', h', k1, X', e', E, hS, hk1, hZ', hown', C, -, st⟩ := ldcOH X hx hZ hown w wS eT b1 b2 b3 b4.1 (g := mkF m pc L S) rfl (hb hby hd) hn hbig hc hl'
  obtain ⟨s₂, o, h1, r⟩ := G h' a E p e s m args below meth c T'.vm T' locs hx hby hml hr hlk hnm ho X' e' hZ' ⟨b0.ext E, ⟨k1, hS, hk1⟩, ⟨a1, b3⟩, b4.trans C, fun x hx => ⟨Nat.lt_of_lt_of_le (b5 x hx).1 C.2.1, C.safe (b5 x hx).1 (b5 x hx).2⟩⟩ N
  exact ⟨s₂, o, st _ h1, r⟩
/-- newarray: the array's class by its name too -/
theorem Go.newE {aty : ArrayType} {n : Int32} {ty : FieldType} {C : String} (k : Nat) (pc' : Nat) (hd : decode bytes pc = .ok (.newarray aty, 2)) (hp : pc + 2 = pc') (hty : newarray.typeOf aty = ty) (hC : "[" ++ ty.toString = C) (w : (Jvm.Cond.arrayClass ty).before a0 Z = true) (hk : n.toInt = (k : Int)) (cap : Nat) (hcap : k ≤ cap) (hb8 : cap * 8 ≤ 536870912) (hc : cells + 1 ≤ R.cells) (hl : slots + cap ≤ R.slots)
    (G : ∀ h' x, h.size = x → n0 ≤ x → Ext h h' → x < h'.size → Ary Z h' x ty (List.replicate k (defaultValue ty)) → Exa Z h' x C → Go md l Z n0 R bytes ml ret own mn Ψ (cells + 1) (slots + cap) (x :: sf) h' pc' L (.ref x :: S)) :
    Go md l Z n0 R bytes ml ret own mn Ψ cells slots sf h pc L (.int n :: S) := by
  subst hp; subst hty; subst hC
  obtain ⟨q1, q2⟩ := clamp_of hk
  intro p e s m args below meth c vm0 T locs hx hby hml hr hlk hn ho X eT hZ B N
  obtain ⟨T', h', cA, X', e', E, A, EX, st⟩ := newPE X hx hZ w eT (g := mkF m pc L (.int n :: S)) rfl (hb hby hd) rfl q1 (cap := cap) (by rw [q2]; exact hcap) hb8 hc hl rfl
  have A' : Ary Z h' h.size (newarray.typeOf aty) (List.replicate k (defaultValue (newarray.typeOf aty))) := ⟨_, A, by simp [Jvm.RoadKit.newA, q2], by simp; omega, fun v hv => by
    rw [(List.mem_replicate.mp hv).2]; cases aty <;> rfl⟩
  obtain ⟨s₂, o, h1, r⟩ := G h' _ rfl B.n0le E A'.lt A' EX p e s m args below meth c vm0 T' locs hx hby hml hr hlk hn ho X' e' hZ (B.new E A'.lt (Nat.le_refl _)) N
  exact ⟨s₂, o, st _ h1, r⟩
/-- a virtual call whose name stands under the entry's class by inheritance (W-mode) -/
theorem Go.callU {EL : List (String × Nat)} {y z : MethodName} {index kc ks W : Nat} {C owner : String} {sfc : List Addr} {Q : Option Value → Heap → List Addr → Prop} {St : List Value} {a : Addr} (pc' : Nat) (argsL : List Value) (hd : decode bytes pc = .ok (.invokevirtual index, 3)) (hp : pc + 3 = pc') (hst : St = argsL.reverse ++ .ref a :: S)
    (wl : (Jvm.Cond.methodLink own index y).before a0 Z = true) (wsm : (Jvm.Cond.sameMethod y.cls owner y.name y.desc).before a0 Z = true) (wd : (Jvm.Cond.declares ⟨owner, y.name, y.desc⟩).before a0 Z = true) (wse : (Jvm.Cond.selects C y z).before a0 Z = true) (ws : (Jvm.Cond.instanceMethod z).before a0 Z = true) (hy : owner ≠ "java/lang/invoke/MethodHandle" ∧ owner ≠ "java/lang/invoke/VarHandle")
    (E : Exa Z h a C) (hC : Call (some EL) l Z n0 R z 3 W (.ref a :: argsL).toArray h sfc kc ks Q) (hlen : ∀ sig, parseMethodDescriptor y.desc = some sig → argsL.length = sig.parameters.length) (hW : (S.map fun v => v.category).sum ≤ W) (hsz : L.size = ml) (hc : cells + kc ≤ R.cells) (hs : slots + ks ≤ R.slots) (hsf : ∀ x ∈ sfc, x ∈ sf)
    (G : ∀ v h' sf', Q v h' sf' → Go (some EL) l Z n0 R bytes ml ret own mn Ψ (cells + kc) (slots + ks) (sf' ++ sf) h' pc' L (v.toList ++ S)) : Go (some EL) l Z n0 R bytes ml ret own mn Ψ cells slots sf h pc L St := by
  subst hp; subst hst
  intro p e s m args below meth c vm0 T locs hx hby hml hr hlk hn ho X eT hZ B N
  have hown : (s.setVm vm0).vm.findClass own = some m.cls := by rw [show (s.setVm vm0).vm = vm0 from rfl, hZ.alike.findClass]; exact ho
  have K := hC p e below s vm0 args hZ (B.sub hsf)
  obtain ⟨cB, kB, i1, -, i3⟩ := isOf (s := s.setVm vm0) hZ eT E
  obtain ⟨v, vm₁, ⟨U, L1, c1, n1⟩, -, X', hS, hgr, ⟨L', sf', q1, q0, q2, q3, q4, q5, q6, q7⟩, st⟩ := X.virtualBackUpS hx hown (mvT hZ wl) (mvT hZ wsm) (mvT hZ wd) hy (mvT hZ wse) (mvT hZ ws) K i1 i3 (g := mkF m pc L (argsL.reverse ++ .ref a :: S)) rfl (hsz.trans hml.symm) (Steps.refl _) hlen rfl (by simpa using hW) (hb hby hd) (fun _ _ => ⟨rfl, eT, hc, hs⟩)
  dsimp only [Pt.U, Pt.locs, Pt.cells, Pt.slots] at q1 q0 q3 q4 q5 q6 q7 X' st hS hgr
  subst q3 q4 q5
  obtain ⟨s₂, o, h1, r⟩ := G v U.heap sf' q1 p e s m args below meth c U.vm U _ hx hby hml hr hlk hn ho X' rfl (State.Warmed39.trans (t := s.setVm vm0) hZ hS.1) (B.called hS q0 q6 q7) (N.app q2)
  exact ⟨s₂, o, st.trans h1, r⟩
theorem Go.aaload1 {a : Addr} {j : Int32} {ty : FieldType} (i : Nat) {v : Value} (pc' : Nat) (hd : decode bytes pc = .ok (.aaload, 1)) (hp : pc + 1 = pc') (hty : ty.isReference = true) (A : At1 Z h a ty i v) (hj : j.toInt = (i : Int)) (G : Go md l Z n0 R bytes ml ret own mn Ψ cells slots sf h pc' L (v :: S)) :
    Go md l Z n0 R bytes ml ret own mn Ψ cells slots sf h pc L (.int j :: .ref a :: S) := by
  subst hp
  obtain ⟨c0, A, e1⟩ := A
  obtain ⟨q1, q2⟩ := clamp_of hj
  have hi := (Array.getElem?_eq_some_iff.mp e1).1
  exact Go.warm _ (fun p e s m args below meth c T locs hx hby hml hZ hown X eT => ⟨T, X, eT, fun target k => X.aaload hx (by rw [eT]; exact A.1) (State.isArrayOf_alike hZ.alike A.2.1) hty A.2.2 (by rw [q2]; rintro (z | z); exact q1 z; omega) (by rw [q2]; exact e1) (g := mkF m pc L (.int j :: .ref a :: S)) rfl rfl (hb hby hd) target k⟩) G
end G
end GK
end Jvm.Pilot.@@N@@
namespace Jvm.Pilot.@@N@@
namespace GK
open Jvm Jvm.ClassFile Sem Op Lib Jvm.Free Jvm.Stand Jvm.LawKit Jvm.RoadKit Bundle
section Strs
variable {md : Md} {l : Launch} {Z : State} {n0 : Nat} {R : Room} {h h' : Heap} {sf : List Addr} {a0 : Array Value} {x b : Addr} {cs ds : List Int32}
abbrev ST : String := "java/lang/String"
def Lat (cs : List Int32) : Prop := ∀ c ∈ cs, ¬ c < 0 ∧ ¬ (255 : Int32) < c
/-- x is a Latin-1 String of these chars -/
def Str (Z : State) (h : Heap) (x : Addr) (cs : List Int32) : Prop := ∃ t : Addr, Exa Z h x ST ∧ Fld Z h x ST "coder" "B" (.int 0) ∧ Fld Z h x ST "value" "[B" (.ref t) ∧ Ary Z h t .byte ((cs.map fun c => c.toInt8.toInt32).map Value.int) ∧ Lat cs
theorem Str.ext (S : Str Z h x cs) (E : Ext h h') : Str Z h' x cs := by obtain ⟨t, s1, s2, s3, s4, s5⟩ := S; exact ⟨t, s1.ext E, s2.ext E, s3.ext E, s4.ext E, s5⟩
theorem Str.exa (S : Str Z h x cs) : Exa Z h x ST := by obtain ⟨t, s1, -⟩ := S; exact s1
theorem Str.lt (S : Str Z h x cs) : x < h.size := S.exa.lt
theorem Str.keepO {a : Addr} {C : String} {k : Nat} (S : Str Z h x cs) (E : Exa Z h a C) (hn : C ≠ ST) (wi : (Jvm.Cond.instantiable C k).before a0 Z = true) (K : Keep h h' [a]) : Str Z h' x cs := by
  obtain ⟨t, s1, s2, s3, s4, s5⟩ := S
  have n1 : x ≠ a := Ne.symm (ne_exa E s1 hn)
  have n2 : t ≠ a := by obtain ⟨c, A, -⟩ := s4; exact Ne.symm (ne_arr E wi A)
  exact ⟨t, s1.keep K, s2.keep K (ninS n1 nin0), s3.keep K (ninS n1 nin0), Ary.keep K s4 (ninS n2 nin0), s5⟩
theorem toInt_lt {x y : Int32} : x < y ↔ x.toInt < y.toInt := Int32.lt_iff_toInt_lt
theorem lat_iff {c : Int32} : (¬ c < 0 ∧ ¬ (255 : Int32) < c) ↔ (0 ≤ c.toInt ∧ c.toInt ≤ 255) := by
  rw [toInt_lt, toInt_lt]
  have e1 : (0 : Int32).toInt = 0 := rfl
  have e2 : (255 : Int32).toInt = 255 := rfl
  omega
theorem chr_id {c : Int32} (q : 0 ≤ c.toInt ∧ c.toInt ≤ 65535) : chr c = c := Int32.toInt_inj.mp (by have := c_i2c c; show (c.toUInt32.toUInt16.toUInt32.toInt32).toInt = c.toInt; omega)
theorem chr_rng (x : Int32) : 0 ≤ (chr x).toInt ∧ (chr x).toInt ≤ 65535 := by have := c_i2c x; show 0 ≤ (x.toUInt32.toUInt16.toUInt32.toInt32).toInt ∧ (x.toUInt32.toUInt16.toUInt32.toInt32).toInt ≤ 65535; omega
theorem and255 (x : Int32) : 0 ≤ (x &&& (255 : Int32)).toInt ∧ (x &&& (255 : Int32)).toInt ≤ 255 := c_and x 255 (by decide)
theorem chr255 (x : Int32) : ¬ chr (x &&& (255 : Int32)) < 0 ∧ ¬ (255 : Int32) < chr (x &&& (255 : Int32)) := by
  have q := and255 x
  rw [chr_id (by omega)]; exact lat_iff.mpr q
theorem nar_chr (c : Int32) : nar .char c = chr c := rfl
theorem nar_c {c : Int32} (q : ¬ c < 0 ∧ ¬ (255 : Int32) < c) : nar .char c = c := by
  have := lat_iff.mp q
  rw [nar_chr, chr_id (by omega)]
theorem i8_idem (x : Int32) : x.toInt8.toInt32.toInt8.toInt32 = x.toInt8.toInt32 := Int32.toInt_inj.mp (by have h1 := c_i2b x; have h2 := c_i2b (x.toInt8.toInt32); omega)
theorem latN : Lat [] := fun c hc => nomatch hc
theorem latC {c : Int32} {cs : List Int32} (q : ¬ c < 0 ∧ ¬ (255 : Int32) < c) (r : Lat cs) : Lat (c :: cs) := fun y hy => (List.mem_cons.mp hy).elim (fun u => u ▸ q) (r y)
theorem lat1 {c : Int32} (q : ¬ c < 0 ∧ ¬ (255 : Int32) < c) : Lat [c] := latC q latN
theorem lat2 {c d : Int32} (q : ¬ c < 0 ∧ ¬ (255 : Int32) < c) (r : ¬ d < 0 ∧ ¬ (255 : Int32) < d) : Lat [c, d] := latC q (lat1 r)
end Strs
end GK
end Jvm.Pilot.@@N@@
namespace Jvm.Pilot.@@N@@
namespace GK
open Jvm Jvm.ClassFile Sem Op Lib Jvm.Free Jvm.Stand Jvm.LawKit Jvm.RoadKit Bundle
section Utfs
variable {Z : State} {h h' : Heap} {x : Addr} {cs : List Int32}
/-- a char's value -/
def CHP (c : Int32) : Prop := 0 ≤ c.toInt ∧ c.toInt ≤ 65535
theorem chp_chr (x : Int32) : CHP (chr x) := chr_rng x
theorem nar_cc {c : Int32} (q : CHP c) : nar .char c = c := by rw [nar_chr, chr_id q]
theorem chp0 {c : Int32} (q : CHP c) : ¬ c < 0 := fun z => by have := toInt_lt.mp z; have e : (0 : Int32).toInt = 0 := rfl; have := q.1; omega
def lo16 (c : Int32) : Int32 := (c >>> ((0 : Int32) &&& 31)).toInt8.toInt32
def hi16 (c : Int32) : Int32 := (c >>> ((8 : Int32) &&& 31)).toInt8.toInt32
def getc (x y : Int32) : Int32 := chr (((x &&& (255 : Int32)) <<< ((0 : Int32) &&& 31)) ||| ((y &&& (255 : Int32)) <<< ((8 : Int32) &&& 31)))
theorem rt16 {c : Int32} (q : CHP c) : getc (lo16 c) (hi16 c) = c := by
  refine Int32.toInt_inj.mp ?_
  have h0 : (c >>> ((0 : Int32) &&& 31)).toInt = c.toInt / (2 ^ 0 : Nat) := c_ishr c 0 0 (by decide)
  have h8 : (c >>> ((8 : Int32) &&& 31)).toInt = c.toInt / (2 ^ 8 : Nat) := c_ishr c 8 8 (by decide)
  have b0 := c_i2b (c >>> ((0 : Int32) &&& 31))
  have b8 := c_i2b (c >>> ((8 : Int32) &&& 31))
  have m0 : (lo16 c &&& (255 : Int32)).toInt = (lo16 c).toInt % (2 ^ 8 : Nat) := c_mask _ 255 8 (by decide) (by decide)
  have m8 : (hi16 c &&& (255 : Int32)).toInt = (hi16 c).toInt % (2 ^ 8 : Nat) := c_mask _ 255 8 (by decide) (by decide)
  have s0 := c_ishl (lo16 c &&& (255 : Int32)) 0 0 (by decide)
  have s8 := c_ishl (hi16 c &&& (255 : Int32)) 8 8 (by decide)
  have r0 := rng32 ((lo16 c &&& (255 : Int32)) <<< ((0 : Int32) &&& 31))
  have r8 := rng32 ((hi16 c &&& (255 : Int32)) <<< ((8 : Int32) &&& 31))
  have e0 : (lo16 c).toInt = ((c >>> ((0 : Int32) &&& 31)).toInt8.toInt32).toInt := rfl
  have e8 : (hi16 c).toInt = ((c >>> ((8 : Int32) &&& 31)).toInt8.toInt32).toInt := rfl
  unfold CHP at q
  have o := c_or' ((lo16 c &&& (255 : Int32)) <<< ((0 : Int32) &&& 31)) ((hi16 c &&& (255 : Int32)) <<< ((8 : Int32) &&& 31)) 8 (by decide) 256 rfl (by omega) (by omega) (by omega)
  have r := rng32 (((lo16 c &&& (255 : Int32)) <<< ((0 : Int32) &&& 31)) ||| ((hi16 c &&& (255 : Int32)) <<< ((8 : Int32) &&& 31)))
  have k := c_i2c (((lo16 c &&& (255 : Int32)) <<< ((0 : Int32) &&& 31)) ||| ((hi16 c &&& (255 : Int32)) <<< ((8 : Int32) &&& 31)))
  show ((((lo16 c &&& (255 : Int32)) <<< ((0 : Int32) &&& 31)) ||| ((hi16 c &&& (255 : Int32)) <<< ((8 : Int32) &&& 31))).toUInt32.toUInt16.toUInt32.toInt32).toInt = c.toInt
  omega
theorem lo8_get {c : Int32} (q : ¬ c < 0 ∧ ¬ (255 : Int32) < c) : chr (c.toInt8.toInt32 &&& (255 : Int32)) = c := by
  have q' := lat_iff.mp q
  have m0 : (c.toInt8.toInt32 &&& (255 : Int32)).toInt = (c.toInt8.toInt32).toInt % (2 ^ 8 : Nat) := c_mask _ 255 8 (by decide) (by decide)
  have b0 := c_i2b c
  have e : c.toInt8.toInt32 &&& (255 : Int32) = c := Int32.toInt_inj.mp (by omega)
  rw [e, chr_id (by omega)]
def wide : List Int32 → List Value
  | [] => []
  | c :: cs => .int (lo16 c) :: .int (hi16 c) :: wide cs
theorem wide_len : ∀ cs : List Int32, (wide cs).length = 2 * cs.length
  | [] => rfl
  | c :: cs => by simp only [wide, List.length_cons, wide_len cs]; omega
/-- the bytes that spell these chars under a coder -/
def Spell (cs : List Int32) (cd : Int32) (vs : List Value) : Prop := (cd = 0 ∧ vs = ((cs.map fun c => c.toInt8.toInt32).map Value.int) ∧ Lat cs) ∨ (cd = 1 ∧ vs = wide cs ∧ ∃ c ∈ cs, (255 : Int32) < c)
def Gst (Z : State) (h : Heap) (x : Addr) (cs : List Int32) : Prop := ∃ (t : Addr) (cd : Int32) (vs : List Value), Exa Z h x ST ∧ Fld Z h x ST "coder" "B" (.int cd) ∧ Fld Z h x ST "value" "[B" (.ref t) ∧ Ary Z h t .byte vs ∧ Spell cs cd vs
theorem Gst.ext (S : Gst Z h x cs) (E : Ext h h') : Gst Z h' x cs := by obtain ⟨t, cd, vs, s1, s2, s3, s4, s5⟩ := S; exact ⟨t, cd, vs, s1.ext E, s2.ext E, s3.ext E, s4.ext E, s5⟩
theorem Gst.exa (S : Gst Z h x cs) : Exa Z h x ST := by obtain ⟨t, cd, vs, s1, -⟩ := S; exact s1
theorem Gst.ofStr (S : Str Z h x cs) : Gst Z h x cs := by obtain ⟨t, s1, s2, s3, s4, s5⟩ := S; exact ⟨t, 0, _, s1, s2, s3, s4, Or.inl ⟨rfl, rfl, s5⟩⟩
theorem Spell.len {cd : Int32} {vs : List Value} (q : Spell cs cd vs) (hl : cs.length ≤ 4000) : (Int32.ofNat vs.length) >>> (cd &&& 31) = Int32.ofNat cs.length := by
  refine Int32.toInt_inj.mp ?_
  rcases q with ⟨rfl, rfl, -⟩ | ⟨rfl, rfl, -⟩
  · rw [c_ishr _ 0 0 (by decide), ofNat_toInt (by simp; omega), ofNat_toInt (by omega)]; simp
  · rw [c_ishr _ 1 1 (by decide), wide_len, ofNat_toInt (by omega), ofNat_toInt (by omega)]; omega
end Utfs
end GK
end Jvm.Pilot.@@N@@
namespace Jvm.Pilot.@@N@@
open Jvm Jvm.ClassFile Sem Op Lib Jvm.Free Jvm.Stand Jvm.LawKit Jvm.RoadKit Bundle Jvm.Pilot.@@N@@.Jvm.D Jvm.Pilot.@@N@@.GK
abbrev HW (a0 : Array Value) (Z : State) : Prop := ∀ d ∈ tables_1, d.before a0 Z = true
theorem w0 {a0 : Array Value} {Z : State} (hw : HW a0 Z) : (Jvm.Cond.methodLink "com/example/tugas/tugas/TextRequireLengthPinLaw" (11 : Nat) ({ cls := "com/example/tugas/tugas/TextRequireLengthPinLaw", name := "draw", desc := "(I)C" } : Jvm.MethodName)).before a0 Z = true := hw _ (List.mem_of_getElem? (i := 0) rfl)
theorem w1 {a0 : Array Value} {Z : State} (hw : HW a0 Z) : (Jvm.Cond.static ({ cls := "com/example/tugas/tugas/TextRequireLengthPinLaw", name := "draw", desc := "(I)C" } : Jvm.MethodName)).before a0 Z = true := hw _ (List.mem_of_getElem? (i := 1) rfl)
theorem w2 {a0 : Array Value} {Z : State} (hw : HW a0 Z) : (Jvm.Cond.initialized "com/example/tugas/tugas/TextRequireLengthPinLaw").before a0 Z = true := hw _ (List.mem_of_getElem? (i := 2) rfl)
theorem w3 {a0 : Array Value} {Z : State} (hw : HW a0 Z) : (Jvm.Cond.code ({ cls := "com/example/tugas/tugas/TextRequireLengthPinLaw", name := "draw", desc := "(I)C" } : Jvm.MethodName) method_2_code (3 : Nat) (Option.some Jvm.ClassFile.FieldType.char)).before a0 Z = true := hw _ (List.mem_of_getElem? (i := 3) rfl)
theorem w4 {a0 : Array Value} {Z : State} (hw : HW a0 Z) : (Jvm.Cond.constant "com/example/tugas/tugas/TextRequireLengthPinLaw" (8 : Nat) (56320 : Int32)).before a0 Z = true := hw _ (List.mem_of_getElem? (i := 4) rfl)
theorem w5 {a0 : Array Value} {Z : State} (hw : HW a0 Z) : (Jvm.Cond.constant "com/example/tugas/tugas/TextRequireLengthPinLaw" (7 : Nat) (55296 : Int32)).before a0 Z = true := hw _ (List.mem_of_getElem? (i := 5) rfl)
theorem w6 {a0 : Array Value} {Z : State} (hw : HW a0 Z) : (Jvm.Cond.arrayClass Jvm.ClassFile.FieldType.char).before a0 Z = true := hw _ (List.mem_of_getElem? (i := 6) rfl)
theorem w7 {a0 : Array Value} {Z : State} (hw : HW a0 Z) : (Jvm.Cond.constantLong "com/example/tugas/tugas/TextRequireLengthPinLaw" (23 : Nat) (2147483647 : Int64)).before a0 Z = true := hw _ (List.mem_of_getElem? (i := 7) rfl)
theorem w8 {a0 : Array Value} {Z : State} (hw : HW a0 Z) : (Jvm.Cond.methodLink "com/example/tugas/tugas/TextRequireLengthPinLaw" (25 : Nat) ({ cls := "java/lang/Math", name := "min", desc := "(JJ)J" } : Jvm.MethodName)).before a0 Z = true := hw _ (List.mem_of_getElem? (i := 8) rfl)
theorem w9 {a0 : Array Value} {Z : State} (hw : HW a0 Z) : (Jvm.Cond.static ({ cls := "java/lang/Math", name := "min", desc := "(JJ)J" } : Jvm.MethodName)).before a0 Z = true := hw _ (List.mem_of_getElem? (i := 9) rfl)
theorem w10 {a0 : Array Value} {Z : State} (hw : HW a0 Z) : (Jvm.Cond.initialized "java/lang/Math").before a0 Z = true := hw _ (List.mem_of_getElem? (i := 10) rfl)
theorem w11 {a0 : Array Value} {Z : State} (hw : HW a0 Z) : (Jvm.Cond.code ({ cls := "java/lang/Math", name := "min", desc := "(JJ)J" } : Jvm.MethodName) jdk_29_method_70_code (4 : Nat) (Option.some Jvm.ClassFile.FieldType.long)).before a0 Z = true := hw _ (List.mem_of_getElem? (i := 11) rfl)
theorem w12 {a0 : Array Value} {Z : State} (hw : HW a0 Z) : (Jvm.Cond.classLink "com/example/tugas/tugas/TextRequireLengthPinLaw" (31 : Nat) "java/lang/String").before a0 Z = true := hw _ (List.mem_of_getElem? (i := 12) rfl)
theorem w13 {a0 : Array Value} {Z : State} (hw : HW a0 Z) : (Jvm.Cond.instantiable "java/lang/String" (4 : Nat)).before a0 Z = true := hw _ (List.mem_of_getElem? (i := 13) rfl)
theorem w14 {a0 : Array Value} {Z : State} (hw : HW a0 Z) : (Jvm.Cond.initialized "java/lang/String").before a0 Z = true := hw _ (List.mem_of_getElem? (i := 14) rfl)
theorem w15 {a0 : Array Value} {Z : State} (hw : HW a0 Z) : (Jvm.Cond.methodLink "com/example/tugas/tugas/TextRequireLengthPinLaw" (33 : Nat) ({ cls := "java/lang/String", name := "<init>", desc := "([C)V" } : Jvm.MethodName)).before a0 Z = true := hw _ (List.mem_of_getElem? (i := 15) rfl)
theorem w16 {a0 : Array Value} {Z : State} (hw : HW a0 Z) : (Jvm.Cond.instanceMethod ({ cls := "java/lang/String", name := "<init>", desc := "([C)V" } : Jvm.MethodName)).before a0 Z = true := hw _ (List.mem_of_getElem? (i := 16) rfl)
theorem w17 {a0 : Array Value} {Z : State} (hw : HW a0 Z) : (Jvm.Cond.code ({ cls := "java/lang/String", name := "<init>", desc := "([C)V" } : Jvm.MethodName) jdk_42_method_3_code (2 : Nat) (Option.none : Option Jvm.ClassFile.FieldType)).before a0 Z = true := hw _ (List.mem_of_getElem? (i := 17) rfl)
theorem w18 {a0 : Array Value} {Z : State} (hw : HW a0 Z) : (Jvm.Cond.methodLink "java/lang/String" (27 : Nat) ({ cls := "java/lang/String", name := "<init>", desc := "([CIILjava/lang/Void;)V" } : Jvm.MethodName)).before a0 Z = true := hw _ (List.mem_of_getElem? (i := 18) rfl)
theorem w19 {a0 : Array Value} {Z : State} (hw : HW a0 Z) : (Jvm.Cond.instanceMethod ({ cls := "java/lang/String", name := "<init>", desc := "([CIILjava/lang/Void;)V" } : Jvm.MethodName)).before a0 Z = true := hw _ (List.mem_of_getElem? (i := 19) rfl)
theorem w21 {a0 : Array Value} {Z : State} (hw : HW a0 Z) : (Jvm.Cond.code ({ cls := "java/lang/String", name := "<init>", desc := "([CIILjava/lang/Void;)V" } : Jvm.MethodName) jdk_42_method_149_code (6 : Nat) (Option.none : Option Jvm.ClassFile.FieldType)).before a0 Z = true := hw _ (List.mem_of_getElem? (i := 21) rfl)
theorem w22 {a0 : Array Value} {Z : State} (hw : HW a0 Z) : (Jvm.Cond.methodLink "java/lang/String" (1 : Nat) ({ cls := "java/lang/Object", name := "<init>", desc := "()V" } : Jvm.MethodName)).before a0 Z = true := hw _ (List.mem_of_getElem? (i := 22) rfl)
theorem w23 {a0 : Array Value} {Z : State} (hw : HW a0 Z) : (Jvm.Cond.instanceMethod ({ cls := "java/lang/Object", name := "<init>", desc := "()V" } : Jvm.MethodName)).before a0 Z = true := hw _ (List.mem_of_getElem? (i := 23) rfl)
theorem w24 {a0 : Array Value} {Z : State} (hw : HW a0 Z) : (Jvm.Cond.code ({ cls := "java/lang/Object", name := "<init>", desc := "()V" } : Jvm.MethodName) object_method_1_code (1 : Nat) (Option.none : Option Jvm.ClassFile.FieldType)).before a0 Z = true := hw _ (List.mem_of_getElem? (i := 24) rfl)
theorem w25 {a0 : Array Value} {Z : State} (hw : HW a0 Z) : (Jvm.Cond.fieldLink "java/lang/String" (38 : Nat) "java/lang/String" "COMPACT_STRINGS" "Z").before a0 Z = true := hw _ (List.mem_of_getElem? (i := 25) rfl)
theorem w26 {a0 : Array Value} {Z : State} (hw : HW a0 Z) : (Jvm.Cond.methodLink "java/lang/String" (177 : Nat) ({ cls := "java/lang/StringUTF16", name := "compress", desc := "([CII)[B" } : Jvm.MethodName)).before a0 Z = true := hw _ (List.mem_of_getElem? (i := 26) rfl)
theorem w27 {a0 : Array Value} {Z : State} (hw : HW a0 Z) : (Jvm.Cond.static ({ cls := "java/lang/StringUTF16", name := "compress", desc := "([CII)[B" } : Jvm.MethodName)).before a0 Z = true := hw _ (List.mem_of_getElem? (i := 27) rfl)
theorem w28 {a0 : Array Value} {Z : State} (hw : HW a0 Z) : (Jvm.Cond.initialized "java/lang/StringUTF16").before a0 Z = true := hw _ (List.mem_of_getElem? (i := 28) rfl)
theorem w29 {a0 : Array Value} {Z : State} (hw : HW a0 Z) : (Jvm.Cond.code ({ cls := "java/lang/StringUTF16", name := "compress", desc := "([CII)[B" } : Jvm.MethodName) jdk_52_method_16_code (6 : Nat) (Option.some (Jvm.ClassFile.FieldType.array Jvm.ClassFile.FieldType.byte))).before a0 Z = true := hw _ (List.mem_of_getElem? (i := 29) rfl)
theorem w30 {a0 : Array Value} {Z : State} (hw : HW a0 Z) : (Jvm.Cond.arrayClass Jvm.ClassFile.FieldType.byte).before a0 Z = true := hw _ (List.mem_of_getElem? (i := 30) rfl)
theorem w31 {a0 : Array Value} {Z : State} (hw : HW a0 Z) : (Jvm.Cond.methodLink "java/lang/StringUTF16" (115 : Nat) ({ cls := "java/lang/StringUTF16", name := "compress", desc := "([CI[BII)I" } : Jvm.MethodName)).before a0 Z = true := hw _ (List.mem_of_getElem? (i := 31) rfl)
theorem w32 {a0 : Array Value} {Z : State} (hw : HW a0 Z) : (Jvm.Cond.static ({ cls := "java/lang/StringUTF16", name := "compress", desc := "([CI[BII)I" } : Jvm.MethodName)).before a0 Z = true := hw _ (List.mem_of_getElem? (i := 32) rfl)
theorem w33 {a0 : Array Value} {Z : State} (hw : HW a0 Z) : (Jvm.Cond.code ({ cls := "java/lang/StringUTF16", name := "compress", desc := "([CI[BII)I" } : Jvm.MethodName) jdk_52_method_21_code (7 : Nat) (Option.some Jvm.ClassFile.FieldType.int)).before a0 Z = true := hw _ (List.mem_of_getElem? (i := 33) rfl)
theorem w34 {a0 : Array Value} {Z : State} (hw : HW a0 Z) : (Jvm.Cond.methodLink "java/lang/String" (47 : Nat) ({ cls := "java/lang/StringUTF16", name := "coderFromArrayLen", desc := "([BI)B" } : Jvm.MethodName)).before a0 Z = true := hw _ (List.mem_of_getElem? (i := 34) rfl)
theorem w35 {a0 : Array Value} {Z : State} (hw : HW a0 Z) : (Jvm.Cond.static ({ cls := "java/lang/StringUTF16", name := "coderFromArrayLen", desc := "([BI)B" } : Jvm.MethodName)).before a0 Z = true := hw _ (List.mem_of_getElem? (i := 35) rfl)
theorem w36 {a0 : Array Value} {Z : State} (hw : HW a0 Z) : (Jvm.Cond.code ({ cls := "java/lang/StringUTF16", name := "coderFromArrayLen", desc := "([BI)B" } : Jvm.MethodName) jdk_52_method_15_code (2 : Nat) (Option.some Jvm.ClassFile.FieldType.byte)).before a0 Z = true := hw _ (List.mem_of_getElem? (i := 36) rfl)
theorem w37 {a0 : Array Value} {Z : State} (hw : HW a0 Z) : (Jvm.Cond.fieldLink "java/lang/String" (15 : Nat) "java/lang/String" "coder" "B").before a0 Z = true := hw _ (List.mem_of_getElem? (i := 37) rfl)
theorem w38 {a0 : Array Value} {Z : State} (hw : HW a0 Z) : (Jvm.Cond.laysFinal "java/lang/String" "java/lang/String" "coder" "B").before a0 Z = true := hw _ (List.mem_of_getElem? (i := 38) rfl)
theorem w39 {a0 : Array Value} {Z : State} (hw : HW a0 Z) : (Jvm.Cond.fieldLink "java/lang/String" (9 : Nat) "java/lang/String" "value" "[B").before a0 Z = true := hw _ (List.mem_of_getElem? (i := 39) rfl)
theorem w40 {a0 : Array Value} {Z : State} (hw : HW a0 Z) : (Jvm.Cond.laysFinal "java/lang/String" "java/lang/String" "value" "[B").before a0 Z = true := hw _ (List.mem_of_getElem? (i := 40) rfl)
theorem w41 {a0 : Array Value} {Z : State} (hw : HW a0 Z) : (Jvm.Cond.stringLink "com/example/tugas/tugas/TextRequireLengthPinLaw" (36 : Nat) "title").before a0 Z = true := hw _ (List.mem_of_getElem? (i := 41) rfl)
theorem w44 {a0 : Array Value} {Z : State} (hw : HW a0 Z) : (Jvm.Cond.methodLink "com/example/tugas/tugas/TextRequireLengthPinLaw" (38 : Nat) ({ cls := "com/example/tugas/tugas/Text", name := "requireLength", desc := "(Ljava/lang/String;Ljava/lang/String;I)Ljava/lang/String;" } : Jvm.MethodName)).before a0 Z = true := hw _ (List.mem_of_getElem? (i := 44) rfl)
theorem w45 {a0 : Array Value} {Z : State} (hw : HW a0 Z) : (Jvm.Cond.static ({ cls := "com/example/tugas/tugas/Text", name := "requireLength", desc := "(Ljava/lang/String;Ljava/lang/String;I)Ljava/lang/String;" } : Jvm.MethodName)).before a0 Z = true := hw _ (List.mem_of_getElem? (i := 45) rfl)
theorem w46 {a0 : Array Value} {Z : State} (hw : HW a0 Z) : (Jvm.Cond.initialized "com/example/tugas/tugas/Text").before a0 Z = true := hw _ (List.mem_of_getElem? (i := 46) rfl)
theorem w47 {a0 : Array Value} {Z : State} (hw : HW a0 Z) : (Jvm.Cond.code ({ cls := "com/example/tugas/tugas/Text", name := "requireLength", desc := "(Ljava/lang/String;Ljava/lang/String;I)Ljava/lang/String;" } : Jvm.MethodName) prog_15_method_2_code (3 : Nat) (Option.some (Jvm.ClassFile.FieldType.object "java/lang/String"))).before a0 Z = true := hw _ (List.mem_of_getElem? (i := 47) rfl)
theorem w48 {a0 : Array Value} {Z : State} (hw : HW a0 Z) : (Jvm.Cond.methodLink "com/example/tugas/tugas/Text" (7 : Nat) ({ cls := "java/lang/String", name := "isEmpty", desc := "()Z" } : Jvm.MethodName)).before a0 Z = true := hw _ (List.mem_of_getElem? (i := 48) rfl)
theorem w49 {a0 : Array Value} {Z : State} (hw : HW a0 Z) : (Jvm.Cond.declares ({ cls := "java/lang/String", name := "isEmpty", desc := "()Z" } : Jvm.MethodName)).before a0 Z = true := hw _ (List.mem_of_getElem? (i := 49) rfl)
theorem w50 {a0 : Array Value} {Z : State} (hw : HW a0 Z) : (Jvm.Cond.instanceMethod ({ cls := "java/lang/String", name := "isEmpty", desc := "()Z" } : Jvm.MethodName)).before a0 Z = true := hw _ (List.mem_of_getElem? (i := 50) rfl)
theorem w51 {a0 : Array Value} {Z : State} (hw : HW a0 Z) : (Jvm.Cond.selects "java/lang/String" ({ cls := "java/lang/String", name := "isEmpty", desc := "()Z" } : Jvm.MethodName) ({ cls := "java/lang/String", name := "isEmpty", desc := "()Z" } : Jvm.MethodName)).before a0 Z = true := hw _ (List.mem_of_getElem? (i := 51) rfl)
theorem w52 {a0 : Array Value} {Z : State} (hw : HW a0 Z) : (Jvm.Cond.code ({ cls := "java/lang/String", name := "isEmpty", desc := "()Z" } : Jvm.MethodName) jdk_42_method_55_code (1 : Nat) (Option.some Jvm.ClassFile.FieldType.boolean)).before a0 Z = true := hw _ (List.mem_of_getElem? (i := 52) rfl)
theorem w53 {a0 : Array Value} {Z : State} (hw : HW a0 Z) : (Jvm.Cond.methodLink "com/example/tugas/tugas/Text" (13 : Nat) ({ cls := "java/lang/String", name := "length", desc := "()I" } : Jvm.MethodName)).before a0 Z = true := hw _ (List.mem_of_getElem? (i := 53) rfl)
theorem w54 {a0 : Array Value} {Z : State} (hw : HW a0 Z) : (Jvm.Cond.declares ({ cls := "java/lang/String", name := "length", desc := "()I" } : Jvm.MethodName)).before a0 Z = true := hw _ (List.mem_of_getElem? (i := 54) rfl)
theorem w55 {a0 : Array Value} {Z : State} (hw : HW a0 Z) : (Jvm.Cond.instanceMethod ({ cls := "java/lang/String", name := "length", desc := "()I" } : Jvm.MethodName)).before a0 Z = true := hw _ (List.mem_of_getElem? (i := 55) rfl)
theorem w56 {a0 : Array Value} {Z : State} (hw : HW a0 Z) : (Jvm.Cond.selects "java/lang/String" ({ cls := "java/lang/String", name := "length", desc := "()I" } : Jvm.MethodName) ({ cls := "java/lang/String", name := "length", desc := "()I" } : Jvm.MethodName)).before a0 Z = true := hw _ (List.mem_of_getElem? (i := 56) rfl)
theorem w57 {a0 : Array Value} {Z : State} (hw : HW a0 Z) : (Jvm.Cond.code ({ cls := "java/lang/String", name := "length", desc := "()I" } : Jvm.MethodName) jdk_42_method_54_code (1 : Nat) (Option.some Jvm.ClassFile.FieldType.int)).before a0 Z = true := hw _ (List.mem_of_getElem? (i := 57) rfl)
theorem w58 {a0 : Array Value} {Z : State} (hw : HW a0 Z) : (Jvm.Cond.methodLink "java/lang/String" (335 : Nat) ({ cls := "java/lang/String", name := "coder", desc := "()B" } : Jvm.MethodName)).before a0 Z = true := hw _ (List.mem_of_getElem? (i := 58) rfl)
theorem w59 {a0 : Array Value} {Z : State} (hw : HW a0 Z) : (Jvm.Cond.declares ({ cls := "java/lang/String", name := "coder", desc := "()B" } : Jvm.MethodName)).before a0 Z = true := hw _ (List.mem_of_getElem? (i := 59) rfl)
theorem w60 {a0 : Array Value} {Z : State} (hw : HW a0 Z) : (Jvm.Cond.instanceMethod ({ cls := "java/lang/String", name := "coder", desc := "()B" } : Jvm.MethodName)).before a0 Z = true := hw _ (List.mem_of_getElem? (i := 60) rfl)
theorem w61 {a0 : Array Value} {Z : State} (hw : HW a0 Z) : (Jvm.Cond.selects "java/lang/String" ({ cls := "java/lang/String", name := "coder", desc := "()B" } : Jvm.MethodName) ({ cls := "java/lang/String", name := "coder", desc := "()B" } : Jvm.MethodName)).before a0 Z = true := hw _ (List.mem_of_getElem? (i := 61) rfl)
theorem w62 {a0 : Array Value} {Z : State} (hw : HW a0 Z) : (Jvm.Cond.code ({ cls := "java/lang/String", name := "coder", desc := "()B" } : Jvm.MethodName) jdk_42_method_152_code (1 : Nat) (Option.some Jvm.ClassFile.FieldType.byte)).before a0 Z = true := hw _ (List.mem_of_getElem? (i := 62) rfl)
theorem w63 {a0 : Array Value} {Z : State} (hw : HW a0 Z) : (Jvm.Cond.methodLink "com/example/tugas/tugas/Text" (17 : Nat) ({ cls := "java/lang/String", name := "codePointCount", desc := "(II)I" } : Jvm.MethodName)).before a0 Z = true := hw _ (List.mem_of_getElem? (i := 63) rfl)
theorem w64 {a0 : Array Value} {Z : State} (hw : HW a0 Z) : (Jvm.Cond.declares ({ cls := "java/lang/String", name := "codePointCount", desc := "(II)I" } : Jvm.MethodName)).before a0 Z = true := hw _ (List.mem_of_getElem? (i := 64) rfl)
theorem w65 {a0 : Array Value} {Z : State} (hw : HW a0 Z) : (Jvm.Cond.instanceMethod ({ cls := "java/lang/String", name := "codePointCount", desc := "(II)I" } : Jvm.MethodName)).before a0 Z = true := hw _ (List.mem_of_getElem? (i := 65) rfl)
theorem w66 {a0 : Array Value} {Z : State} (hw : HW a0 Z) : (Jvm.Cond.selects "java/lang/String" ({ cls := "java/lang/String", name := "codePointCount", desc := "(II)I" } : Jvm.MethodName) ({ cls := "java/lang/String", name := "codePointCount", desc := "(II)I" } : Jvm.MethodName)).before a0 Z = true := hw _ (List.mem_of_getElem? (i := 66) rfl)
theorem w67 {a0 : Array Value} {Z : State} (hw : HW a0 Z) : (Jvm.Cond.code ({ cls := "java/lang/String", name := "codePointCount", desc := "(II)I" } : Jvm.MethodName) jdk_42_method_59_code (3 : Nat) (Option.some Jvm.ClassFile.FieldType.int)).before a0 Z = true := hw _ (List.mem_of_getElem? (i := 67) rfl)
theorem w68 {a0 : Array Value} {Z : State} (hw : HW a0 Z) : (Jvm.Cond.methodLink "java/lang/String" (505 : Nat) ({ cls := "java/lang/String", name := "length", desc := "()I" } : Jvm.MethodName)).before a0 Z = true := hw _ (List.mem_of_getElem? (i := 68) rfl)
theorem w69 {a0 : Array Value} {Z : State} (hw : HW a0 Z) : (Jvm.Cond.methodLink "java/lang/String" (511 : Nat) ({ cls := "java/util/Objects", name := "checkFromToIndex", desc := "(III)I" } : Jvm.MethodName)).before a0 Z = true := hw _ (List.mem_of_getElem? (i := 69) rfl)
theorem w70 {a0 : Array Value} {Z : State} (hw : HW a0 Z) : (Jvm.Cond.static ({ cls := "java/util/Objects", name := "checkFromToIndex", desc := "(III)I" } : Jvm.MethodName)).before a0 Z = true := hw _ (List.mem_of_getElem? (i := 70) rfl)
theorem w71 {a0 : Array Value} {Z : State} (hw : HW a0 Z) : (Jvm.Cond.initialized "java/util/Objects").before a0 Z = true := hw _ (List.mem_of_getElem? (i := 71) rfl)
theorem w72 {a0 : Array Value} {Z : State} (hw : HW a0 Z) : (Jvm.Cond.code ({ cls := "java/util/Objects", name := "checkFromToIndex", desc := "(III)I" } : Jvm.MethodName) jdk_31_method_18_code (3 : Nat) (Option.some Jvm.ClassFile.FieldType.int)).before a0 Z = true := hw _ (List.mem_of_getElem? (i := 72) rfl)
theorem w73 {a0 : Array Value} {Z : State} (hw : HW a0 Z) : (Jvm.Cond.methodLink "java/util/Objects" (111 : Nat) ({ cls := "jdk/internal/util/Preconditions", name := "checkFromToIndex", desc := "(IIILjava/util/function/BiFunction;)I" } : Jvm.MethodName)).before a0 Z = true := hw _ (List.mem_of_getElem? (i := 73) rfl)
theorem w74 {a0 : Array Value} {Z : State} (hw : HW a0 Z) : (Jvm.Cond.static ({ cls := "jdk/internal/util/Preconditions", name := "checkFromToIndex", desc := "(IIILjava/util/function/BiFunction;)I" } : Jvm.MethodName)).before a0 Z = true := hw _ (List.mem_of_getElem? (i := 74) rfl)
theorem w75 {a0 : Array Value} {Z : State} (hw : HW a0 Z) : (Jvm.Cond.initialized "jdk/internal/util/Preconditions").before a0 Z = true := hw _ (List.mem_of_getElem? (i := 75) rfl)
theorem w76 {a0 : Array Value} {Z : State} (hw : HW a0 Z) : (Jvm.Cond.code ({ cls := "jdk/internal/util/Preconditions", name := "checkFromToIndex", desc := "(IIILjava/util/function/BiFunction;)I" } : Jvm.MethodName) jdk_41_method_12_code (4 : Nat) (Option.some Jvm.ClassFile.FieldType.int)).before a0 Z = true := hw _ (List.mem_of_getElem? (i := 76) rfl)
theorem w77 {a0 : Array Value} {Z : State} (hw : HW a0 Z) : (Jvm.Cond.methodLink "java/lang/String" (492 : Nat) ({ cls := "java/lang/String", name := "isLatin1", desc := "()Z" } : Jvm.MethodName)).before a0 Z = true := hw _ (List.mem_of_getElem? (i := 77) rfl)
theorem w78 {a0 : Array Value} {Z : State} (hw : HW a0 Z) : (Jvm.Cond.declares ({ cls := "java/lang/String", name := "isLatin1", desc := "()Z" } : Jvm.MethodName)).before a0 Z = true := hw _ (List.mem_of_getElem? (i := 78) rfl)
theorem w79 {a0 : Array Value} {Z : State} (hw : HW a0 Z) : (Jvm.Cond.instanceMethod ({ cls := "java/lang/String", name := "isLatin1", desc := "()Z" } : Jvm.MethodName)).before a0 Z = true := hw _ (List.mem_of_getElem? (i := 79) rfl)
theorem w80 {a0 : Array Value} {Z : State} (hw : HW a0 Z) : (Jvm.Cond.selects "java/lang/String" ({ cls := "java/lang/String", name := "isLatin1", desc := "()Z" } : Jvm.MethodName) ({ cls := "java/lang/String", name := "isLatin1", desc := "()Z" } : Jvm.MethodName)).before a0 Z = true := hw _ (List.mem_of_getElem? (i := 80) rfl)
theorem w81 {a0 : Array Value} {Z : State} (hw : HW a0 Z) : (Jvm.Cond.code ({ cls := "java/lang/String", name := "isLatin1", desc := "()Z" } : Jvm.MethodName) jdk_42_method_154_code (1 : Nat) (Option.some Jvm.ClassFile.FieldType.boolean)).before a0 Z = true := hw _ (List.mem_of_getElem? (i := 81) rfl)
theorem w82 {a0 : Array Value} {Z : State} (hw : HW a0 Z) : (Jvm.Cond.methodLink "com/example/tugas/tugas/TextRequireLengthPinLaw" (17 : Nat) ({ cls := "com/example/tugas/tugas/TextRequireLengthPinLaw", name := "pair", desc := "(CC)Z" } : Jvm.MethodName)).before a0 Z = true := hw _ (List.mem_of_getElem? (i := 82) rfl)
theorem w83 {a0 : Array Value} {Z : State} (hw : HW a0 Z) : (Jvm.Cond.static ({ cls := "com/example/tugas/tugas/TextRequireLengthPinLaw", name := "pair", desc := "(CC)Z" } : Jvm.MethodName)).before a0 Z = true := hw _ (List.mem_of_getElem? (i := 83) rfl)
theorem w84 {a0 : Array Value} {Z : State} (hw : HW a0 Z) : (Jvm.Cond.code ({ cls := "com/example/tugas/tugas/TextRequireLengthPinLaw", name := "pair", desc := "(CC)Z" } : Jvm.MethodName) method_3_code (2 : Nat) (Option.some Jvm.ClassFile.FieldType.boolean)).before a0 Z = true := hw _ (List.mem_of_getElem? (i := 84) rfl)
theorem w85 {a0 : Array Value} {Z : State} (hw : HW a0 Z) : (Jvm.Cond.constant "com/example/tugas/tugas/TextRequireLengthPinLaw" (9 : Nat) (56319 : Int32)).before a0 Z = true := hw _ (List.mem_of_getElem? (i := 85) rfl)
theorem w86 {a0 : Array Value} {Z : State} (hw : HW a0 Z) : (Jvm.Cond.methodLink "java/lang/StringUTF16" (119 : Nat) ({ cls := "java/lang/StringUTF16", name := "toBytes", desc := "([CII)[B" } : Jvm.MethodName)).before a0 Z = true := hw _ (List.mem_of_getElem? (i := 86) rfl)
theorem w87 {a0 : Array Value} {Z : State} (hw : HW a0 Z) : (Jvm.Cond.static ({ cls := "java/lang/StringUTF16", name := "toBytes", desc := "([CII)[B" } : Jvm.MethodName)).before a0 Z = true := hw _ (List.mem_of_getElem? (i := 87) rfl)
theorem w88 {a0 : Array Value} {Z : State} (hw : HW a0 Z) : (Jvm.Cond.code ({ cls := "java/lang/StringUTF16", name := "toBytes", desc := "([CII)[B" } : Jvm.MethodName) jdk_52_method_14_code (5 : Nat) (Option.some (Jvm.ClassFile.FieldType.array Jvm.ClassFile.FieldType.byte))).before a0 Z = true := hw _ (List.mem_of_getElem? (i := 88) rfl)
theorem w89 {a0 : Array Value} {Z : State} (hw : HW a0 Z) : (Jvm.Cond.methodLink "java/lang/StringUTF16" (107 : Nat) ({ cls := "java/lang/StringUTF16", name := "newBytesFor", desc := "(I)[B" } : Jvm.MethodName)).before a0 Z = true := hw _ (List.mem_of_getElem? (i := 89) rfl)
theorem w90 {a0 : Array Value} {Z : State} (hw : HW a0 Z) : (Jvm.Cond.static ({ cls := "java/lang/StringUTF16", name := "newBytesFor", desc := "(I)[B" } : Jvm.MethodName)).before a0 Z = true := hw _ (List.mem_of_getElem? (i := 90) rfl)
theorem w91 {a0 : Array Value} {Z : State} (hw : HW a0 Z) : (Jvm.Cond.code ({ cls := "java/lang/StringUTF16", name := "newBytesFor", desc := "(I)[B" } : Jvm.MethodName) jdk_52_method_2_code (1 : Nat) (Option.some (Jvm.ClassFile.FieldType.array Jvm.ClassFile.FieldType.byte))).before a0 Z = true := hw _ (List.mem_of_getElem? (i := 91) rfl)
theorem w92 {a0 : Array Value} {Z : State} (hw : HW a0 Z) : (Jvm.Cond.methodLink "java/lang/StringUTF16" (11 : Nat) ({ cls := "java/lang/StringUTF16", name := "newBytesLength", desc := "(I)I" } : Jvm.MethodName)).before a0 Z = true := hw _ (List.mem_of_getElem? (i := 92) rfl)
theorem w93 {a0 : Array Value} {Z : State} (hw : HW a0 Z) : (Jvm.Cond.static ({ cls := "java/lang/StringUTF16", name := "newBytesLength", desc := "(I)I" } : Jvm.MethodName)).before a0 Z = true := hw _ (List.mem_of_getElem? (i := 93) rfl)
theorem w94 {a0 : Array Value} {Z : State} (hw : HW a0 Z) : (Jvm.Cond.code ({ cls := "java/lang/StringUTF16", name := "newBytesLength", desc := "(I)I" } : Jvm.MethodName) jdk_52_method_3_code (1 : Nat) (Option.some Jvm.ClassFile.FieldType.int)).before a0 Z = true := hw _ (List.mem_of_getElem? (i := 94) rfl)
theorem w95 {a0 : Array Value} {Z : State} (hw : HW a0 Z) : (Jvm.Cond.constant "java/lang/StringUTF16" (20 : Nat) (1073741823 : Int32)).before a0 Z = true := hw _ (List.mem_of_getElem? (i := 95) rfl)
theorem w96 {a0 : Array Value} {Z : State} (hw : HW a0 Z) : (Jvm.Cond.methodLink "java/lang/StringUTF16" (111 : Nat) ({ cls := "java/lang/StringUTF16", name := "putChar", desc := "([BII)V" } : Jvm.MethodName)).before a0 Z = true := hw _ (List.mem_of_getElem? (i := 96) rfl)
theorem w97 {a0 : Array Value} {Z : State} (hw : HW a0 Z) : (Jvm.Cond.static ({ cls := "java/lang/StringUTF16", name := "putChar", desc := "([BII)V" } : Jvm.MethodName)).before a0 Z = true := hw _ (List.mem_of_getElem? (i := 97) rfl)
theorem w98 {a0 : Array Value} {Z : State} (hw : HW a0 Z) : (Jvm.Cond.code ({ cls := "java/lang/StringUTF16", name := "putChar", desc := "([BII)V" } : Jvm.MethodName) jdk_52_method_4_code (3 : Nat) (Option.none : Option Jvm.ClassFile.FieldType)).before a0 Z = true := hw _ (List.mem_of_getElem? (i := 98) rfl)
theorem w99 {a0 : Array Value} {Z : State} (hw : HW a0 Z) : (Jvm.Cond.fieldLink "java/lang/StringUTF16" (44 : Nat) "java/lang/StringUTF16" "$assertionsDisabled" "Z").before a0 Z = true := hw _ (List.mem_of_getElem? (i := 99) rfl)
theorem w100 {a0 : Array Value} {Z : State} (hw : HW a0 Z) : (Jvm.Cond.fieldLink "java/lang/StringUTF16" (59 : Nat) "java/lang/StringUTF16" "HI_BYTE_SHIFT" "I").before a0 Z = true := hw _ (List.mem_of_getElem? (i := 100) rfl)
theorem w101 {a0 : Array Value} {Z : State} (hw : HW a0 Z) : (Jvm.Cond.fieldLink "java/lang/StringUTF16" (63 : Nat) "java/lang/StringUTF16" "LO_BYTE_SHIFT" "I").before a0 Z = true := hw _ (List.mem_of_getElem? (i := 101) rfl)
theorem w102 {a0 : Array Value} {Z : State} (hw : HW a0 Z) : (Jvm.Cond.methodLink "java/lang/StringUTF16" (71 : Nat) ({ cls := "java/lang/StringUTF16", name := "getChar", desc := "([BI)C" } : Jvm.MethodName)).before a0 Z = true := hw _ (List.mem_of_getElem? (i := 102) rfl)
theorem w103 {a0 : Array Value} {Z : State} (hw : HW a0 Z) : (Jvm.Cond.static ({ cls := "java/lang/StringUTF16", name := "getChar", desc := "([BI)C" } : Jvm.MethodName)).before a0 Z = true := hw _ (List.mem_of_getElem? (i := 103) rfl)
theorem w104 {a0 : Array Value} {Z : State} (hw : HW a0 Z) : (Jvm.Cond.code ({ cls := "java/lang/StringUTF16", name := "getChar", desc := "([BI)C" } : Jvm.MethodName) jdk_52_method_5_code (2 : Nat) (Option.some Jvm.ClassFile.FieldType.char)).before a0 Z = true := hw _ (List.mem_of_getElem? (i := 104) rfl)
theorem w105 {a0 : Array Value} {Z : State} (hw : HW a0 Z) : (Jvm.Cond.methodLink "java/lang/String" (514 : Nat) ({ cls := "java/lang/StringUTF16", name := "codePointCount", desc := "([BII)I" } : Jvm.MethodName)).before a0 Z = true := hw _ (List.mem_of_getElem? (i := 105) rfl)
theorem w106 {a0 : Array Value} {Z : State} (hw : HW a0 Z) : (Jvm.Cond.static ({ cls := "java/lang/StringUTF16", name := "codePointCount", desc := "([BII)I" } : Jvm.MethodName)).before a0 Z = true := hw _ (List.mem_of_getElem? (i := 106) rfl)
theorem w107 {a0 : Array Value} {Z : State} (hw : HW a0 Z) : (Jvm.Cond.code ({ cls := "java/lang/StringUTF16", name := "codePointCount", desc := "([BII)I" } : Jvm.MethodName) jdk_52_method_12_code (3 : Nat) (Option.some Jvm.ClassFile.FieldType.int)).before a0 Z = true := hw _ (List.mem_of_getElem? (i := 107) rfl)
theorem w108 {a0 : Array Value} {Z : State} (hw : HW a0 Z) : (Jvm.Cond.methodLink "java/lang/StringUTF16" (100 : Nat) ({ cls := "java/lang/StringUTF16", name := "codePointCount", desc := "([BIIZ)I" } : Jvm.MethodName)).before a0 Z = true := hw _ (List.mem_of_getElem? (i := 108) rfl)
theorem w109 {a0 : Array Value} {Z : State} (hw : HW a0 Z) : (Jvm.Cond.static ({ cls := "java/lang/StringUTF16", name := "codePointCount", desc := "([BIIZ)I" } : Jvm.MethodName)).before a0 Z = true := hw _ (List.mem_of_getElem? (i := 109) rfl)
theorem w110 {a0 : Array Value} {Z : State} (hw : HW a0 Z) : (Jvm.Cond.code ({ cls := "java/lang/StringUTF16", name := "codePointCount", desc := "([BIIZ)I" } : Jvm.MethodName) jdk_52_method_11_code (6 : Nat) (Option.some Jvm.ClassFile.FieldType.int)).before a0 Z = true := hw _ (List.mem_of_getElem? (i := 110) rfl)
theorem w111 {a0 : Array Value} {Z : State} (hw : HW a0 Z) : (Jvm.Cond.methodLink "java/lang/StringUTF16" (75 : Nat) ({ cls := "java/lang/Character", name := "isHighSurrogate", desc := "(C)Z" } : Jvm.MethodName)).before a0 Z = true := hw _ (List.mem_of_getElem? (i := 111) rfl)
theorem w112 {a0 : Array Value} {Z : State} (hw : HW a0 Z) : (Jvm.Cond.static ({ cls := "java/lang/Character", name := "isHighSurrogate", desc := "(C)Z" } : Jvm.MethodName)).before a0 Z = true := hw _ (List.mem_of_getElem? (i := 112) rfl)
theorem w113 {a0 : Array Value} {Z : State} (hw : HW a0 Z) : (Jvm.Cond.initialized "java/lang/Character").before a0 Z = true := hw _ (List.mem_of_getElem? (i := 113) rfl)
theorem w114 {a0 : Array Value} {Z : State} (hw : HW a0 Z) : (Jvm.Cond.code ({ cls := "java/lang/Character", name := "isHighSurrogate", desc := "(C)Z" } : Jvm.MethodName) jdk_89_method_14_code (1 : Nat) (Option.some Jvm.ClassFile.FieldType.boolean)).before a0 Z = true := hw _ (List.mem_of_getElem? (i := 114) rfl)
theorem w115 {a0 : Array Value} {Z : State} (hw : HW a0 Z) : (Jvm.Cond.constant "java/lang/Character" (75 : Nat) (55296 : Int32)).before a0 Z = true := hw _ (List.mem_of_getElem? (i := 115) rfl)
theorem w116 {a0 : Array Value} {Z : State} (hw : HW a0 Z) : (Jvm.Cond.constant "java/lang/Character" (76 : Nat) (56320 : Int32)).before a0 Z = true := hw _ (List.mem_of_getElem? (i := 116) rfl)
theorem w117 {a0 : Array Value} {Z : State} (hw : HW a0 Z) : (Jvm.Cond.methodLink "java/lang/StringUTF16" (81 : Nat) ({ cls := "java/lang/Character", name := "isLowSurrogate", desc := "(C)Z" } : Jvm.MethodName)).before a0 Z = true := hw _ (List.mem_of_getElem? (i := 117) rfl)
theorem w118 {a0 : Array Value} {Z : State} (hw : HW a0 Z) : (Jvm.Cond.static ({ cls := "java/lang/Character", name := "isLowSurrogate", desc := "(C)Z" } : Jvm.MethodName)).before a0 Z = true := hw _ (List.mem_of_getElem? (i := 118) rfl)
theorem w119 {a0 : Array Value} {Z : State} (hw : HW a0 Z) : (Jvm.Cond.code ({ cls := "java/lang/Character", name := "isLowSurrogate", desc := "(C)Z" } : Jvm.MethodName) jdk_89_method_15_code (1 : Nat) (Option.some Jvm.ClassFile.FieldType.boolean)).before a0 Z = true := hw _ (List.mem_of_getElem? (i := 119) rfl)
theorem w120 {a0 : Array Value} {Z : State} (hw : HW a0 Z) : (Jvm.Cond.constant "com/example/tugas/tugas/TextRequireLengthPinLaw" (10 : Nat) (57343 : Int32)).before a0 Z = true := hw _ (List.mem_of_getElem? (i := 120) rfl)
theorem w121 {a0 : Array Value} {Z : State} (hw : HW a0 Z) : (Jvm.Cond.constant "java/lang/Character" (77 : Nat) (57344 : Int32)).before a0 Z = true := hw _ (List.mem_of_getElem? (i := 121) rfl)
theorem d1_0 : decode method_2_code 0 = .ok (.iload_n 0, 1) := by decide +kernel
theorem d1_1 : decode method_2_code 1 = .ok (.iconst 3, 1) := by decide +kernel
theorem d1_2 : decode method_2_code 2 = .ok (.iand, 1) := by decide +kernel
theorem d1_3 : decode method_2_code 3 = .ok (.istore_n 1, 1) := by decide +kernel
theorem d1_4 : decode method_2_code 4 = .ok (.iload_n 0, 1) := by decide +kernel
theorem d1_5 : decode method_2_code 5 = .ok (.iconst 2, 1) := by decide +kernel
theorem d1_6 : decode method_2_code 6 = .ok (.iushr, 1) := by decide +kernel
theorem d1_7 : decode method_2_code 7 = .ok (.istore_n 2, 1) := by decide +kernel
theorem d1_8 : decode method_2_code 8 = .ok (.iload_n 1, 1) := by decide +kernel
theorem d1_9 : decode method_2_code 9 = .ok (.ifCond .ne 10, 3) := by decide +kernel
theorem d1_12 : decode method_2_code 12 = .ok (.iload_n 2, 1) := by decide +kernel
theorem d1_13 : decode method_2_code 13 = .ok (.sipush 255, 3) := by decide +kernel
theorem d1_16 : decode method_2_code 16 = .ok (.iand, 1) := by decide +kernel
theorem d1_17 : decode method_2_code 17 = .ok (.i2c, 1) := by decide +kernel
theorem d1_18 : decode method_2_code 18 = .ok (.ireturn, 1) := by decide +kernel
theorem d1_19 : decode method_2_code 19 = .ok (.iload_n 1, 1) := by decide +kernel
theorem d1_20 : decode method_2_code 20 = .ok (.iconst 1, 1) := by decide +kernel
theorem d1_21 : decode method_2_code 21 = .ok (.if_icmp .ne 13, 3) := by decide +kernel
theorem d1_24 : decode method_2_code 24 = .ok (.ldc 7, 2) := by decide +kernel
theorem d1_26 : decode method_2_code 26 = .ok (.iload_n 2, 1) := by decide +kernel
theorem d1_27 : decode method_2_code 27 = .ok (.sipush 1023, 3) := by decide +kernel
theorem d1_30 : decode method_2_code 30 = .ok (.iand, 1) := by decide +kernel
theorem d1_31 : decode method_2_code 31 = .ok (.iadd, 1) := by decide +kernel
theorem d1_32 : decode method_2_code 32 = .ok (.i2c, 1) := by decide +kernel
theorem d1_33 : decode method_2_code 33 = .ok (.ireturn, 1) := by decide +kernel
theorem d1_34 : decode method_2_code 34 = .ok (.iload_n 1, 1) := by decide +kernel
theorem d1_35 : decode method_2_code 35 = .ok (.iconst 2, 1) := by decide +kernel
theorem d1_36 : decode method_2_code 36 = .ok (.if_icmp .ne 13, 3) := by decide +kernel
theorem d1_39 : decode method_2_code 39 = .ok (.ldc 8, 2) := by decide +kernel
theorem d1_41 : decode method_2_code 41 = .ok (.iload_n 2, 1) := by decide +kernel
theorem d1_42 : decode method_2_code 42 = .ok (.sipush 1023, 3) := by decide +kernel
theorem d1_45 : decode method_2_code 45 = .ok (.iand, 1) := by decide +kernel
theorem d1_46 : decode method_2_code 46 = .ok (.iadd, 1) := by decide +kernel
theorem d1_47 : decode method_2_code 47 = .ok (.i2c, 1) := by decide +kernel
theorem d1_48 : decode method_2_code 48 = .ok (.ireturn, 1) := by decide +kernel
theorem d1_49 : decode method_2_code 49 = .ok (.iload_n 2, 1) := by decide +kernel
theorem d1_50 : decode method_2_code 50 = .ok (.i2c, 1) := by decide +kernel
theorem d1_51 : decode method_2_code 51 = .ok (.ireturn, 1) := by decide +kernel
theorem d2_0 : decode jdk_29_method_70_code 0 = .ok (.lload_n 0, 1) := by decide +kernel
theorem d2_1 : decode jdk_29_method_70_code 1 = .ok (.lload_n 2, 1) := by decide +kernel
theorem d2_2 : decode jdk_29_method_70_code 2 = .ok (.lcmp, 1) := by decide +kernel
theorem d2_3 : decode jdk_29_method_70_code 3 = .ok (.ifCond .gt 7, 3) := by decide +kernel
theorem d2_6 : decode jdk_29_method_70_code 6 = .ok (.lload_n 0, 1) := by decide +kernel
theorem d2_7 : decode jdk_29_method_70_code 7 = .ok (.goto 4, 3) := by decide +kernel
theorem d2_10 : decode jdk_29_method_70_code 10 = .ok (.lload_n 2, 1) := by decide +kernel
theorem d2_11 : decode jdk_29_method_70_code 11 = .ok (.lreturn, 1) := by decide +kernel
theorem d3_0 : decode jdk_42_method_3_code 0 = .ok (.aload_n 0, 1) := by decide +kernel
theorem d3_1 : decode jdk_42_method_3_code 1 = .ok (.aload_n 1, 1) := by decide +kernel
theorem d3_2 : decode jdk_42_method_3_code 2 = .ok (.iconst 0, 1) := by decide +kernel
theorem d3_3 : decode jdk_42_method_3_code 3 = .ok (.aload_n 1, 1) := by decide +kernel
theorem d3_4 : decode jdk_42_method_3_code 4 = .ok (.arraylength, 1) := by decide +kernel
theorem d3_5 : decode jdk_42_method_3_code 5 = .ok (.aconst_null, 1) := by decide +kernel
theorem d3_6 : decode jdk_42_method_3_code 6 = .ok (.invokespecial 27, 3) := by decide +kernel
theorem d3_9 : decode jdk_42_method_3_code 9 = .ok (.return_, 1) := by decide +kernel
theorem d4_0 : decode jdk_42_method_149_code 0 = .ok (.aload_n 0, 1) := by decide +kernel
theorem d4_1 : decode jdk_42_method_149_code 1 = .ok (.invokespecial 1, 3) := by decide +kernel
theorem d4_4 : decode jdk_42_method_149_code 4 = .ok (.iload_n 3, 1) := by decide +kernel
theorem d4_5 : decode jdk_42_method_149_code 5 = .ok (.ifCond .ne 22, 3) := by decide +kernel
theorem d4_27 : decode jdk_42_method_149_code 27 = .ok (.getstatic 38, 3) := by decide +kernel
theorem d4_30 : decode jdk_42_method_149_code 30 = .ok (.ifCond .eq 28, 3) := by decide +kernel
theorem d4_33 : decode jdk_42_method_149_code 33 = .ok (.aload_n 1, 1) := by decide +kernel
theorem d4_34 : decode jdk_42_method_149_code 34 = .ok (.iload_n 2, 1) := by decide +kernel
theorem d4_35 : decode jdk_42_method_149_code 35 = .ok (.iload_n 3, 1) := by decide +kernel
theorem d4_36 : decode jdk_42_method_149_code 36 = .ok (.invokestatic 177, 3) := by decide +kernel
theorem d4_39 : decode jdk_42_method_149_code 39 = .ok (.astore 5, 2) := by decide +kernel
theorem d4_41 : decode jdk_42_method_149_code 41 = .ok (.aload_n 0, 1) := by decide +kernel
theorem d4_42 : decode jdk_42_method_149_code 42 = .ok (.aload 5, 2) := by decide +kernel
theorem d4_44 : decode jdk_42_method_149_code 44 = .ok (.iload_n 3, 1) := by decide +kernel
theorem d4_45 : decode jdk_42_method_149_code 45 = .ok (.invokestatic 47, 3) := by decide +kernel
theorem d4_48 : decode jdk_42_method_149_code 48 = .ok (.putfield 15, 3) := by decide +kernel
theorem d4_51 : decode jdk_42_method_149_code 51 = .ok (.aload_n 0, 1) := by decide +kernel
theorem d4_52 : decode jdk_42_method_149_code 52 = .ok (.aload 5, 2) := by decide +kernel
theorem d4_54 : decode jdk_42_method_149_code 54 = .ok (.putfield 9, 3) := by decide +kernel
theorem d4_57 : decode jdk_42_method_149_code 57 = .ok (.return_, 1) := by decide +kernel
theorem d6_0 : decode jdk_52_method_16_code 0 = .ok (.iload_n 2, 1) := by decide +kernel
theorem d6_1 : decode jdk_52_method_16_code 1 = .ok (.newarray .byte, 2) := by decide +kernel
theorem d6_3 : decode jdk_52_method_16_code 3 = .ok (.astore_n 3, 1) := by decide +kernel
theorem d6_4 : decode jdk_52_method_16_code 4 = .ok (.aload_n 0, 1) := by decide +kernel
theorem d6_5 : decode jdk_52_method_16_code 5 = .ok (.iload_n 1, 1) := by decide +kernel
theorem d6_6 : decode jdk_52_method_16_code 6 = .ok (.aload_n 3, 1) := by decide +kernel
theorem d6_7 : decode jdk_52_method_16_code 7 = .ok (.iconst 0, 1) := by decide +kernel
theorem d6_8 : decode jdk_52_method_16_code 8 = .ok (.iload_n 2, 1) := by decide +kernel
theorem d6_9 : decode jdk_52_method_16_code 9 = .ok (.invokestatic 115, 3) := by decide +kernel
theorem d6_12 : decode jdk_52_method_16_code 12 = .ok (.istore 4, 2) := by decide +kernel
theorem d6_14 : decode jdk_52_method_16_code 14 = .ok (.iload 4, 2) := by decide +kernel
theorem d6_16 : decode jdk_52_method_16_code 16 = .ok (.iload_n 2, 1) := by decide +kernel
theorem d6_17 : decode jdk_52_method_16_code 17 = .ok (.if_icmp .eq 40, 3) := by decide +kernel
theorem d6_20 : decode jdk_52_method_16_code 20 = .ok (.aload_n 0, 1) := by decide +kernel
theorem d6_21 : decode jdk_52_method_16_code 21 = .ok (.iload_n 1, 1) := by decide +kernel
theorem d6_22 : decode jdk_52_method_16_code 22 = .ok (.iload_n 2, 1) := by decide +kernel
theorem d6_23 : decode jdk_52_method_16_code 23 = .ok (.invokestatic 119, 3) := by decide +kernel
theorem d6_26 : decode jdk_52_method_16_code 26 = .ok (.astore 5, 2) := by decide +kernel
theorem d6_28 : decode jdk_52_method_16_code 28 = .ok (.aload 5, 2) := by decide +kernel
theorem d6_30 : decode jdk_52_method_16_code 30 = .ok (.iload 4, 2) := by decide +kernel
theorem d6_32 : decode jdk_52_method_16_code 32 = .ok (.invokestatic 71, 3) := by decide +kernel
theorem d6_35 : decode jdk_52_method_16_code 35 = .ok (.sipush 255, 3) := by decide +kernel
theorem d6_38 : decode jdk_52_method_16_code 38 = .ok (.if_icmp .gt 16, 3) := by decide +kernel
theorem d6_54 : decode jdk_52_method_16_code 54 = .ok (.aload 5, 2) := by decide +kernel
theorem d6_56 : decode jdk_52_method_16_code 56 = .ok (.areturn, 1) := by decide +kernel
theorem d6_57 : decode jdk_52_method_16_code 57 = .ok (.aload_n 3, 1) := by decide +kernel
theorem d6_58 : decode jdk_52_method_16_code 58 = .ok (.areturn, 1) := by decide +kernel
theorem d7_0 : decode jdk_52_method_21_code 0 = .ok (.iconst 0, 1) := by decide +kernel
theorem d7_1 : decode jdk_52_method_21_code 1 = .ok (.istore 5, 2) := by decide +kernel
theorem d7_3 : decode jdk_52_method_21_code 3 = .ok (.iload 5, 2) := by decide +kernel
theorem d7_5 : decode jdk_52_method_21_code 5 = .ok (.iload 4, 2) := by decide +kernel
theorem d7_7 : decode jdk_52_method_21_code 7 = .ok (.if_icmp .ge 37, 3) := by decide +kernel
theorem d7_10 : decode jdk_52_method_21_code 10 = .ok (.aload_n 0, 1) := by decide +kernel
theorem d7_11 : decode jdk_52_method_21_code 11 = .ok (.iload_n 1, 1) := by decide +kernel
theorem d7_12 : decode jdk_52_method_21_code 12 = .ok (.caload, 1) := by decide +kernel
theorem d7_13 : decode jdk_52_method_21_code 13 = .ok (.istore 6, 2) := by decide +kernel
theorem d7_15 : decode jdk_52_method_21_code 15 = .ok (.iload 6, 2) := by decide +kernel
theorem d7_17 : decode jdk_52_method_21_code 17 = .ok (.sipush 255, 3) := by decide +kernel
theorem d7_20 : decode jdk_52_method_21_code 20 = .ok (.if_icmp .le 6, 3) := by decide +kernel
theorem d7_23 : decode jdk_52_method_21_code 23 = .ok (.iload 5, 2) := by decide +kernel
theorem d7_25 : decode jdk_52_method_21_code 25 = .ok (.ireturn, 1) := by decide +kernel
theorem d7_26 : decode jdk_52_method_21_code 26 = .ok (.aload_n 2, 1) := by decide +kernel
theorem d7_27 : decode jdk_52_method_21_code 27 = .ok (.iload_n 3, 1) := by decide +kernel
theorem d7_28 : decode jdk_52_method_21_code 28 = .ok (.iload 6, 2) := by decide +kernel
theorem d7_30 : decode jdk_52_method_21_code 30 = .ok (.i2b, 1) := by decide +kernel
theorem d7_31 : decode jdk_52_method_21_code 31 = .ok (.bastore, 1) := by decide +kernel
theorem d7_32 : decode jdk_52_method_21_code 32 = .ok (.iinc 1 1, 3) := by decide +kernel
theorem d7_35 : decode jdk_52_method_21_code 35 = .ok (.iinc 3 1, 3) := by decide +kernel
theorem d7_38 : decode jdk_52_method_21_code 38 = .ok (.iinc 5 1, 3) := by decide +kernel
theorem d7_41 : decode jdk_52_method_21_code 41 = .ok (.goto (-38), 3) := by decide +kernel
theorem d7_44 : decode jdk_52_method_21_code 44 = .ok (.iload 4, 2) := by decide +kernel
theorem d7_46 : decode jdk_52_method_21_code 46 = .ok (.ireturn, 1) := by decide +kernel
theorem d8_0 : decode jdk_52_method_15_code 0 = .ok (.iload_n 1, 1) := by decide +kernel
theorem d8_1 : decode jdk_52_method_15_code 1 = .ok (.aload_n 0, 1) := by decide +kernel
theorem d8_2 : decode jdk_52_method_15_code 2 = .ok (.arraylength, 1) := by decide +kernel
theorem d8_3 : decode jdk_52_method_15_code 3 = .ok (.isub, 1) := by decide +kernel
theorem d8_4 : decode jdk_52_method_15_code 4 = .ok (.bipush 31, 2) := by decide +kernel
theorem d8_6 : decode jdk_52_method_15_code 6 = .ok (.iushr, 1) := by decide +kernel
theorem d8_7 : decode jdk_52_method_15_code 7 = .ok (.i2b, 1) := by decide +kernel
theorem d8_8 : decode jdk_52_method_15_code 8 = .ok (.ireturn, 1) := by decide +kernel
theorem d9_0 : decode prog_15_method_2_code 0 = .ok (.aload_n 1, 1) := by decide +kernel
theorem d9_1 : decode prog_15_method_2_code 1 = .ok (.ifnull 23, 3) := by decide +kernel
theorem d9_4 : decode prog_15_method_2_code 4 = .ok (.aload_n 1, 1) := by decide +kernel
theorem d9_5 : decode prog_15_method_2_code 5 = .ok (.invokevirtual 7, 3) := by decide +kernel
theorem d9_8 : decode prog_15_method_2_code 8 = .ok (.ifCond .ne 16, 3) := by decide +kernel
theorem d9_11 : decode prog_15_method_2_code 11 = .ok (.aload_n 1, 1) := by decide +kernel
theorem d9_12 : decode prog_15_method_2_code 12 = .ok (.iconst 0, 1) := by decide +kernel
theorem d9_13 : decode prog_15_method_2_code 13 = .ok (.aload_n 1, 1) := by decide +kernel
theorem d9_14 : decode prog_15_method_2_code 14 = .ok (.invokevirtual 13, 3) := by decide +kernel
theorem d9_17 : decode prog_15_method_2_code 17 = .ok (.invokevirtual 17, 3) := by decide +kernel
theorem d9_20 : decode prog_15_method_2_code 20 = .ok (.iload_n 2, 1) := by decide +kernel
theorem d9_21 : decode prog_15_method_2_code 21 = .ok (.if_icmp .le 18, 3) := by decide +kernel
theorem d9_39 : decode prog_15_method_2_code 39 = .ok (.aload_n 1, 1) := by decide +kernel
theorem d9_40 : decode prog_15_method_2_code 40 = .ok (.areturn, 1) := by decide +kernel
theorem d10_0 : decode jdk_42_method_55_code 0 = .ok (.aload_n 0, 1) := by decide +kernel
theorem d10_1 : decode jdk_42_method_55_code 1 = .ok (.getfield 9, 3) := by decide +kernel
theorem d10_4 : decode jdk_42_method_55_code 4 = .ok (.arraylength, 1) := by decide +kernel
theorem d10_5 : decode jdk_42_method_55_code 5 = .ok (.ifCond .ne 7, 3) := by decide +kernel
theorem d10_12 : decode jdk_42_method_55_code 12 = .ok (.iconst 0, 1) := by decide +kernel
theorem d10_13 : decode jdk_42_method_55_code 13 = .ok (.ireturn, 1) := by decide +kernel
theorem d11_0 : decode jdk_42_method_54_code 0 = .ok (.aload_n 0, 1) := by decide +kernel
theorem d11_1 : decode jdk_42_method_54_code 1 = .ok (.getfield 9, 3) := by decide +kernel
theorem d11_4 : decode jdk_42_method_54_code 4 = .ok (.arraylength, 1) := by decide +kernel
theorem d11_5 : decode jdk_42_method_54_code 5 = .ok (.aload_n 0, 1) := by decide +kernel
theorem d11_6 : decode jdk_42_method_54_code 6 = .ok (.invokevirtual 335, 3) := by decide +kernel
theorem d11_9 : decode jdk_42_method_54_code 9 = .ok (.ishr, 1) := by decide +kernel
theorem d11_10 : decode jdk_42_method_54_code 10 = .ok (.ireturn, 1) := by decide +kernel
theorem d12_0 : decode jdk_42_method_152_code 0 = .ok (.getstatic 38, 3) := by decide +kernel
theorem d12_3 : decode jdk_42_method_152_code 3 = .ok (.ifCond .eq 10, 3) := by decide +kernel
theorem d12_6 : decode jdk_42_method_152_code 6 = .ok (.aload_n 0, 1) := by decide +kernel
theorem d12_7 : decode jdk_42_method_152_code 7 = .ok (.getfield 15, 3) := by decide +kernel
theorem d12_10 : decode jdk_42_method_152_code 10 = .ok (.goto 4, 3) := by decide +kernel
theorem d12_14 : decode jdk_42_method_152_code 14 = .ok (.ireturn, 1) := by decide +kernel
theorem d13_0 : decode jdk_42_method_59_code 0 = .ok (.iload_n 1, 1) := by decide +kernel
theorem d13_1 : decode jdk_42_method_59_code 1 = .ok (.iload_n 2, 1) := by decide +kernel
theorem d13_2 : decode jdk_42_method_59_code 2 = .ok (.aload_n 0, 1) := by decide +kernel
theorem d13_3 : decode jdk_42_method_59_code 3 = .ok (.invokevirtual 505, 3) := by decide +kernel
theorem d13_6 : decode jdk_42_method_59_code 6 = .ok (.invokestatic 511, 3) := by decide +kernel
theorem d13_9 : decode jdk_42_method_59_code 9 = .ok (.pop, 1) := by decide +kernel
theorem d13_10 : decode jdk_42_method_59_code 10 = .ok (.aload_n 0, 1) := by decide +kernel
theorem d13_11 : decode jdk_42_method_59_code 11 = .ok (.invokevirtual 492, 3) := by decide +kernel
theorem d13_14 : decode jdk_42_method_59_code 14 = .ok (.ifCond .eq 7, 3) := by decide +kernel
theorem d13_17 : decode jdk_42_method_59_code 17 = .ok (.iload_n 2, 1) := by decide +kernel
theorem d13_18 : decode jdk_42_method_59_code 18 = .ok (.iload_n 1, 1) := by decide +kernel
theorem d13_19 : decode jdk_42_method_59_code 19 = .ok (.isub, 1) := by decide +kernel
theorem d13_20 : decode jdk_42_method_59_code 20 = .ok (.ireturn, 1) := by decide +kernel
theorem d13_21 : decode jdk_42_method_59_code 21 = .ok (.aload_n 0, 1) := by decide +kernel
theorem d13_22 : decode jdk_42_method_59_code 22 = .ok (.getfield 9, 3) := by decide +kernel
theorem d13_25 : decode jdk_42_method_59_code 25 = .ok (.iload_n 1, 1) := by decide +kernel
theorem d13_26 : decode jdk_42_method_59_code 26 = .ok (.iload_n 2, 1) := by decide +kernel
theorem d13_27 : decode jdk_42_method_59_code 27 = .ok (.invokestatic 514, 3) := by decide +kernel
theorem d13_30 : decode jdk_42_method_59_code 30 = .ok (.ireturn, 1) := by decide +kernel
theorem d14_0 : decode jdk_31_method_18_code 0 = .ok (.iload_n 0, 1) := by decide +kernel
theorem d14_1 : decode jdk_31_method_18_code 1 = .ok (.iload_n 1, 1) := by decide +kernel
theorem d14_2 : decode jdk_31_method_18_code 2 = .ok (.iload_n 2, 1) := by decide +kernel
theorem d14_3 : decode jdk_31_method_18_code 3 = .ok (.aconst_null, 1) := by decide +kernel
theorem d14_4 : decode jdk_31_method_18_code 4 = .ok (.invokestatic 111, 3) := by decide +kernel
theorem d14_7 : decode jdk_31_method_18_code 7 = .ok (.ireturn, 1) := by decide +kernel
theorem d15_0 : decode jdk_41_method_12_code 0 = .ok (.iload_n 0, 1) := by decide +kernel
theorem d15_1 : decode jdk_41_method_12_code 1 = .ok (.ifCond .lt 13, 3) := by decide +kernel
theorem d15_4 : decode jdk_41_method_12_code 4 = .ok (.iload_n 0, 1) := by decide +kernel
theorem d15_5 : decode jdk_41_method_12_code 5 = .ok (.iload_n 1, 1) := by decide +kernel
theorem d15_6 : decode jdk_41_method_12_code 6 = .ok (.if_icmp .gt 8, 3) := by decide +kernel
theorem d15_9 : decode jdk_41_method_12_code 9 = .ok (.iload_n 1, 1) := by decide +kernel
theorem d15_10 : decode jdk_41_method_12_code 10 = .ok (.iload_n 2, 1) := by decide +kernel
theorem d15_11 : decode jdk_41_method_12_code 11 = .ok (.if_icmp .le 11, 3) := by decide +kernel
theorem d15_22 : decode jdk_41_method_12_code 22 = .ok (.iload_n 0, 1) := by decide +kernel
theorem d15_23 : decode jdk_41_method_12_code 23 = .ok (.ireturn, 1) := by decide +kernel
theorem d16_0 : decode jdk_42_method_154_code 0 = .ok (.getstatic 38, 3) := by decide +kernel
theorem d16_3 : decode jdk_42_method_154_code 3 = .ok (.ifCond .eq 14, 3) := by decide +kernel
theorem d16_6 : decode jdk_42_method_154_code 6 = .ok (.aload_n 0, 1) := by decide +kernel
theorem d16_7 : decode jdk_42_method_154_code 7 = .ok (.getfield 15, 3) := by decide +kernel
theorem d16_10 : decode jdk_42_method_154_code 10 = .ok (.ifCond .ne 7, 3) := by decide +kernel
theorem d16_13 : decode jdk_42_method_154_code 13 = .ok (.iconst 1, 1) := by decide +kernel
theorem d16_14 : decode jdk_42_method_154_code 14 = .ok (.goto 4, 3) := by decide +kernel
theorem d16_17 : decode jdk_42_method_154_code 17 = .ok (.iconst 0, 1) := by decide +kernel
theorem d16_18 : decode jdk_42_method_154_code 18 = .ok (.ireturn, 1) := by decide +kernel
theorem d17_0 : decode method_3_code 0 = .ok (.iload_n 0, 1) := by decide +kernel
theorem d17_1 : decode method_3_code 1 = .ok (.ldc 7, 2) := by decide +kernel
theorem d17_3 : decode method_3_code 3 = .ok (.if_icmp .lt 25, 3) := by decide +kernel
theorem d17_6 : decode method_3_code 6 = .ok (.iload_n 0, 1) := by decide +kernel
theorem d17_7 : decode method_3_code 7 = .ok (.ldc 9, 2) := by decide +kernel
theorem d17_9 : decode method_3_code 9 = .ok (.if_icmp .gt 19, 3) := by decide +kernel
theorem d17_12 : decode method_3_code 12 = .ok (.iload_n 1, 1) := by decide +kernel
theorem d17_13 : decode method_3_code 13 = .ok (.ldc 8, 2) := by decide +kernel
theorem d17_15 : decode method_3_code 15 = .ok (.if_icmp .lt 13, 3) := by decide +kernel
theorem d17_18 : decode method_3_code 18 = .ok (.iload_n 1, 1) := by decide +kernel
theorem d17_19 : decode method_3_code 19 = .ok (.ldc 10, 2) := by decide +kernel
theorem d17_21 : decode method_3_code 21 = .ok (.if_icmp .gt 7, 3) := by decide +kernel
theorem d17_24 : decode method_3_code 24 = .ok (.iconst 1, 1) := by decide +kernel
theorem d17_25 : decode method_3_code 25 = .ok (.goto 4, 3) := by decide +kernel
theorem d17_28 : decode method_3_code 28 = .ok (.iconst 0, 1) := by decide +kernel
theorem d17_29 : decode method_3_code 29 = .ok (.ireturn, 1) := by decide +kernel
theorem d18_0 : decode jdk_52_method_14_code 0 = .ok (.iload_n 2, 1) := by decide +kernel
theorem d18_1 : decode jdk_52_method_14_code 1 = .ok (.invokestatic 107, 3) := by decide +kernel
theorem d18_4 : decode jdk_52_method_14_code 4 = .ok (.astore_n 3, 1) := by decide +kernel
theorem d18_5 : decode jdk_52_method_14_code 5 = .ok (.iconst 0, 1) := by decide +kernel
theorem d18_6 : decode jdk_52_method_14_code 6 = .ok (.istore 4, 2) := by decide +kernel
theorem d18_8 : decode jdk_52_method_14_code 8 = .ok (.iload 4, 2) := by decide +kernel
theorem d18_10 : decode jdk_52_method_14_code 10 = .ok (.iload_n 2, 1) := by decide +kernel
theorem d18_11 : decode jdk_52_method_14_code 11 = .ok (.if_icmp .ge 21, 3) := by decide +kernel
theorem d18_14 : decode jdk_52_method_14_code 14 = .ok (.aload_n 3, 1) := by decide +kernel
theorem d18_15 : decode jdk_52_method_14_code 15 = .ok (.iload 4, 2) := by decide +kernel
theorem d18_17 : decode jdk_52_method_14_code 17 = .ok (.aload_n 0, 1) := by decide +kernel
theorem d18_18 : decode jdk_52_method_14_code 18 = .ok (.iload_n 1, 1) := by decide +kernel
theorem d18_19 : decode jdk_52_method_14_code 19 = .ok (.caload, 1) := by decide +kernel
theorem d18_20 : decode jdk_52_method_14_code 20 = .ok (.invokestatic 111, 3) := by decide +kernel
theorem d18_23 : decode jdk_52_method_14_code 23 = .ok (.iinc 1 1, 3) := by decide +kernel
theorem d18_26 : decode jdk_52_method_14_code 26 = .ok (.iinc 4 1, 3) := by decide +kernel
theorem d18_29 : decode jdk_52_method_14_code 29 = .ok (.goto (-21), 3) := by decide +kernel
theorem d18_32 : decode jdk_52_method_14_code 32 = .ok (.aload_n 3, 1) := by decide +kernel
theorem d18_33 : decode jdk_52_method_14_code 33 = .ok (.areturn, 1) := by decide +kernel
theorem d19_0 : decode jdk_52_method_2_code 0 = .ok (.iload_n 0, 1) := by decide +kernel
theorem d19_1 : decode jdk_52_method_2_code 1 = .ok (.invokestatic 11, 3) := by decide +kernel
theorem d19_4 : decode jdk_52_method_2_code 4 = .ok (.newarray .byte, 2) := by decide +kernel
theorem d19_6 : decode jdk_52_method_2_code 6 = .ok (.areturn, 1) := by decide +kernel
theorem d20_0 : decode jdk_52_method_3_code 0 = .ok (.iload_n 0, 1) := by decide +kernel
theorem d20_1 : decode jdk_52_method_3_code 1 = .ok (.ifCond .ge 11, 3) := by decide +kernel
theorem d20_12 : decode jdk_52_method_3_code 12 = .ok (.iload_n 0, 1) := by decide +kernel
theorem d20_13 : decode jdk_52_method_3_code 13 = .ok (.ldc 20, 2) := by decide +kernel
theorem d20_15 : decode jdk_52_method_3_code 15 = .ok (.if_icmp .lt 40, 3) := by decide +kernel
theorem d20_55 : decode jdk_52_method_3_code 55 = .ok (.iload_n 0, 1) := by decide +kernel
theorem d20_56 : decode jdk_52_method_3_code 56 = .ok (.iconst 1, 1) := by decide +kernel
theorem d20_57 : decode jdk_52_method_3_code 57 = .ok (.ishl, 1) := by decide +kernel
theorem d20_58 : decode jdk_52_method_3_code 58 = .ok (.ireturn, 1) := by decide +kernel
theorem d21_0 : decode jdk_52_method_4_code 0 = .ok (.getstatic 44, 3) := by decide +kernel
theorem d21_3 : decode jdk_52_method_4_code 3 = .ok (.ifCond .ne 25, 3) := by decide +kernel
theorem d21_28 : decode jdk_52_method_4_code 28 = .ok (.iload_n 1, 1) := by decide +kernel
theorem d21_29 : decode jdk_52_method_4_code 29 = .ok (.iconst 1, 1) := by decide +kernel
theorem d21_30 : decode jdk_52_method_4_code 30 = .ok (.ishl, 1) := by decide +kernel
theorem d21_31 : decode jdk_52_method_4_code 31 = .ok (.istore_n 1, 1) := by decide +kernel
theorem d21_32 : decode jdk_52_method_4_code 32 = .ok (.aload_n 0, 1) := by decide +kernel
theorem d21_33 : decode jdk_52_method_4_code 33 = .ok (.iload_n 1, 1) := by decide +kernel
theorem d21_34 : decode jdk_52_method_4_code 34 = .ok (.iinc 1 1, 3) := by decide +kernel
theorem d21_37 : decode jdk_52_method_4_code 37 = .ok (.iload_n 2, 1) := by decide +kernel
theorem d21_38 : decode jdk_52_method_4_code 38 = .ok (.getstatic 59, 3) := by decide +kernel
theorem d21_41 : decode jdk_52_method_4_code 41 = .ok (.ishr, 1) := by decide +kernel
theorem d21_42 : decode jdk_52_method_4_code 42 = .ok (.i2b, 1) := by decide +kernel
theorem d21_43 : decode jdk_52_method_4_code 43 = .ok (.bastore, 1) := by decide +kernel
theorem d21_44 : decode jdk_52_method_4_code 44 = .ok (.aload_n 0, 1) := by decide +kernel
theorem d21_45 : decode jdk_52_method_4_code 45 = .ok (.iload_n 1, 1) := by decide +kernel
theorem d21_46 : decode jdk_52_method_4_code 46 = .ok (.iload_n 2, 1) := by decide +kernel
theorem d21_47 : decode jdk_52_method_4_code 47 = .ok (.getstatic 63, 3) := by decide +kernel
theorem d21_50 : decode jdk_52_method_4_code 50 = .ok (.ishr, 1) := by decide +kernel
theorem d21_51 : decode jdk_52_method_4_code 51 = .ok (.i2b, 1) := by decide +kernel
theorem d21_52 : decode jdk_52_method_4_code 52 = .ok (.bastore, 1) := by decide +kernel
theorem d21_53 : decode jdk_52_method_4_code 53 = .ok (.return_, 1) := by decide +kernel
theorem d22_0 : decode jdk_52_method_5_code 0 = .ok (.getstatic 44, 3) := by decide +kernel
theorem d22_3 : decode jdk_52_method_5_code 3 = .ok (.ifCond .ne 25, 3) := by decide +kernel
theorem d22_28 : decode jdk_52_method_5_code 28 = .ok (.iload_n 1, 1) := by decide +kernel
theorem d22_29 : decode jdk_52_method_5_code 29 = .ok (.iconst 1, 1) := by decide +kernel
theorem d22_30 : decode jdk_52_method_5_code 30 = .ok (.ishl, 1) := by decide +kernel
theorem d22_31 : decode jdk_52_method_5_code 31 = .ok (.istore_n 1, 1) := by decide +kernel
theorem d22_32 : decode jdk_52_method_5_code 32 = .ok (.aload_n 0, 1) := by decide +kernel
theorem d22_33 : decode jdk_52_method_5_code 33 = .ok (.iload_n 1, 1) := by decide +kernel
theorem d22_34 : decode jdk_52_method_5_code 34 = .ok (.iinc 1 1, 3) := by decide +kernel
theorem d22_37 : decode jdk_52_method_5_code 37 = .ok (.baload, 1) := by decide +kernel
theorem d22_38 : decode jdk_52_method_5_code 38 = .ok (.sipush 255, 3) := by decide +kernel
theorem d22_41 : decode jdk_52_method_5_code 41 = .ok (.iand, 1) := by decide +kernel
theorem d22_42 : decode jdk_52_method_5_code 42 = .ok (.getstatic 59, 3) := by decide +kernel
theorem d22_45 : decode jdk_52_method_5_code 45 = .ok (.ishl, 1) := by decide +kernel
theorem d22_46 : decode jdk_52_method_5_code 46 = .ok (.aload_n 0, 1) := by decide +kernel
theorem d22_47 : decode jdk_52_method_5_code 47 = .ok (.iload_n 1, 1) := by decide +kernel
theorem d22_48 : decode jdk_52_method_5_code 48 = .ok (.baload, 1) := by decide +kernel
theorem d22_49 : decode jdk_52_method_5_code 49 = .ok (.sipush 255, 3) := by decide +kernel
theorem d22_52 : decode jdk_52_method_5_code 52 = .ok (.iand, 1) := by decide +kernel
theorem d22_53 : decode jdk_52_method_5_code 53 = .ok (.getstatic 63, 3) := by decide +kernel
theorem d22_56 : decode jdk_52_method_5_code 56 = .ok (.ishl, 1) := by decide +kernel
theorem d22_57 : decode jdk_52_method_5_code 57 = .ok (.ior, 1) := by decide +kernel
theorem d22_58 : decode jdk_52_method_5_code 58 = .ok (.i2c, 1) := by decide +kernel
theorem d22_59 : decode jdk_52_method_5_code 59 = .ok (.ireturn, 1) := by decide +kernel
theorem d23_0 : decode jdk_52_method_12_code 0 = .ok (.aload_n 0, 1) := by decide +kernel
theorem d23_1 : decode jdk_52_method_12_code 1 = .ok (.iload_n 1, 1) := by decide +kernel
theorem d23_2 : decode jdk_52_method_12_code 2 = .ok (.iload_n 2, 1) := by decide +kernel
theorem d23_3 : decode jdk_52_method_12_code 3 = .ok (.iconst 0, 1) := by decide +kernel
theorem d23_4 : decode jdk_52_method_12_code 4 = .ok (.invokestatic 100, 3) := by decide +kernel
theorem d23_7 : decode jdk_52_method_12_code 7 = .ok (.ireturn, 1) := by decide +kernel
theorem d24_0 : decode jdk_52_method_11_code 0 = .ok (.getstatic 44, 3) := by decide +kernel
theorem d24_3 : decode jdk_52_method_11_code 3 = .ok (.ifCond .ne 16, 3) := by decide +kernel
theorem d24_19 : decode jdk_52_method_11_code 19 = .ok (.iload_n 2, 1) := by decide +kernel
theorem d24_20 : decode jdk_52_method_11_code 20 = .ok (.iload_n 1, 1) := by decide +kernel
theorem d24_21 : decode jdk_52_method_11_code 21 = .ok (.isub, 1) := by decide +kernel
theorem d24_22 : decode jdk_52_method_11_code 22 = .ok (.istore 4, 2) := by decide +kernel
theorem d24_24 : decode jdk_52_method_11_code 24 = .ok (.iload_n 1, 1) := by decide +kernel
theorem d24_25 : decode jdk_52_method_11_code 25 = .ok (.istore 5, 2) := by decide +kernel
theorem d24_27 : decode jdk_52_method_11_code 27 = .ok (.iload_n 3, 1) := by decide +kernel
theorem d24_28 : decode jdk_52_method_11_code 28 = .ok (.ifCond .eq 16, 3) := by decide +kernel
theorem d24_44 : decode jdk_52_method_11_code 44 = .ok (.iload 5, 2) := by decide +kernel
theorem d24_46 : decode jdk_52_method_11_code 46 = .ok (.iload_n 2, 1) := by decide +kernel
theorem d24_47 : decode jdk_52_method_11_code 47 = .ok (.iconst 1, 1) := by decide +kernel
theorem d24_48 : decode jdk_52_method_11_code 48 = .ok (.isub, 1) := by decide +kernel
theorem d24_49 : decode jdk_52_method_11_code 49 = .ok (.if_icmp .ge 39, 3) := by decide +kernel
theorem d24_52 : decode jdk_52_method_11_code 52 = .ok (.aload_n 0, 1) := by decide +kernel
theorem d24_53 : decode jdk_52_method_11_code 53 = .ok (.iload 5, 2) := by decide +kernel
theorem d24_55 : decode jdk_52_method_11_code 55 = .ok (.iinc 5 1, 3) := by decide +kernel
theorem d24_58 : decode jdk_52_method_11_code 58 = .ok (.invokestatic 71, 3) := by decide +kernel
theorem d24_61 : decode jdk_52_method_11_code 61 = .ok (.invokestatic 75, 3) := by decide +kernel
theorem d24_64 : decode jdk_52_method_11_code 64 = .ok (.ifCond .eq (-20), 3) := by decide +kernel
theorem d24_67 : decode jdk_52_method_11_code 67 = .ok (.aload_n 0, 1) := by decide +kernel
theorem d24_68 : decode jdk_52_method_11_code 68 = .ok (.iload 5, 2) := by decide +kernel
theorem d24_70 : decode jdk_52_method_11_code 70 = .ok (.invokestatic 71, 3) := by decide +kernel
theorem d24_73 : decode jdk_52_method_11_code 73 = .ok (.invokestatic 81, 3) := by decide +kernel
theorem d24_76 : decode jdk_52_method_11_code 76 = .ok (.ifCond .eq (-32), 3) := by decide +kernel
theorem d24_79 : decode jdk_52_method_11_code 79 = .ok (.iinc 4 (-1), 3) := by decide +kernel
theorem d24_82 : decode jdk_52_method_11_code 82 = .ok (.iinc 5 1, 3) := by decide +kernel
theorem d24_85 : decode jdk_52_method_11_code 85 = .ok (.goto (-41), 3) := by decide +kernel
theorem d24_88 : decode jdk_52_method_11_code 88 = .ok (.iload 4, 2) := by decide +kernel
theorem d24_90 : decode jdk_52_method_11_code 90 = .ok (.ireturn, 1) := by decide +kernel
theorem d25_0 : decode jdk_89_method_14_code 0 = .ok (.iload_n 0, 1) := by decide +kernel
theorem d25_1 : decode jdk_89_method_14_code 1 = .ok (.ldc 75, 2) := by decide +kernel
theorem d25_3 : decode jdk_89_method_14_code 3 = .ok (.if_icmp .lt 13, 3) := by decide +kernel
theorem d25_6 : decode jdk_89_method_14_code 6 = .ok (.iload_n 0, 1) := by decide +kernel
theorem d25_7 : decode jdk_89_method_14_code 7 = .ok (.ldc 76, 2) := by decide +kernel
theorem d25_9 : decode jdk_89_method_14_code 9 = .ok (.if_icmp .ge 7, 3) := by decide +kernel
theorem d25_12 : decode jdk_89_method_14_code 12 = .ok (.iconst 1, 1) := by decide +kernel
theorem d25_13 : decode jdk_89_method_14_code 13 = .ok (.goto 4, 3) := by decide +kernel
theorem d25_16 : decode jdk_89_method_14_code 16 = .ok (.iconst 0, 1) := by decide +kernel
theorem d25_17 : decode jdk_89_method_14_code 17 = .ok (.ireturn, 1) := by decide +kernel
theorem d26_0 : decode jdk_89_method_15_code 0 = .ok (.iload_n 0, 1) := by decide +kernel
theorem d26_1 : decode jdk_89_method_15_code 1 = .ok (.ldc 76, 2) := by decide +kernel
theorem d26_3 : decode jdk_89_method_15_code 3 = .ok (.if_icmp .lt 13, 3) := by decide +kernel
theorem d26_6 : decode jdk_89_method_15_code 6 = .ok (.iload_n 0, 1) := by decide +kernel
theorem d26_7 : decode jdk_89_method_15_code 7 = .ok (.ldc 77, 2) := by decide +kernel
theorem d26_9 : decode jdk_89_method_15_code 9 = .ok (.if_icmp .ge 7, 3) := by decide +kernel
theorem d26_12 : decode jdk_89_method_15_code 12 = .ok (.iconst 1, 1) := by decide +kernel
theorem d26_13 : decode jdk_89_method_15_code 13 = .ok (.goto 4, 3) := by decide +kernel
theorem d26_16 : decode jdk_89_method_15_code 16 = .ok (.iconst 0, 1) := by decide +kernel
theorem d26_17 : decode jdk_89_method_15_code 17 = .ok (.ireturn, 1) := by decide +kernel
theorem pd_0 : parseMethodDescriptor "(I)I" = some ⟨[.int], (some .int)⟩ := by decide +kernel
theorem pd_1 : parseMethodDescriptor "(I)[B" = some ⟨[.int], (some (.array .byte))⟩ := by decide +kernel
theorem pd_2 : parseMethodDescriptor "([BII)V" = some ⟨[(.array .byte), .int, .int], none⟩ := by decide +kernel
theorem pd_3 : parseMethodDescriptor "([CI[BII)I" = some ⟨[(.array .char), .int, (.array .byte), .int, .int], (some .int)⟩ := by decide +kernel
theorem pd_4 : parseMethodDescriptor "([CII)[B" = some ⟨[(.array .char), .int, .int], (some (.array .byte))⟩ := by decide +kernel
theorem pd_5 : parseMethodDescriptor "([BI)C" = some ⟨[(.array .byte), .int], (some .char)⟩ := by decide +kernel
theorem pd_6 : parseMethodDescriptor "([BI)B" = some ⟨[(.array .byte), .int], (some .byte)⟩ := by decide +kernel
theorem pd_7 : parseMethodDescriptor "([CIILjava/lang/Void;)V" = some ⟨[(.array .char), .int, .int, (.object "java/lang/Void")], none⟩ := by decide +kernel
theorem pd_8 : parseMethodDescriptor "()B" = some ⟨[], (some .byte)⟩ := by decide +kernel
theorem pd_9 : parseMethodDescriptor "([BIIZ)I" = some ⟨[(.array .byte), .int, .int, .boolean], (some .int)⟩ := by decide +kernel
theorem pd_10 : parseMethodDescriptor "(IIILjava/util/function/BiFunction;)I" = some ⟨[.int, .int, .int, (.object "java/util/function/BiFunction")], (some .int)⟩ := by decide +kernel
theorem pd_11 : parseMethodDescriptor "()I" = some ⟨[], (some .int)⟩ := by decide +kernel
theorem pd_12 : parseMethodDescriptor "(III)I" = some ⟨[.int, .int, .int], (some .int)⟩ := by decide +kernel
theorem pd_13 : parseMethodDescriptor "()Z" = some ⟨[], (some .boolean)⟩ := by decide +kernel
theorem pd_14 : parseMethodDescriptor "([BII)I" = some ⟨[(.array .byte), .int, .int], (some .int)⟩ := by decide +kernel
theorem pd_15 : parseMethodDescriptor "(II)I" = some ⟨[.int, .int], (some .int)⟩ := by decide +kernel
theorem pd_16 : parseMethodDescriptor "(C)Z" = some ⟨[.char], (some .boolean)⟩ := by decide +kernel
theorem pd_17 : parseMethodDescriptor "(I)C" = some ⟨[.int], (some .char)⟩ := by decide +kernel
theorem pd_18 : parseMethodDescriptor "(JJ)J" = some ⟨[.long, .long], (some .long)⟩ := by decide +kernel
theorem pd_19 : parseMethodDescriptor "([C)V" = some ⟨[(.array .char)], none⟩ := by decide +kernel
theorem pd_20 : parseMethodDescriptor "(Ljava/lang/String;Ljava/lang/String;I)Ljava/lang/String;" = some ⟨[(.object "java/lang/String"), (.object "java/lang/String"), .int], (some (.object "java/lang/String"))⟩ := by decide +kernel
theorem pd_21 : parseMethodDescriptor "(CC)Z" = some ⟨[.char, .char], (some .boolean)⟩ := by decide +kernel
theorem pf_0 : plainFor (⟨"java/lang/Character", "isHighSurrogate", "(C)Z"⟩ : MethodName) = true := by decide +kernel
theorem pf_1 : plainFor (⟨"java/lang/Character", "isLowSurrogate", "(C)Z"⟩ : MethodName) = true := by decide +kernel
theorem pf_2 : plainFor (⟨"java/lang/Math", "min", "(JJ)J"⟩ : MethodName) = true := by decide +kernel
theorem pn_0 : plainName "java/lang/StringUTF16" = true := by first | (simp [plainName, overriddenIn]; done) | decide +kernel
theorem pn_1 : plainName "java/lang/String" = true := by first | (simp [plainName, overriddenIn]; done) | decide +kernel
theorem pn_2 : plainName "jdk/internal/util/Preconditions" = true := by first | (simp [plainName, overriddenIn]; done) | decide +kernel
theorem pn_3 : plainName "java/util/Objects" = true := by first | (simp [plainName, overriddenIn]; done) | decide +kernel
theorem pn_4 : plainName "com/example/tugas/tugas/TextRequireLengthPinLaw" = true := by first | (simp [plainName, overriddenIn]; done) | decide +kernel
theorem pn_5 : plainName "com/example/tugas/tugas/Text" = true := by first | (simp [plainName, overriddenIn]; done) | decide +kernel
abbrev consts_1 : List (String × Nat) := []
theorem ew {a0 : Array Value} {Z : State} (hw : HW a0 Z) : EW Z a0 consts_1 := EW.nil
theorem wS {a0 : Array Value} {Z : State} (hw : HW a0 Z) : ∀ a ∈ Bundle.stringAtoms, a.before a0 Z = true := fun d hd => hw d ((by decide +kernel : ∀ d ∈ Bundle.stringAtoms, d ∈ tables_1) d hd)
theorem sta_int {args : Array Value} {s : State} {C n d : String} {v : Int32} (hv : (Jvm.Cond.eq (Term.static C n d) (Term.int v)).value args s none s [] = some true) (hi : (Jvm.Cond.initializedFor C n d).before args s = true) : Sta s s.heap C n d (.int v) := by
  obtain ⟨x, y, e1, e2, k1, k2⟩ := cmp_v (Or.inl hv)
  cases (Term.int_eval v).symm.trans e2
  obtain ⟨z, rfl⟩ := k2
  have := gotT (Cond.eq_ints e1 (Term.int_eval v)) hv
  subst this
  exact Sta.start e1 (Or.inl hi)
theorem and3 (x : Int32) : (x &&& (3 : Int32)) = 0 ∨ (x &&& (3 : Int32)) = 1 ∨ (x &&& (3 : Int32)) = 2 ∨ (x &&& (3 : Int32)) = 3 := by
  have r := c_and x 3 (by decide)
  simp only [← Int32.toInt_inj]
  generalize (x &&& (3 : Int32)).toInt = y at *
  have e : (3 : Int32).toInt = 3 := rfl
  show y = 0 ∨ y = 1 ∨ y = 2 ∨ y = 3
  omega
def PR (x y : Int32) : Prop := ¬ x < (55296 : Int32) ∧ ¬ (56319 : Int32) < x ∧ ¬ y < (56320 : Int32) ∧ ¬ (57343 : Int32) < y
def HS (x : Int32) : Prop := ¬ x < (55296 : Int32) ∧ x < (56320 : Int32)
def LS (x : Int32) : Prop := ¬ x < (56320 : Int32) ∧ x < (57344 : Int32)
instance (x : Int32) : Decidable (HS x) := inferInstanceAs (Decidable (_ ∧ _))
instance (x : Int32) : Decidable (LS x) := inferInstanceAs (Decidable (_ ∧ _))
instance (x y : Int32) : Decidable (PR x y) := inferInstanceAs (Decidable (_ ∧ _))
theorem pr_iff (x y : Int32) : PR x y ↔ HS x ∧ LS y := by
  unfold PR HS LS
  simp only [toInt_lt]
  have e1 : (55296 : Int32).toInt = 55296 := rfl
  have e2 : (56319 : Int32).toInt = 56319 := rfl
  have e3 : (56320 : Int32).toInt = 56320 := rfl
  have e4 : (57343 : Int32).toInt = 57343 := rfl
  have e5 : (57344 : Int32).toInt = 57344 := rfl
  omega
theorem hs_ls {x : Int32} (q : HS x) : ¬ LS x := fun r => r.1 q.2
def cpc (n : Int32) : List Int32 → Int32
  | c :: d :: cs => if HS c then (if LS d then cpc (n + (-1 : Int32)) cs else cpc n (d :: cs)) else cpc n (d :: cs)
  | _ => n
theorem cpc_lat {n : Int32} : ∀ {cs : List Int32}, Lat cs → cpc n cs = n
  | [], _ => by simp [cpc]
  | [c], _ => by simp [cpc]
  | c :: d :: cs, q => by
    have hc : ¬ HS c := fun r => by
      have := (lat_iff.mp (q c (List.mem_cons_self ..)))
      have r1 := r.1
      rw [toInt_lt] at r1
      have e1 : (55296 : Int32).toInt = 55296 := rfl
      omega
    rw [cpc, if_neg hc]
    exact cpc_lat fun y hy => q y (List.mem_cons_of_mem _ hy)
theorem cpc_2 (a b : Int32) : cpc 2 [a, b] = if PR a b then 1 else 2 := by
  by_cases h1 : HS a <;> by_cases h2 : LS b <;> simp [cpc, pr_iff, h1, h2] <;> rfl
theorem cpc_3 (a b c : Int32) : cpc 3 [a, b, c] = if PR a b then (if PR b c then 1 else 2) else (if PR b c then 2 else 3) := by
  by_cases h1 : HS a <;> by_cases h2 : LS b <;> by_cases h3 : HS b <;> by_cases h4 : LS c <;> first | exact absurd h2 (hs_ls h3) | (simp [cpc, pr_iff, h1, h2, h3, h4] <;> rfl)
theorem cpc_4 (a b c d : Int32) : cpc 4 [a, b, c, d] = if PR a b then (if PR b c then (if PR c d then 1 else 2) else (if PR c d then 2 else 3)) else (if PR b c then (if PR c d then 2 else 3) else (if PR c d then 3 else 4)) := by
  by_cases h1 : HS a <;> by_cases h2 : LS b <;> by_cases h3 : HS b <;> by_cases h4 : LS c <;> by_cases h5 : HS c <;> by_cases h6 : LS d <;> first | exact absurd h2 (hs_ls h3) | exact absurd h4 (hs_ls h5) | (simp [cpc, pr_iff, h1, h2, h3, h4, h5, h6] <;> rfl)
theorem slack_ok (x : Int32) : 0 ≤ ((ushr x (1 : Int32)).toInt64).toInt ∧ ((ushr x (1 : Int32)).toInt64).toInt ≤ 2147483647 := by
  rw [c_i2l]
  have h1 : (ushr x (1 : Int32)).toInt = (x.toInt % 4294967296) / (2 ^ 1 : Nat) := c_iushr x 1 1 (by decide) (by decide)
  rw [h1]; omega
theorem mx_ok {sl : Int64} {K : Int32} (bs : 0 ≤ sl.toInt ∧ sl.toInt ≤ 2147483647) (bK : 0 ≤ K.toInt ∧ K.toInt ≤ 4) : ¬ ((if (0 : Int32) < (lcmpW ((K).toInt64 + sl) (2147483647 : Int64)) then (2147483647 : Int64) else ((K).toInt64 + sl))).toInt32 < K := by
  have h1 := c_ladd (K.toInt64) sl
  rw [c_i2l] at h1
  have h3 := c_lcmp (K.toInt64 + sl) (2147483647 : Int64)
  have e : (2147483647 : Int64).toInt = 2147483647 := rfl
  have r64 : -9223372036854775808 ≤ (K.toInt64 + sl).toInt ∧ (K.toInt64 + sl).toInt < 9223372036854775808 := ⟨Int64.le_toInt _, Int64.toInt_lt _⟩
  have e0 : (0 : Int32).toInt = 0 := rfl
  rw [toInt_lt]
  split
  · rename_i q
    have : ((2147483647 : Int64).toInt32).toInt = 2147483647 := rfl
    omega
  · rename_i q
    rw [toInt_lt] at q
    have h5 := c_l2i (K.toInt64 + sl)
    have h6 := rng32 ((K.toInt64 + sl).toInt32)
    omega
abbrev G_putc0 (md : Md) (l : Launch) (Z : State) (n0 : Nat) (b : Addr) (c : Int32) (vs : List Value) (h0 : Heap) := Go md l Z n0 ({ frames := 0, cells := 0, slots := 0, locals := 0 } : Room) jdk_52_method_4_code 3 none "java/lang/StringUTF16" "putChar" (fun v h' _ => v = none ∧ Keep h0 h' [b] ∧ Ary Z h' b .byte ((vs.set 0 (.int (lo16 c))).set 1 (.int (hi16 c))))
theorem ef_putc0 (mid : MethodId) (b : Addr) (c : Int32) (vs : List Value)  : entryFrame mid #[(.ref b), (.int (0 : Int32)), (.int c)] 3 = mkF mid 0 #[.val (.ref b), .val (.int (0 : Int32)), .val (.int c)] [] := by first | (simp [entryFrame, mkF, argsToLocals, Value.category]; done) | rfl
set_option maxRecDepth 65536 in
set_option maxHeartbeats 40000000 in
theorem c_putc0 {md : Md} {l : Launch} {Z : State} {n0 : Nat} {a0 : Array Value} (hw : HW a0 Z) (b : Addr) (c : Int32) (vs : List Value) {h0 : Heap} (A : Ary Z h0 b .byte vs) (n0b : n0 ≤ b) (hl : 1 < vs.length) (UA : Sta Z Z.heap "java/lang/StringUTF16" "$assertionsDisabled" "Z" (.int 1)) (UH : Sta Z Z.heap "java/lang/StringUTF16" "HI_BYTE_SHIFT" "I" (.int 0)) (UL : Sta Z Z.heap "java/lang/StringUTF16" "LO_BYTE_SHIFT" "I" (.int 8))  : G_putc0 md l Z n0 b c vs h0 0 0 [b] h0 0 #[.val (.ref b), .val (.int (0 : Int32)), .val (.int c)] [] := by
  refine Go.getS 3 d21_0 rfl (w99 hw) Via.refl UA ?_
  refine Go.ifY 28 d21_3 (by decide) (by decide) (feq (by decide)).2 ?_
  refine Go.iloadN 29 d21_28 rfl rfl ?_
  refine Go.iconst 30 (1 : Int32) d21_29 rfl rfl ?_
  refine Go.ishl 31 d21_30 rfl ?_
  rw [show ((0 : Int32) <<< ((1 : Int32) &&& 31)) = (0 : Int32) from by decide]
  refine Go.istoreN 32 #[.val (.ref b), .val (.int (0 : Int32)), .val (.int c)] d21_31 rfl rfl ?_
  refine Go.aloadN 33 d21_32 rfl rfl rfl ?_
  refine Go.iloadN 34 d21_33 rfl rfl ?_
  refine Go.iinc 37 #[.val (.ref b), .val (.int ((0 : Int32) + (1 : Int32))), .val (.int c)] (1 : Int32) d21_34 rfl rfl rfl rfl ?_
  rw [show ((0 : Int32) + (1 : Int32)) = (1 : Int32) from by decide]
  refine Go.iloadN 38 d21_37 rfl rfl ?_
  refine Go.getS 41 d21_38 rfl (w100 hw) Via.refl UH ?_
  refine Go.ishr 42 d21_41 rfl ?_
  refine Go.i2b 43 d21_42 rfl ?_
  refine Go.bastore 0 44 d21_43 rfl A (by decide) (by first | omega | (simp; omega)) (List.mem_of_getElem? (i := 0) rfl) n0b (fun h_1 W_2 A_3 => ?_)
  have A_4 : Ary Z h_1 b .byte (vs.set 0 (.int (lo16 c))) := by have q_ := A_3; rw [i8_idem] at q_; exact q_
  refine Go.aloadN 45 d21_44 rfl rfl rfl ?_
  refine Go.iloadN 46 d21_45 rfl rfl ?_
  refine Go.iloadN 47 d21_46 rfl rfl ?_
  refine Go.getS 50 d21_47 rfl (w101 hw) Via.refl UL ?_
  refine Go.ishr 51 d21_50 rfl ?_
  refine Go.i2b 52 d21_51 rfl ?_
  refine Go.bastore 1 53 d21_52 rfl A_4 (by decide) (by first | omega | (simp; omega)) (List.mem_of_getElem? (i := 0) rfl) n0b (fun h_5 W_6 A_7 => ?_)
  have A_8 : Ary Z h_5 b .byte ((vs.set 0 (.int (lo16 c))).set 1 (.int (hi16 c))) := by have q_ := A_7; rw [i8_idem] at q_; exact q_
  exact Go.ret0 d21_53 rfl (sf' := []) (⟨rfl, (((Keep.refl h0 [b]).wr W_2 (Or.inl (List.mem_of_getElem? (i := 0) rfl))).wr W_6 (Or.inl (List.mem_of_getElem? (i := 0) rfl))), A_8⟩) (fun _ q => nomatch q) (Nat.le_of_ble_eq_true rfl) (Nat.le_of_ble_eq_true rfl)
abbrev G_putc1 (md : Md) (l : Launch) (Z : State) (n0 : Nat) (b : Addr) (c : Int32) (vs : List Value) (h0 : Heap) := Go md l Z n0 ({ frames := 0, cells := 0, slots := 0, locals := 0 } : Room) jdk_52_method_4_code 3 none "java/lang/StringUTF16" "putChar" (fun v h' _ => v = none ∧ Keep h0 h' [b] ∧ Ary Z h' b .byte ((vs.set 2 (.int (lo16 c))).set 3 (.int (hi16 c))))
theorem ef_putc1 (mid : MethodId) (b : Addr) (c : Int32) (vs : List Value)  : entryFrame mid #[(.ref b), (.int (1 : Int32)), (.int c)] 3 = mkF mid 0 #[.val (.ref b), .val (.int (1 : Int32)), .val (.int c)] [] := by first | (simp [entryFrame, mkF, argsToLocals, Value.category]; done) | rfl
set_option maxRecDepth 65536 in
set_option maxHeartbeats 40000000 in
theorem c_putc1 {md : Md} {l : Launch} {Z : State} {n0 : Nat} {a0 : Array Value} (hw : HW a0 Z) (b : Addr) (c : Int32) (vs : List Value) {h0 : Heap} (A : Ary Z h0 b .byte vs) (n0b : n0 ≤ b) (hl : 3 < vs.length) (UA : Sta Z Z.heap "java/lang/StringUTF16" "$assertionsDisabled" "Z" (.int 1)) (UH : Sta Z Z.heap "java/lang/StringUTF16" "HI_BYTE_SHIFT" "I" (.int 0)) (UL : Sta Z Z.heap "java/lang/StringUTF16" "LO_BYTE_SHIFT" "I" (.int 8))  : G_putc1 md l Z n0 b c vs h0 0 0 [b] h0 0 #[.val (.ref b), .val (.int (1 : Int32)), .val (.int c)] [] := by
  refine Go.getS 3 d21_0 rfl (w99 hw) Via.refl UA ?_
  refine Go.ifY 28 d21_3 (by decide) (by decide) (feq (by decide)).2 ?_
  refine Go.iloadN 29 d21_28 rfl rfl ?_
  refine Go.iconst 30 (1 : Int32) d21_29 rfl rfl ?_
  refine Go.ishl 31 d21_30 rfl ?_
  rw [show ((1 : Int32) <<< ((1 : Int32) &&& 31)) = (2 : Int32) from by decide]
  refine Go.istoreN 32 #[.val (.ref b), .val (.int (2 : Int32)), .val (.int c)] d21_31 rfl rfl ?_
  refine Go.aloadN 33 d21_32 rfl rfl rfl ?_
  refine Go.iloadN 34 d21_33 rfl rfl ?_
  refine Go.iinc 37 #[.val (.ref b), .val (.int ((2 : Int32) + (1 : Int32))), .val (.int c)] (1 : Int32) d21_34 rfl rfl rfl rfl ?_
  rw [show ((2 : Int32) + (1 : Int32)) = (3 : Int32) from by decide]
  refine Go.iloadN 38 d21_37 rfl rfl ?_
  refine Go.getS 41 d21_38 rfl (w100 hw) Via.refl UH ?_
  refine Go.ishr 42 d21_41 rfl ?_
  refine Go.i2b 43 d21_42 rfl ?_
  refine Go.bastore 2 44 d21_43 rfl A (by decide) (by first | omega | (simp; omega)) (List.mem_of_getElem? (i := 0) rfl) n0b (fun h_1 W_2 A_3 => ?_)
  have A_4 : Ary Z h_1 b .byte (vs.set 2 (.int (lo16 c))) := by have q_ := A_3; rw [i8_idem] at q_; exact q_
  refine Go.aloadN 45 d21_44 rfl rfl rfl ?_
  refine Go.iloadN 46 d21_45 rfl rfl ?_
  refine Go.iloadN 47 d21_46 rfl rfl ?_
  refine Go.getS 50 d21_47 rfl (w101 hw) Via.refl UL ?_
  refine Go.ishr 51 d21_50 rfl ?_
  refine Go.i2b 52 d21_51 rfl ?_
  refine Go.bastore 3 53 d21_52 rfl A_4 (by decide) (by first | omega | (simp; omega)) (List.mem_of_getElem? (i := 0) rfl) n0b (fun h_5 W_6 A_7 => ?_)
  have A_8 : Ary Z h_5 b .byte ((vs.set 2 (.int (lo16 c))).set 3 (.int (hi16 c))) := by have q_ := A_7; rw [i8_idem] at q_; exact q_
  exact Go.ret0 d21_53 rfl (sf' := []) (⟨rfl, (((Keep.refl h0 [b]).wr W_2 (Or.inl (List.mem_of_getElem? (i := 0) rfl))).wr W_6 (Or.inl (List.mem_of_getElem? (i := 0) rfl))), A_8⟩) (fun _ q => nomatch q) (Nat.le_of_ble_eq_true rfl) (Nat.le_of_ble_eq_true rfl)
abbrev G_putc2 (md : Md) (l : Launch) (Z : State) (n0 : Nat) (b : Addr) (c : Int32) (vs : List Value) (h0 : Heap) := Go md l Z n0 ({ frames := 0, cells := 0, slots := 0, locals := 0 } : Room) jdk_52_method_4_code 3 none "java/lang/StringUTF16" "putChar" (fun v h' _ => v = none ∧ Keep h0 h' [b] ∧ Ary Z h' b .byte ((vs.set 4 (.int (lo16 c))).set 5 (.int (hi16 c))))
theorem ef_putc2 (mid : MethodId) (b : Addr) (c : Int32) (vs : List Value)  : entryFrame mid #[(.ref b), (.int (2 : Int32)), (.int c)] 3 = mkF mid 0 #[.val (.ref b), .val (.int (2 : Int32)), .val (.int c)] [] := by first | (simp [entryFrame, mkF, argsToLocals, Value.category]; done) | rfl
set_option maxRecDepth 65536 in
set_option maxHeartbeats 40000000 in
theorem c_putc2 {md : Md} {l : Launch} {Z : State} {n0 : Nat} {a0 : Array Value} (hw : HW a0 Z) (b : Addr) (c : Int32) (vs : List Value) {h0 : Heap} (A : Ary Z h0 b .byte vs) (n0b : n0 ≤ b) (hl : 5 < vs.length) (UA : Sta Z Z.heap "java/lang/StringUTF16" "$assertionsDisabled" "Z" (.int 1)) (UH : Sta Z Z.heap "java/lang/StringUTF16" "HI_BYTE_SHIFT" "I" (.int 0)) (UL : Sta Z Z.heap "java/lang/StringUTF16" "LO_BYTE_SHIFT" "I" (.int 8))  : G_putc2 md l Z n0 b c vs h0 0 0 [b] h0 0 #[.val (.ref b), .val (.int (2 : Int32)), .val (.int c)] [] := by
  refine Go.getS 3 d21_0 rfl (w99 hw) Via.refl UA ?_
  refine Go.ifY 28 d21_3 (by decide) (by decide) (feq (by decide)).2 ?_
  refine Go.iloadN 29 d21_28 rfl rfl ?_
  refine Go.iconst 30 (1 : Int32) d21_29 rfl rfl ?_
  refine Go.ishl 31 d21_30 rfl ?_
  rw [show ((2 : Int32) <<< ((1 : Int32) &&& 31)) = (4 : Int32) from by decide]
  refine Go.istoreN 32 #[.val (.ref b), .val (.int (4 : Int32)), .val (.int c)] d21_31 rfl rfl ?_
  refine Go.aloadN 33 d21_32 rfl rfl rfl ?_
  refine Go.iloadN 34 d21_33 rfl rfl ?_
  refine Go.iinc 37 #[.val (.ref b), .val (.int ((4 : Int32) + (1 : Int32))), .val (.int c)] (1 : Int32) d21_34 rfl rfl rfl rfl ?_
  rw [show ((4 : Int32) + (1 : Int32)) = (5 : Int32) from by decide]
  refine Go.iloadN 38 d21_37 rfl rfl ?_
  refine Go.getS 41 d21_38 rfl (w100 hw) Via.refl UH ?_
  refine Go.ishr 42 d21_41 rfl ?_
  refine Go.i2b 43 d21_42 rfl ?_
  refine Go.bastore 4 44 d21_43 rfl A (by decide) (by first | omega | (simp; omega)) (List.mem_of_getElem? (i := 0) rfl) n0b (fun h_1 W_2 A_3 => ?_)
  have A_4 : Ary Z h_1 b .byte (vs.set 4 (.int (lo16 c))) := by have q_ := A_3; rw [i8_idem] at q_; exact q_
  refine Go.aloadN 45 d21_44 rfl rfl rfl ?_
  refine Go.iloadN 46 d21_45 rfl rfl ?_
  refine Go.iloadN 47 d21_46 rfl rfl ?_
  refine Go.getS 50 d21_47 rfl (w101 hw) Via.refl UL ?_
  refine Go.ishr 51 d21_50 rfl ?_
  refine Go.i2b 52 d21_51 rfl ?_
  refine Go.bastore 5 53 d21_52 rfl A_4 (by decide) (by first | omega | (simp; omega)) (List.mem_of_getElem? (i := 0) rfl) n0b (fun h_5 W_6 A_7 => ?_)
  have A_8 : Ary Z h_5 b .byte ((vs.set 4 (.int (lo16 c))).set 5 (.int (hi16 c))) := by have q_ := A_7; rw [i8_idem] at q_; exact q_
  exact Go.ret0 d21_53 rfl (sf' := []) (⟨rfl, (((Keep.refl h0 [b]).wr W_2 (Or.inl (List.mem_of_getElem? (i := 0) rfl))).wr W_6 (Or.inl (List.mem_of_getElem? (i := 0) rfl))), A_8⟩) (fun _ q => nomatch q) (Nat.le_of_ble_eq_true rfl) (Nat.le_of_ble_eq_true rfl)
abbrev G_putc3 (md : Md) (l : Launch) (Z : State) (n0 : Nat) (b : Addr) (c : Int32) (vs : List Value) (h0 : Heap) := Go md l Z n0 ({ frames := 0, cells := 0, slots := 0, locals := 0 } : Room) jdk_52_method_4_code 3 none "java/lang/StringUTF16" "putChar" (fun v h' _ => v = none ∧ Keep h0 h' [b] ∧ Ary Z h' b .byte ((vs.set 6 (.int (lo16 c))).set 7 (.int (hi16 c))))
theorem ef_putc3 (mid : MethodId) (b : Addr) (c : Int32) (vs : List Value)  : entryFrame mid #[(.ref b), (.int (3 : Int32)), (.int c)] 3 = mkF mid 0 #[.val (.ref b), .val (.int (3 : Int32)), .val (.int c)] [] := by first | (simp [entryFrame, mkF, argsToLocals, Value.category]; done) | rfl
set_option maxRecDepth 65536 in
set_option maxHeartbeats 40000000 in
theorem c_putc3 {md : Md} {l : Launch} {Z : State} {n0 : Nat} {a0 : Array Value} (hw : HW a0 Z) (b : Addr) (c : Int32) (vs : List Value) {h0 : Heap} (A : Ary Z h0 b .byte vs) (n0b : n0 ≤ b) (hl : 7 < vs.length) (UA : Sta Z Z.heap "java/lang/StringUTF16" "$assertionsDisabled" "Z" (.int 1)) (UH : Sta Z Z.heap "java/lang/StringUTF16" "HI_BYTE_SHIFT" "I" (.int 0)) (UL : Sta Z Z.heap "java/lang/StringUTF16" "LO_BYTE_SHIFT" "I" (.int 8))  : G_putc3 md l Z n0 b c vs h0 0 0 [b] h0 0 #[.val (.ref b), .val (.int (3 : Int32)), .val (.int c)] [] := by
  refine Go.getS 3 d21_0 rfl (w99 hw) Via.refl UA ?_
  refine Go.ifY 28 d21_3 (by decide) (by decide) (feq (by decide)).2 ?_
  refine Go.iloadN 29 d21_28 rfl rfl ?_
  refine Go.iconst 30 (1 : Int32) d21_29 rfl rfl ?_
  refine Go.ishl 31 d21_30 rfl ?_
  rw [show ((3 : Int32) <<< ((1 : Int32) &&& 31)) = (6 : Int32) from by decide]
  refine Go.istoreN 32 #[.val (.ref b), .val (.int (6 : Int32)), .val (.int c)] d21_31 rfl rfl ?_
  refine Go.aloadN 33 d21_32 rfl rfl rfl ?_
  refine Go.iloadN 34 d21_33 rfl rfl ?_
  refine Go.iinc 37 #[.val (.ref b), .val (.int ((6 : Int32) + (1 : Int32))), .val (.int c)] (1 : Int32) d21_34 rfl rfl rfl rfl ?_
  rw [show ((6 : Int32) + (1 : Int32)) = (7 : Int32) from by decide]
  refine Go.iloadN 38 d21_37 rfl rfl ?_
  refine Go.getS 41 d21_38 rfl (w100 hw) Via.refl UH ?_
  refine Go.ishr 42 d21_41 rfl ?_
  refine Go.i2b 43 d21_42 rfl ?_
  refine Go.bastore 6 44 d21_43 rfl A (by decide) (by first | omega | (simp; omega)) (List.mem_of_getElem? (i := 0) rfl) n0b (fun h_1 W_2 A_3 => ?_)
  have A_4 : Ary Z h_1 b .byte (vs.set 6 (.int (lo16 c))) := by have q_ := A_3; rw [i8_idem] at q_; exact q_
  refine Go.aloadN 45 d21_44 rfl rfl rfl ?_
  refine Go.iloadN 46 d21_45 rfl rfl ?_
  refine Go.iloadN 47 d21_46 rfl rfl ?_
  refine Go.getS 50 d21_47 rfl (w101 hw) Via.refl UL ?_
  refine Go.ishr 51 d21_50 rfl ?_
  refine Go.i2b 52 d21_51 rfl ?_
  refine Go.bastore 7 53 d21_52 rfl A_4 (by decide) (by first | omega | (simp; omega)) (List.mem_of_getElem? (i := 0) rfl) n0b (fun h_5 W_6 A_7 => ?_)
  have A_8 : Ary Z h_5 b .byte ((vs.set 6 (.int (lo16 c))).set 7 (.int (hi16 c))) := by have q_ := A_7; rw [i8_idem] at q_; exact q_
  exact Go.ret0 d21_53 rfl (sf' := []) (⟨rfl, (((Keep.refl h0 [b]).wr W_2 (Or.inl (List.mem_of_getElem? (i := 0) rfl))).wr W_6 (Or.inl (List.mem_of_getElem? (i := 0) rfl))), A_8⟩) (fun _ q => nomatch q) (Nat.le_of_ble_eq_true rfl) (Nat.le_of_ble_eq_true rfl)
abbrev G_getc0 (md : Md) (l : Launch) (Z : State) (n0 : Nat) (b : Addr) (x y : Int32) (vs : List Value) (h0 : Heap) := Go md l Z n0 ({ frames := 0, cells := 0, slots := 0, locals := 0 } : Room) jdk_52_method_5_code 2 (some .char) "java/lang/StringUTF16" "getChar" (fun v h' _ => h0 = h' ∧ v = some (.int (getc x y)))
theorem ef_getc0 (mid : MethodId) (b : Addr) (x y : Int32) (vs : List Value)  : entryFrame mid #[(.ref b), (.int (0 : Int32))] 2 = mkF mid 0 #[.val (.ref b), .val (.int (0 : Int32))] [] := by first | (simp [entryFrame, mkF, argsToLocals, Value.category]; done) | rfl
set_option maxRecDepth 65536 in
set_option maxHeartbeats 40000000 in
theorem c_getc0 {md : Md} {l : Launch} {Z : State} {n0 : Nat} {a0 : Array Value} (hw : HW a0 Z) (b : Addr) (x y : Int32) (vs : List Value) {h0 : Heap} (A : Ary Z h0 b .byte vs) (hx : vs[0]? = some (.int x)) (hy : vs[1]? = some (.int y)) (UA : Sta Z Z.heap "java/lang/StringUTF16" "$assertionsDisabled" "Z" (.int 1)) (UH : Sta Z Z.heap "java/lang/StringUTF16" "HI_BYTE_SHIFT" "I" (.int 0)) (UL : Sta Z Z.heap "java/lang/StringUTF16" "LO_BYTE_SHIFT" "I" (.int 8))  : G_getc0 md l Z n0 b x y vs h0 0 0 [] h0 0 #[.val (.ref b), .val (.int (0 : Int32))] [] := by
  refine Go.getS 3 d22_0 rfl (w99 hw) Via.refl UA ?_
  refine Go.ifY 28 d22_3 (by decide) (by decide) (feq (by decide)).2 ?_
  refine Go.iloadN 29 d22_28 rfl rfl ?_
  refine Go.iconst 30 (1 : Int32) d22_29 rfl rfl ?_
  refine Go.ishl 31 d22_30 rfl ?_
  rw [show ((0 : Int32) <<< ((1 : Int32) &&& 31)) = (0 : Int32) from by decide]
  refine Go.istoreN 32 #[.val (.ref b), .val (.int (0 : Int32))] d22_31 rfl rfl ?_
  refine Go.aloadN 33 d22_32 rfl rfl rfl ?_
  refine Go.iloadN 34 d22_33 rfl rfl ?_
  refine Go.iinc 37 #[.val (.ref b), .val (.int ((0 : Int32) + (1 : Int32)))] (1 : Int32) d22_34 rfl rfl rfl rfl ?_
  rw [show ((0 : Int32) + (1 : Int32)) = (1 : Int32) from by decide]
  refine Go.baload 0 38 d22_37 rfl A (by decide) hx ?_
  refine Go.sipush 41 (255 : Int32) d22_38 rfl rfl ?_
  refine Go.iand 42 d22_41 rfl ?_
  refine Go.getS 45 d22_42 rfl (w100 hw) Via.refl UH ?_
  refine Go.ishl 46 d22_45 rfl ?_
  refine Go.aloadN 47 d22_46 rfl rfl rfl ?_
  refine Go.iloadN 48 d22_47 rfl rfl ?_
  refine Go.baload 1 49 d22_48 rfl A (by decide) hy ?_
  refine Go.sipush 52 (255 : Int32) d22_49 rfl rfl ?_
  refine Go.iand 53 d22_52 rfl ?_
  refine Go.getS 56 d22_53 rfl (w101 hw) Via.refl UL ?_
  refine Go.ishl 57 d22_56 rfl ?_
  refine Go.ior 58 d22_57 rfl ?_
  refine Go.i2c 59 d22_58 rfl ?_
  exact Go.retN (getc x y) d22_59 rfl (t := .char) (by simp) (nar_cc (chp_chr _)) (sf' := []) (⟨rfl, rfl⟩) (fun _ q => nomatch q) (Nat.le_of_ble_eq_true rfl) (Nat.le_of_ble_eq_true rfl)
abbrev G_getc1 (md : Md) (l : Launch) (Z : State) (n0 : Nat) (b : Addr) (x y : Int32) (vs : List Value) (h0 : Heap) := Go md l Z n0 ({ frames := 0, cells := 0, slots := 0, locals := 0 } : Room) jdk_52_method_5_code 2 (some .char) "java/lang/StringUTF16" "getChar" (fun v h' _ => h0 = h' ∧ v = some (.int (getc x y)))
theorem ef_getc1 (mid : MethodId) (b : Addr) (x y : Int32) (vs : List Value)  : entryFrame mid #[(.ref b), (.int (1 : Int32))] 2 = mkF mid 0 #[.val (.ref b), .val (.int (1 : Int32))] [] := by first | (simp [entryFrame, mkF, argsToLocals, Value.category]; done) | rfl
set_option maxRecDepth 65536 in
set_option maxHeartbeats 40000000 in
theorem c_getc1 {md : Md} {l : Launch} {Z : State} {n0 : Nat} {a0 : Array Value} (hw : HW a0 Z) (b : Addr) (x y : Int32) (vs : List Value) {h0 : Heap} (A : Ary Z h0 b .byte vs) (hx : vs[2]? = some (.int x)) (hy : vs[3]? = some (.int y)) (UA : Sta Z Z.heap "java/lang/StringUTF16" "$assertionsDisabled" "Z" (.int 1)) (UH : Sta Z Z.heap "java/lang/StringUTF16" "HI_BYTE_SHIFT" "I" (.int 0)) (UL : Sta Z Z.heap "java/lang/StringUTF16" "LO_BYTE_SHIFT" "I" (.int 8))  : G_getc1 md l Z n0 b x y vs h0 0 0 [] h0 0 #[.val (.ref b), .val (.int (1 : Int32))] [] := by
  refine Go.getS 3 d22_0 rfl (w99 hw) Via.refl UA ?_
  refine Go.ifY 28 d22_3 (by decide) (by decide) (feq (by decide)).2 ?_
  refine Go.iloadN 29 d22_28 rfl rfl ?_
  refine Go.iconst 30 (1 : Int32) d22_29 rfl rfl ?_
  refine Go.ishl 31 d22_30 rfl ?_
  rw [show ((1 : Int32) <<< ((1 : Int32) &&& 31)) = (2 : Int32) from by decide]
  refine Go.istoreN 32 #[.val (.ref b), .val (.int (2 : Int32))] d22_31 rfl rfl ?_
  refine Go.aloadN 33 d22_32 rfl rfl rfl ?_
  refine Go.iloadN 34 d22_33 rfl rfl ?_
  refine Go.iinc 37 #[.val (.ref b), .val (.int ((2 : Int32) + (1 : Int32)))] (1 : Int32) d22_34 rfl rfl rfl rfl ?_
  rw [show ((2 : Int32) + (1 : Int32)) = (3 : Int32) from by decide]
  refine Go.baload 2 38 d22_37 rfl A (by decide) hx ?_
  refine Go.sipush 41 (255 : Int32) d22_38 rfl rfl ?_
  refine Go.iand 42 d22_41 rfl ?_
  refine Go.getS 45 d22_42 rfl (w100 hw) Via.refl UH ?_
  refine Go.ishl 46 d22_45 rfl ?_
  refine Go.aloadN 47 d22_46 rfl rfl rfl ?_
  refine Go.iloadN 48 d22_47 rfl rfl ?_
  refine Go.baload 3 49 d22_48 rfl A (by decide) hy ?_
  refine Go.sipush 52 (255 : Int32) d22_49 rfl rfl ?_
  refine Go.iand 53 d22_52 rfl ?_
  refine Go.getS 56 d22_53 rfl (w101 hw) Via.refl UL ?_
  refine Go.ishl 57 d22_56 rfl ?_
  refine Go.ior 58 d22_57 rfl ?_
  refine Go.i2c 59 d22_58 rfl ?_
  exact Go.retN (getc x y) d22_59 rfl (t := .char) (by simp) (nar_cc (chp_chr _)) (sf' := []) (⟨rfl, rfl⟩) (fun _ q => nomatch q) (Nat.le_of_ble_eq_true rfl) (Nat.le_of_ble_eq_true rfl)
abbrev G_getc2 (md : Md) (l : Launch) (Z : State) (n0 : Nat) (b : Addr) (x y : Int32) (vs : List Value) (h0 : Heap) := Go md l Z n0 ({ frames := 0, cells := 0, slots := 0, locals := 0 } : Room) jdk_52_method_5_code 2 (some .char) "java/lang/StringUTF16" "getChar" (fun v h' _ => h0 = h' ∧ v = some (.int (getc x y)))
theorem ef_getc2 (mid : MethodId) (b : Addr) (x y : Int32) (vs : List Value)  : entryFrame mid #[(.ref b), (.int (2 : Int32))] 2 = mkF mid 0 #[.val (.ref b), .val (.int (2 : Int32))] [] := by first | (simp [entryFrame, mkF, argsToLocals, Value.category]; done) | rfl
set_option maxRecDepth 65536 in
set_option maxHeartbeats 40000000 in
theorem c_getc2 {md : Md} {l : Launch} {Z : State} {n0 : Nat} {a0 : Array Value} (hw : HW a0 Z) (b : Addr) (x y : Int32) (vs : List Value) {h0 : Heap} (A : Ary Z h0 b .byte vs) (hx : vs[4]? = some (.int x)) (hy : vs[5]? = some (.int y)) (UA : Sta Z Z.heap "java/lang/StringUTF16" "$assertionsDisabled" "Z" (.int 1)) (UH : Sta Z Z.heap "java/lang/StringUTF16" "HI_BYTE_SHIFT" "I" (.int 0)) (UL : Sta Z Z.heap "java/lang/StringUTF16" "LO_BYTE_SHIFT" "I" (.int 8))  : G_getc2 md l Z n0 b x y vs h0 0 0 [] h0 0 #[.val (.ref b), .val (.int (2 : Int32))] [] := by
  refine Go.getS 3 d22_0 rfl (w99 hw) Via.refl UA ?_
  refine Go.ifY 28 d22_3 (by decide) (by decide) (feq (by decide)).2 ?_
  refine Go.iloadN 29 d22_28 rfl rfl ?_
  refine Go.iconst 30 (1 : Int32) d22_29 rfl rfl ?_
  refine Go.ishl 31 d22_30 rfl ?_
  rw [show ((2 : Int32) <<< ((1 : Int32) &&& 31)) = (4 : Int32) from by decide]
  refine Go.istoreN 32 #[.val (.ref b), .val (.int (4 : Int32))] d22_31 rfl rfl ?_
  refine Go.aloadN 33 d22_32 rfl rfl rfl ?_
  refine Go.iloadN 34 d22_33 rfl rfl ?_
  refine Go.iinc 37 #[.val (.ref b), .val (.int ((4 : Int32) + (1 : Int32)))] (1 : Int32) d22_34 rfl rfl rfl rfl ?_
  rw [show ((4 : Int32) + (1 : Int32)) = (5 : Int32) from by decide]
  refine Go.baload 4 38 d22_37 rfl A (by decide) hx ?_
  refine Go.sipush 41 (255 : Int32) d22_38 rfl rfl ?_
  refine Go.iand 42 d22_41 rfl ?_
  refine Go.getS 45 d22_42 rfl (w100 hw) Via.refl UH ?_
  refine Go.ishl 46 d22_45 rfl ?_
  refine Go.aloadN 47 d22_46 rfl rfl rfl ?_
  refine Go.iloadN 48 d22_47 rfl rfl ?_
  refine Go.baload 5 49 d22_48 rfl A (by decide) hy ?_
  refine Go.sipush 52 (255 : Int32) d22_49 rfl rfl ?_
  refine Go.iand 53 d22_52 rfl ?_
  refine Go.getS 56 d22_53 rfl (w101 hw) Via.refl UL ?_
  refine Go.ishl 57 d22_56 rfl ?_
  refine Go.ior 58 d22_57 rfl ?_
  refine Go.i2c 59 d22_58 rfl ?_
  exact Go.retN (getc x y) d22_59 rfl (t := .char) (by simp) (nar_cc (chp_chr _)) (sf' := []) (⟨rfl, rfl⟩) (fun _ q => nomatch q) (Nat.le_of_ble_eq_true rfl) (Nat.le_of_ble_eq_true rfl)
abbrev G_getc3 (md : Md) (l : Launch) (Z : State) (n0 : Nat) (b : Addr) (x y : Int32) (vs : List Value) (h0 : Heap) := Go md l Z n0 ({ frames := 0, cells := 0, slots := 0, locals := 0 } : Room) jdk_52_method_5_code 2 (some .char) "java/lang/StringUTF16" "getChar" (fun v h' _ => h0 = h' ∧ v = some (.int (getc x y)))
theorem ef_getc3 (mid : MethodId) (b : Addr) (x y : Int32) (vs : List Value)  : entryFrame mid #[(.ref b), (.int (3 : Int32))] 2 = mkF mid 0 #[.val (.ref b), .val (.int (3 : Int32))] [] := by first | (simp [entryFrame, mkF, argsToLocals, Value.category]; done) | rfl
set_option maxRecDepth 65536 in
set_option maxHeartbeats 40000000 in
theorem c_getc3 {md : Md} {l : Launch} {Z : State} {n0 : Nat} {a0 : Array Value} (hw : HW a0 Z) (b : Addr) (x y : Int32) (vs : List Value) {h0 : Heap} (A : Ary Z h0 b .byte vs) (hx : vs[6]? = some (.int x)) (hy : vs[7]? = some (.int y)) (UA : Sta Z Z.heap "java/lang/StringUTF16" "$assertionsDisabled" "Z" (.int 1)) (UH : Sta Z Z.heap "java/lang/StringUTF16" "HI_BYTE_SHIFT" "I" (.int 0)) (UL : Sta Z Z.heap "java/lang/StringUTF16" "LO_BYTE_SHIFT" "I" (.int 8))  : G_getc3 md l Z n0 b x y vs h0 0 0 [] h0 0 #[.val (.ref b), .val (.int (3 : Int32))] [] := by
  refine Go.getS 3 d22_0 rfl (w99 hw) Via.refl UA ?_
  refine Go.ifY 28 d22_3 (by decide) (by decide) (feq (by decide)).2 ?_
  refine Go.iloadN 29 d22_28 rfl rfl ?_
  refine Go.iconst 30 (1 : Int32) d22_29 rfl rfl ?_
  refine Go.ishl 31 d22_30 rfl ?_
  rw [show ((3 : Int32) <<< ((1 : Int32) &&& 31)) = (6 : Int32) from by decide]
  refine Go.istoreN 32 #[.val (.ref b), .val (.int (6 : Int32))] d22_31 rfl rfl ?_
  refine Go.aloadN 33 d22_32 rfl rfl rfl ?_
  refine Go.iloadN 34 d22_33 rfl rfl ?_
  refine Go.iinc 37 #[.val (.ref b), .val (.int ((6 : Int32) + (1 : Int32)))] (1 : Int32) d22_34 rfl rfl rfl rfl ?_
  rw [show ((6 : Int32) + (1 : Int32)) = (7 : Int32) from by decide]
  refine Go.baload 6 38 d22_37 rfl A (by decide) hx ?_
  refine Go.sipush 41 (255 : Int32) d22_38 rfl rfl ?_
  refine Go.iand 42 d22_41 rfl ?_
  refine Go.getS 45 d22_42 rfl (w100 hw) Via.refl UH ?_
  refine Go.ishl 46 d22_45 rfl ?_
  refine Go.aloadN 47 d22_46 rfl rfl rfl ?_
  refine Go.iloadN 48 d22_47 rfl rfl ?_
  refine Go.baload 7 49 d22_48 rfl A (by decide) hy ?_
  refine Go.sipush 52 (255 : Int32) d22_49 rfl rfl ?_
  refine Go.iand 53 d22_52 rfl ?_
  refine Go.getS 56 d22_53 rfl (w101 hw) Via.refl UL ?_
  refine Go.ishl 57 d22_56 rfl ?_
  refine Go.ior 58 d22_57 rfl ?_
  refine Go.i2c 59 d22_58 rfl ?_
  exact Go.retN (getc x y) d22_59 rfl (t := .char) (by simp) (nar_cc (chp_chr _)) (sf' := []) (⟨rfl, rfl⟩) (fun _ q => nomatch q) (Nat.le_of_ble_eq_true rfl) (Nat.le_of_ble_eq_true rfl)
abbrev G_nbl1 (md : Md) (l : Launch) (Z : State) (n0 : Nat)  (h0 : Heap) := Go md l Z n0 ({ frames := 0, cells := 0, slots := 0, locals := 0 } : Room) jdk_52_method_3_code 1 (some .int) "java/lang/StringUTF16" "newBytesLength" (fun v h' _ => h0 = h' ∧ v = some (.int (2 : Int32)))
theorem ef_nbl1 (mid : MethodId)   : entryFrame mid #[(.int (1 : Int32))] 1 = mkF mid 0 #[.val (.int (1 : Int32))] [] := by first | (simp [entryFrame, mkF, argsToLocals, Value.category]; done) | rfl
set_option maxRecDepth 65536 in
set_option maxHeartbeats 40000000 in
theorem c_nbl1 {md : Md} {l : Launch} {Z : State} {n0 : Nat} {a0 : Array Value} (hw : HW a0 Z)  {h0 : Heap}  : G_nbl1 md l Z n0  h0 0 0 [] h0 0 #[.val (.int (1 : Int32))] [] := by
  refine Go.iloadN 1 d20_0 rfl rfl ?_
  refine Go.ifY 12 d20_1 (by decide) (by decide) (flt (by decide)).2.1 ?_
  refine Go.iloadN 13 d20_12 rfl rfl ?_
  refine Go.ldcI 15 d20_13 rfl (w95 hw) ?_
  refine Go.icmpY 55 d20_15 (by decide) (by decide) (tlt (by decide)).1 ?_
  refine Go.iloadN 56 d20_55 rfl rfl ?_
  refine Go.iconst 57 (1 : Int32) d20_56 rfl rfl ?_
  refine Go.ishl 58 d20_57 rfl ?_
  rw [show ((1 : Int32) <<< ((1 : Int32) &&& 31)) = (2 : Int32) from by decide]
  exact Go.retI d20_58 rfl (sf' := []) (⟨rfl, rfl⟩) (fun _ q => nomatch q) (Nat.le_of_ble_eq_true rfl) (Nat.le_of_ble_eq_true rfl)
abbrev G_nbf1 (md : Md) (l : Launch) (Z : State) (n0 : Nat)  (h0 : Heap) := Go md l Z n0 ({ frames := 1, cells := 1, slots := 2, locals := 12 } : Room) jdk_52_method_2_code 1 (some (.array .byte)) "java/lang/StringUTF16" "newBytesFor" (fun v h' sf' => ∃ x, v = some (.ref x) ∧ Ext h0 h' ∧ h0.size ≤ x ∧ Ary Z h' x .byte [(.int (0 : Int32)), (.int (0 : Int32))] ∧ sf' = [x] ∧ n0 ≤ x)
theorem ef_nbf1 (mid : MethodId)   : entryFrame mid #[(.int (1 : Int32))] 1 = mkF mid 0 #[.val (.int (1 : Int32))] [] := by first | (simp [entryFrame, mkF, argsToLocals, Value.category]; done) | rfl
set_option maxRecDepth 65536 in
set_option maxHeartbeats 40000000 in
theorem c_nbf1 {md : Md} {l : Launch} {Z : State} {n0 : Nat} {a0 : Array Value} (hw : HW a0 Z)  {h0 : Heap}  : G_nbf1 md l Z n0  h0 0 0 [] h0 0 #[.val (.int (1 : Int32))] [] := by
  refine Go.iloadN 1 d19_0 rfl rfl ?_
  refine Go.callS (S := []) 4 [(.int (1 : Int32))] d19_1 rfl rfl (w92 hw) (w93 hw) (w28 hw) (w94 hw) (by decide) (call_of_go (R := _) (len := 3) (W := 0) (plainFor_of_name pn_0) (fun mid => ef_nbl1 mid  ) (c_nbl1 hw  ) (w94 hw) (w28 hw) (by decide) (by decide)) (lenOf pd_0 rfl) (Nat.le_of_ble_eq_true rfl) rfl (Nat.le_of_ble_eq_true rfl) (Nat.le_of_ble_eq_true rfl) (fun _ q => nomatch q) (fun v h_1 sf_2 hq => ?_)
  obtain ⟨rfl, rfl⟩ := hq
  refine Go.more (sf' := []) ?_ (Nat.le_refl _) (Nat.le_refl _) (fun _ q => List.mem_append_right _ q)
  show G_nbf1 md l Z n0  h0 0 0 [] h0 4 #[.val (.int (1 : Int32))] [(.int (2 : Int32))]
  refine Go.newA 2 6 d19_4 rfl rfl (w30 hw) (by decide) 2 (Nat.le_refl _) (by decide) (Nat.le_of_ble_eq_true rfl) (Nat.le_of_ble_eq_true rfl) (fun h_3 x_4 g_5 q_6 E_7 lt_8 A_9 => ?_)
  have A_10 : Ary Z h_3 x_4 .byte [(.int (0 : Int32)), (.int (0 : Int32))] := A_9
  show G_nbf1 md l Z n0  h0 1 2 [x_4] h_3 6 #[.val (.int (1 : Int32))] [(.ref x_4)]
  exact Go.retA d19_6 rfl rfl rfl (sf' := [x_4]) (⟨_, rfl, E_7, (Nat.le_of_eq g_5), A_10, rfl, q_6⟩) (sub1 (List.mem_of_getElem? (i := 0) rfl)) (Nat.le_of_ble_eq_true rfl) (Nat.le_of_ble_eq_true rfl)
abbrev G_tob1 (md : Md) (l : Launch) (Z : State) (n0 : Nat) (b : Addr) (c0 : Int32) (h0 : Heap) := Go md l Z n0 ({ frames := 2, cells := 1, slots := 2, locals := 24 } : Room) jdk_52_method_14_code 5 (some (.array .byte)) "java/lang/StringUTF16" "toBytes" (fun v h' _ => ∃ x, v = some (.ref x) ∧ Ext h0 h' ∧ h0.size ≤ x ∧ Ary Z h' x .byte [(.int (lo16 c0)), (.int (hi16 c0))])
theorem ef_tob1 (mid : MethodId) (b : Addr) (c0 : Int32)  : entryFrame mid #[(.ref b), (.int (0 : Int32)), (.int (1 : Int32))] 5 = mkF mid 0 #[.val (.ref b), .val (.int (0 : Int32)), .val (.int (1 : Int32)), .unset, .unset] [] := by first | (simp [entryFrame, mkF, argsToLocals, Value.category]; done) | rfl
set_option maxRecDepth 65536 in
set_option maxHeartbeats 40000000 in
theorem c_tob1 {md : Md} {l : Launch} {Z : State} {n0 : Nat} {a0 : Array Value} (hw : HW a0 Z) (b : Addr) (c0 : Int32) {h0 : Heap} (A : Ary Z h0 b .char [(.int c0)]) (UA : Sta Z Z.heap "java/lang/StringUTF16" "$assertionsDisabled" "Z" (.int 1)) (UH : Sta Z Z.heap "java/lang/StringUTF16" "HI_BYTE_SHIFT" "I" (.int 0)) (UL : Sta Z Z.heap "java/lang/StringUTF16" "LO_BYTE_SHIFT" "I" (.int 8))  : G_tob1 md l Z n0 b c0 h0 0 0 [] h0 0 #[.val (.ref b), .val (.int (0 : Int32)), .val (.int (1 : Int32)), .unset, .unset] [] := by
  refine Go.iloadN 1 d18_0 rfl rfl ?_
  refine Go.callS (S := []) 4 [(.int (1 : Int32))] d18_1 rfl rfl (w89 hw) (w90 hw) (w28 hw) (w91 hw) (by decide) (call_of_go (R := _) (len := 3) (W := 0) (plainFor_of_name pn_0) (fun mid => ef_nbf1 mid  ) (c_nbf1 hw  ) (w91 hw) (w28 hw) (by decide) (by decide)) (lenOf pd_1 rfl) (Nat.le_of_ble_eq_true rfl) rfl (Nat.le_of_ble_eq_true rfl) (Nat.le_of_ble_eq_true rfl) (fun _ q => nomatch q) (fun v h_1 sf_2 hq => ?_)
  obtain ⟨d, rfl, X_d, le_d, A_d, rfl, n0d⟩ := hq
  have nd : d ≠ b := Nat.ne_of_gt (Nat.lt_of_lt_of_le A.lt le_d)
  show G_tob1 md l Z n0 b c0 h0 1 2 [d] h_1 4 #[.val (.ref b), .val (.int (0 : Int32)), .val (.int (1 : Int32)), .unset, .unset] [(.ref d)]
  refine Go.astoreN 5 #[.val (.ref b), .val (.int (0 : Int32)), .val (.int (1 : Int32)), .val (.ref d), .unset] d18_4 rfl rfl rfl ?_
  refine Go.iconst 6 (0 : Int32) d18_5 rfl rfl ?_
  refine Go.istore 8 #[.val (.ref b), .val (.int (0 : Int32)), .val (.int (1 : Int32)), .val (.ref d), .val (.int (0 : Int32))] d18_6 rfl rfl ?_
  refine Go.iload 10 d18_8 rfl rfl ?_
  refine Go.iloadN 11 d18_10 rfl rfl ?_
  refine Go.icmpN 14 d18_11 rfl (tlt (by decide)).2.1 ?_
  refine Go.aloadN 15 d18_14 rfl rfl rfl ?_
  refine Go.iload 17 d18_15 rfl rfl ?_
  refine Go.aloadN 18 d18_17 rfl rfl rfl ?_
  refine Go.iloadN 19 d18_18 rfl rfl ?_
  have f_3 := A.ext X_d
  refine Go.caload 0 20 d18_19 rfl f_3 (by decide) rfl ?_
  refine Go.callS (S := []) 23 [(.ref d), (.int (0 : Int32)), (.int c0)] d18_20 rfl rfl (w96 hw) (w97 hw) (w28 hw) (w98 hw) (by decide) (call_of_go (R := _) (len := 3) (W := 0) (plainFor_of_name pn_0) (fun mid => ef_putc0 mid d c0 [(.int (0 : Int32)), (.int (0 : Int32))] ) (c_putc0 hw d c0 [(.int (0 : Int32)), (.int (0 : Int32))] A_d n0d (Nat.le_of_ble_eq_true rfl) UA UH UL) (w98 hw) (w28 hw) (by decide) (by decide)) (lenOf pd_2 rfl) (Nat.le_of_ble_eq_true rfl) rfl (Nat.le_of_ble_eq_true rfl) (Nat.le_of_ble_eq_true rfl) (fun _ q => q) (fun v h_7 sf_8 hq => ?_)
  obtain ⟨rfl, K_4, A_5⟩ := hq
  have A_6 : Ary Z h_7 d .byte [(.int (lo16 c0)), (.int (hi16 c0))] := A_5
  refine Go.more (sf' := [d]) ?_ (Nat.le_refl _) (Nat.le_refl _) (fun _ q => List.mem_append_right _ q)
  show G_tob1 md l Z n0 b c0 h0 1 2 [d] h_7 23 #[.val (.ref b), .val (.int (0 : Int32)), .val (.int (1 : Int32)), .val (.ref d), .val (.int (0 : Int32))] []
  refine Go.iinc 26 #[.val (.ref b), .val (.int ((0 : Int32) + (1 : Int32))), .val (.int (1 : Int32)), .val (.ref d), .val (.int (0 : Int32))] (1 : Int32) d18_23 rfl rfl rfl rfl ?_
  rw [show ((0 : Int32) + (1 : Int32)) = (1 : Int32) from by decide]
  refine Go.iinc 29 #[.val (.ref b), .val (.int (1 : Int32)), .val (.int (1 : Int32)), .val (.ref d), .val (.int ((0 : Int32) + (1 : Int32)))] (1 : Int32) d18_26 rfl rfl rfl rfl ?_
  rw [show ((0 : Int32) + (1 : Int32)) = (1 : Int32) from by decide]
  refine Go.goto 8 d18_29 (by decide) (by decide) ?_
  refine Go.iload 10 d18_8 rfl rfl ?_
  refine Go.iloadN 11 d18_10 rfl rfl ?_
  refine Go.icmpY 32 d18_11 (by decide) (by decide) (flt (by decide)).2.1 ?_
  refine Go.aloadN 33 d18_32 rfl rfl rfl ?_
  have X_9 : Ext h0 h_7 := extK X_d K_4 (allS le_d all0)
  exact Go.retA d18_33 rfl rfl rfl (sf' := []) (⟨_, rfl, X_9, le_d, A_6⟩) (fun _ q => nomatch q) (Nat.le_of_ble_eq_true rfl) (Nat.le_of_ble_eq_true rfl)
abbrev G_cmp5_1 (md : Md) (l : Launch) (Z : State) (n0 : Nat) (b d : Addr) (c0 : Int32) (h0 : Heap) := Go md l Z n0 ({ frames := 0, cells := 0, slots := 0, locals := 0 } : Room) jdk_52_method_21_code 7 (some .int) "java/lang/StringUTF16" "compress" (fun v h' _ => ∃ r : Int32, v = some (.int r) ∧ Keep h0 h' [d] ∧ ((r = (1 : Int32) ∧ (¬ (255 : Int32) < c0) ∧ Ary Z h' d .byte [(.int c0.toInt8.toInt32)]) ∨ (r = (0 : Int32) ∧ (255 : Int32) < c0)))
theorem ef_cmp5_1 (mid : MethodId) (b d : Addr) (c0 : Int32)  : entryFrame mid #[(.ref b), (.int (0 : Int32)), (.ref d), (.int (0 : Int32)), (.int (1 : Int32))] 7 = mkF mid 0 #[.val (.ref b), .val (.int (0 : Int32)), .val (.ref d), .val (.int (0 : Int32)), .val (.int (1 : Int32)), .unset, .unset] [] := by first | (simp [entryFrame, mkF, argsToLocals, Value.category]; done) | rfl
set_option maxRecDepth 65536 in
set_option maxHeartbeats 40000000 in
theorem c_cmp5_1 {md : Md} {l : Launch} {Z : State} {n0 : Nat} {a0 : Array Value} (hw : HW a0 Z) (b d : Addr) (c0 : Int32) {h0 : Heap} (A : Ary Z h0 b .char [(.int c0)]) (D : Ary Z h0 d .byte [(.int (0 : Int32))]) (n0d : n0 ≤ d) (nbd : b ≠ d) : G_cmp5_1 md l Z n0 b d c0 h0 0 0 [d] h0 0 #[.val (.ref b), .val (.int (0 : Int32)), .val (.ref d), .val (.int (0 : Int32)), .val (.int (1 : Int32)), .unset, .unset] [] := by
  refine Go.iconst 1 (0 : Int32) d7_0 rfl rfl ?_
  refine Go.istore 3 #[.val (.ref b), .val (.int (0 : Int32)), .val (.ref d), .val (.int (0 : Int32)), .val (.int (1 : Int32)), .val (.int (0 : Int32)), .unset] d7_1 rfl rfl ?_
  refine Go.iload 5 d7_3 rfl rfl ?_
  refine Go.iload 7 d7_5 rfl rfl ?_
  refine Go.icmpN 10 d7_7 rfl (tlt (by decide)).2.1 ?_
  refine Go.aloadN 11 d7_10 rfl rfl rfl ?_
  refine Go.iloadN 12 d7_11 rfl rfl ?_
  refine Go.caload 0 13 d7_12 rfl A (by decide) rfl ?_
  refine Go.istore 15 #[.val (.ref b), .val (.int (0 : Int32)), .val (.ref d), .val (.int (0 : Int32)), .val (.int (1 : Int32)), .val (.int (0 : Int32)), .val (.int c0)] d7_13 rfl rfl ?_
  refine Go.iload 17 d7_15 rfl rfl ?_
  refine Go.sipush 20 (255 : Int32) d7_17 rfl rfl ?_
  by_cases hb_0 : (255 : Int32) < c0
  · skip
    refine Go.icmpN 23 d7_20 rfl (tlt hb_0).2.2.2 ?_
    refine Go.iload 25 d7_23 rfl rfl ?_
    exact Go.retI d7_25 rfl (sf' := []) (⟨_, rfl, (Keep.refl h0 [d]), Or.inr (⟨rfl, hb_0⟩)⟩) (fun _ q => nomatch q) (Nat.le_of_ble_eq_true rfl) (Nat.le_of_ble_eq_true rfl)
  · skip
    refine Go.icmpY 26 d7_20 (by decide) (by decide) (flt hb_0).2.2.2 ?_
    refine Go.aloadN 27 d7_26 rfl rfl rfl ?_
    refine Go.iloadN 28 d7_27 rfl rfl ?_
    refine Go.iload 30 d7_28 rfl rfl ?_
    refine Go.i2b 31 d7_30 rfl ?_
    refine Go.bastore 0 32 d7_31 rfl D (by decide) (Nat.le_of_ble_eq_true rfl) (List.mem_of_getElem? (i := 0) rfl) n0d (fun h_1 W_2 A_3 => ?_)
    have A_4 : Ary Z h_1 d .byte [(.int (c0).toInt8.toInt32)] := by have := A_3; rw [i8_idem _] at this; exact this
    refine Go.iinc 35 #[.val (.ref b), .val (.int ((0 : Int32) + (1 : Int32))), .val (.ref d), .val (.int (0 : Int32)), .val (.int (1 : Int32)), .val (.int (0 : Int32)), .val (.int c0)] (1 : Int32) d7_32 rfl rfl rfl rfl ?_
    rw [show ((0 : Int32) + (1 : Int32)) = (1 : Int32) from by decide]
    refine Go.iinc 38 #[.val (.ref b), .val (.int (1 : Int32)), .val (.ref d), .val (.int ((0 : Int32) + (1 : Int32))), .val (.int (1 : Int32)), .val (.int (0 : Int32)), .val (.int c0)] (1 : Int32) d7_35 rfl rfl rfl rfl ?_
    rw [show ((0 : Int32) + (1 : Int32)) = (1 : Int32) from by decide]
    refine Go.iinc 41 #[.val (.ref b), .val (.int (1 : Int32)), .val (.ref d), .val (.int (1 : Int32)), .val (.int (1 : Int32)), .val (.int ((0 : Int32) + (1 : Int32))), .val (.int c0)] (1 : Int32) d7_38 rfl rfl rfl rfl ?_
    rw [show ((0 : Int32) + (1 : Int32)) = (1 : Int32) from by decide]
    refine Go.goto 3 d7_41 (by decide) (by decide) ?_
    refine Go.iload 5 d7_3 rfl rfl ?_
    refine Go.iload 7 d7_5 rfl rfl ?_
    refine Go.icmpY 44 d7_7 (by decide) (by decide) (flt (by decide)).2.1 ?_
    refine Go.iload 46 d7_44 rfl rfl ?_
    exact Go.retI d7_46 rfl (sf' := []) (⟨_, rfl, ((Keep.refl h0 [d]).wr W_2 (Or.inl (List.mem_of_getElem? (i := 0) rfl))), Or.inl ⟨rfl, hb_0, A_4⟩⟩) (fun _ q => nomatch q) (Nat.le_of_ble_eq_true rfl) (Nat.le_of_ble_eq_true rfl)
abbrev G_cmp3_1 (md : Md) (l : Launch) (Z : State) (n0 : Nat) (b : Addr) (c0 : Int32) (h0 : Heap) := Go md l Z n0 ({ frames := 3, cells := 2, slots := 3, locals := 40 } : Room) jdk_52_method_16_code 6 (some (.array .byte)) "java/lang/StringUTF16" "compress" (fun v h' _ => ∃ x, v = some (.ref x) ∧ Ext h0 h' ∧ h0.size ≤ x ∧ (((¬ (255 : Int32) < c0) ∧ Ary Z h' x .byte [(.int c0.toInt8.toInt32)]) ∨ (((255 : Int32) < c0) ∧ Ary Z h' x .byte [(.int (lo16 c0)), (.int (hi16 c0))])))
theorem ef_cmp3_1 (mid : MethodId) (b : Addr) (c0 : Int32)  : entryFrame mid #[(.ref b), (.int (0 : Int32)), (.int (1 : Int32))] 6 = mkF mid 0 #[.val (.ref b), .val (.int (0 : Int32)), .val (.int (1 : Int32)), .unset, .unset, .unset] [] := by first | (simp [entryFrame, mkF, argsToLocals, Value.category]; done) | rfl
set_option maxRecDepth 65536 in
set_option maxHeartbeats 40000000 in
theorem c_cmp3_1 {md : Md} {l : Launch} {Z : State} {n0 : Nat} {a0 : Array Value} (hw : HW a0 Z) (b : Addr) (c0 : Int32) {h0 : Heap} (A : Ary Z h0 b .char [(.int c0)]) (b_c0 : CHP c0) (UA : Sta Z Z.heap "java/lang/StringUTF16" "$assertionsDisabled" "Z" (.int 1)) (UH : Sta Z Z.heap "java/lang/StringUTF16" "HI_BYTE_SHIFT" "I" (.int 0)) (UL : Sta Z Z.heap "java/lang/StringUTF16" "LO_BYTE_SHIFT" "I" (.int 8))  : G_cmp3_1 md l Z n0 b c0 h0 0 0 [] h0 0 #[.val (.ref b), .val (.int (0 : Int32)), .val (.int (1 : Int32)), .unset, .unset, .unset] [] := by
  refine Go.iloadN 1 d6_0 rfl rfl ?_
  refine Go.newA 1 3 d6_1 rfl rfl (w30 hw) (by decide) 1 (Nat.le_refl _) (by decide) (Nat.le_of_ble_eq_true rfl) (Nat.le_of_ble_eq_true rfl) (fun h_1 x_2 g_3 q_4 E_5 lt_6 A_7 => ?_)
  have A_8 : Ary Z h_1 x_2 .byte [(.int (0 : Int32))] := A_7
  show G_cmp3_1 md l Z n0 b c0 h0 1 1 [x_2] h_1 3 #[.val (.ref b), .val (.int (0 : Int32)), .val (.int (1 : Int32)), .unset, .unset, .unset] [(.ref x_2)]
  refine Go.astoreN 4 #[.val (.ref b), .val (.int (0 : Int32)), .val (.int (1 : Int32)), .val (.ref x_2), .unset, .unset] d6_3 rfl rfl rfl ?_
  refine Go.aloadN 5 d6_4 rfl rfl rfl ?_
  refine Go.iloadN 6 d6_5 rfl rfl ?_
  refine Go.aloadN 7 d6_6 rfl rfl rfl ?_
  refine Go.iconst 8 (0 : Int32) d6_7 rfl rfl ?_
  refine Go.iloadN 9 d6_8 rfl rfl ?_
  have f_9 := A.ext E_5
  have nbd : b ≠ x_2 := Nat.ne_of_lt (Nat.lt_of_lt_of_le A.lt (Nat.le_of_eq g_3))
  refine Go.callS (S := []) 12 [(.ref b), (.int (0 : Int32)), (.ref x_2), (.int (0 : Int32)), (.int (1 : Int32))] d6_9 rfl rfl (w31 hw) (w32 hw) (w28 hw) (w33 hw) (by decide) (call_of_go (R := _) (len := 3) (W := 0) (plainFor_of_name pn_0) (fun mid => ef_cmp5_1 mid b x_2 c0 ) (c_cmp5_1 hw b x_2 c0 f_9 A_8 q_4 nbd) (w33 hw) (w28 hw) (by decide) (by decide)) (lenOf pd_3 rfl) (Nat.le_of_ble_eq_true rfl) rfl (Nat.le_of_ble_eq_true rfl) (Nat.le_of_ble_eq_true rfl) (fun _ q => q) (fun v h_10 sf_11 hq => ?_)
  obtain ⟨r, rfl, K5, ⟨rfl, hlat, D5⟩ | ⟨rfl, hbig⟩⟩ := hq
  · skip
    refine Go.more (sf' := [x_2]) ?_ (Nat.le_refl _) (Nat.le_refl _) (fun _ q => List.mem_append_right _ q)
    show G_cmp3_1 md l Z n0 b c0 h0 1 1 [x_2] h_10 12 #[.val (.ref b), .val (.int (0 : Int32)), .val (.int (1 : Int32)), .val (.ref x_2), .unset, .unset] [(.int (1 : Int32))]
    refine Go.istore 14 #[.val (.ref b), .val (.int (0 : Int32)), .val (.int (1 : Int32)), .val (.ref x_2), .val (.int (1 : Int32)), .unset] d6_12 rfl rfl ?_
    refine Go.iload 16 d6_14 rfl rfl ?_
    refine Go.iloadN 17 d6_16 rfl rfl ?_
    refine Go.icmpY 57 d6_17 (by decide) (by decide) (teq (by decide)).1 ?_
    refine Go.aloadN 58 d6_57 rfl rfl rfl ?_
    have X_12 : Ext h0 h_10 := extK E_5 K5 (allS (Nat.le_of_eq g_3) all0)
    exact Go.retA d6_58 rfl rfl rfl (sf' := []) (⟨_, rfl, X_12, (Nat.le_of_eq g_3), Or.inl ⟨hlat, D5⟩⟩) (fun _ q => nomatch q) (Nat.le_of_ble_eq_true rfl) (Nat.le_of_ble_eq_true rfl)
  · skip
    refine Go.more (sf' := [x_2]) ?_ (Nat.le_refl _) (Nat.le_refl _) (fun _ q => List.mem_append_right _ q)
    show G_cmp3_1 md l Z n0 b c0 h0 1 1 [x_2] h_10 12 #[.val (.ref b), .val (.int (0 : Int32)), .val (.int (1 : Int32)), .val (.ref x_2), .unset, .unset] [(.int (0 : Int32))]
    refine Go.istore 14 #[.val (.ref b), .val (.int (0 : Int32)), .val (.int (1 : Int32)), .val (.ref x_2), .val (.int (0 : Int32)), .unset] d6_12 rfl rfl ?_
    refine Go.iload 16 d6_14 rfl rfl ?_
    refine Go.iloadN 17 d6_16 rfl rfl ?_
    refine Go.icmpN 20 d6_17 rfl (feq (by decide)).1 ?_
    refine Go.aloadN 21 d6_20 rfl rfl rfl ?_
    refine Go.iloadN 22 d6_21 rfl rfl ?_
    refine Go.iloadN 23 d6_22 rfl rfl ?_
    have X_13 : Ext h0 h_10 := extK E_5 K5 (allS (Nat.le_of_eq g_3) all0)
    have f_14 := A.ext X_13
    refine Go.callS (S := []) 26 [(.ref b), (.int (0 : Int32)), (.int (1 : Int32))] d6_23 rfl rfl (w86 hw) (w87 hw) (w28 hw) (w88 hw) (by decide) (call_of_go (R := _) (len := 3) (W := 0) (plainFor_of_name pn_0) (fun mid => ef_tob1 mid b c0 ) (c_tob1 hw b c0 f_14 UA UH UL) (w88 hw) (w28 hw) (by decide) (by decide)) (lenOf pd_4 rfl) (Nat.le_of_ble_eq_true rfl) rfl (Nat.le_of_ble_eq_true rfl) (Nat.le_of_ble_eq_true rfl) (fun _ q => nomatch q) (fun v h_15 sf_20 hq => ?_)
    obtain ⟨x_16, rfl, E_17, le_18, A_19⟩ := hq
    refine Go.more (sf' := [x_2]) ?_ (Nat.le_refl _) (Nat.le_refl _) (fun _ q => List.mem_append_right _ q)
    show G_cmp3_1 md l Z n0 b c0 h0 2 3 [x_2] h_15 26 #[.val (.ref b), .val (.int (0 : Int32)), .val (.int (1 : Int32)), .val (.ref x_2), .val (.int (0 : Int32)), .unset] [(.ref x_16)]
    refine Go.astore 28 #[.val (.ref b), .val (.int (0 : Int32)), .val (.int (1 : Int32)), .val (.ref x_2), .val (.int (0 : Int32)), .val (.ref x_16)] d6_26 rfl rfl rfl ?_
    refine Go.aload 30 d6_28 rfl rfl rfl ?_
    refine Go.iload 32 d6_30 rfl rfl ?_
    refine Go.callS (S := []) 35 [(.ref x_16), (.int (0 : Int32))] d6_32 rfl rfl (w102 hw) (w103 hw) (w28 hw) (w104 hw) (by decide) (call_of_go (R := _) (len := 3) (W := 0) (plainFor_of_name pn_0) (fun mid => ef_getc0 mid x_16 (lo16 c0) (hi16 c0) [(.int (lo16 c0)), (.int (hi16 c0))] ) (c_getc0 hw x_16 (lo16 c0) (hi16 c0) [(.int (lo16 c0)), (.int (hi16 c0))] A_19 rfl rfl UA UH UL) (w104 hw) (w28 hw) (by decide) (by decide)) (lenOf pd_5 rfl) (Nat.le_of_ble_eq_true rfl) rfl (Nat.le_of_ble_eq_true rfl) (Nat.le_of_ble_eq_true rfl) (fun _ q => nomatch q) (fun v h_21 sf_22 hq => ?_)
    obtain ⟨rfl, rfl⟩ := hq
    rw [rt16 b_c0]
    refine Go.more (sf' := [x_2]) ?_ (Nat.le_refl _) (Nat.le_refl _) (fun _ q => List.mem_append_right _ q)
    show G_cmp3_1 md l Z n0 b c0 h0 2 3 [x_2] h_15 35 #[.val (.ref b), .val (.int (0 : Int32)), .val (.int (1 : Int32)), .val (.ref x_2), .val (.int (0 : Int32)), .val (.ref x_16)] [(.int c0)]
    refine Go.sipush 38 (255 : Int32) d6_35 rfl rfl ?_
    refine Go.icmpY 54 d6_38 (by decide) (by decide) (tlt hbig).2.2.1 ?_
    refine Go.aload 56 d6_54 rfl rfl rfl ?_
    have X_23 : Ext h0 h_15 := extT X_13 E_17
    exact Go.retA d6_56 rfl rfl rfl (sf' := []) (⟨_, rfl, X_23, (Nat.le_trans X_13.1 le_18), Or.inr ⟨hbig, A_19⟩⟩) (fun _ q => nomatch q) (Nat.le_of_ble_eq_true rfl) (Nat.le_of_ble_eq_true rfl)
abbrev G_cfl1_0 (md : Md) (l : Launch) (Z : State) (n0 : Nat) (d : Addr) (vs : List Value) (h0 : Heap) := Go md l Z n0 ({ frames := 0, cells := 0, slots := 0, locals := 0 } : Room) jdk_52_method_15_code 2 (some .byte) "java/lang/StringUTF16" "coderFromArrayLen" (fun v h' _ => h0 = h' ∧ v = some (.int 0))
theorem ef_cfl1_0 (mid : MethodId) (d : Addr) (vs : List Value)  : entryFrame mid #[(.ref d), (.int (1 : Int32))] 2 = mkF mid 0 #[.val (.ref d), .val (.int (1 : Int32))] [] := by first | (simp [entryFrame, mkF, argsToLocals, Value.category]; done) | rfl
set_option maxRecDepth 65536 in
set_option maxHeartbeats 40000000 in
theorem c_cfl1_0 {md : Md} {l : Launch} {Z : State} {n0 : Nat} {a0 : Array Value} (hw : HW a0 Z) (d : Addr) (vs : List Value) {h0 : Heap} (A : Ary Z h0 d .byte vs) (hl : vs.length = 1) : G_cfl1_0 md l Z n0 d vs h0 0 0 [] h0 0 #[.val (.ref d), .val (.int (1 : Int32))] [] := by
  refine Go.iloadN 1 d8_0 rfl rfl ?_
  refine Go.aloadN 2 d8_1 rfl rfl rfl ?_
  refine Go.alen 3 (1 : Int32) d8_2 rfl A (by rw [hl]; rfl) ?_
  refine Go.isub 4 d8_3 rfl ?_
  rw [show ((1 : Int32) - (1 : Int32)) = (0 : Int32) from by decide]
  refine Go.bipush 6 (31 : Int32) d8_4 rfl rfl ?_
  refine Go.iushr 7 d8_6 rfl ?_
  refine Go.i2b 8 d8_7 rfl ?_
  exact Go.retN (0 : Int32) d8_8 rfl (t := .byte) (by simp) (by decide) (sf' := []) (⟨rfl, rfl⟩) (fun _ q => nomatch q) (Nat.le_of_ble_eq_true rfl) (Nat.le_of_ble_eq_true rfl)
abbrev G_cfl1_1 (md : Md) (l : Launch) (Z : State) (n0 : Nat) (d : Addr) (vs : List Value) (h0 : Heap) := Go md l Z n0 ({ frames := 0, cells := 0, slots := 0, locals := 0 } : Room) jdk_52_method_15_code 2 (some .byte) "java/lang/StringUTF16" "coderFromArrayLen" (fun v h' _ => h0 = h' ∧ v = some (.int 1))
theorem ef_cfl1_1 (mid : MethodId) (d : Addr) (vs : List Value)  : entryFrame mid #[(.ref d), (.int (1 : Int32))] 2 = mkF mid 0 #[.val (.ref d), .val (.int (1 : Int32))] [] := by first | (simp [entryFrame, mkF, argsToLocals, Value.category]; done) | rfl
set_option maxRecDepth 65536 in
set_option maxHeartbeats 40000000 in
theorem c_cfl1_1 {md : Md} {l : Launch} {Z : State} {n0 : Nat} {a0 : Array Value} (hw : HW a0 Z) (d : Addr) (vs : List Value) {h0 : Heap} (A : Ary Z h0 d .byte vs) (hl : vs.length = 2) : G_cfl1_1 md l Z n0 d vs h0 0 0 [] h0 0 #[.val (.ref d), .val (.int (1 : Int32))] [] := by
  refine Go.iloadN 1 d8_0 rfl rfl ?_
  refine Go.aloadN 2 d8_1 rfl rfl rfl ?_
  refine Go.alen 3 (2 : Int32) d8_2 rfl A (by rw [hl]; rfl) ?_
  refine Go.isub 4 d8_3 rfl ?_
  rw [show ((1 : Int32) - (2 : Int32)) = (-1 : Int32) from by decide]
  refine Go.bipush 6 (31 : Int32) d8_4 rfl rfl ?_
  refine Go.iushr 7 d8_6 rfl ?_
  refine Go.i2b 8 d8_7 rfl ?_
  exact Go.retN (1 : Int32) d8_8 rfl (t := .byte) (by simp) (by decide) (sf' := []) (⟨rfl, rfl⟩) (fun _ q => nomatch q) (Nat.le_of_ble_eq_true rfl) (Nat.le_of_ble_eq_true rfl)
abbrev G_new4_1 (md : Md) (l : Launch) (Z : State) (n0 : Nat) (x b : Addr) (z : Int32) (c0 : Int32) (h0 : Heap) := Go md l Z n0 ({ frames := 4, cells := 2, slots := 3, locals := 57 } : Room) jdk_42_method_149_code 6 none "java/lang/String" "<init>" (fun v h' _ => v = none ∧ Keep h0 h' [x] ∧ Gst Z h' x [c0])
theorem ef_new4_1 (mid : MethodId) (x b : Addr) (z : Int32) (c0 : Int32)  : entryFrame mid #[(.ref x), (.ref b), (.int (0 : Int32)), (.int (1 : Int32)), .null] 6 = mkF mid 0 #[.val (.ref x), .val (.ref b), .val (.int (0 : Int32)), .val (.int (1 : Int32)), .val .null, .unset] [] := by first | (simp [entryFrame, mkF, argsToLocals, Value.category]; done) | rfl
set_option maxRecDepth 65536 in
set_option maxHeartbeats 40000000 in
theorem c_new4_1 {md : Md} {l : Launch} {Z : State} {n0 : Nat} {a0 : Array Value} (hw : HW a0 Z) (x b : Addr) (z : Int32) (c0 : Int32) {h0 : Heap} (E : Exa Z h0 x "java/lang/String") (n0x : n0 ≤ x) {v0 c0_ : Value} (V : Fld Z h0 x "java/lang/String" "value" "[B" v0) (C : Fld Z h0 x "java/lang/String" "coder" "B" c0_) (A : Ary Z h0 b .char [(.int c0)]) (b_c0 : CHP c0) (SC : Sta Z Z.heap "java/lang/String" "COMPACT_STRINGS" "Z" (.int z)) (hz : ¬ z = 0) (UA : Sta Z Z.heap "java/lang/StringUTF16" "$assertionsDisabled" "Z" (.int 1)) (UH : Sta Z Z.heap "java/lang/StringUTF16" "HI_BYTE_SHIFT" "I" (.int 0)) (UL : Sta Z Z.heap "java/lang/StringUTF16" "LO_BYTE_SHIFT" "I" (.int 8))  : G_new4_1 md l Z n0 x b z c0 h0 0 0 [x] h0 0 #[.val (.ref x), .val (.ref b), .val (.int (0 : Int32)), .val (.int (1 : Int32)), .val .null, .unset] [] := by
  refine Go.aloadN 1 d4_0 rfl rfl rfl ?_
  refine Go.initO (W := 0) 4 d4_1 rfl (w22 hw) (w23 hw) (w24 hw) rfl (by decide) (Nat.le_of_ble_eq_true rfl) (by decide) ?_
  refine Go.iloadN 5 d4_4 rfl rfl ?_
  refine Go.ifY 27 d4_5 (by decide) (by decide) (feq (by decide)).2 ?_
  refine Go.getS 30 d4_27 rfl (w25 hw) Via.refl SC ?_
  refine Go.ifN 33 d4_30 rfl (feq hz).1 ?_
  refine Go.aloadN 34 d4_33 rfl rfl rfl ?_
  refine Go.iloadN 35 d4_34 rfl rfl ?_
  refine Go.iloadN 36 d4_35 rfl rfl ?_
  refine Go.callS (S := []) 39 [(.ref b), (.int (0 : Int32)), (.int (1 : Int32))] d4_36 rfl rfl (w26 hw) (w27 hw) (w28 hw) (w29 hw) (by decide) (call_of_go (R := _) (len := 3) (W := 0) (plainFor_of_name pn_0) (fun mid => ef_cmp3_1 mid b c0 ) (c_cmp3_1 hw b c0 A b_c0 UA UH UL) (w29 hw) (w28 hw) (by decide) (by decide)) (lenOf pd_4 rfl) (Nat.le_of_ble_eq_true rfl) rfl (Nat.le_of_ble_eq_true rfl) (Nat.le_of_ble_eq_true rfl) (fun _ q => nomatch q) (fun v h_1 sf_2 hq => ?_)
  obtain ⟨y, rfl, X3, le3, ⟨hlat, A3⟩ | ⟨hbig, A3⟩⟩ := hq
  · skip
    refine Go.more (sf' := [x]) ?_ (Nat.le_refl _) (Nat.le_refl _) (fun _ q => List.mem_append_right _ q)
    show G_new4_1 md l Z n0 x b z c0 h0 2 3 [x] h_1 39 #[.val (.ref x), .val (.ref b), .val (.int (0 : Int32)), .val (.int (1 : Int32)), .val .null, .unset] [(.ref y)]
    have nyx : y ≠ x := Nat.ne_of_gt (Nat.lt_of_lt_of_le E.lt le3)
    refine Go.astore 41 #[.val (.ref x), .val (.ref b), .val (.int (0 : Int32)), .val (.int (1 : Int32)), .val .null, .val (.ref y)] d4_39 rfl rfl rfl ?_
    refine Go.aloadN 42 d4_41 rfl rfl rfl ?_
    refine Go.aload 44 d4_42 rfl rfl rfl ?_
    refine Go.iloadN 45 d4_44 rfl rfl ?_
    refine Go.callS (S := [(.ref x)]) 48 [(.ref y), (.int (1 : Int32))] d4_45 rfl rfl (w34 hw) (w35 hw) (w28 hw) (w36 hw) (by decide) (call_of_go (R := _) (len := 3) (W := 1) (plainFor_of_name pn_0) (fun mid => ef_cfl1_0 mid y [(.int c0.toInt8.toInt32)] ) (c_cfl1_0 hw y [(.int c0.toInt8.toInt32)] A3 rfl) (w36 hw) (w28 hw) (by decide) (by decide)) (lenOf pd_6 rfl) (Nat.le_of_ble_eq_true rfl) rfl (Nat.le_of_ble_eq_true rfl) (Nat.le_of_ble_eq_true rfl) (fun _ q => nomatch q) (fun v h_3 sf_4 hq => ?_)
    obtain ⟨rfl, rfl⟩ := hq
    refine Go.more (sf' := [x]) ?_ (Nat.le_refl _) (Nat.le_refl _) (fun _ q => List.mem_append_right _ q)
    show G_new4_1 md l Z n0 x b z c0 h0 2 3 [x] h_1 48 #[.val (.ref x), .val (.ref b), .val (.int (0 : Int32)), .val (.int (1 : Int32)), .val .null, .val (.ref y)] [(.int (0 : Int32)), (.ref x)]
    have f_5 := E.ext X3
    have f_6 := C.ext X3
    refine Go.putF 51 (.int (0 : Int32)) d4_48 rfl (w37 hw) Via.refl f_6 f_5 (Or.inr ⟨(w38 hw), rfl, rfl⟩) (w13 hw) (ty := .byte) (by decide) rfl rfl (List.mem_of_getElem? (i := 0) rfl) n0x (fun h_7 W_8 => ?_)
    refine Go.aloadN 52 d4_51 rfl rfl rfl ?_
    refine Go.aload 54 d4_52 rfl rfl rfl ?_
    have f_9 := (f_5.wr W_8)
    have f_10 := ((V.ext X3).other W_8 (Or.inr (slot_ne (Or.inr (w40 hw)) (Or.inr (w38 hw)) (by decide) (t := (.array .byte)) (t' := .byte) (by decide) (by decide))))
    refine Go.putF 57 (.ref y) d4_54 rfl (w39 hw) Via.refl f_10 f_9 (Or.inr ⟨(w40 hw), rfl, rfl⟩) (w13 hw) (ty := (.array .byte)) (by decide) rfl rfl (List.mem_of_getElem? (i := 0) rfl) n0x (fun h_11 W_12 => ?_)
    have f_13 := (f_9.wr W_12)
    have f_14 := ((f_6.same W_8).other W_12 (Or.inr (slot_ne (Or.inr (w38 hw)) (Or.inr (w40 hw)) (by decide) (t := .byte) (t' := (.array .byte)) (by decide) (by decide))))
    have f_15 := ((A3.other W_8 nyx).other W_12 nyx)
    exact Go.ret0 d4_57 rfl (sf' := []) (⟨rfl, ((((Keep.refl h0 [x]).ext X3).wr W_8 (Or.inl (List.mem_of_getElem? (i := 0) rfl))).wr W_12 (Or.inl (List.mem_of_getElem? (i := 0) rfl))), y, (0 : Int32), _, f_13, f_14, (f_10.same W_12), f_15, Or.inl ⟨rfl, rfl, (latC ⟨chp0 b_c0, hlat⟩ latN)⟩⟩) (fun _ q => nomatch q) (Nat.le_of_ble_eq_true rfl) (Nat.le_of_ble_eq_true rfl)
  · skip
    refine Go.more (sf' := [x]) ?_ (Nat.le_refl _) (Nat.le_refl _) (fun _ q => List.mem_append_right _ q)
    show G_new4_1 md l Z n0 x b z c0 h0 2 3 [x] h_1 39 #[.val (.ref x), .val (.ref b), .val (.int (0 : Int32)), .val (.int (1 : Int32)), .val .null, .unset] [(.ref y)]
    have nyx : y ≠ x := Nat.ne_of_gt (Nat.lt_of_lt_of_le E.lt le3)
    refine Go.astore 41 #[.val (.ref x), .val (.ref b), .val (.int (0 : Int32)), .val (.int (1 : Int32)), .val .null, .val (.ref y)] d4_39 rfl rfl rfl ?_
    refine Go.aloadN 42 d4_41 rfl rfl rfl ?_
    refine Go.aload 44 d4_42 rfl rfl rfl ?_
    refine Go.iloadN 45 d4_44 rfl rfl ?_
    refine Go.callS (S := [(.ref x)]) 48 [(.ref y), (.int (1 : Int32))] d4_45 rfl rfl (w34 hw) (w35 hw) (w28 hw) (w36 hw) (by decide) (call_of_go (R := _) (len := 3) (W := 1) (plainFor_of_name pn_0) (fun mid => ef_cfl1_1 mid y [(.int (lo16 c0)), (.int (hi16 c0))] ) (c_cfl1_1 hw y [(.int (lo16 c0)), (.int (hi16 c0))] A3 rfl) (w36 hw) (w28 hw) (by decide) (by decide)) (lenOf pd_6 rfl) (Nat.le_of_ble_eq_true rfl) rfl (Nat.le_of_ble_eq_true rfl) (Nat.le_of_ble_eq_true rfl) (fun _ q => nomatch q) (fun v h_16 sf_17 hq => ?_)
    obtain ⟨rfl, rfl⟩ := hq
    refine Go.more (sf' := [x]) ?_ (Nat.le_refl _) (Nat.le_refl _) (fun _ q => List.mem_append_right _ q)
    show G_new4_1 md l Z n0 x b z c0 h0 2 3 [x] h_1 48 #[.val (.ref x), .val (.ref b), .val (.int (0 : Int32)), .val (.int (1 : Int32)), .val .null, .val (.ref y)] [(.int (1 : Int32)), (.ref x)]
    have f_18 := E.ext X3
    have f_19 := C.ext X3
    refine Go.putF 51 (.int (1 : Int32)) d4_48 rfl (w37 hw) Via.refl f_19 f_18 (Or.inr ⟨(w38 hw), rfl, rfl⟩) (w13 hw) (ty := .byte) (by decide) rfl rfl (List.mem_of_getElem? (i := 0) rfl) n0x (fun h_20 W_21 => ?_)
    refine Go.aloadN 52 d4_51 rfl rfl rfl ?_
    refine Go.aload 54 d4_52 rfl rfl rfl ?_
    have f_22 := (f_18.wr W_21)
    have f_23 := ((V.ext X3).other W_21 (Or.inr (slot_ne (Or.inr (w40 hw)) (Or.inr (w38 hw)) (by decide) (t := (.array .byte)) (t' := .byte) (by decide) (by decide))))
    refine Go.putF 57 (.ref y) d4_54 rfl (w39 hw) Via.refl f_23 f_22 (Or.inr ⟨(w40 hw), rfl, rfl⟩) (w13 hw) (ty := (.array .byte)) (by decide) rfl rfl (List.mem_of_getElem? (i := 0) rfl) n0x (fun h_24 W_25 => ?_)
    have f_26 := (f_22.wr W_25)
    have f_27 := ((f_19.same W_21).other W_25 (Or.inr (slot_ne (Or.inr (w38 hw)) (Or.inr (w40 hw)) (by decide) (t := .byte) (t' := (.array .byte)) (by decide) (by decide))))
    have f_28 := ((A3.other W_21 nyx).other W_25 nyx)
    exact Go.ret0 d4_57 rfl (sf' := []) (⟨rfl, ((((Keep.refl h0 [x]).ext X3).wr W_21 (Or.inl (List.mem_of_getElem? (i := 0) rfl))).wr W_25 (Or.inl (List.mem_of_getElem? (i := 0) rfl))), y, (1 : Int32), _, f_26, f_27, (f_23.same W_25), f_28, Or.inr ⟨rfl, rfl, ⟨_, List.mem_singleton.mpr rfl, hbig⟩⟩⟩) (fun _ q => nomatch q) (Nat.le_of_ble_eq_true rfl) (Nat.le_of_ble_eq_true rfl)
abbrev G_new1_1 (md : Md) (l : Launch) (Z : State) (n0 : Nat) (x b : Addr) (z : Int32) (c0 : Int32) (h0 : Heap) := Go md l Z n0 ({ frames := 5, cells := 2, slots := 3, locals := 74 } : Room) jdk_42_method_3_code 2 none "java/lang/String" "<init>" (fun v h' _ => v = none ∧ Keep h0 h' [x] ∧ Gst Z h' x [c0])
theorem ef_new1_1 (mid : MethodId) (x b : Addr) (z : Int32) (c0 : Int32)  : entryFrame mid #[(.ref x), (.ref b)] 2 = mkF mid 0 #[.val (.ref x), .val (.ref b)] [] := by first | (simp [entryFrame, mkF, argsToLocals, Value.category]; done) | rfl
set_option maxRecDepth 65536 in
set_option maxHeartbeats 40000000 in
theorem c_new1_1 {md : Md} {l : Launch} {Z : State} {n0 : Nat} {a0 : Array Value} (hw : HW a0 Z) (x b : Addr) (z : Int32) (c0 : Int32) {h0 : Heap} (E : Exa Z h0 x "java/lang/String") (n0x : n0 ≤ x) {v0 c0_ : Value} (V : Fld Z h0 x "java/lang/String" "value" "[B" v0) (C : Fld Z h0 x "java/lang/String" "coder" "B" c0_) (A : Ary Z h0 b .char [(.int c0)]) (b_c0 : CHP c0) (SC : Sta Z Z.heap "java/lang/String" "COMPACT_STRINGS" "Z" (.int z)) (hz : ¬ z = 0) (UA : Sta Z Z.heap "java/lang/StringUTF16" "$assertionsDisabled" "Z" (.int 1)) (UH : Sta Z Z.heap "java/lang/StringUTF16" "HI_BYTE_SHIFT" "I" (.int 0)) (UL : Sta Z Z.heap "java/lang/StringUTF16" "LO_BYTE_SHIFT" "I" (.int 8))  : G_new1_1 md l Z n0 x b z c0 h0 0 0 [x] h0 0 #[.val (.ref x), .val (.ref b)] [] := by
  refine Go.aloadN 1 d3_0 rfl rfl rfl ?_
  refine Go.aloadN 2 d3_1 rfl rfl rfl ?_
  refine Go.iconst 3 (0 : Int32) d3_2 rfl rfl ?_
  refine Go.aloadN 4 d3_3 rfl rfl rfl ?_
  refine Go.alen 5 (1 : Int32) d3_4 rfl A rfl ?_
  refine Go.aconstNull 6 d3_5 rfl ?_
  refine Go.callC (S := []) (a := x) 9 [(.ref b), (.int (0 : Int32)), (.int (1 : Int32)), .null] d3_6 rfl rfl rfl (w18 hw) (w19 hw) (w21 hw) (by decide) (call_of_go (R := _) (len := 3) (W := 0) (plainFor_of_name pn_1) (fun mid => ef_new4_1 mid x b z c0 ) (c_new4_1 hw x b z c0 E n0x V C A b_c0 SC hz UA UH UL) (w21 hw) (w14 hw) (by decide) (by decide)) (lenOf pd_7 rfl) (Nat.le_of_ble_eq_true rfl) rfl (Nat.le_of_ble_eq_true rfl) (Nat.le_of_ble_eq_true rfl) (fun _ q => q) (fun v h_1 sf_2 hq => ?_)
  obtain ⟨rfl, K2, S2⟩ := hq
  refine Go.more (sf' := [x]) ?_ (Nat.le_refl _) (Nat.le_refl _) (fun _ q => List.mem_append_right _ q)
  show G_new1_1 md l Z n0 x b z c0 h0 2 3 [x] h_1 9 #[.val (.ref x), .val (.ref b)] []
  exact Go.ret0 d3_9 rfl (sf' := []) (⟨rfl, K2, S2⟩) (fun _ q => nomatch q) (Nat.le_of_ble_eq_true rfl) (Nat.le_of_ble_eq_true rfl)
abbrev G_nbl2 (md : Md) (l : Launch) (Z : State) (n0 : Nat)  (h0 : Heap) := Go md l Z n0 ({ frames := 0, cells := 0, slots := 0, locals := 0 } : Room) jdk_52_method_3_code 1 (some .int) "java/lang/StringUTF16" "newBytesLength" (fun v h' _ => h0 = h' ∧ v = some (.int (4 : Int32)))
theorem ef_nbl2 (mid : MethodId)   : entryFrame mid #[(.int (2 : Int32))] 1 = mkF mid 0 #[.val (.int (2 : Int32))] [] := by first | (simp [entryFrame, mkF, argsToLocals, Value.category]; done) | rfl
set_option maxRecDepth 65536 in
set_option maxHeartbeats 40000000 in
theorem c_nbl2 {md : Md} {l : Launch} {Z : State} {n0 : Nat} {a0 : Array Value} (hw : HW a0 Z)  {h0 : Heap}  : G_nbl2 md l Z n0  h0 0 0 [] h0 0 #[.val (.int (2 : Int32))] [] := by
  refine Go.iloadN 1 d20_0 rfl rfl ?_
  refine Go.ifY 12 d20_1 (by decide) (by decide) (flt (by decide)).2.1 ?_
  refine Go.iloadN 13 d20_12 rfl rfl ?_
  refine Go.ldcI 15 d20_13 rfl (w95 hw) ?_
  refine Go.icmpY 55 d20_15 (by decide) (by decide) (tlt (by decide)).1 ?_
  refine Go.iloadN 56 d20_55 rfl rfl ?_
  refine Go.iconst 57 (1 : Int32) d20_56 rfl rfl ?_
  refine Go.ishl 58 d20_57 rfl ?_
  rw [show ((2 : Int32) <<< ((1 : Int32) &&& 31)) = (4 : Int32) from by decide]
  exact Go.retI d20_58 rfl (sf' := []) (⟨rfl, rfl⟩) (fun _ q => nomatch q) (Nat.le_of_ble_eq_true rfl) (Nat.le_of_ble_eq_true rfl)
abbrev G_nbf2 (md : Md) (l : Launch) (Z : State) (n0 : Nat)  (h0 : Heap) := Go md l Z n0 ({ frames := 1, cells := 1, slots := 4, locals := 12 } : Room) jdk_52_method_2_code 1 (some (.array .byte)) "java/lang/StringUTF16" "newBytesFor" (fun v h' sf' => ∃ x, v = some (.ref x) ∧ Ext h0 h' ∧ h0.size ≤ x ∧ Ary Z h' x .byte [(.int (0 : Int32)), (.int (0 : Int32)), (.int (0 : Int32)), (.int (0 : Int32))] ∧ sf' = [x] ∧ n0 ≤ x)
theorem ef_nbf2 (mid : MethodId)   : entryFrame mid #[(.int (2 : Int32))] 1 = mkF mid 0 #[.val (.int (2 : Int32))] [] := by first | (simp [entryFrame, mkF, argsToLocals, Value.category]; done) | rfl
set_option maxRecDepth 65536 in
set_option maxHeartbeats 40000000 in
theorem c_nbf2 {md : Md} {l : Launch} {Z : State} {n0 : Nat} {a0 : Array Value} (hw : HW a0 Z)  {h0 : Heap}  : G_nbf2 md l Z n0  h0 0 0 [] h0 0 #[.val (.int (2 : Int32))] [] := by
  refine Go.iloadN 1 d19_0 rfl rfl ?_
  refine Go.callS (S := []) 4 [(.int (2 : Int32))] d19_1 rfl rfl (w92 hw) (w93 hw) (w28 hw) (w94 hw) (by decide) (call_of_go (R := _) (len := 3) (W := 0) (plainFor_of_name pn_0) (fun mid => ef_nbl2 mid  ) (c_nbl2 hw  ) (w94 hw) (w28 hw) (by decide) (by decide)) (lenOf pd_0 rfl) (Nat.le_of_ble_eq_true rfl) rfl (Nat.le_of_ble_eq_true rfl) (Nat.le_of_ble_eq_true rfl) (fun _ q => nomatch q) (fun v h_1 sf_2 hq => ?_)
  obtain ⟨rfl, rfl⟩ := hq
  refine Go.more (sf' := []) ?_ (Nat.le_refl _) (Nat.le_refl _) (fun _ q => List.mem_append_right _ q)
  show G_nbf2 md l Z n0  h0 0 0 [] h0 4 #[.val (.int (2 : Int32))] [(.int (4 : Int32))]
  refine Go.newA 4 6 d19_4 rfl rfl (w30 hw) (by decide) 4 (Nat.le_refl _) (by decide) (Nat.le_of_ble_eq_true rfl) (Nat.le_of_ble_eq_true rfl) (fun h_3 x_4 g_5 q_6 E_7 lt_8 A_9 => ?_)
  have A_10 : Ary Z h_3 x_4 .byte [(.int (0 : Int32)), (.int (0 : Int32)), (.int (0 : Int32)), (.int (0 : Int32))] := A_9
  show G_nbf2 md l Z n0  h0 1 4 [x_4] h_3 6 #[.val (.int (2 : Int32))] [(.ref x_4)]
  exact Go.retA d19_6 rfl rfl rfl (sf' := [x_4]) (⟨_, rfl, E_7, (Nat.le_of_eq g_5), A_10, rfl, q_6⟩) (sub1 (List.mem_of_getElem? (i := 0) rfl)) (Nat.le_of_ble_eq_true rfl) (Nat.le_of_ble_eq_true rfl)
abbrev G_tob2 (md : Md) (l : Launch) (Z : State) (n0 : Nat) (b : Addr) (c0 c1 : Int32) (h0 : Heap) := Go md l Z n0 ({ frames := 2, cells := 1, slots := 4, locals := 24 } : Room) jdk_52_method_14_code 5 (some (.array .byte)) "java/lang/StringUTF16" "toBytes" (fun v h' _ => ∃ x, v = some (.ref x) ∧ Ext h0 h' ∧ h0.size ≤ x ∧ Ary Z h' x .byte [(.int (lo16 c0)), (.int (hi16 c0)), (.int (lo16 c1)), (.int (hi16 c1))])
theorem ef_tob2 (mid : MethodId) (b : Addr) (c0 c1 : Int32)  : entryFrame mid #[(.ref b), (.int (0 : Int32)), (.int (2 : Int32))] 5 = mkF mid 0 #[.val (.ref b), .val (.int (0 : Int32)), .val (.int (2 : Int32)), .unset, .unset] [] := by first | (simp [entryFrame, mkF, argsToLocals, Value.category]; done) | rfl
set_option maxRecDepth 65536 in
set_option maxHeartbeats 40000000 in
theorem c_tob2 {md : Md} {l : Launch} {Z : State} {n0 : Nat} {a0 : Array Value} (hw : HW a0 Z) (b : Addr) (c0 c1 : Int32) {h0 : Heap} (A : Ary Z h0 b .char [(.int c0), (.int c1)]) (UA : Sta Z Z.heap "java/lang/StringUTF16" "$assertionsDisabled" "Z" (.int 1)) (UH : Sta Z Z.heap "java/lang/StringUTF16" "HI_BYTE_SHIFT" "I" (.int 0)) (UL : Sta Z Z.heap "java/lang/StringUTF16" "LO_BYTE_SHIFT" "I" (.int 8))  : G_tob2 md l Z n0 b c0 c1 h0 0 0 [] h0 0 #[.val (.ref b), .val (.int (0 : Int32)), .val (.int (2 : Int32)), .unset, .unset] [] := by
  refine Go.iloadN 1 d18_0 rfl rfl ?_
  refine Go.callS (S := []) 4 [(.int (2 : Int32))] d18_1 rfl rfl (w89 hw) (w90 hw) (w28 hw) (w91 hw) (by decide) (call_of_go (R := _) (len := 3) (W := 0) (plainFor_of_name pn_0) (fun mid => ef_nbf2 mid  ) (c_nbf2 hw  ) (w91 hw) (w28 hw) (by decide) (by decide)) (lenOf pd_1 rfl) (Nat.le_of_ble_eq_true rfl) rfl (Nat.le_of_ble_eq_true rfl) (Nat.le_of_ble_eq_true rfl) (fun _ q => nomatch q) (fun v h_1 sf_2 hq => ?_)
  obtain ⟨d, rfl, X_d, le_d, A_d, rfl, n0d⟩ := hq
  have nd : d ≠ b := Nat.ne_of_gt (Nat.lt_of_lt_of_le A.lt le_d)
  show G_tob2 md l Z n0 b c0 c1 h0 1 4 [d] h_1 4 #[.val (.ref b), .val (.int (0 : Int32)), .val (.int (2 : Int32)), .unset, .unset] [(.ref d)]
  refine Go.astoreN 5 #[.val (.ref b), .val (.int (0 : Int32)), .val (.int (2 : Int32)), .val (.ref d), .unset] d18_4 rfl rfl rfl ?_
  refine Go.iconst 6 (0 : Int32) d18_5 rfl rfl ?_
  refine Go.istore 8 #[.val (.ref b), .val (.int (0 : Int32)), .val (.int (2 : Int32)), .val (.ref d), .val (.int (0 : Int32))] d18_6 rfl rfl ?_
  refine Go.iload 10 d18_8 rfl rfl ?_
  refine Go.iloadN 11 d18_10 rfl rfl ?_
  refine Go.icmpN 14 d18_11 rfl (tlt (by decide)).2.1 ?_
  refine Go.aloadN 15 d18_14 rfl rfl rfl ?_
  refine Go.iload 17 d18_15 rfl rfl ?_
  refine Go.aloadN 18 d18_17 rfl rfl rfl ?_
  refine Go.iloadN 19 d18_18 rfl rfl ?_
  have f_3 := A.ext X_d
  refine Go.caload 0 20 d18_19 rfl f_3 (by decide) rfl ?_
  refine Go.callS (S := []) 23 [(.ref d), (.int (0 : Int32)), (.int c0)] d18_20 rfl rfl (w96 hw) (w97 hw) (w28 hw) (w98 hw) (by decide) (call_of_go (R := _) (len := 3) (W := 0) (plainFor_of_name pn_0) (fun mid => ef_putc0 mid d c0 [(.int (0 : Int32)), (.int (0 : Int32)), (.int (0 : Int32)), (.int (0 : Int32))] ) (c_putc0 hw d c0 [(.int (0 : Int32)), (.int (0 : Int32)), (.int (0 : Int32)), (.int (0 : Int32))] A_d n0d (Nat.le_of_ble_eq_true rfl) UA UH UL) (w98 hw) (w28 hw) (by decide) (by decide)) (lenOf pd_2 rfl) (Nat.le_of_ble_eq_true rfl) rfl (Nat.le_of_ble_eq_true rfl) (Nat.le_of_ble_eq_true rfl) (fun _ q => q) (fun v h_7 sf_8 hq => ?_)
  obtain ⟨rfl, K_4, A_5⟩ := hq
  have A_6 : Ary Z h_7 d .byte [(.int (lo16 c0)), (.int (hi16 c0)), (.int (0 : Int32)), (.int (0 : Int32))] := A_5
  refine Go.more (sf' := [d]) ?_ (Nat.le_refl _) (Nat.le_refl _) (fun _ q => List.mem_append_right _ q)
  show G_tob2 md l Z n0 b c0 c1 h0 1 4 [d] h_7 23 #[.val (.ref b), .val (.int (0 : Int32)), .val (.int (2 : Int32)), .val (.ref d), .val (.int (0 : Int32))] []
  refine Go.iinc 26 #[.val (.ref b), .val (.int ((0 : Int32) + (1 : Int32))), .val (.int (2 : Int32)), .val (.ref d), .val (.int (0 : Int32))] (1 : Int32) d18_23 rfl rfl rfl rfl ?_
  rw [show ((0 : Int32) + (1 : Int32)) = (1 : Int32) from by decide]
  refine Go.iinc 29 #[.val (.ref b), .val (.int (1 : Int32)), .val (.int (2 : Int32)), .val (.ref d), .val (.int ((0 : Int32) + (1 : Int32)))] (1 : Int32) d18_26 rfl rfl rfl rfl ?_
  rw [show ((0 : Int32) + (1 : Int32)) = (1 : Int32) from by decide]
  refine Go.goto 8 d18_29 (by decide) (by decide) ?_
  refine Go.iload 10 d18_8 rfl rfl ?_
  refine Go.iloadN 11 d18_10 rfl rfl ?_
  refine Go.icmpN 14 d18_11 rfl (tlt (by decide)).2.1 ?_
  refine Go.aloadN 15 d18_14 rfl rfl rfl ?_
  refine Go.iload 17 d18_15 rfl rfl ?_
  refine Go.aloadN 18 d18_17 rfl rfl rfl ?_
  refine Go.iloadN 19 d18_18 rfl rfl ?_
  have X_9 : Ext h0 h_7 := extK X_d K_4 (allS le_d all0)
  have f_10 := A.ext X_9
  refine Go.caload 1 20 d18_19 rfl f_10 (by decide) rfl ?_
  refine Go.callS (S := []) 23 [(.ref d), (.int (1 : Int32)), (.int c1)] d18_20 rfl rfl (w96 hw) (w97 hw) (w28 hw) (w98 hw) (by decide) (call_of_go (R := _) (len := 3) (W := 0) (plainFor_of_name pn_0) (fun mid => ef_putc1 mid d c1 [(.int (lo16 c0)), (.int (hi16 c0)), (.int (0 : Int32)), (.int (0 : Int32))] ) (c_putc1 hw d c1 [(.int (lo16 c0)), (.int (hi16 c0)), (.int (0 : Int32)), (.int (0 : Int32))] A_6 n0d (Nat.le_of_ble_eq_true rfl) UA UH UL) (w98 hw) (w28 hw) (by decide) (by decide)) (lenOf pd_2 rfl) (Nat.le_of_ble_eq_true rfl) rfl (Nat.le_of_ble_eq_true rfl) (Nat.le_of_ble_eq_true rfl) (fun _ q => q) (fun v h_14 sf_15 hq => ?_)
  obtain ⟨rfl, K_11, A_12⟩ := hq
  have A_13 : Ary Z h_14 d .byte [(.int (lo16 c0)), (.int (hi16 c0)), (.int (lo16 c1)), (.int (hi16 c1))] := A_12
  refine Go.more (sf' := [d]) ?_ (Nat.le_refl _) (Nat.le_refl _) (fun _ q => List.mem_append_right _ q)
  show G_tob2 md l Z n0 b c0 c1 h0 1 4 [d] h_14 23 #[.val (.ref b), .val (.int (1 : Int32)), .val (.int (2 : Int32)), .val (.ref d), .val (.int (1 : Int32))] []
  refine Go.iinc 26 #[.val (.ref b), .val (.int ((1 : Int32) + (1 : Int32))), .val (.int (2 : Int32)), .val (.ref d), .val (.int (1 : Int32))] (1 : Int32) d18_23 rfl rfl rfl rfl ?_
  rw [show ((1 : Int32) + (1 : Int32)) = (2 : Int32) from by decide]
  refine Go.iinc 29 #[.val (.ref b), .val (.int (2 : Int32)), .val (.int (2 : Int32)), .val (.ref d), .val (.int ((1 : Int32) + (1 : Int32)))] (1 : Int32) d18_26 rfl rfl rfl rfl ?_
  rw [show ((1 : Int32) + (1 : Int32)) = (2 : Int32) from by decide]
  refine Go.goto 8 d18_29 (by decide) (by decide) ?_
  refine Go.iload 10 d18_8 rfl rfl ?_
  refine Go.iloadN 11 d18_10 rfl rfl ?_
  refine Go.icmpY 32 d18_11 (by decide) (by decide) (flt (by decide)).2.1 ?_
  refine Go.aloadN 33 d18_32 rfl rfl rfl ?_
  have X_16 : Ext h0 h_14 := extK X_9 K_11 (allS le_d all0)
  exact Go.retA d18_33 rfl rfl rfl (sf' := []) (⟨_, rfl, X_16, le_d, A_13⟩) (fun _ q => nomatch q) (Nat.le_of_ble_eq_true rfl) (Nat.le_of_ble_eq_true rfl)
abbrev G_cmp5_2 (md : Md) (l : Launch) (Z : State) (n0 : Nat) (b d : Addr) (c0 c1 : Int32) (h0 : Heap) := Go md l Z n0 ({ frames := 0, cells := 0, slots := 0, locals := 0 } : Room) jdk_52_method_21_code 7 (some .int) "java/lang/StringUTF16" "compress" (fun v h' _ => ∃ r : Int32, v = some (.int r) ∧ Keep h0 h' [d] ∧ ((r = (2 : Int32) ∧ (¬ (255 : Int32) < c0 ∧ ¬ (255 : Int32) < c1) ∧ Ary Z h' d .byte [(.int c0.toInt8.toInt32), (.int c1.toInt8.toInt32)]) ∨ (r = (0 : Int32) ∧ (255 : Int32) < c0) ∨ (r = (1 : Int32) ∧ (255 : Int32) < c1)))
theorem ef_cmp5_2 (mid : MethodId) (b d : Addr) (c0 c1 : Int32)  : entryFrame mid #[(.ref b), (.int (0 : Int32)), (.ref d), (.int (0 : Int32)), (.int (2 : Int32))] 7 = mkF mid 0 #[.val (.ref b), .val (.int (0 : Int32)), .val (.ref d), .val (.int (0 : Int32)), .val (.int (2 : Int32)), .unset, .unset] [] := by first | (simp [entryFrame, mkF, argsToLocals, Value.category]; done) | rfl
set_option maxRecDepth 65536 in
set_option maxHeartbeats 40000000 in
theorem c_cmp5_2 {md : Md} {l : Launch} {Z : State} {n0 : Nat} {a0 : Array Value} (hw : HW a0 Z) (b d : Addr) (c0 c1 : Int32) {h0 : Heap} (A : Ary Z h0 b .char [(.int c0), (.int c1)]) (D : Ary Z h0 d .byte [(.int (0 : Int32)), (.int (0 : Int32))]) (n0d : n0 ≤ d) (nbd : b ≠ d) : G_cmp5_2 md l Z n0 b d c0 c1 h0 0 0 [d] h0 0 #[.val (.ref b), .val (.int (0 : Int32)), .val (.ref d), .val (.int (0 : Int32)), .val (.int (2 : Int32)), .unset, .unset] [] := by
  refine Go.iconst 1 (0 : Int32) d7_0 rfl rfl ?_
  refine Go.istore 3 #[.val (.ref b), .val (.int (0 : Int32)), .val (.ref d), .val (.int (0 : Int32)), .val (.int (2 : Int32)), .val (.int (0 : Int32)), .unset] d7_1 rfl rfl ?_
  refine Go.iload 5 d7_3 rfl rfl ?_
  refine Go.iload 7 d7_5 rfl rfl ?_
  refine Go.icmpN 10 d7_7 rfl (tlt (by decide)).2.1 ?_
  refine Go.aloadN 11 d7_10 rfl rfl rfl ?_
  refine Go.iloadN 12 d7_11 rfl rfl ?_
  refine Go.caload 0 13 d7_12 rfl A (by decide) rfl ?_
  refine Go.istore 15 #[.val (.ref b), .val (.int (0 : Int32)), .val (.ref d), .val (.int (0 : Int32)), .val (.int (2 : Int32)), .val (.int (0 : Int32)), .val (.int c0)] d7_13 rfl rfl ?_
  refine Go.iload 17 d7_15 rfl rfl ?_
  refine Go.sipush 20 (255 : Int32) d7_17 rfl rfl ?_
  by_cases hb_0 : (255 : Int32) < c0
  · skip
    refine Go.icmpN 23 d7_20 rfl (tlt hb_0).2.2.2 ?_
    refine Go.iload 25 d7_23 rfl rfl ?_
    exact Go.retI d7_25 rfl (sf' := []) (⟨_, rfl, (Keep.refl h0 [d]), Or.inr (Or.inl (⟨rfl, hb_0⟩))⟩) (fun _ q => nomatch q) (Nat.le_of_ble_eq_true rfl) (Nat.le_of_ble_eq_true rfl)
  · skip
    refine Go.icmpY 26 d7_20 (by decide) (by decide) (flt hb_0).2.2.2 ?_
    refine Go.aloadN 27 d7_26 rfl rfl rfl ?_
    refine Go.iloadN 28 d7_27 rfl rfl ?_
    refine Go.iload 30 d7_28 rfl rfl ?_
    refine Go.i2b 31 d7_30 rfl ?_
    refine Go.bastore 0 32 d7_31 rfl D (by decide) (Nat.le_of_ble_eq_true rfl) (List.mem_of_getElem? (i := 0) rfl) n0d (fun h_1 W_2 A_3 => ?_)
    have A_4 : Ary Z h_1 d .byte [(.int (c0).toInt8.toInt32), (.int (0 : Int32))] := by have := A_3; rw [i8_idem _] at this; exact this
    refine Go.iinc 35 #[.val (.ref b), .val (.int ((0 : Int32) + (1 : Int32))), .val (.ref d), .val (.int (0 : Int32)), .val (.int (2 : Int32)), .val (.int (0 : Int32)), .val (.int c0)] (1 : Int32) d7_32 rfl rfl rfl rfl ?_
    rw [show ((0 : Int32) + (1 : Int32)) = (1 : Int32) from by decide]
    refine Go.iinc 38 #[.val (.ref b), .val (.int (1 : Int32)), .val (.ref d), .val (.int ((0 : Int32) + (1 : Int32))), .val (.int (2 : Int32)), .val (.int (0 : Int32)), .val (.int c0)] (1 : Int32) d7_35 rfl rfl rfl rfl ?_
    rw [show ((0 : Int32) + (1 : Int32)) = (1 : Int32) from by decide]
    refine Go.iinc 41 #[.val (.ref b), .val (.int (1 : Int32)), .val (.ref d), .val (.int (1 : Int32)), .val (.int (2 : Int32)), .val (.int ((0 : Int32) + (1 : Int32))), .val (.int c0)] (1 : Int32) d7_38 rfl rfl rfl rfl ?_
    rw [show ((0 : Int32) + (1 : Int32)) = (1 : Int32) from by decide]
    refine Go.goto 3 d7_41 (by decide) (by decide) ?_
    refine Go.iload 5 d7_3 rfl rfl ?_
    refine Go.iload 7 d7_5 rfl rfl ?_
    refine Go.icmpN 10 d7_7 rfl (tlt (by decide)).2.1 ?_
    refine Go.aloadN 11 d7_10 rfl rfl rfl ?_
    refine Go.iloadN 12 d7_11 rfl rfl ?_
    have f_5 := (A.other W_2 nbd)
    refine Go.caload 1 13 d7_12 rfl f_5 (by decide) rfl ?_
    refine Go.istore 15 #[.val (.ref b), .val (.int (1 : Int32)), .val (.ref d), .val (.int (1 : Int32)), .val (.int (2 : Int32)), .val (.int (1 : Int32)), .val (.int c1)] d7_13 rfl rfl ?_
    refine Go.iload 17 d7_15 rfl rfl ?_
    refine Go.sipush 20 (255 : Int32) d7_17 rfl rfl ?_
    by_cases hb_1 : (255 : Int32) < c1
    · skip
      refine Go.icmpN 23 d7_20 rfl (tlt hb_1).2.2.2 ?_
      refine Go.iload 25 d7_23 rfl rfl ?_
      exact Go.retI d7_25 rfl (sf' := []) (⟨_, rfl, ((Keep.refl h0 [d]).wr W_2 (Or.inl (List.mem_of_getElem? (i := 0) rfl))), Or.inr (Or.inr (⟨rfl, hb_1⟩))⟩) (fun _ q => nomatch q) (Nat.le_of_ble_eq_true rfl) (Nat.le_of_ble_eq_true rfl)
    · skip
      refine Go.icmpY 26 d7_20 (by decide) (by decide) (flt hb_1).2.2.2 ?_
      refine Go.aloadN 27 d7_26 rfl rfl rfl ?_
      refine Go.iloadN 28 d7_27 rfl rfl ?_
      refine Go.iload 30 d7_28 rfl rfl ?_
      refine Go.i2b 31 d7_30 rfl ?_
      refine Go.bastore 1 32 d7_31 rfl A_4 (by decide) (Nat.le_of_ble_eq_true rfl) (List.mem_of_getElem? (i := 0) rfl) n0d (fun h_6 W_7 A_8 => ?_)
      have A_9 : Ary Z h_6 d .byte [(.int (c0).toInt8.toInt32), (.int (c1).toInt8.toInt32)] := by have := A_8; rw [i8_idem _] at this; exact this
      refine Go.iinc 35 #[.val (.ref b), .val (.int ((1 : Int32) + (1 : Int32))), .val (.ref d), .val (.int (1 : Int32)), .val (.int (2 : Int32)), .val (.int (1 : Int32)), .val (.int c1)] (1 : Int32) d7_32 rfl rfl rfl rfl ?_
      rw [show ((1 : Int32) + (1 : Int32)) = (2 : Int32) from by decide]
      refine Go.iinc 38 #[.val (.ref b), .val (.int (2 : Int32)), .val (.ref d), .val (.int ((1 : Int32) + (1 : Int32))), .val (.int (2 : Int32)), .val (.int (1 : Int32)), .val (.int c1)] (1 : Int32) d7_35 rfl rfl rfl rfl ?_
      rw [show ((1 : Int32) + (1 : Int32)) = (2 : Int32) from by decide]
      refine Go.iinc 41 #[.val (.ref b), .val (.int (2 : Int32)), .val (.ref d), .val (.int (2 : Int32)), .val (.int (2 : Int32)), .val (.int ((1 : Int32) + (1 : Int32))), .val (.int c1)] (1 : Int32) d7_38 rfl rfl rfl rfl ?_
      rw [show ((1 : Int32) + (1 : Int32)) = (2 : Int32) from by decide]
      refine Go.goto 3 d7_41 (by decide) (by decide) ?_
      refine Go.iload 5 d7_3 rfl rfl ?_
      refine Go.iload 7 d7_5 rfl rfl ?_
      refine Go.icmpY 44 d7_7 (by decide) (by decide) (flt (by decide)).2.1 ?_
      refine Go.iload 46 d7_44 rfl rfl ?_
      exact Go.retI d7_46 rfl (sf' := []) (⟨_, rfl, (((Keep.refl h0 [d]).wr W_2 (Or.inl (List.mem_of_getElem? (i := 0) rfl))).wr W_7 (Or.inl (List.mem_of_getElem? (i := 0) rfl))), Or.inl ⟨rfl, ⟨hb_0, hb_1⟩, A_9⟩⟩) (fun _ q => nomatch q) (Nat.le_of_ble_eq_true rfl) (Nat.le_of_ble_eq_true rfl)
abbrev G_cmp3_2 (md : Md) (l : Launch) (Z : State) (n0 : Nat) (b : Addr) (c0 c1 : Int32) (h0 : Heap) := Go md l Z n0 ({ frames := 3, cells := 2, slots := 6, locals := 40 } : Room) jdk_52_method_16_code 6 (some (.array .byte)) "java/lang/StringUTF16" "compress" (fun v h' _ => ∃ x, v = some (.ref x) ∧ Ext h0 h' ∧ h0.size ≤ x ∧ (((¬ (255 : Int32) < c0 ∧ ¬ (255 : Int32) < c1) ∧ Ary Z h' x .byte [(.int c0.toInt8.toInt32), (.int c1.toInt8.toInt32)]) ∨ (((255 : Int32) < c0 ∨ (255 : Int32) < c1) ∧ Ary Z h' x .byte [(.int (lo16 c0)), (.int (hi16 c0)), (.int (lo16 c1)), (.int (hi16 c1))])))
theorem ef_cmp3_2 (mid : MethodId) (b : Addr) (c0 c1 : Int32)  : entryFrame mid #[(.ref b), (.int (0 : Int32)), (.int (2 : Int32))] 6 = mkF mid 0 #[.val (.ref b), .val (.int (0 : Int32)), .val (.int (2 : Int32)), .unset, .unset, .unset] [] := by first | (simp [entryFrame, mkF, argsToLocals, Value.category]; done) | rfl
set_option maxRecDepth 65536 in
set_option maxHeartbeats 40000000 in
theorem c_cmp3_2 {md : Md} {l : Launch} {Z : State} {n0 : Nat} {a0 : Array Value} (hw : HW a0 Z) (b : Addr) (c0 c1 : Int32) {h0 : Heap} (A : Ary Z h0 b .char [(.int c0), (.int c1)]) (b_c0 : CHP c0) (b_c1 : CHP c1) (UA : Sta Z Z.heap "java/lang/StringUTF16" "$assertionsDisabled" "Z" (.int 1)) (UH : Sta Z Z.heap "java/lang/StringUTF16" "HI_BYTE_SHIFT" "I" (.int 0)) (UL : Sta Z Z.heap "java/lang/StringUTF16" "LO_BYTE_SHIFT" "I" (.int 8))  : G_cmp3_2 md l Z n0 b c0 c1 h0 0 0 [] h0 0 #[.val (.ref b), .val (.int (0 : Int32)), .val (.int (2 : Int32)), .unset, .unset, .unset] [] := by
  refine Go.iloadN 1 d6_0 rfl rfl ?_
  refine Go.newA 2 3 d6_1 rfl rfl (w30 hw) (by decide) 2 (Nat.le_refl _) (by decide) (Nat.le_of_ble_eq_true rfl) (Nat.le_of_ble_eq_true rfl) (fun h_1 x_2 g_3 q_4 E_5 lt_6 A_7 => ?_)
  have A_8 : Ary Z h_1 x_2 .byte [(.int (0 : Int32)), (.int (0 : Int32))] := A_7
  show G_cmp3_2 md l Z n0 b c0 c1 h0 1 2 [x_2] h_1 3 #[.val (.ref b), .val (.int (0 : Int32)), .val (.int (2 : Int32)), .unset, .unset, .unset] [(.ref x_2)]
  refine Go.astoreN 4 #[.val (.ref b), .val (.int (0 : Int32)), .val (.int (2 : Int32)), .val (.ref x_2), .unset, .unset] d6_3 rfl rfl rfl ?_
  refine Go.aloadN 5 d6_4 rfl rfl rfl ?_
  refine Go.iloadN 6 d6_5 rfl rfl ?_
  refine Go.aloadN 7 d6_6 rfl rfl rfl ?_
  refine Go.iconst 8 (0 : Int32) d6_7 rfl rfl ?_
  refine Go.iloadN 9 d6_8 rfl rfl ?_
  have f_9 := A.ext E_5
  have nbd : b ≠ x_2 := Nat.ne_of_lt (Nat.lt_of_lt_of_le A.lt (Nat.le_of_eq g_3))
  refine Go.callS (S := []) 12 [(.ref b), (.int (0 : Int32)), (.ref x_2), (.int (0 : Int32)), (.int (2 : Int32))] d6_9 rfl rfl (w31 hw) (w32 hw) (w28 hw) (w33 hw) (by decide) (call_of_go (R := _) (len := 3) (W := 0) (plainFor_of_name pn_0) (fun mid => ef_cmp5_2 mid b x_2 c0 c1 ) (c_cmp5_2 hw b x_2 c0 c1 f_9 A_8 q_4 nbd) (w33 hw) (w28 hw) (by decide) (by decide)) (lenOf pd_3 rfl) (Nat.le_of_ble_eq_true rfl) rfl (Nat.le_of_ble_eq_true rfl) (Nat.le_of_ble_eq_true rfl) (fun _ q => q) (fun v h_10 sf_11 hq => ?_)
  obtain ⟨r, rfl, K5, ⟨rfl, hlat, D5⟩ | ⟨rfl, hbig⟩ | ⟨rfl, hbig⟩⟩ := hq
  · skip
    refine Go.more (sf' := [x_2]) ?_ (Nat.le_refl _) (Nat.le_refl _) (fun _ q => List.mem_append_right _ q)
    show G_cmp3_2 md l Z n0 b c0 c1 h0 1 2 [x_2] h_10 12 #[.val (.ref b), .val (.int (0 : Int32)), .val (.int (2 : Int32)), .val (.ref x_2), .unset, .unset] [(.int (2 : Int32))]
    refine Go.istore 14 #[.val (.ref b), .val (.int (0 : Int32)), .val (.int (2 : Int32)), .val (.ref x_2), .val (.int (2 : Int32)), .unset] d6_12 rfl rfl ?_
    refine Go.iload 16 d6_14 rfl rfl ?_
    refine Go.iloadN 17 d6_16 rfl rfl ?_
    refine Go.icmpY 57 d6_17 (by decide) (by decide) (teq (by decide)).1 ?_
    refine Go.aloadN 58 d6_57 rfl rfl rfl ?_
    have X_12 : Ext h0 h_10 := extK E_5 K5 (allS (Nat.le_of_eq g_3) all0)
    exact Go.retA d6_58 rfl rfl rfl (sf' := []) (⟨_, rfl, X_12, (Nat.le_of_eq g_3), Or.inl ⟨hlat, D5⟩⟩) (fun _ q => nomatch q) (Nat.le_of_ble_eq_true rfl) (Nat.le_of_ble_eq_true rfl)
  · skip
    refine Go.more (sf' := [x_2]) ?_ (Nat.le_refl _) (Nat.le_refl _) (fun _ q => List.mem_append_right _ q)
    show G_cmp3_2 md l Z n0 b c0 c1 h0 1 2 [x_2] h_10 12 #[.val (.ref b), .val (.int (0 : Int32)), .val (.int (2 : Int32)), .val (.ref x_2), .unset, .unset] [(.int (0 : Int32))]
    refine Go.istore 14 #[.val (.ref b), .val (.int (0 : Int32)), .val (.int (2 : Int32)), .val (.ref x_2), .val (.int (0 : Int32)), .unset] d6_12 rfl rfl ?_
    refine Go.iload 16 d6_14 rfl rfl ?_
    refine Go.iloadN 17 d6_16 rfl rfl ?_
    refine Go.icmpN 20 d6_17 rfl (feq (by decide)).1 ?_
    refine Go.aloadN 21 d6_20 rfl rfl rfl ?_
    refine Go.iloadN 22 d6_21 rfl rfl ?_
    refine Go.iloadN 23 d6_22 rfl rfl ?_
    have X_13 : Ext h0 h_10 := extK E_5 K5 (allS (Nat.le_of_eq g_3) all0)
    have f_14 := A.ext X_13
    refine Go.callS (S := []) 26 [(.ref b), (.int (0 : Int32)), (.int (2 : Int32))] d6_23 rfl rfl (w86 hw) (w87 hw) (w28 hw) (w88 hw) (by decide) (call_of_go (R := _) (len := 3) (W := 0) (plainFor_of_name pn_0) (fun mid => ef_tob2 mid b c0 c1 ) (c_tob2 hw b c0 c1 f_14 UA UH UL) (w88 hw) (w28 hw) (by decide) (by decide)) (lenOf pd_4 rfl) (Nat.le_of_ble_eq_true rfl) rfl (Nat.le_of_ble_eq_true rfl) (Nat.le_of_ble_eq_true rfl) (fun _ q => nomatch q) (fun v h_15 sf_20 hq => ?_)
    obtain ⟨x_16, rfl, E_17, le_18, A_19⟩ := hq
    refine Go.more (sf' := [x_2]) ?_ (Nat.le_refl _) (Nat.le_refl _) (fun _ q => List.mem_append_right _ q)
    show G_cmp3_2 md l Z n0 b c0 c1 h0 2 6 [x_2] h_15 26 #[.val (.ref b), .val (.int (0 : Int32)), .val (.int (2 : Int32)), .val (.ref x_2), .val (.int (0 : Int32)), .unset] [(.ref x_16)]
    refine Go.astore 28 #[.val (.ref b), .val (.int (0 : Int32)), .val (.int (2 : Int32)), .val (.ref x_2), .val (.int (0 : Int32)), .val (.ref x_16)] d6_26 rfl rfl rfl ?_
    refine Go.aload 30 d6_28 rfl rfl rfl ?_
    refine Go.iload 32 d6_30 rfl rfl ?_
    refine Go.callS (S := []) 35 [(.ref x_16), (.int (0 : Int32))] d6_32 rfl rfl (w102 hw) (w103 hw) (w28 hw) (w104 hw) (by decide) (call_of_go (R := _) (len := 3) (W := 0) (plainFor_of_name pn_0) (fun mid => ef_getc0 mid x_16 (lo16 c0) (hi16 c0) [(.int (lo16 c0)), (.int (hi16 c0)), (.int (lo16 c1)), (.int (hi16 c1))] ) (c_getc0 hw x_16 (lo16 c0) (hi16 c0) [(.int (lo16 c0)), (.int (hi16 c0)), (.int (lo16 c1)), (.int (hi16 c1))] A_19 rfl rfl UA UH UL) (w104 hw) (w28 hw) (by decide) (by decide)) (lenOf pd_5 rfl) (Nat.le_of_ble_eq_true rfl) rfl (Nat.le_of_ble_eq_true rfl) (Nat.le_of_ble_eq_true rfl) (fun _ q => nomatch q) (fun v h_21 sf_22 hq => ?_)
    obtain ⟨rfl, rfl⟩ := hq
    rw [rt16 b_c0]
    refine Go.more (sf' := [x_2]) ?_ (Nat.le_refl _) (Nat.le_refl _) (fun _ q => List.mem_append_right _ q)
    show G_cmp3_2 md l Z n0 b c0 c1 h0 2 6 [x_2] h_15 35 #[.val (.ref b), .val (.int (0 : Int32)), .val (.int (2 : Int32)), .val (.ref x_2), .val (.int (0 : Int32)), .val (.ref x_16)] [(.int c0)]
    refine Go.sipush 38 (255 : Int32) d6_35 rfl rfl ?_
    refine Go.icmpY 54 d6_38 (by decide) (by decide) (tlt hbig).2.2.1 ?_
    refine Go.aload 56 d6_54 rfl rfl rfl ?_
    have X_23 : Ext h0 h_15 := extT X_13 E_17
    exact Go.retA d6_56 rfl rfl rfl (sf' := []) (⟨_, rfl, X_23, (Nat.le_trans X_13.1 le_18), Or.inr ⟨Or.inl (hbig), A_19⟩⟩) (fun _ q => nomatch q) (Nat.le_of_ble_eq_true rfl) (Nat.le_of_ble_eq_true rfl)
  · skip
    refine Go.more (sf' := [x_2]) ?_ (Nat.le_refl _) (Nat.le_refl _) (fun _ q => List.mem_append_right _ q)
    show G_cmp3_2 md l Z n0 b c0 c1 h0 1 2 [x_2] h_10 12 #[.val (.ref b), .val (.int (0 : Int32)), .val (.int (2 : Int32)), .val (.ref x_2), .unset, .unset] [(.int (1 : Int32))]
    refine Go.istore 14 #[.val (.ref b), .val (.int (0 : Int32)), .val (.int (2 : Int32)), .val (.ref x_2), .val (.int (1 : Int32)), .unset] d6_12 rfl rfl ?_
    refine Go.iload 16 d6_14 rfl rfl ?_
    refine Go.iloadN 17 d6_16 rfl rfl ?_
    refine Go.icmpN 20 d6_17 rfl (feq (by decide)).1 ?_
    refine Go.aloadN 21 d6_20 rfl rfl rfl ?_
    refine Go.iloadN 22 d6_21 rfl rfl ?_
    refine Go.iloadN 23 d6_22 rfl rfl ?_
    have X_24 : Ext h0 h_10 := extK E_5 K5 (allS (Nat.le_of_eq g_3) all0)
    have f_25 := A.ext X_24
    refine Go.callS (S := []) 26 [(.ref b), (.int (0 : Int32)), (.int (2 : Int32))] d6_23 rfl rfl (w86 hw) (w87 hw) (w28 hw) (w88 hw) (by decide) (call_of_go (R := _) (len := 3) (W := 0) (plainFor_of_name pn_0) (fun mid => ef_tob2 mid b c0 c1 ) (c_tob2 hw b c0 c1 f_25 UA UH UL) (w88 hw) (w28 hw) (by decide) (by decide)) (lenOf pd_4 rfl) (Nat.le_of_ble_eq_true rfl) rfl (Nat.le_of_ble_eq_true rfl) (Nat.le_of_ble_eq_true rfl) (fun _ q => nomatch q) (fun v h_26 sf_31 hq => ?_)
    obtain ⟨x_27, rfl, E_28, le_29, A_30⟩ := hq
    refine Go.more (sf' := [x_2]) ?_ (Nat.le_refl _) (Nat.le_refl _) (fun _ q => List.mem_append_right _ q)
    show G_cmp3_2 md l Z n0 b c0 c1 h0 2 6 [x_2] h_26 26 #[.val (.ref b), .val (.int (0 : Int32)), .val (.int (2 : Int32)), .val (.ref x_2), .val (.int (1 : Int32)), .unset] [(.ref x_27)]
    refine Go.astore 28 #[.val (.ref b), .val (.int (0 : Int32)), .val (.int (2 : Int32)), .val (.ref x_2), .val (.int (1 : Int32)), .val (.ref x_27)] d6_26 rfl rfl rfl ?_
    refine Go.aload 30 d6_28 rfl rfl rfl ?_
    refine Go.iload 32 d6_30 rfl rfl ?_
    refine Go.callS (S := []) 35 [(.ref x_27), (.int (1 : Int32))] d6_32 rfl rfl (w102 hw) (w103 hw) (w28 hw) (w104 hw) (by decide) (call_of_go (R := _) (len := 3) (W := 0) (plainFor_of_name pn_0) (fun mid => ef_getc1 mid x_27 (lo16 c1) (hi16 c1) [(.int (lo16 c0)), (.int (hi16 c0)), (.int (lo16 c1)), (.int (hi16 c1))] ) (c_getc1 hw x_27 (lo16 c1) (hi16 c1) [(.int (lo16 c0)), (.int (hi16 c0)), (.int (lo16 c1)), (.int (hi16 c1))] A_30 rfl rfl UA UH UL) (w104 hw) (w28 hw) (by decide) (by decide)) (lenOf pd_5 rfl) (Nat.le_of_ble_eq_true rfl) rfl (Nat.le_of_ble_eq_true rfl) (Nat.le_of_ble_eq_true rfl) (fun _ q => nomatch q) (fun v h_32 sf_33 hq => ?_)
    obtain ⟨rfl, rfl⟩ := hq
    rw [rt16 b_c1]
    refine Go.more (sf' := [x_2]) ?_ (Nat.le_refl _) (Nat.le_refl _) (fun _ q => List.mem_append_right _ q)
    show G_cmp3_2 md l Z n0 b c0 c1 h0 2 6 [x_2] h_26 35 #[.val (.ref b), .val (.int (0 : Int32)), .val (.int (2 : Int32)), .val (.ref x_2), .val (.int (1 : Int32)), .val (.ref x_27)] [(.int c1)]
    refine Go.sipush 38 (255 : Int32) d6_35 rfl rfl ?_
    refine Go.icmpY 54 d6_38 (by decide) (by decide) (tlt hbig).2.2.1 ?_
    refine Go.aload 56 d6_54 rfl rfl rfl ?_
    have X_34 : Ext h0 h_26 := extT X_24 E_28
    exact Go.retA d6_56 rfl rfl rfl (sf' := []) (⟨_, rfl, X_34, (Nat.le_trans X_24.1 le_29), Or.inr ⟨Or.inr (hbig), A_30⟩⟩) (fun _ q => nomatch q) (Nat.le_of_ble_eq_true rfl) (Nat.le_of_ble_eq_true rfl)
abbrev G_cfl2_0 (md : Md) (l : Launch) (Z : State) (n0 : Nat) (d : Addr) (vs : List Value) (h0 : Heap) := Go md l Z n0 ({ frames := 0, cells := 0, slots := 0, locals := 0 } : Room) jdk_52_method_15_code 2 (some .byte) "java/lang/StringUTF16" "coderFromArrayLen" (fun v h' _ => h0 = h' ∧ v = some (.int 0))
theorem ef_cfl2_0 (mid : MethodId) (d : Addr) (vs : List Value)  : entryFrame mid #[(.ref d), (.int (2 : Int32))] 2 = mkF mid 0 #[.val (.ref d), .val (.int (2 : Int32))] [] := by first | (simp [entryFrame, mkF, argsToLocals, Value.category]; done) | rfl
set_option maxRecDepth 65536 in
set_option maxHeartbeats 40000000 in
theorem c_cfl2_0 {md : Md} {l : Launch} {Z : State} {n0 : Nat} {a0 : Array Value} (hw : HW a0 Z) (d : Addr) (vs : List Value) {h0 : Heap} (A : Ary Z h0 d .byte vs) (hl : vs.length = 2) : G_cfl2_0 md l Z n0 d vs h0 0 0 [] h0 0 #[.val (.ref d), .val (.int (2 : Int32))] [] := by
  refine Go.iloadN 1 d8_0 rfl rfl ?_
  refine Go.aloadN 2 d8_1 rfl rfl rfl ?_
  refine Go.alen 3 (2 : Int32) d8_2 rfl A (by rw [hl]; rfl) ?_
  refine Go.isub 4 d8_3 rfl ?_
  rw [show ((2 : Int32) - (2 : Int32)) = (0 : Int32) from by decide]
  refine Go.bipush 6 (31 : Int32) d8_4 rfl rfl ?_
  refine Go.iushr 7 d8_6 rfl ?_
  refine Go.i2b 8 d8_7 rfl ?_
  exact Go.retN (0 : Int32) d8_8 rfl (t := .byte) (by simp) (by decide) (sf' := []) (⟨rfl, rfl⟩) (fun _ q => nomatch q) (Nat.le_of_ble_eq_true rfl) (Nat.le_of_ble_eq_true rfl)
abbrev G_cfl2_1 (md : Md) (l : Launch) (Z : State) (n0 : Nat) (d : Addr) (vs : List Value) (h0 : Heap) := Go md l Z n0 ({ frames := 0, cells := 0, slots := 0, locals := 0 } : Room) jdk_52_method_15_code 2 (some .byte) "java/lang/StringUTF16" "coderFromArrayLen" (fun v h' _ => h0 = h' ∧ v = some (.int 1))
theorem ef_cfl2_1 (mid : MethodId) (d : Addr) (vs : List Value)  : entryFrame mid #[(.ref d), (.int (2 : Int32))] 2 = mkF mid 0 #[.val (.ref d), .val (.int (2 : Int32))] [] := by first | (simp [entryFrame, mkF, argsToLocals, Value.category]; done) | rfl
set_option maxRecDepth 65536 in
set_option maxHeartbeats 40000000 in
theorem c_cfl2_1 {md : Md} {l : Launch} {Z : State} {n0 : Nat} {a0 : Array Value} (hw : HW a0 Z) (d : Addr) (vs : List Value) {h0 : Heap} (A : Ary Z h0 d .byte vs) (hl : vs.length = 4) : G_cfl2_1 md l Z n0 d vs h0 0 0 [] h0 0 #[.val (.ref d), .val (.int (2 : Int32))] [] := by
  refine Go.iloadN 1 d8_0 rfl rfl ?_
  refine Go.aloadN 2 d8_1 rfl rfl rfl ?_
  refine Go.alen 3 (4 : Int32) d8_2 rfl A (by rw [hl]; rfl) ?_
  refine Go.isub 4 d8_3 rfl ?_
  rw [show ((2 : Int32) - (4 : Int32)) = (-2 : Int32) from by decide]
  refine Go.bipush 6 (31 : Int32) d8_4 rfl rfl ?_
  refine Go.iushr 7 d8_6 rfl ?_
  refine Go.i2b 8 d8_7 rfl ?_
  exact Go.retN (1 : Int32) d8_8 rfl (t := .byte) (by simp) (by decide) (sf' := []) (⟨rfl, rfl⟩) (fun _ q => nomatch q) (Nat.le_of_ble_eq_true rfl) (Nat.le_of_ble_eq_true rfl)
abbrev G_new4_2 (md : Md) (l : Launch) (Z : State) (n0 : Nat) (x b : Addr) (z : Int32) (c0 c1 : Int32) (h0 : Heap) := Go md l Z n0 ({ frames := 4, cells := 2, slots := 6, locals := 57 } : Room) jdk_42_method_149_code 6 none "java/lang/String" "<init>" (fun v h' _ => v = none ∧ Keep h0 h' [x] ∧ Gst Z h' x [c0, c1])
theorem ef_new4_2 (mid : MethodId) (x b : Addr) (z : Int32) (c0 c1 : Int32)  : entryFrame mid #[(.ref x), (.ref b), (.int (0 : Int32)), (.int (2 : Int32)), .null] 6 = mkF mid 0 #[.val (.ref x), .val (.ref b), .val (.int (0 : Int32)), .val (.int (2 : Int32)), .val .null, .unset] [] := by first | (simp [entryFrame, mkF, argsToLocals, Value.category]; done) | rfl
set_option maxRecDepth 65536 in
set_option maxHeartbeats 40000000 in
theorem c_new4_2 {md : Md} {l : Launch} {Z : State} {n0 : Nat} {a0 : Array Value} (hw : HW a0 Z) (x b : Addr) (z : Int32) (c0 c1 : Int32) {h0 : Heap} (E : Exa Z h0 x "java/lang/String") (n0x : n0 ≤ x) {v0 c0_ : Value} (V : Fld Z h0 x "java/lang/String" "value" "[B" v0) (C : Fld Z h0 x "java/lang/String" "coder" "B" c0_) (A : Ary Z h0 b .char [(.int c0), (.int c1)]) (b_c0 : CHP c0) (b_c1 : CHP c1) (SC : Sta Z Z.heap "java/lang/String" "COMPACT_STRINGS" "Z" (.int z)) (hz : ¬ z = 0) (UA : Sta Z Z.heap "java/lang/StringUTF16" "$assertionsDisabled" "Z" (.int 1)) (UH : Sta Z Z.heap "java/lang/StringUTF16" "HI_BYTE_SHIFT" "I" (.int 0)) (UL : Sta Z Z.heap "java/lang/StringUTF16" "LO_BYTE_SHIFT" "I" (.int 8))  : G_new4_2 md l Z n0 x b z c0 c1 h0 0 0 [x] h0 0 #[.val (.ref x), .val (.ref b), .val (.int (0 : Int32)), .val (.int (2 : Int32)), .val .null, .unset] [] := by
  refine Go.aloadN 1 d4_0 rfl rfl rfl ?_
  refine Go.initO (W := 0) 4 d4_1 rfl (w22 hw) (w23 hw) (w24 hw) rfl (by decide) (Nat.le_of_ble_eq_true rfl) (by decide) ?_
  refine Go.iloadN 5 d4_4 rfl rfl ?_
  refine Go.ifY 27 d4_5 (by decide) (by decide) (feq (by decide)).2 ?_
  refine Go.getS 30 d4_27 rfl (w25 hw) Via.refl SC ?_
  refine Go.ifN 33 d4_30 rfl (feq hz).1 ?_
  refine Go.aloadN 34 d4_33 rfl rfl rfl ?_
  refine Go.iloadN 35 d4_34 rfl rfl ?_
  refine Go.iloadN 36 d4_35 rfl rfl ?_
  refine Go.callS (S := []) 39 [(.ref b), (.int (0 : Int32)), (.int (2 : Int32))] d4_36 rfl rfl (w26 hw) (w27 hw) (w28 hw) (w29 hw) (by decide) (call_of_go (R := _) (len := 3) (W := 0) (plainFor_of_name pn_0) (fun mid => ef_cmp3_2 mid b c0 c1 ) (c_cmp3_2 hw b c0 c1 A b_c0 b_c1 UA UH UL) (w29 hw) (w28 hw) (by decide) (by decide)) (lenOf pd_4 rfl) (Nat.le_of_ble_eq_true rfl) rfl (Nat.le_of_ble_eq_true rfl) (Nat.le_of_ble_eq_true rfl) (fun _ q => nomatch q) (fun v h_1 sf_2 hq => ?_)
  obtain ⟨y, rfl, X3, le3, ⟨hlat, A3⟩ | ⟨hbig, A3⟩⟩ := hq
  · skip
    refine Go.more (sf' := [x]) ?_ (Nat.le_refl _) (Nat.le_refl _) (fun _ q => List.mem_append_right _ q)
    show G_new4_2 md l Z n0 x b z c0 c1 h0 2 6 [x] h_1 39 #[.val (.ref x), .val (.ref b), .val (.int (0 : Int32)), .val (.int (2 : Int32)), .val .null, .unset] [(.ref y)]
    have nyx : y ≠ x := Nat.ne_of_gt (Nat.lt_of_lt_of_le E.lt le3)
    refine Go.astore 41 #[.val (.ref x), .val (.ref b), .val (.int (0 : Int32)), .val (.int (2 : Int32)), .val .null, .val (.ref y)] d4_39 rfl rfl rfl ?_
    refine Go.aloadN 42 d4_41 rfl rfl rfl ?_
    refine Go.aload 44 d4_42 rfl rfl rfl ?_
    refine Go.iloadN 45 d4_44 rfl rfl ?_
    refine Go.callS (S := [(.ref x)]) 48 [(.ref y), (.int (2 : Int32))] d4_45 rfl rfl (w34 hw) (w35 hw) (w28 hw) (w36 hw) (by decide) (call_of_go (R := _) (len := 3) (W := 1) (plainFor_of_name pn_0) (fun mid => ef_cfl2_0 mid y [(.int c0.toInt8.toInt32), (.int c1.toInt8.toInt32)] ) (c_cfl2_0 hw y [(.int c0.toInt8.toInt32), (.int c1.toInt8.toInt32)] A3 rfl) (w36 hw) (w28 hw) (by decide) (by decide)) (lenOf pd_6 rfl) (Nat.le_of_ble_eq_true rfl) rfl (Nat.le_of_ble_eq_true rfl) (Nat.le_of_ble_eq_true rfl) (fun _ q => nomatch q) (fun v h_3 sf_4 hq => ?_)
    obtain ⟨rfl, rfl⟩ := hq
    refine Go.more (sf' := [x]) ?_ (Nat.le_refl _) (Nat.le_refl _) (fun _ q => List.mem_append_right _ q)
    show G_new4_2 md l Z n0 x b z c0 c1 h0 2 6 [x] h_1 48 #[.val (.ref x), .val (.ref b), .val (.int (0 : Int32)), .val (.int (2 : Int32)), .val .null, .val (.ref y)] [(.int (0 : Int32)), (.ref x)]
    have f_5 := E.ext X3
    have f_6 := C.ext X3
    refine Go.putF 51 (.int (0 : Int32)) d4_48 rfl (w37 hw) Via.refl f_6 f_5 (Or.inr ⟨(w38 hw), rfl, rfl⟩) (w13 hw) (ty := .byte) (by decide) rfl rfl (List.mem_of_getElem? (i := 0) rfl) n0x (fun h_7 W_8 => ?_)
    refine Go.aloadN 52 d4_51 rfl rfl rfl ?_
    refine Go.aload 54 d4_52 rfl rfl rfl ?_
    have f_9 := (f_5.wr W_8)
    have f_10 := ((V.ext X3).other W_8 (Or.inr (slot_ne (Or.inr (w40 hw)) (Or.inr (w38 hw)) (by decide) (t := (.array .byte)) (t' := .byte) (by decide) (by decide))))
    refine Go.putF 57 (.ref y) d4_54 rfl (w39 hw) Via.refl f_10 f_9 (Or.inr ⟨(w40 hw), rfl, rfl⟩) (w13 hw) (ty := (.array .byte)) (by decide) rfl rfl (List.mem_of_getElem? (i := 0) rfl) n0x (fun h_11 W_12 => ?_)
    have f_13 := (f_9.wr W_12)
    have f_14 := ((f_6.same W_8).other W_12 (Or.inr (slot_ne (Or.inr (w38 hw)) (Or.inr (w40 hw)) (by decide) (t := .byte) (t' := (.array .byte)) (by decide) (by decide))))
    have f_15 := ((A3.other W_8 nyx).other W_12 nyx)
    exact Go.ret0 d4_57 rfl (sf' := []) (⟨rfl, ((((Keep.refl h0 [x]).ext X3).wr W_8 (Or.inl (List.mem_of_getElem? (i := 0) rfl))).wr W_12 (Or.inl (List.mem_of_getElem? (i := 0) rfl))), y, (0 : Int32), _, f_13, f_14, (f_10.same W_12), f_15, Or.inl ⟨rfl, rfl, (latC ⟨chp0 b_c0, hlat.1⟩ (latC ⟨chp0 b_c1, hlat.2⟩ latN))⟩⟩) (fun _ q => nomatch q) (Nat.le_of_ble_eq_true rfl) (Nat.le_of_ble_eq_true rfl)
  · skip
    refine Go.more (sf' := [x]) ?_ (Nat.le_refl _) (Nat.le_refl _) (fun _ q => List.mem_append_right _ q)
    show G_new4_2 md l Z n0 x b z c0 c1 h0 2 6 [x] h_1 39 #[.val (.ref x), .val (.ref b), .val (.int (0 : Int32)), .val (.int (2 : Int32)), .val .null, .unset] [(.ref y)]
    have nyx : y ≠ x := Nat.ne_of_gt (Nat.lt_of_lt_of_le E.lt le3)
    refine Go.astore 41 #[.val (.ref x), .val (.ref b), .val (.int (0 : Int32)), .val (.int (2 : Int32)), .val .null, .val (.ref y)] d4_39 rfl rfl rfl ?_
    refine Go.aloadN 42 d4_41 rfl rfl rfl ?_
    refine Go.aload 44 d4_42 rfl rfl rfl ?_
    refine Go.iloadN 45 d4_44 rfl rfl ?_
    refine Go.callS (S := [(.ref x)]) 48 [(.ref y), (.int (2 : Int32))] d4_45 rfl rfl (w34 hw) (w35 hw) (w28 hw) (w36 hw) (by decide) (call_of_go (R := _) (len := 3) (W := 1) (plainFor_of_name pn_0) (fun mid => ef_cfl2_1 mid y [(.int (lo16 c0)), (.int (hi16 c0)), (.int (lo16 c1)), (.int (hi16 c1))] ) (c_cfl2_1 hw y [(.int (lo16 c0)), (.int (hi16 c0)), (.int (lo16 c1)), (.int (hi16 c1))] A3 rfl) (w36 hw) (w28 hw) (by decide) (by decide)) (lenOf pd_6 rfl) (Nat.le_of_ble_eq_true rfl) rfl (Nat.le_of_ble_eq_true rfl) (Nat.le_of_ble_eq_true rfl) (fun _ q => nomatch q) (fun v h_16 sf_17 hq => ?_)
    obtain ⟨rfl, rfl⟩ := hq
    refine Go.more (sf' := [x]) ?_ (Nat.le_refl _) (Nat.le_refl _) (fun _ q => List.mem_append_right _ q)
    show G_new4_2 md l Z n0 x b z c0 c1 h0 2 6 [x] h_1 48 #[.val (.ref x), .val (.ref b), .val (.int (0 : Int32)), .val (.int (2 : Int32)), .val .null, .val (.ref y)] [(.int (1 : Int32)), (.ref x)]
    have f_18 := E.ext X3
    have f_19 := C.ext X3
    refine Go.putF 51 (.int (1 : Int32)) d4_48 rfl (w37 hw) Via.refl f_19 f_18 (Or.inr ⟨(w38 hw), rfl, rfl⟩) (w13 hw) (ty := .byte) (by decide) rfl rfl (List.mem_of_getElem? (i := 0) rfl) n0x (fun h_20 W_21 => ?_)
    refine Go.aloadN 52 d4_51 rfl rfl rfl ?_
    refine Go.aload 54 d4_52 rfl rfl rfl ?_
    have f_22 := (f_18.wr W_21)
    have f_23 := ((V.ext X3).other W_21 (Or.inr (slot_ne (Or.inr (w40 hw)) (Or.inr (w38 hw)) (by decide) (t := (.array .byte)) (t' := .byte) (by decide) (by decide))))
    refine Go.putF 57 (.ref y) d4_54 rfl (w39 hw) Via.refl f_23 f_22 (Or.inr ⟨(w40 hw), rfl, rfl⟩) (w13 hw) (ty := (.array .byte)) (by decide) rfl rfl (List.mem_of_getElem? (i := 0) rfl) n0x (fun h_24 W_25 => ?_)
    have f_26 := (f_22.wr W_25)
    have f_27 := ((f_19.same W_21).other W_25 (Or.inr (slot_ne (Or.inr (w38 hw)) (Or.inr (w40 hw)) (by decide) (t := .byte) (t' := (.array .byte)) (by decide) (by decide))))
    have f_28 := ((A3.other W_21 nyx).other W_25 nyx)
    exact Go.ret0 d4_57 rfl (sf' := []) (⟨rfl, ((((Keep.refl h0 [x]).ext X3).wr W_21 (Or.inl (List.mem_of_getElem? (i := 0) rfl))).wr W_25 (Or.inl (List.mem_of_getElem? (i := 0) rfl))), y, (1 : Int32), _, f_26, f_27, (f_23.same W_25), f_28, Or.inr ⟨rfl, rfl, by rcases hbig with hbig | hbig <;> exact ⟨_, by simp, hbig⟩⟩⟩) (fun _ q => nomatch q) (Nat.le_of_ble_eq_true rfl) (Nat.le_of_ble_eq_true rfl)
abbrev G_new1_2 (md : Md) (l : Launch) (Z : State) (n0 : Nat) (x b : Addr) (z : Int32) (c0 c1 : Int32) (h0 : Heap) := Go md l Z n0 ({ frames := 5, cells := 2, slots := 6, locals := 74 } : Room) jdk_42_method_3_code 2 none "java/lang/String" "<init>" (fun v h' _ => v = none ∧ Keep h0 h' [x] ∧ Gst Z h' x [c0, c1])
theorem ef_new1_2 (mid : MethodId) (x b : Addr) (z : Int32) (c0 c1 : Int32)  : entryFrame mid #[(.ref x), (.ref b)] 2 = mkF mid 0 #[.val (.ref x), .val (.ref b)] [] := by first | (simp [entryFrame, mkF, argsToLocals, Value.category]; done) | rfl
set_option maxRecDepth 65536 in
set_option maxHeartbeats 40000000 in
theorem c_new1_2 {md : Md} {l : Launch} {Z : State} {n0 : Nat} {a0 : Array Value} (hw : HW a0 Z) (x b : Addr) (z : Int32) (c0 c1 : Int32) {h0 : Heap} (E : Exa Z h0 x "java/lang/String") (n0x : n0 ≤ x) {v0 c0_ : Value} (V : Fld Z h0 x "java/lang/String" "value" "[B" v0) (C : Fld Z h0 x "java/lang/String" "coder" "B" c0_) (A : Ary Z h0 b .char [(.int c0), (.int c1)]) (b_c0 : CHP c0) (b_c1 : CHP c1) (SC : Sta Z Z.heap "java/lang/String" "COMPACT_STRINGS" "Z" (.int z)) (hz : ¬ z = 0) (UA : Sta Z Z.heap "java/lang/StringUTF16" "$assertionsDisabled" "Z" (.int 1)) (UH : Sta Z Z.heap "java/lang/StringUTF16" "HI_BYTE_SHIFT" "I" (.int 0)) (UL : Sta Z Z.heap "java/lang/StringUTF16" "LO_BYTE_SHIFT" "I" (.int 8))  : G_new1_2 md l Z n0 x b z c0 c1 h0 0 0 [x] h0 0 #[.val (.ref x), .val (.ref b)] [] := by
  refine Go.aloadN 1 d3_0 rfl rfl rfl ?_
  refine Go.aloadN 2 d3_1 rfl rfl rfl ?_
  refine Go.iconst 3 (0 : Int32) d3_2 rfl rfl ?_
  refine Go.aloadN 4 d3_3 rfl rfl rfl ?_
  refine Go.alen 5 (2 : Int32) d3_4 rfl A rfl ?_
  refine Go.aconstNull 6 d3_5 rfl ?_
  refine Go.callC (S := []) (a := x) 9 [(.ref b), (.int (0 : Int32)), (.int (2 : Int32)), .null] d3_6 rfl rfl rfl (w18 hw) (w19 hw) (w21 hw) (by decide) (call_of_go (R := _) (len := 3) (W := 0) (plainFor_of_name pn_1) (fun mid => ef_new4_2 mid x b z c0 c1 ) (c_new4_2 hw x b z c0 c1 E n0x V C A b_c0 b_c1 SC hz UA UH UL) (w21 hw) (w14 hw) (by decide) (by decide)) (lenOf pd_7 rfl) (Nat.le_of_ble_eq_true rfl) rfl (Nat.le_of_ble_eq_true rfl) (Nat.le_of_ble_eq_true rfl) (fun _ q => q) (fun v h_1 sf_2 hq => ?_)
  obtain ⟨rfl, K2, S2⟩ := hq
  refine Go.more (sf' := [x]) ?_ (Nat.le_refl _) (Nat.le_refl _) (fun _ q => List.mem_append_right _ q)
  show G_new1_2 md l Z n0 x b z c0 c1 h0 2 6 [x] h_1 9 #[.val (.ref x), .val (.ref b)] []
  exact Go.ret0 d3_9 rfl (sf' := []) (⟨rfl, K2, S2⟩) (fun _ q => nomatch q) (Nat.le_of_ble_eq_true rfl) (Nat.le_of_ble_eq_true rfl)
abbrev G_nbl3 (md : Md) (l : Launch) (Z : State) (n0 : Nat)  (h0 : Heap) := Go md l Z n0 ({ frames := 0, cells := 0, slots := 0, locals := 0 } : Room) jdk_52_method_3_code 1 (some .int) "java/lang/StringUTF16" "newBytesLength" (fun v h' _ => h0 = h' ∧ v = some (.int (6 : Int32)))
theorem ef_nbl3 (mid : MethodId)   : entryFrame mid #[(.int (3 : Int32))] 1 = mkF mid 0 #[.val (.int (3 : Int32))] [] := by first | (simp [entryFrame, mkF, argsToLocals, Value.category]; done) | rfl
set_option maxRecDepth 65536 in
set_option maxHeartbeats 40000000 in
theorem c_nbl3 {md : Md} {l : Launch} {Z : State} {n0 : Nat} {a0 : Array Value} (hw : HW a0 Z)  {h0 : Heap}  : G_nbl3 md l Z n0  h0 0 0 [] h0 0 #[.val (.int (3 : Int32))] [] := by
  refine Go.iloadN 1 d20_0 rfl rfl ?_
  refine Go.ifY 12 d20_1 (by decide) (by decide) (flt (by decide)).2.1 ?_
  refine Go.iloadN 13 d20_12 rfl rfl ?_
  refine Go.ldcI 15 d20_13 rfl (w95 hw) ?_
  refine Go.icmpY 55 d20_15 (by decide) (by decide) (tlt (by decide)).1 ?_
  refine Go.iloadN 56 d20_55 rfl rfl ?_
  refine Go.iconst 57 (1 : Int32) d20_56 rfl rfl ?_
  refine Go.ishl 58 d20_57 rfl ?_
  rw [show ((3 : Int32) <<< ((1 : Int32) &&& 31)) = (6 : Int32) from by decide]
  exact Go.retI d20_58 rfl (sf' := []) (⟨rfl, rfl⟩) (fun _ q => nomatch q) (Nat.le_of_ble_eq_true rfl) (Nat.le_of_ble_eq_true rfl)
abbrev G_nbf3 (md : Md) (l : Launch) (Z : State) (n0 : Nat)  (h0 : Heap) := Go md l Z n0 ({ frames := 1, cells := 1, slots := 6, locals := 12 } : Room) jdk_52_method_2_code 1 (some (.array .byte)) "java/lang/StringUTF16" "newBytesFor" (fun v h' sf' => ∃ x, v = some (.ref x) ∧ Ext h0 h' ∧ h0.size ≤ x ∧ Ary Z h' x .byte [(.int (0 : Int32)), (.int (0 : Int32)), (.int (0 : Int32)), (.int (0 : Int32)), (.int (0 : Int32)), (.int (0 : Int32))] ∧ sf' = [x] ∧ n0 ≤ x)
theorem ef_nbf3 (mid : MethodId)   : entryFrame mid #[(.int (3 : Int32))] 1 = mkF mid 0 #[.val (.int (3 : Int32))] [] := by first | (simp [entryFrame, mkF, argsToLocals, Value.category]; done) | rfl
set_option maxRecDepth 65536 in
set_option maxHeartbeats 40000000 in
theorem c_nbf3 {md : Md} {l : Launch} {Z : State} {n0 : Nat} {a0 : Array Value} (hw : HW a0 Z)  {h0 : Heap}  : G_nbf3 md l Z n0  h0 0 0 [] h0 0 #[.val (.int (3 : Int32))] [] := by
  refine Go.iloadN 1 d19_0 rfl rfl ?_
  refine Go.callS (S := []) 4 [(.int (3 : Int32))] d19_1 rfl rfl (w92 hw) (w93 hw) (w28 hw) (w94 hw) (by decide) (call_of_go (R := _) (len := 3) (W := 0) (plainFor_of_name pn_0) (fun mid => ef_nbl3 mid  ) (c_nbl3 hw  ) (w94 hw) (w28 hw) (by decide) (by decide)) (lenOf pd_0 rfl) (Nat.le_of_ble_eq_true rfl) rfl (Nat.le_of_ble_eq_true rfl) (Nat.le_of_ble_eq_true rfl) (fun _ q => nomatch q) (fun v h_1 sf_2 hq => ?_)
  obtain ⟨rfl, rfl⟩ := hq
  refine Go.more (sf' := []) ?_ (Nat.le_refl _) (Nat.le_refl _) (fun _ q => List.mem_append_right _ q)
  show G_nbf3 md l Z n0  h0 0 0 [] h0 4 #[.val (.int (3 : Int32))] [(.int (6 : Int32))]
  refine Go.newA 6 6 d19_4 rfl rfl (w30 hw) (by decide) 6 (Nat.le_refl _) (by decide) (Nat.le_of_ble_eq_true rfl) (Nat.le_of_ble_eq_true rfl) (fun h_3 x_4 g_5 q_6 E_7 lt_8 A_9 => ?_)
  have A_10 : Ary Z h_3 x_4 .byte [(.int (0 : Int32)), (.int (0 : Int32)), (.int (0 : Int32)), (.int (0 : Int32)), (.int (0 : Int32)), (.int (0 : Int32))] := A_9
  show G_nbf3 md l Z n0  h0 1 6 [x_4] h_3 6 #[.val (.int (3 : Int32))] [(.ref x_4)]
  exact Go.retA d19_6 rfl rfl rfl (sf' := [x_4]) (⟨_, rfl, E_7, (Nat.le_of_eq g_5), A_10, rfl, q_6⟩) (sub1 (List.mem_of_getElem? (i := 0) rfl)) (Nat.le_of_ble_eq_true rfl) (Nat.le_of_ble_eq_true rfl)
abbrev G_tob3 (md : Md) (l : Launch) (Z : State) (n0 : Nat) (b : Addr) (c0 c1 c2 : Int32) (h0 : Heap) := Go md l Z n0 ({ frames := 2, cells := 1, slots := 6, locals := 24 } : Room) jdk_52_method_14_code 5 (some (.array .byte)) "java/lang/StringUTF16" "toBytes" (fun v h' _ => ∃ x, v = some (.ref x) ∧ Ext h0 h' ∧ h0.size ≤ x ∧ Ary Z h' x .byte [(.int (lo16 c0)), (.int (hi16 c0)), (.int (lo16 c1)), (.int (hi16 c1)), (.int (lo16 c2)), (.int (hi16 c2))])
theorem ef_tob3 (mid : MethodId) (b : Addr) (c0 c1 c2 : Int32)  : entryFrame mid #[(.ref b), (.int (0 : Int32)), (.int (3 : Int32))] 5 = mkF mid 0 #[.val (.ref b), .val (.int (0 : Int32)), .val (.int (3 : Int32)), .unset, .unset] [] := by first | (simp [entryFrame, mkF, argsToLocals, Value.category]; done) | rfl
set_option maxRecDepth 65536 in
set_option maxHeartbeats 40000000 in
theorem c_tob3 {md : Md} {l : Launch} {Z : State} {n0 : Nat} {a0 : Array Value} (hw : HW a0 Z) (b : Addr) (c0 c1 c2 : Int32) {h0 : Heap} (A : Ary Z h0 b .char [(.int c0), (.int c1), (.int c2)]) (UA : Sta Z Z.heap "java/lang/StringUTF16" "$assertionsDisabled" "Z" (.int 1)) (UH : Sta Z Z.heap "java/lang/StringUTF16" "HI_BYTE_SHIFT" "I" (.int 0)) (UL : Sta Z Z.heap "java/lang/StringUTF16" "LO_BYTE_SHIFT" "I" (.int 8))  : G_tob3 md l Z n0 b c0 c1 c2 h0 0 0 [] h0 0 #[.val (.ref b), .val (.int (0 : Int32)), .val (.int (3 : Int32)), .unset, .unset] [] := by
  refine Go.iloadN 1 d18_0 rfl rfl ?_
  refine Go.callS (S := []) 4 [(.int (3 : Int32))] d18_1 rfl rfl (w89 hw) (w90 hw) (w28 hw) (w91 hw) (by decide) (call_of_go (R := _) (len := 3) (W := 0) (plainFor_of_name pn_0) (fun mid => ef_nbf3 mid  ) (c_nbf3 hw  ) (w91 hw) (w28 hw) (by decide) (by decide)) (lenOf pd_1 rfl) (Nat.le_of_ble_eq_true rfl) rfl (Nat.le_of_ble_eq_true rfl) (Nat.le_of_ble_eq_true rfl) (fun _ q => nomatch q) (fun v h_1 sf_2 hq => ?_)
  obtain ⟨d, rfl, X_d, le_d, A_d, rfl, n0d⟩ := hq
  have nd : d ≠ b := Nat.ne_of_gt (Nat.lt_of_lt_of_le A.lt le_d)
  show G_tob3 md l Z n0 b c0 c1 c2 h0 1 6 [d] h_1 4 #[.val (.ref b), .val (.int (0 : Int32)), .val (.int (3 : Int32)), .unset, .unset] [(.ref d)]
  refine Go.astoreN 5 #[.val (.ref b), .val (.int (0 : Int32)), .val (.int (3 : Int32)), .val (.ref d), .unset] d18_4 rfl rfl rfl ?_
  refine Go.iconst 6 (0 : Int32) d18_5 rfl rfl ?_
  refine Go.istore 8 #[.val (.ref b), .val (.int (0 : Int32)), .val (.int (3 : Int32)), .val (.ref d), .val (.int (0 : Int32))] d18_6 rfl rfl ?_
  refine Go.iload 10 d18_8 rfl rfl ?_
  refine Go.iloadN 11 d18_10 rfl rfl ?_
  refine Go.icmpN 14 d18_11 rfl (tlt (by decide)).2.1 ?_
  refine Go.aloadN 15 d18_14 rfl rfl rfl ?_
  refine Go.iload 17 d18_15 rfl rfl ?_
  refine Go.aloadN 18 d18_17 rfl rfl rfl ?_
  refine Go.iloadN 19 d18_18 rfl rfl ?_
  have f_3 := A.ext X_d
  refine Go.caload 0 20 d18_19 rfl f_3 (by decide) rfl ?_
  refine Go.callS (S := []) 23 [(.ref d), (.int (0 : Int32)), (.int c0)] d18_20 rfl rfl (w96 hw) (w97 hw) (w28 hw) (w98 hw) (by decide) (call_of_go (R := _) (len := 3) (W := 0) (plainFor_of_name pn_0) (fun mid => ef_putc0 mid d c0 [(.int (0 : Int32)), (.int (0 : Int32)), (.int (0 : Int32)), (.int (0 : Int32)), (.int (0 : Int32)), (.int (0 : Int32))] ) (c_putc0 hw d c0 [(.int (0 : Int32)), (.int (0 : Int32)), (.int (0 : Int32)), (.int (0 : Int32)), (.int (0 : Int32)), (.int (0 : Int32))] A_d n0d (Nat.le_of_ble_eq_true rfl) UA UH UL) (w98 hw) (w28 hw) (by decide) (by decide)) (lenOf pd_2 rfl) (Nat.le_of_ble_eq_true rfl) rfl (Nat.le_of_ble_eq_true rfl) (Nat.le_of_ble_eq_true rfl) (fun _ q => q) (fun v h_7 sf_8 hq => ?_)
  obtain ⟨rfl, K_4, A_5⟩ := hq
  have A_6 : Ary Z h_7 d .byte [(.int (lo16 c0)), (.int (hi16 c0)), (.int (0 : Int32)), (.int (0 : Int32)), (.int (0 : Int32)), (.int (0 : Int32))] := A_5
  refine Go.more (sf' := [d]) ?_ (Nat.le_refl _) (Nat.le_refl _) (fun _ q => List.mem_append_right _ q)
  show G_tob3 md l Z n0 b c0 c1 c2 h0 1 6 [d] h_7 23 #[.val (.ref b), .val (.int (0 : Int32)), .val (.int (3 : Int32)), .val (.ref d), .val (.int (0 : Int32))] []
  refine Go.iinc 26 #[.val (.ref b), .val (.int ((0 : Int32) + (1 : Int32))), .val (.int (3 : Int32)), .val (.ref d), .val (.int (0 : Int32))] (1 : Int32) d18_23 rfl rfl rfl rfl ?_
  rw [show ((0 : Int32) + (1 : Int32)) = (1 : Int32) from by decide]
  refine Go.iinc 29 #[.val (.ref b), .val (.int (1 : Int32)), .val (.int (3 : Int32)), .val (.ref d), .val (.int ((0 : Int32) + (1 : Int32)))] (1 : Int32) d18_26 rfl rfl rfl rfl ?_
  rw [show ((0 : Int32) + (1 : Int32)) = (1 : Int32) from by decide]
  refine Go.goto 8 d18_29 (by decide) (by decide) ?_
  refine Go.iload 10 d18_8 rfl rfl ?_
  refine Go.iloadN 11 d18_10 rfl rfl ?_
  refine Go.icmpN 14 d18_11 rfl (tlt (by decide)).2.1 ?_
  refine Go.aloadN 15 d18_14 rfl rfl rfl ?_
  refine Go.iload 17 d18_15 rfl rfl ?_
  refine Go.aloadN 18 d18_17 rfl rfl rfl ?_
  refine Go.iloadN 19 d18_18 rfl rfl ?_
  have X_9 : Ext h0 h_7 := extK X_d K_4 (allS le_d all0)
  have f_10 := A.ext X_9
  refine Go.caload 1 20 d18_19 rfl f_10 (by decide) rfl ?_
  refine Go.callS (S := []) 23 [(.ref d), (.int (1 : Int32)), (.int c1)] d18_20 rfl rfl (w96 hw) (w97 hw) (w28 hw) (w98 hw) (by decide) (call_of_go (R := _) (len := 3) (W := 0) (plainFor_of_name pn_0) (fun mid => ef_putc1 mid d c1 [(.int (lo16 c0)), (.int (hi16 c0)), (.int (0 : Int32)), (.int (0 : Int32)), (.int (0 : Int32)), (.int (0 : Int32))] ) (c_putc1 hw d c1 [(.int (lo16 c0)), (.int (hi16 c0)), (.int (0 : Int32)), (.int (0 : Int32)), (.int (0 : Int32)), (.int (0 : Int32))] A_6 n0d (Nat.le_of_ble_eq_true rfl) UA UH UL) (w98 hw) (w28 hw) (by decide) (by decide)) (lenOf pd_2 rfl) (Nat.le_of_ble_eq_true rfl) rfl (Nat.le_of_ble_eq_true rfl) (Nat.le_of_ble_eq_true rfl) (fun _ q => q) (fun v h_14 sf_15 hq => ?_)
  obtain ⟨rfl, K_11, A_12⟩ := hq
  have A_13 : Ary Z h_14 d .byte [(.int (lo16 c0)), (.int (hi16 c0)), (.int (lo16 c1)), (.int (hi16 c1)), (.int (0 : Int32)), (.int (0 : Int32))] := A_12
  refine Go.more (sf' := [d]) ?_ (Nat.le_refl _) (Nat.le_refl _) (fun _ q => List.mem_append_right _ q)
  show G_tob3 md l Z n0 b c0 c1 c2 h0 1 6 [d] h_14 23 #[.val (.ref b), .val (.int (1 : Int32)), .val (.int (3 : Int32)), .val (.ref d), .val (.int (1 : Int32))] []
  refine Go.iinc 26 #[.val (.ref b), .val (.int ((1 : Int32) + (1 : Int32))), .val (.int (3 : Int32)), .val (.ref d), .val (.int (1 : Int32))] (1 : Int32) d18_23 rfl rfl rfl rfl ?_
  rw [show ((1 : Int32) + (1 : Int32)) = (2 : Int32) from by decide]
  refine Go.iinc 29 #[.val (.ref b), .val (.int (2 : Int32)), .val (.int (3 : Int32)), .val (.ref d), .val (.int ((1 : Int32) + (1 : Int32)))] (1 : Int32) d18_26 rfl rfl rfl rfl ?_
  rw [show ((1 : Int32) + (1 : Int32)) = (2 : Int32) from by decide]
  refine Go.goto 8 d18_29 (by decide) (by decide) ?_
  refine Go.iload 10 d18_8 rfl rfl ?_
  refine Go.iloadN 11 d18_10 rfl rfl ?_
  refine Go.icmpN 14 d18_11 rfl (tlt (by decide)).2.1 ?_
  refine Go.aloadN 15 d18_14 rfl rfl rfl ?_
  refine Go.iload 17 d18_15 rfl rfl ?_
  refine Go.aloadN 18 d18_17 rfl rfl rfl ?_
  refine Go.iloadN 19 d18_18 rfl rfl ?_
  have X_16 : Ext h0 h_14 := extK X_9 K_11 (allS le_d all0)
  have f_17 := A.ext X_16
  refine Go.caload 2 20 d18_19 rfl f_17 (by decide) rfl ?_
  refine Go.callS (S := []) 23 [(.ref d), (.int (2 : Int32)), (.int c2)] d18_20 rfl rfl (w96 hw) (w97 hw) (w28 hw) (w98 hw) (by decide) (call_of_go (R := _) (len := 3) (W := 0) (plainFor_of_name pn_0) (fun mid => ef_putc2 mid d c2 [(.int (lo16 c0)), (.int (hi16 c0)), (.int (lo16 c1)), (.int (hi16 c1)), (.int (0 : Int32)), (.int (0 : Int32))] ) (c_putc2 hw d c2 [(.int (lo16 c0)), (.int (hi16 c0)), (.int (lo16 c1)), (.int (hi16 c1)), (.int (0 : Int32)), (.int (0 : Int32))] A_13 n0d (Nat.le_of_ble_eq_true rfl) UA UH UL) (w98 hw) (w28 hw) (by decide) (by decide)) (lenOf pd_2 rfl) (Nat.le_of_ble_eq_true rfl) rfl (Nat.le_of_ble_eq_true rfl) (Nat.le_of_ble_eq_true rfl) (fun _ q => q) (fun v h_21 sf_22 hq => ?_)
  obtain ⟨rfl, K_18, A_19⟩ := hq
  have A_20 : Ary Z h_21 d .byte [(.int (lo16 c0)), (.int (hi16 c0)), (.int (lo16 c1)), (.int (hi16 c1)), (.int (lo16 c2)), (.int (hi16 c2))] := A_19
  refine Go.more (sf' := [d]) ?_ (Nat.le_refl _) (Nat.le_refl _) (fun _ q => List.mem_append_right _ q)
  show G_tob3 md l Z n0 b c0 c1 c2 h0 1 6 [d] h_21 23 #[.val (.ref b), .val (.int (2 : Int32)), .val (.int (3 : Int32)), .val (.ref d), .val (.int (2 : Int32))] []
  refine Go.iinc 26 #[.val (.ref b), .val (.int ((2 : Int32) + (1 : Int32))), .val (.int (3 : Int32)), .val (.ref d), .val (.int (2 : Int32))] (1 : Int32) d18_23 rfl rfl rfl rfl ?_
  rw [show ((2 : Int32) + (1 : Int32)) = (3 : Int32) from by decide]
  refine Go.iinc 29 #[.val (.ref b), .val (.int (3 : Int32)), .val (.int (3 : Int32)), .val (.ref d), .val (.int ((2 : Int32) + (1 : Int32)))] (1 : Int32) d18_26 rfl rfl rfl rfl ?_
  rw [show ((2 : Int32) + (1 : Int32)) = (3 : Int32) from by decide]
  refine Go.goto 8 d18_29 (by decide) (by decide) ?_
  refine Go.iload 10 d18_8 rfl rfl ?_
  refine Go.iloadN 11 d18_10 rfl rfl ?_
  refine Go.icmpY 32 d18_11 (by decide) (by decide) (flt (by decide)).2.1 ?_
  refine Go.aloadN 33 d18_32 rfl rfl rfl ?_
  have X_23 : Ext h0 h_21 := extK X_16 K_18 (allS le_d all0)
  exact Go.retA d18_33 rfl rfl rfl (sf' := []) (⟨_, rfl, X_23, le_d, A_20⟩) (fun _ q => nomatch q) (Nat.le_of_ble_eq_true rfl) (Nat.le_of_ble_eq_true rfl)
abbrev G_cmp5_3 (md : Md) (l : Launch) (Z : State) (n0 : Nat) (b d : Addr) (c0 c1 c2 : Int32) (h0 : Heap) := Go md l Z n0 ({ frames := 0, cells := 0, slots := 0, locals := 0 } : Room) jdk_52_method_21_code 7 (some .int) "java/lang/StringUTF16" "compress" (fun v h' _ => ∃ r : Int32, v = some (.int r) ∧ Keep h0 h' [d] ∧ ((r = (3 : Int32) ∧ (¬ (255 : Int32) < c0 ∧ ¬ (255 : Int32) < c1 ∧ ¬ (255 : Int32) < c2) ∧ Ary Z h' d .byte [(.int c0.toInt8.toInt32), (.int c1.toInt8.toInt32), (.int c2.toInt8.toInt32)]) ∨ (r = (0 : Int32) ∧ (255 : Int32) < c0) ∨ (r = (1 : Int32) ∧ (255 : Int32) < c1) ∨ (r = (2 : Int32) ∧ (255 : Int32) < c2)))
theorem ef_cmp5_3 (mid : MethodId) (b d : Addr) (c0 c1 c2 : Int32)  : entryFrame mid #[(.ref b), (.int (0 : Int32)), (.ref d), (.int (0 : Int32)), (.int (3 : Int32))] 7 = mkF mid 0 #[.val (.ref b), .val (.int (0 : Int32)), .val (.ref d), .val (.int (0 : Int32)), .val (.int (3 : Int32)), .unset, .unset] [] := by first | (simp [entryFrame, mkF, argsToLocals, Value.category]; done) | rfl
set_option maxRecDepth 65536 in
set_option maxHeartbeats 40000000 in
theorem c_cmp5_3 {md : Md} {l : Launch} {Z : State} {n0 : Nat} {a0 : Array Value} (hw : HW a0 Z) (b d : Addr) (c0 c1 c2 : Int32) {h0 : Heap} (A : Ary Z h0 b .char [(.int c0), (.int c1), (.int c2)]) (D : Ary Z h0 d .byte [(.int (0 : Int32)), (.int (0 : Int32)), (.int (0 : Int32))]) (n0d : n0 ≤ d) (nbd : b ≠ d) : G_cmp5_3 md l Z n0 b d c0 c1 c2 h0 0 0 [d] h0 0 #[.val (.ref b), .val (.int (0 : Int32)), .val (.ref d), .val (.int (0 : Int32)), .val (.int (3 : Int32)), .unset, .unset] [] := by
  refine Go.iconst 1 (0 : Int32) d7_0 rfl rfl ?_
  refine Go.istore 3 #[.val (.ref b), .val (.int (0 : Int32)), .val (.ref d), .val (.int (0 : Int32)), .val (.int (3 : Int32)), .val (.int (0 : Int32)), .unset] d7_1 rfl rfl ?_
  refine Go.iload 5 d7_3 rfl rfl ?_
  refine Go.iload 7 d7_5 rfl rfl ?_
  refine Go.icmpN 10 d7_7 rfl (tlt (by decide)).2.1 ?_
  refine Go.aloadN 11 d7_10 rfl rfl rfl ?_
  refine Go.iloadN 12 d7_11 rfl rfl ?_
  refine Go.caload 0 13 d7_12 rfl A (by decide) rfl ?_
  refine Go.istore 15 #[.val (.ref b), .val (.int (0 : Int32)), .val (.ref d), .val (.int (0 : Int32)), .val (.int (3 : Int32)), .val (.int (0 : Int32)), .val (.int c0)] d7_13 rfl rfl ?_
  refine Go.iload 17 d7_15 rfl rfl ?_
  refine Go.sipush 20 (255 : Int32) d7_17 rfl rfl ?_
  by_cases hb_0 : (255 : Int32) < c0
  · skip
    refine Go.icmpN 23 d7_20 rfl (tlt hb_0).2.2.2 ?_
    refine Go.iload 25 d7_23 rfl rfl ?_
    exact Go.retI d7_25 rfl (sf' := []) (⟨_, rfl, (Keep.refl h0 [d]), Or.inr (Or.inl (⟨rfl, hb_0⟩))⟩) (fun _ q => nomatch q) (Nat.le_of_ble_eq_true rfl) (Nat.le_of_ble_eq_true rfl)
  · skip
    refine Go.icmpY 26 d7_20 (by decide) (by decide) (flt hb_0).2.2.2 ?_
    refine Go.aloadN 27 d7_26 rfl rfl rfl ?_
    refine Go.iloadN 28 d7_27 rfl rfl ?_
    refine Go.iload 30 d7_28 rfl rfl ?_
    refine Go.i2b 31 d7_30 rfl ?_
    refine Go.bastore 0 32 d7_31 rfl D (by decide) (Nat.le_of_ble_eq_true rfl) (List.mem_of_getElem? (i := 0) rfl) n0d (fun h_1 W_2 A_3 => ?_)
    have A_4 : Ary Z h_1 d .byte [(.int (c0).toInt8.toInt32), (.int (0 : Int32)), (.int (0 : Int32))] := by have := A_3; rw [i8_idem _] at this; exact this
    refine Go.iinc 35 #[.val (.ref b), .val (.int ((0 : Int32) + (1 : Int32))), .val (.ref d), .val (.int (0 : Int32)), .val (.int (3 : Int32)), .val (.int (0 : Int32)), .val (.int c0)] (1 : Int32) d7_32 rfl rfl rfl rfl ?_
    rw [show ((0 : Int32) + (1 : Int32)) = (1 : Int32) from by decide]
    refine Go.iinc 38 #[.val (.ref b), .val (.int (1 : Int32)), .val (.ref d), .val (.int ((0 : Int32) + (1 : Int32))), .val (.int (3 : Int32)), .val (.int (0 : Int32)), .val (.int c0)] (1 : Int32) d7_35 rfl rfl rfl rfl ?_
    rw [show ((0 : Int32) + (1 : Int32)) = (1 : Int32) from by decide]
    refine Go.iinc 41 #[.val (.ref b), .val (.int (1 : Int32)), .val (.ref d), .val (.int (1 : Int32)), .val (.int (3 : Int32)), .val (.int ((0 : Int32) + (1 : Int32))), .val (.int c0)] (1 : Int32) d7_38 rfl rfl rfl rfl ?_
    rw [show ((0 : Int32) + (1 : Int32)) = (1 : Int32) from by decide]
    refine Go.goto 3 d7_41 (by decide) (by decide) ?_
    refine Go.iload 5 d7_3 rfl rfl ?_
    refine Go.iload 7 d7_5 rfl rfl ?_
    refine Go.icmpN 10 d7_7 rfl (tlt (by decide)).2.1 ?_
    refine Go.aloadN 11 d7_10 rfl rfl rfl ?_
    refine Go.iloadN 12 d7_11 rfl rfl ?_
    have f_5 := (A.other W_2 nbd)
    refine Go.caload 1 13 d7_12 rfl f_5 (by decide) rfl ?_
    refine Go.istore 15 #[.val (.ref b), .val (.int (1 : Int32)), .val (.ref d), .val (.int (1 : Int32)), .val (.int (3 : Int32)), .val (.int (1 : Int32)), .val (.int c1)] d7_13 rfl rfl ?_
    refine Go.iload 17 d7_15 rfl rfl ?_
    refine Go.sipush 20 (255 : Int32) d7_17 rfl rfl ?_
    by_cases hb_1 : (255 : Int32) < c1
    · skip
      refine Go.icmpN 23 d7_20 rfl (tlt hb_1).2.2.2 ?_
      refine Go.iload 25 d7_23 rfl rfl ?_
      exact Go.retI d7_25 rfl (sf' := []) (⟨_, rfl, ((Keep.refl h0 [d]).wr W_2 (Or.inl (List.mem_of_getElem? (i := 0) rfl))), Or.inr (Or.inr (Or.inl (⟨rfl, hb_1⟩)))⟩) (fun _ q => nomatch q) (Nat.le_of_ble_eq_true rfl) (Nat.le_of_ble_eq_true rfl)
    · skip
      refine Go.icmpY 26 d7_20 (by decide) (by decide) (flt hb_1).2.2.2 ?_
      refine Go.aloadN 27 d7_26 rfl rfl rfl ?_
      refine Go.iloadN 28 d7_27 rfl rfl ?_
      refine Go.iload 30 d7_28 rfl rfl ?_
      refine Go.i2b 31 d7_30 rfl ?_
      refine Go.bastore 1 32 d7_31 rfl A_4 (by decide) (Nat.le_of_ble_eq_true rfl) (List.mem_of_getElem? (i := 0) rfl) n0d (fun h_6 W_7 A_8 => ?_)
      have A_9 : Ary Z h_6 d .byte [(.int (c0).toInt8.toInt32), (.int (c1).toInt8.toInt32), (.int (0 : Int32))] := by have := A_8; rw [i8_idem _] at this; exact this
      refine Go.iinc 35 #[.val (.ref b), .val (.int ((1 : Int32) + (1 : Int32))), .val (.ref d), .val (.int (1 : Int32)), .val (.int (3 : Int32)), .val (.int (1 : Int32)), .val (.int c1)] (1 : Int32) d7_32 rfl rfl rfl rfl ?_
      rw [show ((1 : Int32) + (1 : Int32)) = (2 : Int32) from by decide]
      refine Go.iinc 38 #[.val (.ref b), .val (.int (2 : Int32)), .val (.ref d), .val (.int ((1 : Int32) + (1 : Int32))), .val (.int (3 : Int32)), .val (.int (1 : Int32)), .val (.int c1)] (1 : Int32) d7_35 rfl rfl rfl rfl ?_
      rw [show ((1 : Int32) + (1 : Int32)) = (2 : Int32) from by decide]
      refine Go.iinc 41 #[.val (.ref b), .val (.int (2 : Int32)), .val (.ref d), .val (.int (2 : Int32)), .val (.int (3 : Int32)), .val (.int ((1 : Int32) + (1 : Int32))), .val (.int c1)] (1 : Int32) d7_38 rfl rfl rfl rfl ?_
      rw [show ((1 : Int32) + (1 : Int32)) = (2 : Int32) from by decide]
      refine Go.goto 3 d7_41 (by decide) (by decide) ?_
      refine Go.iload 5 d7_3 rfl rfl ?_
      refine Go.iload 7 d7_5 rfl rfl ?_
      refine Go.icmpN 10 d7_7 rfl (tlt (by decide)).2.1 ?_
      refine Go.aloadN 11 d7_10 rfl rfl rfl ?_
      refine Go.iloadN 12 d7_11 rfl rfl ?_
      have f_10 := (f_5.other W_7 nbd)
      refine Go.caload 2 13 d7_12 rfl f_10 (by decide) rfl ?_
      refine Go.istore 15 #[.val (.ref b), .val (.int (2 : Int32)), .val (.ref d), .val (.int (2 : Int32)), .val (.int (3 : Int32)), .val (.int (2 : Int32)), .val (.int c2)] d7_13 rfl rfl ?_
      refine Go.iload 17 d7_15 rfl rfl ?_
      refine Go.sipush 20 (255 : Int32) d7_17 rfl rfl ?_
      by_cases hb_2 : (255 : Int32) < c2
      · skip
        refine Go.icmpN 23 d7_20 rfl (tlt hb_2).2.2.2 ?_
        refine Go.iload 25 d7_23 rfl rfl ?_
        exact Go.retI d7_25 rfl (sf' := []) (⟨_, rfl, (((Keep.refl h0 [d]).wr W_2 (Or.inl (List.mem_of_getElem? (i := 0) rfl))).wr W_7 (Or.inl (List.mem_of_getElem? (i := 0) rfl))), Or.inr (Or.inr (Or.inr (⟨rfl, hb_2⟩)))⟩) (fun _ q => nomatch q) (Nat.le_of_ble_eq_true rfl) (Nat.le_of_ble_eq_true rfl)
      · skip
        refine Go.icmpY 26 d7_20 (by decide) (by decide) (flt hb_2).2.2.2 ?_
        refine Go.aloadN 27 d7_26 rfl rfl rfl ?_
        refine Go.iloadN 28 d7_27 rfl rfl ?_
        refine Go.iload 30 d7_28 rfl rfl ?_
        refine Go.i2b 31 d7_30 rfl ?_
        refine Go.bastore 2 32 d7_31 rfl A_9 (by decide) (Nat.le_of_ble_eq_true rfl) (List.mem_of_getElem? (i := 0) rfl) n0d (fun h_11 W_12 A_13 => ?_)
        have A_14 : Ary Z h_11 d .byte [(.int (c0).toInt8.toInt32), (.int (c1).toInt8.toInt32), (.int (c2).toInt8.toInt32)] := by have := A_13; rw [i8_idem _] at this; exact this
        refine Go.iinc 35 #[.val (.ref b), .val (.int ((2 : Int32) + (1 : Int32))), .val (.ref d), .val (.int (2 : Int32)), .val (.int (3 : Int32)), .val (.int (2 : Int32)), .val (.int c2)] (1 : Int32) d7_32 rfl rfl rfl rfl ?_
        rw [show ((2 : Int32) + (1 : Int32)) = (3 : Int32) from by decide]
        refine Go.iinc 38 #[.val (.ref b), .val (.int (3 : Int32)), .val (.ref d), .val (.int ((2 : Int32) + (1 : Int32))), .val (.int (3 : Int32)), .val (.int (2 : Int32)), .val (.int c2)] (1 : Int32) d7_35 rfl rfl rfl rfl ?_
        rw [show ((2 : Int32) + (1 : Int32)) = (3 : Int32) from by decide]
        refine Go.iinc 41 #[.val (.ref b), .val (.int (3 : Int32)), .val (.ref d), .val (.int (3 : Int32)), .val (.int (3 : Int32)), .val (.int ((2 : Int32) + (1 : Int32))), .val (.int c2)] (1 : Int32) d7_38 rfl rfl rfl rfl ?_
        rw [show ((2 : Int32) + (1 : Int32)) = (3 : Int32) from by decide]
        refine Go.goto 3 d7_41 (by decide) (by decide) ?_
        refine Go.iload 5 d7_3 rfl rfl ?_
        refine Go.iload 7 d7_5 rfl rfl ?_
        refine Go.icmpY 44 d7_7 (by decide) (by decide) (flt (by decide)).2.1 ?_
        refine Go.iload 46 d7_44 rfl rfl ?_
        exact Go.retI d7_46 rfl (sf' := []) (⟨_, rfl, ((((Keep.refl h0 [d]).wr W_2 (Or.inl (List.mem_of_getElem? (i := 0) rfl))).wr W_7 (Or.inl (List.mem_of_getElem? (i := 0) rfl))).wr W_12 (Or.inl (List.mem_of_getElem? (i := 0) rfl))), Or.inl ⟨rfl, ⟨hb_0, hb_1, hb_2⟩, A_14⟩⟩) (fun _ q => nomatch q) (Nat.le_of_ble_eq_true rfl) (Nat.le_of_ble_eq_true rfl)
abbrev G_cmp3_3 (md : Md) (l : Launch) (Z : State) (n0 : Nat) (b : Addr) (c0 c1 c2 : Int32) (h0 : Heap) := Go md l Z n0 ({ frames := 3, cells := 2, slots := 9, locals := 40 } : Room) jdk_52_method_16_code 6 (some (.array .byte)) "java/lang/StringUTF16" "compress" (fun v h' _ => ∃ x, v = some (.ref x) ∧ Ext h0 h' ∧ h0.size ≤ x ∧ (((¬ (255 : Int32) < c0 ∧ ¬ (255 : Int32) < c1 ∧ ¬ (255 : Int32) < c2) ∧ Ary Z h' x .byte [(.int c0.toInt8.toInt32), (.int c1.toInt8.toInt32), (.int c2.toInt8.toInt32)]) ∨ (((255 : Int32) < c0 ∨ (255 : Int32) < c1 ∨ (255 : Int32) < c2) ∧ Ary Z h' x .byte [(.int (lo16 c0)), (.int (hi16 c0)), (.int (lo16 c1)), (.int (hi16 c1)), (.int (lo16 c2)), (.int (hi16 c2))])))
theorem ef_cmp3_3 (mid : MethodId) (b : Addr) (c0 c1 c2 : Int32)  : entryFrame mid #[(.ref b), (.int (0 : Int32)), (.int (3 : Int32))] 6 = mkF mid 0 #[.val (.ref b), .val (.int (0 : Int32)), .val (.int (3 : Int32)), .unset, .unset, .unset] [] := by first | (simp [entryFrame, mkF, argsToLocals, Value.category]; done) | rfl
set_option maxRecDepth 65536 in
set_option maxHeartbeats 40000000 in
theorem c_cmp3_3 {md : Md} {l : Launch} {Z : State} {n0 : Nat} {a0 : Array Value} (hw : HW a0 Z) (b : Addr) (c0 c1 c2 : Int32) {h0 : Heap} (A : Ary Z h0 b .char [(.int c0), (.int c1), (.int c2)]) (b_c0 : CHP c0) (b_c1 : CHP c1) (b_c2 : CHP c2) (UA : Sta Z Z.heap "java/lang/StringUTF16" "$assertionsDisabled" "Z" (.int 1)) (UH : Sta Z Z.heap "java/lang/StringUTF16" "HI_BYTE_SHIFT" "I" (.int 0)) (UL : Sta Z Z.heap "java/lang/StringUTF16" "LO_BYTE_SHIFT" "I" (.int 8))  : G_cmp3_3 md l Z n0 b c0 c1 c2 h0 0 0 [] h0 0 #[.val (.ref b), .val (.int (0 : Int32)), .val (.int (3 : Int32)), .unset, .unset, .unset] [] := by
  refine Go.iloadN 1 d6_0 rfl rfl ?_
  refine Go.newA 3 3 d6_1 rfl rfl (w30 hw) (by decide) 3 (Nat.le_refl _) (by decide) (Nat.le_of_ble_eq_true rfl) (Nat.le_of_ble_eq_true rfl) (fun h_1 x_2 g_3 q_4 E_5 lt_6 A_7 => ?_)
  have A_8 : Ary Z h_1 x_2 .byte [(.int (0 : Int32)), (.int (0 : Int32)), (.int (0 : Int32))] := A_7
  show G_cmp3_3 md l Z n0 b c0 c1 c2 h0 1 3 [x_2] h_1 3 #[.val (.ref b), .val (.int (0 : Int32)), .val (.int (3 : Int32)), .unset, .unset, .unset] [(.ref x_2)]
  refine Go.astoreN 4 #[.val (.ref b), .val (.int (0 : Int32)), .val (.int (3 : Int32)), .val (.ref x_2), .unset, .unset] d6_3 rfl rfl rfl ?_
  refine Go.aloadN 5 d6_4 rfl rfl rfl ?_
  refine Go.iloadN 6 d6_5 rfl rfl ?_
  refine Go.aloadN 7 d6_6 rfl rfl rfl ?_
  refine Go.iconst 8 (0 : Int32) d6_7 rfl rfl ?_
  refine Go.iloadN 9 d6_8 rfl rfl ?_
  have f_9 := A.ext E_5
  have nbd : b ≠ x_2 := Nat.ne_of_lt (Nat.lt_of_lt_of_le A.lt (Nat.le_of_eq g_3))
  refine Go.callS (S := []) 12 [(.ref b), (.int (0 : Int32)), (.ref x_2), (.int (0 : Int32)), (.int (3 : Int32))] d6_9 rfl rfl (w31 hw) (w32 hw) (w28 hw) (w33 hw) (by decide) (call_of_go (R := _) (len := 3) (W := 0) (plainFor_of_name pn_0) (fun mid => ef_cmp5_3 mid b x_2 c0 c1 c2 ) (c_cmp5_3 hw b x_2 c0 c1 c2 f_9 A_8 q_4 nbd) (w33 hw) (w28 hw) (by decide) (by decide)) (lenOf pd_3 rfl) (Nat.le_of_ble_eq_true rfl) rfl (Nat.le_of_ble_eq_true rfl) (Nat.le_of_ble_eq_true rfl) (fun _ q => q) (fun v h_10 sf_11 hq => ?_)
  obtain ⟨r, rfl, K5, ⟨rfl, hlat, D5⟩ | ⟨rfl, hbig⟩ | ⟨rfl, hbig⟩ | ⟨rfl, hbig⟩⟩ := hq
  · skip
    refine Go.more (sf' := [x_2]) ?_ (Nat.le_refl _) (Nat.le_refl _) (fun _ q => List.mem_append_right _ q)
    show G_cmp3_3 md l Z n0 b c0 c1 c2 h0 1 3 [x_2] h_10 12 #[.val (.ref b), .val (.int (0 : Int32)), .val (.int (3 : Int32)), .val (.ref x_2), .unset, .unset] [(.int (3 : Int32))]
    refine Go.istore 14 #[.val (.ref b), .val (.int (0 : Int32)), .val (.int (3 : Int32)), .val (.ref x_2), .val (.int (3 : Int32)), .unset] d6_12 rfl rfl ?_
    refine Go.iload 16 d6_14 rfl rfl ?_
    refine Go.iloadN 17 d6_16 rfl rfl ?_
    refine Go.icmpY 57 d6_17 (by decide) (by decide) (teq (by decide)).1 ?_
    refine Go.aloadN 58 d6_57 rfl rfl rfl ?_
    have X_12 : Ext h0 h_10 := extK E_5 K5 (allS (Nat.le_of_eq g_3) all0)
    exact Go.retA d6_58 rfl rfl rfl (sf' := []) (⟨_, rfl, X_12, (Nat.le_of_eq g_3), Or.inl ⟨hlat, D5⟩⟩) (fun _ q => nomatch q) (Nat.le_of_ble_eq_true rfl) (Nat.le_of_ble_eq_true rfl)
  · skip
    refine Go.more (sf' := [x_2]) ?_ (Nat.le_refl _) (Nat.le_refl _) (fun _ q => List.mem_append_right _ q)
    show G_cmp3_3 md l Z n0 b c0 c1 c2 h0 1 3 [x_2] h_10 12 #[.val (.ref b), .val (.int (0 : Int32)), .val (.int (3 : Int32)), .val (.ref x_2), .unset, .unset] [(.int (0 : Int32))]
    refine Go.istore 14 #[.val (.ref b), .val (.int (0 : Int32)), .val (.int (3 : Int32)), .val (.ref x_2), .val (.int (0 : Int32)), .unset] d6_12 rfl rfl ?_
    refine Go.iload 16 d6_14 rfl rfl ?_
    refine Go.iloadN 17 d6_16 rfl rfl ?_
    refine Go.icmpN 20 d6_17 rfl (feq (by decide)).1 ?_
    refine Go.aloadN 21 d6_20 rfl rfl rfl ?_
    refine Go.iloadN 22 d6_21 rfl rfl ?_
    refine Go.iloadN 23 d6_22 rfl rfl ?_
    have X_13 : Ext h0 h_10 := extK E_5 K5 (allS (Nat.le_of_eq g_3) all0)
    have f_14 := A.ext X_13
    refine Go.callS (S := []) 26 [(.ref b), (.int (0 : Int32)), (.int (3 : Int32))] d6_23 rfl rfl (w86 hw) (w87 hw) (w28 hw) (w88 hw) (by decide) (call_of_go (R := _) (len := 3) (W := 0) (plainFor_of_name pn_0) (fun mid => ef_tob3 mid b c0 c1 c2 ) (c_tob3 hw b c0 c1 c2 f_14 UA UH UL) (w88 hw) (w28 hw) (by decide) (by decide)) (lenOf pd_4 rfl) (Nat.le_of_ble_eq_true rfl) rfl (Nat.le_of_ble_eq_true rfl) (Nat.le_of_ble_eq_true rfl) (fun _ q => nomatch q) (fun v h_15 sf_20 hq => ?_)
    obtain ⟨x_16, rfl, E_17, le_18, A_19⟩ := hq
    refine Go.more (sf' := [x_2]) ?_ (Nat.le_refl _) (Nat.le_refl _) (fun _ q => List.mem_append_right _ q)
    show G_cmp3_3 md l Z n0 b c0 c1 c2 h0 2 9 [x_2] h_15 26 #[.val (.ref b), .val (.int (0 : Int32)), .val (.int (3 : Int32)), .val (.ref x_2), .val (.int (0 : Int32)), .unset] [(.ref x_16)]
    refine Go.astore 28 #[.val (.ref b), .val (.int (0 : Int32)), .val (.int (3 : Int32)), .val (.ref x_2), .val (.int (0 : Int32)), .val (.ref x_16)] d6_26 rfl rfl rfl ?_
    refine Go.aload 30 d6_28 rfl rfl rfl ?_
    refine Go.iload 32 d6_30 rfl rfl ?_
    refine Go.callS (S := []) 35 [(.ref x_16), (.int (0 : Int32))] d6_32 rfl rfl (w102 hw) (w103 hw) (w28 hw) (w104 hw) (by decide) (call_of_go (R := _) (len := 3) (W := 0) (plainFor_of_name pn_0) (fun mid => ef_getc0 mid x_16 (lo16 c0) (hi16 c0) [(.int (lo16 c0)), (.int (hi16 c0)), (.int (lo16 c1)), (.int (hi16 c1)), (.int (lo16 c2)), (.int (hi16 c2))] ) (c_getc0 hw x_16 (lo16 c0) (hi16 c0) [(.int (lo16 c0)), (.int (hi16 c0)), (.int (lo16 c1)), (.int (hi16 c1)), (.int (lo16 c2)), (.int (hi16 c2))] A_19 rfl rfl UA UH UL) (w104 hw) (w28 hw) (by decide) (by decide)) (lenOf pd_5 rfl) (Nat.le_of_ble_eq_true rfl) rfl (Nat.le_of_ble_eq_true rfl) (Nat.le_of_ble_eq_true rfl) (fun _ q => nomatch q) (fun v h_21 sf_22 hq => ?_)
    obtain ⟨rfl, rfl⟩ := hq
    rw [rt16 b_c0]
    refine Go.more (sf' := [x_2]) ?_ (Nat.le_refl _) (Nat.le_refl _) (fun _ q => List.mem_append_right _ q)
    show G_cmp3_3 md l Z n0 b c0 c1 c2 h0 2 9 [x_2] h_15 35 #[.val (.ref b), .val (.int (0 : Int32)), .val (.int (3 : Int32)), .val (.ref x_2), .val (.int (0 : Int32)), .val (.ref x_16)] [(.int c0)]
    refine Go.sipush 38 (255 : Int32) d6_35 rfl rfl ?_
    refine Go.icmpY 54 d6_38 (by decide) (by decide) (tlt hbig).2.2.1 ?_
    refine Go.aload 56 d6_54 rfl rfl rfl ?_
    have X_23 : Ext h0 h_15 := extT X_13 E_17
    exact Go.retA d6_56 rfl rfl rfl (sf' := []) (⟨_, rfl, X_23, (Nat.le_trans X_13.1 le_18), Or.inr ⟨Or.inl (hbig), A_19⟩⟩) (fun _ q => nomatch q) (Nat.le_of_ble_eq_true rfl) (Nat.le_of_ble_eq_true rfl)
  · skip
    refine Go.more (sf' := [x_2]) ?_ (Nat.le_refl _) (Nat.le_refl _) (fun _ q => List.mem_append_right _ q)
    show G_cmp3_3 md l Z n0 b c0 c1 c2 h0 1 3 [x_2] h_10 12 #[.val (.ref b), .val (.int (0 : Int32)), .val (.int (3 : Int32)), .val (.ref x_2), .unset, .unset] [(.int (1 : Int32))]
    refine Go.istore 14 #[.val (.ref b), .val (.int (0 : Int32)), .val (.int (3 : Int32)), .val (.ref x_2), .val (.int (1 : Int32)), .unset] d6_12 rfl rfl ?_
    refine Go.iload 16 d6_14 rfl rfl ?_
    refine Go.iloadN 17 d6_16 rfl rfl ?_
    refine Go.icmpN 20 d6_17 rfl (feq (by decide)).1 ?_
    refine Go.aloadN 21 d6_20 rfl rfl rfl ?_
    refine Go.iloadN 22 d6_21 rfl rfl ?_
    refine Go.iloadN 23 d6_22 rfl rfl ?_
    have X_24 : Ext h0 h_10 := extK E_5 K5 (allS (Nat.le_of_eq g_3) all0)
    have f_25 := A.ext X_24
    refine Go.callS (S := []) 26 [(.ref b), (.int (0 : Int32)), (.int (3 : Int32))] d6_23 rfl rfl (w86 hw) (w87 hw) (w28 hw) (w88 hw) (by decide) (call_of_go (R := _) (len := 3) (W := 0) (plainFor_of_name pn_0) (fun mid => ef_tob3 mid b c0 c1 c2 ) (c_tob3 hw b c0 c1 c2 f_25 UA UH UL) (w88 hw) (w28 hw) (by decide) (by decide)) (lenOf pd_4 rfl) (Nat.le_of_ble_eq_true rfl) rfl (Nat.le_of_ble_eq_true rfl) (Nat.le_of_ble_eq_true rfl) (fun _ q => nomatch q) (fun v h_26 sf_31 hq => ?_)
    obtain ⟨x_27, rfl, E_28, le_29, A_30⟩ := hq
    refine Go.more (sf' := [x_2]) ?_ (Nat.le_refl _) (Nat.le_refl _) (fun _ q => List.mem_append_right _ q)
    show G_cmp3_3 md l Z n0 b c0 c1 c2 h0 2 9 [x_2] h_26 26 #[.val (.ref b), .val (.int (0 : Int32)), .val (.int (3 : Int32)), .val (.ref x_2), .val (.int (1 : Int32)), .unset] [(.ref x_27)]
    refine Go.astore 28 #[.val (.ref b), .val (.int (0 : Int32)), .val (.int (3 : Int32)), .val (.ref x_2), .val (.int (1 : Int32)), .val (.ref x_27)] d6_26 rfl rfl rfl ?_
    refine Go.aload 30 d6_28 rfl rfl rfl ?_
    refine Go.iload 32 d6_30 rfl rfl ?_
    refine Go.callS (S := []) 35 [(.ref x_27), (.int (1 : Int32))] d6_32 rfl rfl (w102 hw) (w103 hw) (w28 hw) (w104 hw) (by decide) (call_of_go (R := _) (len := 3) (W := 0) (plainFor_of_name pn_0) (fun mid => ef_getc1 mid x_27 (lo16 c1) (hi16 c1) [(.int (lo16 c0)), (.int (hi16 c0)), (.int (lo16 c1)), (.int (hi16 c1)), (.int (lo16 c2)), (.int (hi16 c2))] ) (c_getc1 hw x_27 (lo16 c1) (hi16 c1) [(.int (lo16 c0)), (.int (hi16 c0)), (.int (lo16 c1)), (.int (hi16 c1)), (.int (lo16 c2)), (.int (hi16 c2))] A_30 rfl rfl UA UH UL) (w104 hw) (w28 hw) (by decide) (by decide)) (lenOf pd_5 rfl) (Nat.le_of_ble_eq_true rfl) rfl (Nat.le_of_ble_eq_true rfl) (Nat.le_of_ble_eq_true rfl) (fun _ q => nomatch q) (fun v h_32 sf_33 hq => ?_)
    obtain ⟨rfl, rfl⟩ := hq
    rw [rt16 b_c1]
    refine Go.more (sf' := [x_2]) ?_ (Nat.le_refl _) (Nat.le_refl _) (fun _ q => List.mem_append_right _ q)
    show G_cmp3_3 md l Z n0 b c0 c1 c2 h0 2 9 [x_2] h_26 35 #[.val (.ref b), .val (.int (0 : Int32)), .val (.int (3 : Int32)), .val (.ref x_2), .val (.int (1 : Int32)), .val (.ref x_27)] [(.int c1)]
    refine Go.sipush 38 (255 : Int32) d6_35 rfl rfl ?_
    refine Go.icmpY 54 d6_38 (by decide) (by decide) (tlt hbig).2.2.1 ?_
    refine Go.aload 56 d6_54 rfl rfl rfl ?_
    have X_34 : Ext h0 h_26 := extT X_24 E_28
    exact Go.retA d6_56 rfl rfl rfl (sf' := []) (⟨_, rfl, X_34, (Nat.le_trans X_24.1 le_29), Or.inr ⟨Or.inr (Or.inl (hbig)), A_30⟩⟩) (fun _ q => nomatch q) (Nat.le_of_ble_eq_true rfl) (Nat.le_of_ble_eq_true rfl)
  · skip
    refine Go.more (sf' := [x_2]) ?_ (Nat.le_refl _) (Nat.le_refl _) (fun _ q => List.mem_append_right _ q)
    show G_cmp3_3 md l Z n0 b c0 c1 c2 h0 1 3 [x_2] h_10 12 #[.val (.ref b), .val (.int (0 : Int32)), .val (.int (3 : Int32)), .val (.ref x_2), .unset, .unset] [(.int (2 : Int32))]
    refine Go.istore 14 #[.val (.ref b), .val (.int (0 : Int32)), .val (.int (3 : Int32)), .val (.ref x_2), .val (.int (2 : Int32)), .unset] d6_12 rfl rfl ?_
    refine Go.iload 16 d6_14 rfl rfl ?_
    refine Go.iloadN 17 d6_16 rfl rfl ?_
    refine Go.icmpN 20 d6_17 rfl (feq (by decide)).1 ?_
    refine Go.aloadN 21 d6_20 rfl rfl rfl ?_
    refine Go.iloadN 22 d6_21 rfl rfl ?_
    refine Go.iloadN 23 d6_22 rfl rfl ?_
    have X_35 : Ext h0 h_10 := extK E_5 K5 (allS (Nat.le_of_eq g_3) all0)
    have f_36 := A.ext X_35
    refine Go.callS (S := []) 26 [(.ref b), (.int (0 : Int32)), (.int (3 : Int32))] d6_23 rfl rfl (w86 hw) (w87 hw) (w28 hw) (w88 hw) (by decide) (call_of_go (R := _) (len := 3) (W := 0) (plainFor_of_name pn_0) (fun mid => ef_tob3 mid b c0 c1 c2 ) (c_tob3 hw b c0 c1 c2 f_36 UA UH UL) (w88 hw) (w28 hw) (by decide) (by decide)) (lenOf pd_4 rfl) (Nat.le_of_ble_eq_true rfl) rfl (Nat.le_of_ble_eq_true rfl) (Nat.le_of_ble_eq_true rfl) (fun _ q => nomatch q) (fun v h_37 sf_42 hq => ?_)
    obtain ⟨x_38, rfl, E_39, le_40, A_41⟩ := hq
    refine Go.more (sf' := [x_2]) ?_ (Nat.le_refl _) (Nat.le_refl _) (fun _ q => List.mem_append_right _ q)
    show G_cmp3_3 md l Z n0 b c0 c1 c2 h0 2 9 [x_2] h_37 26 #[.val (.ref b), .val (.int (0 : Int32)), .val (.int (3 : Int32)), .val (.ref x_2), .val (.int (2 : Int32)), .unset] [(.ref x_38)]
    refine Go.astore 28 #[.val (.ref b), .val (.int (0 : Int32)), .val (.int (3 : Int32)), .val (.ref x_2), .val (.int (2 : Int32)), .val (.ref x_38)] d6_26 rfl rfl rfl ?_
    refine Go.aload 30 d6_28 rfl rfl rfl ?_
    refine Go.iload 32 d6_30 rfl rfl ?_
    refine Go.callS (S := []) 35 [(.ref x_38), (.int (2 : Int32))] d6_32 rfl rfl (w102 hw) (w103 hw) (w28 hw) (w104 hw) (by decide) (call_of_go (R := _) (len := 3) (W := 0) (plainFor_of_name pn_0) (fun mid => ef_getc2 mid x_38 (lo16 c2) (hi16 c2) [(.int (lo16 c0)), (.int (hi16 c0)), (.int (lo16 c1)), (.int (hi16 c1)), (.int (lo16 c2)), (.int (hi16 c2))] ) (c_getc2 hw x_38 (lo16 c2) (hi16 c2) [(.int (lo16 c0)), (.int (hi16 c0)), (.int (lo16 c1)), (.int (hi16 c1)), (.int (lo16 c2)), (.int (hi16 c2))] A_41 rfl rfl UA UH UL) (w104 hw) (w28 hw) (by decide) (by decide)) (lenOf pd_5 rfl) (Nat.le_of_ble_eq_true rfl) rfl (Nat.le_of_ble_eq_true rfl) (Nat.le_of_ble_eq_true rfl) (fun _ q => nomatch q) (fun v h_43 sf_44 hq => ?_)
    obtain ⟨rfl, rfl⟩ := hq
    rw [rt16 b_c2]
    refine Go.more (sf' := [x_2]) ?_ (Nat.le_refl _) (Nat.le_refl _) (fun _ q => List.mem_append_right _ q)
    show G_cmp3_3 md l Z n0 b c0 c1 c2 h0 2 9 [x_2] h_37 35 #[.val (.ref b), .val (.int (0 : Int32)), .val (.int (3 : Int32)), .val (.ref x_2), .val (.int (2 : Int32)), .val (.ref x_38)] [(.int c2)]
    refine Go.sipush 38 (255 : Int32) d6_35 rfl rfl ?_
    refine Go.icmpY 54 d6_38 (by decide) (by decide) (tlt hbig).2.2.1 ?_
    refine Go.aload 56 d6_54 rfl rfl rfl ?_
    have X_45 : Ext h0 h_37 := extT X_35 E_39
    exact Go.retA d6_56 rfl rfl rfl (sf' := []) (⟨_, rfl, X_45, (Nat.le_trans X_35.1 le_40), Or.inr ⟨Or.inr (Or.inr (hbig)), A_41⟩⟩) (fun _ q => nomatch q) (Nat.le_of_ble_eq_true rfl) (Nat.le_of_ble_eq_true rfl)
abbrev G_cfl3_0 (md : Md) (l : Launch) (Z : State) (n0 : Nat) (d : Addr) (vs : List Value) (h0 : Heap) := Go md l Z n0 ({ frames := 0, cells := 0, slots := 0, locals := 0 } : Room) jdk_52_method_15_code 2 (some .byte) "java/lang/StringUTF16" "coderFromArrayLen" (fun v h' _ => h0 = h' ∧ v = some (.int 0))
theorem ef_cfl3_0 (mid : MethodId) (d : Addr) (vs : List Value)  : entryFrame mid #[(.ref d), (.int (3 : Int32))] 2 = mkF mid 0 #[.val (.ref d), .val (.int (3 : Int32))] [] := by first | (simp [entryFrame, mkF, argsToLocals, Value.category]; done) | rfl
set_option maxRecDepth 65536 in
set_option maxHeartbeats 40000000 in
theorem c_cfl3_0 {md : Md} {l : Launch} {Z : State} {n0 : Nat} {a0 : Array Value} (hw : HW a0 Z) (d : Addr) (vs : List Value) {h0 : Heap} (A : Ary Z h0 d .byte vs) (hl : vs.length = 3) : G_cfl3_0 md l Z n0 d vs h0 0 0 [] h0 0 #[.val (.ref d), .val (.int (3 : Int32))] [] := by
  refine Go.iloadN 1 d8_0 rfl rfl ?_
  refine Go.aloadN 2 d8_1 rfl rfl rfl ?_
  refine Go.alen 3 (3 : Int32) d8_2 rfl A (by rw [hl]; rfl) ?_
  refine Go.isub 4 d8_3 rfl ?_
  rw [show ((3 : Int32) - (3 : Int32)) = (0 : Int32) from by decide]
  refine Go.bipush 6 (31 : Int32) d8_4 rfl rfl ?_
  refine Go.iushr 7 d8_6 rfl ?_
  refine Go.i2b 8 d8_7 rfl ?_
  exact Go.retN (0 : Int32) d8_8 rfl (t := .byte) (by simp) (by decide) (sf' := []) (⟨rfl, rfl⟩) (fun _ q => nomatch q) (Nat.le_of_ble_eq_true rfl) (Nat.le_of_ble_eq_true rfl)
abbrev G_cfl3_1 (md : Md) (l : Launch) (Z : State) (n0 : Nat) (d : Addr) (vs : List Value) (h0 : Heap) := Go md l Z n0 ({ frames := 0, cells := 0, slots := 0, locals := 0 } : Room) jdk_52_method_15_code 2 (some .byte) "java/lang/StringUTF16" "coderFromArrayLen" (fun v h' _ => h0 = h' ∧ v = some (.int 1))
theorem ef_cfl3_1 (mid : MethodId) (d : Addr) (vs : List Value)  : entryFrame mid #[(.ref d), (.int (3 : Int32))] 2 = mkF mid 0 #[.val (.ref d), .val (.int (3 : Int32))] [] := by first | (simp [entryFrame, mkF, argsToLocals, Value.category]; done) | rfl
set_option maxRecDepth 65536 in
set_option maxHeartbeats 40000000 in
theorem c_cfl3_1 {md : Md} {l : Launch} {Z : State} {n0 : Nat} {a0 : Array Value} (hw : HW a0 Z) (d : Addr) (vs : List Value) {h0 : Heap} (A : Ary Z h0 d .byte vs) (hl : vs.length = 6) : G_cfl3_1 md l Z n0 d vs h0 0 0 [] h0 0 #[.val (.ref d), .val (.int (3 : Int32))] [] := by
  refine Go.iloadN 1 d8_0 rfl rfl ?_
  refine Go.aloadN 2 d8_1 rfl rfl rfl ?_
  refine Go.alen 3 (6 : Int32) d8_2 rfl A (by rw [hl]; rfl) ?_
  refine Go.isub 4 d8_3 rfl ?_
  rw [show ((3 : Int32) - (6 : Int32)) = (-3 : Int32) from by decide]
  refine Go.bipush 6 (31 : Int32) d8_4 rfl rfl ?_
  refine Go.iushr 7 d8_6 rfl ?_
  refine Go.i2b 8 d8_7 rfl ?_
  exact Go.retN (1 : Int32) d8_8 rfl (t := .byte) (by simp) (by decide) (sf' := []) (⟨rfl, rfl⟩) (fun _ q => nomatch q) (Nat.le_of_ble_eq_true rfl) (Nat.le_of_ble_eq_true rfl)
abbrev G_new4_3 (md : Md) (l : Launch) (Z : State) (n0 : Nat) (x b : Addr) (z : Int32) (c0 c1 c2 : Int32) (h0 : Heap) := Go md l Z n0 ({ frames := 4, cells := 2, slots := 9, locals := 57 } : Room) jdk_42_method_149_code 6 none "java/lang/String" "<init>" (fun v h' _ => v = none ∧ Keep h0 h' [x] ∧ Gst Z h' x [c0, c1, c2])
theorem ef_new4_3 (mid : MethodId) (x b : Addr) (z : Int32) (c0 c1 c2 : Int32)  : entryFrame mid #[(.ref x), (.ref b), (.int (0 : Int32)), (.int (3 : Int32)), .null] 6 = mkF mid 0 #[.val (.ref x), .val (.ref b), .val (.int (0 : Int32)), .val (.int (3 : Int32)), .val .null, .unset] [] := by first | (simp [entryFrame, mkF, argsToLocals, Value.category]; done) | rfl
set_option maxRecDepth 65536 in
set_option maxHeartbeats 40000000 in
theorem c_new4_3 {md : Md} {l : Launch} {Z : State} {n0 : Nat} {a0 : Array Value} (hw : HW a0 Z) (x b : Addr) (z : Int32) (c0 c1 c2 : Int32) {h0 : Heap} (E : Exa Z h0 x "java/lang/String") (n0x : n0 ≤ x) {v0 c0_ : Value} (V : Fld Z h0 x "java/lang/String" "value" "[B" v0) (C : Fld Z h0 x "java/lang/String" "coder" "B" c0_) (A : Ary Z h0 b .char [(.int c0), (.int c1), (.int c2)]) (b_c0 : CHP c0) (b_c1 : CHP c1) (b_c2 : CHP c2) (SC : Sta Z Z.heap "java/lang/String" "COMPACT_STRINGS" "Z" (.int z)) (hz : ¬ z = 0) (UA : Sta Z Z.heap "java/lang/StringUTF16" "$assertionsDisabled" "Z" (.int 1)) (UH : Sta Z Z.heap "java/lang/StringUTF16" "HI_BYTE_SHIFT" "I" (.int 0)) (UL : Sta Z Z.heap "java/lang/StringUTF16" "LO_BYTE_SHIFT" "I" (.int 8))  : G_new4_3 md l Z n0 x b z c0 c1 c2 h0 0 0 [x] h0 0 #[.val (.ref x), .val (.ref b), .val (.int (0 : Int32)), .val (.int (3 : Int32)), .val .null, .unset] [] := by
  refine Go.aloadN 1 d4_0 rfl rfl rfl ?_
  refine Go.initO (W := 0) 4 d4_1 rfl (w22 hw) (w23 hw) (w24 hw) rfl (by decide) (Nat.le_of_ble_eq_true rfl) (by decide) ?_
  refine Go.iloadN 5 d4_4 rfl rfl ?_
  refine Go.ifY 27 d4_5 (by decide) (by decide) (feq (by decide)).2 ?_
  refine Go.getS 30 d4_27 rfl (w25 hw) Via.refl SC ?_
  refine Go.ifN 33 d4_30 rfl (feq hz).1 ?_
  refine Go.aloadN 34 d4_33 rfl rfl rfl ?_
  refine Go.iloadN 35 d4_34 rfl rfl ?_
  refine Go.iloadN 36 d4_35 rfl rfl ?_
  refine Go.callS (S := []) 39 [(.ref b), (.int (0 : Int32)), (.int (3 : Int32))] d4_36 rfl rfl (w26 hw) (w27 hw) (w28 hw) (w29 hw) (by decide) (call_of_go (R := _) (len := 3) (W := 0) (plainFor_of_name pn_0) (fun mid => ef_cmp3_3 mid b c0 c1 c2 ) (c_cmp3_3 hw b c0 c1 c2 A b_c0 b_c1 b_c2 UA UH UL) (w29 hw) (w28 hw) (by decide) (by decide)) (lenOf pd_4 rfl) (Nat.le_of_ble_eq_true rfl) rfl (Nat.le_of_ble_eq_true rfl) (Nat.le_of_ble_eq_true rfl) (fun _ q => nomatch q) (fun v h_1 sf_2 hq => ?_)
  obtain ⟨y, rfl, X3, le3, ⟨hlat, A3⟩ | ⟨hbig, A3⟩⟩ := hq
  · skip
    refine Go.more (sf' := [x]) ?_ (Nat.le_refl _) (Nat.le_refl _) (fun _ q => List.mem_append_right _ q)
    show G_new4_3 md l Z n0 x b z c0 c1 c2 h0 2 9 [x] h_1 39 #[.val (.ref x), .val (.ref b), .val (.int (0 : Int32)), .val (.int (3 : Int32)), .val .null, .unset] [(.ref y)]
    have nyx : y ≠ x := Nat.ne_of_gt (Nat.lt_of_lt_of_le E.lt le3)
    refine Go.astore 41 #[.val (.ref x), .val (.ref b), .val (.int (0 : Int32)), .val (.int (3 : Int32)), .val .null, .val (.ref y)] d4_39 rfl rfl rfl ?_
    refine Go.aloadN 42 d4_41 rfl rfl rfl ?_
    refine Go.aload 44 d4_42 rfl rfl rfl ?_
    refine Go.iloadN 45 d4_44 rfl rfl ?_
    refine Go.callS (S := [(.ref x)]) 48 [(.ref y), (.int (3 : Int32))] d4_45 rfl rfl (w34 hw) (w35 hw) (w28 hw) (w36 hw) (by decide) (call_of_go (R := _) (len := 3) (W := 1) (plainFor_of_name pn_0) (fun mid => ef_cfl3_0 mid y [(.int c0.toInt8.toInt32), (.int c1.toInt8.toInt32), (.int c2.toInt8.toInt32)] ) (c_cfl3_0 hw y [(.int c0.toInt8.toInt32), (.int c1.toInt8.toInt32), (.int c2.toInt8.toInt32)] A3 rfl) (w36 hw) (w28 hw) (by decide) (by decide)) (lenOf pd_6 rfl) (Nat.le_of_ble_eq_true rfl) rfl (Nat.le_of_ble_eq_true rfl) (Nat.le_of_ble_eq_true rfl) (fun _ q => nomatch q) (fun v h_3 sf_4 hq => ?_)
    obtain ⟨rfl, rfl⟩ := hq
    refine Go.more (sf' := [x]) ?_ (Nat.le_refl _) (Nat.le_refl _) (fun _ q => List.mem_append_right _ q)
    show G_new4_3 md l Z n0 x b z c0 c1 c2 h0 2 9 [x] h_1 48 #[.val (.ref x), .val (.ref b), .val (.int (0 : Int32)), .val (.int (3 : Int32)), .val .null, .val (.ref y)] [(.int (0 : Int32)), (.ref x)]
    have f_5 := E.ext X3
    have f_6 := C.ext X3
    refine Go.putF 51 (.int (0 : Int32)) d4_48 rfl (w37 hw) Via.refl f_6 f_5 (Or.inr ⟨(w38 hw), rfl, rfl⟩) (w13 hw) (ty := .byte) (by decide) rfl rfl (List.mem_of_getElem? (i := 0) rfl) n0x (fun h_7 W_8 => ?_)
    refine Go.aloadN 52 d4_51 rfl rfl rfl ?_
    refine Go.aload 54 d4_52 rfl rfl rfl ?_
    have f_9 := (f_5.wr W_8)
    have f_10 := ((V.ext X3).other W_8 (Or.inr (slot_ne (Or.inr (w40 hw)) (Or.inr (w38 hw)) (by decide) (t := (.array .byte)) (t' := .byte) (by decide) (by decide))))
    refine Go.putF 57 (.ref y) d4_54 rfl (w39 hw) Via.refl f_10 f_9 (Or.inr ⟨(w40 hw), rfl, rfl⟩) (w13 hw) (ty := (.array .byte)) (by decide) rfl rfl (List.mem_of_getElem? (i := 0) rfl) n0x (fun h_11 W_12 => ?_)
    have f_13 := (f_9.wr W_12)
    have f_14 := ((f_6.same W_8).other W_12 (Or.inr (slot_ne (Or.inr (w38 hw)) (Or.inr (w40 hw)) (by decide) (t := .byte) (t' := (.array .byte)) (by decide) (by decide))))
    have f_15 := ((A3.other W_8 nyx).other W_12 nyx)
    exact Go.ret0 d4_57 rfl (sf' := []) (⟨rfl, ((((Keep.refl h0 [x]).ext X3).wr W_8 (Or.inl (List.mem_of_getElem? (i := 0) rfl))).wr W_12 (Or.inl (List.mem_of_getElem? (i := 0) rfl))), y, (0 : Int32), _, f_13, f_14, (f_10.same W_12), f_15, Or.inl ⟨rfl, rfl, (latC ⟨chp0 b_c0, hlat.1⟩ (latC ⟨chp0 b_c1, hlat.2.1⟩ (latC ⟨chp0 b_c2, hlat.2.2⟩ latN)))⟩⟩) (fun _ q => nomatch q) (Nat.le_of_ble_eq_true rfl) (Nat.le_of_ble_eq_true rfl)
  · skip
    refine Go.more (sf' := [x]) ?_ (Nat.le_refl _) (Nat.le_refl _) (fun _ q => List.mem_append_right _ q)
    show G_new4_3 md l Z n0 x b z c0 c1 c2 h0 2 9 [x] h_1 39 #[.val (.ref x), .val (.ref b), .val (.int (0 : Int32)), .val (.int (3 : Int32)), .val .null, .unset] [(.ref y)]
    have nyx : y ≠ x := Nat.ne_of_gt (Nat.lt_of_lt_of_le E.lt le3)
    refine Go.astore 41 #[.val (.ref x), .val (.ref b), .val (.int (0 : Int32)), .val (.int (3 : Int32)), .val .null, .val (.ref y)] d4_39 rfl rfl rfl ?_
    refine Go.aloadN 42 d4_41 rfl rfl rfl ?_
    refine Go.aload 44 d4_42 rfl rfl rfl ?_
    refine Go.iloadN 45 d4_44 rfl rfl ?_
    refine Go.callS (S := [(.ref x)]) 48 [(.ref y), (.int (3 : Int32))] d4_45 rfl rfl (w34 hw) (w35 hw) (w28 hw) (w36 hw) (by decide) (call_of_go (R := _) (len := 3) (W := 1) (plainFor_of_name pn_0) (fun mid => ef_cfl3_1 mid y [(.int (lo16 c0)), (.int (hi16 c0)), (.int (lo16 c1)), (.int (hi16 c1)), (.int (lo16 c2)), (.int (hi16 c2))] ) (c_cfl3_1 hw y [(.int (lo16 c0)), (.int (hi16 c0)), (.int (lo16 c1)), (.int (hi16 c1)), (.int (lo16 c2)), (.int (hi16 c2))] A3 rfl) (w36 hw) (w28 hw) (by decide) (by decide)) (lenOf pd_6 rfl) (Nat.le_of_ble_eq_true rfl) rfl (Nat.le_of_ble_eq_true rfl) (Nat.le_of_ble_eq_true rfl) (fun _ q => nomatch q) (fun v h_16 sf_17 hq => ?_)
    obtain ⟨rfl, rfl⟩ := hq
    refine Go.more (sf' := [x]) ?_ (Nat.le_refl _) (Nat.le_refl _) (fun _ q => List.mem_append_right _ q)
    show G_new4_3 md l Z n0 x b z c0 c1 c2 h0 2 9 [x] h_1 48 #[.val (.ref x), .val (.ref b), .val (.int (0 : Int32)), .val (.int (3 : Int32)), .val .null, .val (.ref y)] [(.int (1 : Int32)), (.ref x)]
    have f_18 := E.ext X3
    have f_19 := C.ext X3
    refine Go.putF 51 (.int (1 : Int32)) d4_48 rfl (w37 hw) Via.refl f_19 f_18 (Or.inr ⟨(w38 hw), rfl, rfl⟩) (w13 hw) (ty := .byte) (by decide) rfl rfl (List.mem_of_getElem? (i := 0) rfl) n0x (fun h_20 W_21 => ?_)
    refine Go.aloadN 52 d4_51 rfl rfl rfl ?_
    refine Go.aload 54 d4_52 rfl rfl rfl ?_
    have f_22 := (f_18.wr W_21)
    have f_23 := ((V.ext X3).other W_21 (Or.inr (slot_ne (Or.inr (w40 hw)) (Or.inr (w38 hw)) (by decide) (t := (.array .byte)) (t' := .byte) (by decide) (by decide))))
    refine Go.putF 57 (.ref y) d4_54 rfl (w39 hw) Via.refl f_23 f_22 (Or.inr ⟨(w40 hw), rfl, rfl⟩) (w13 hw) (ty := (.array .byte)) (by decide) rfl rfl (List.mem_of_getElem? (i := 0) rfl) n0x (fun h_24 W_25 => ?_)
    have f_26 := (f_22.wr W_25)
    have f_27 := ((f_19.same W_21).other W_25 (Or.inr (slot_ne (Or.inr (w38 hw)) (Or.inr (w40 hw)) (by decide) (t := .byte) (t' := (.array .byte)) (by decide) (by decide))))
    have f_28 := ((A3.other W_21 nyx).other W_25 nyx)
    exact Go.ret0 d4_57 rfl (sf' := []) (⟨rfl, ((((Keep.refl h0 [x]).ext X3).wr W_21 (Or.inl (List.mem_of_getElem? (i := 0) rfl))).wr W_25 (Or.inl (List.mem_of_getElem? (i := 0) rfl))), y, (1 : Int32), _, f_26, f_27, (f_23.same W_25), f_28, Or.inr ⟨rfl, rfl, by rcases hbig with hbig | hbig | hbig <;> exact ⟨_, by simp, hbig⟩⟩⟩) (fun _ q => nomatch q) (Nat.le_of_ble_eq_true rfl) (Nat.le_of_ble_eq_true rfl)
abbrev G_new1_3 (md : Md) (l : Launch) (Z : State) (n0 : Nat) (x b : Addr) (z : Int32) (c0 c1 c2 : Int32) (h0 : Heap) := Go md l Z n0 ({ frames := 5, cells := 2, slots := 9, locals := 74 } : Room) jdk_42_method_3_code 2 none "java/lang/String" "<init>" (fun v h' _ => v = none ∧ Keep h0 h' [x] ∧ Gst Z h' x [c0, c1, c2])
theorem ef_new1_3 (mid : MethodId) (x b : Addr) (z : Int32) (c0 c1 c2 : Int32)  : entryFrame mid #[(.ref x), (.ref b)] 2 = mkF mid 0 #[.val (.ref x), .val (.ref b)] [] := by first | (simp [entryFrame, mkF, argsToLocals, Value.category]; done) | rfl
set_option maxRecDepth 65536 in
set_option maxHeartbeats 40000000 in
theorem c_new1_3 {md : Md} {l : Launch} {Z : State} {n0 : Nat} {a0 : Array Value} (hw : HW a0 Z) (x b : Addr) (z : Int32) (c0 c1 c2 : Int32) {h0 : Heap} (E : Exa Z h0 x "java/lang/String") (n0x : n0 ≤ x) {v0 c0_ : Value} (V : Fld Z h0 x "java/lang/String" "value" "[B" v0) (C : Fld Z h0 x "java/lang/String" "coder" "B" c0_) (A : Ary Z h0 b .char [(.int c0), (.int c1), (.int c2)]) (b_c0 : CHP c0) (b_c1 : CHP c1) (b_c2 : CHP c2) (SC : Sta Z Z.heap "java/lang/String" "COMPACT_STRINGS" "Z" (.int z)) (hz : ¬ z = 0) (UA : Sta Z Z.heap "java/lang/StringUTF16" "$assertionsDisabled" "Z" (.int 1)) (UH : Sta Z Z.heap "java/lang/StringUTF16" "HI_BYTE_SHIFT" "I" (.int 0)) (UL : Sta Z Z.heap "java/lang/StringUTF16" "LO_BYTE_SHIFT" "I" (.int 8))  : G_new1_3 md l Z n0 x b z c0 c1 c2 h0 0 0 [x] h0 0 #[.val (.ref x), .val (.ref b)] [] := by
  refine Go.aloadN 1 d3_0 rfl rfl rfl ?_
  refine Go.aloadN 2 d3_1 rfl rfl rfl ?_
  refine Go.iconst 3 (0 : Int32) d3_2 rfl rfl ?_
  refine Go.aloadN 4 d3_3 rfl rfl rfl ?_
  refine Go.alen 5 (3 : Int32) d3_4 rfl A rfl ?_
  refine Go.aconstNull 6 d3_5 rfl ?_
  refine Go.callC (S := []) (a := x) 9 [(.ref b), (.int (0 : Int32)), (.int (3 : Int32)), .null] d3_6 rfl rfl rfl (w18 hw) (w19 hw) (w21 hw) (by decide) (call_of_go (R := _) (len := 3) (W := 0) (plainFor_of_name pn_1) (fun mid => ef_new4_3 mid x b z c0 c1 c2 ) (c_new4_3 hw x b z c0 c1 c2 E n0x V C A b_c0 b_c1 b_c2 SC hz UA UH UL) (w21 hw) (w14 hw) (by decide) (by decide)) (lenOf pd_7 rfl) (Nat.le_of_ble_eq_true rfl) rfl (Nat.le_of_ble_eq_true rfl) (Nat.le_of_ble_eq_true rfl) (fun _ q => q) (fun v h_1 sf_2 hq => ?_)
  obtain ⟨rfl, K2, S2⟩ := hq
  refine Go.more (sf' := [x]) ?_ (Nat.le_refl _) (Nat.le_refl _) (fun _ q => List.mem_append_right _ q)
  show G_new1_3 md l Z n0 x b z c0 c1 c2 h0 2 9 [x] h_1 9 #[.val (.ref x), .val (.ref b)] []
  exact Go.ret0 d3_9 rfl (sf' := []) (⟨rfl, K2, S2⟩) (fun _ q => nomatch q) (Nat.le_of_ble_eq_true rfl) (Nat.le_of_ble_eq_true rfl)
abbrev G_nbl4 (md : Md) (l : Launch) (Z : State) (n0 : Nat)  (h0 : Heap) := Go md l Z n0 ({ frames := 0, cells := 0, slots := 0, locals := 0 } : Room) jdk_52_method_3_code 1 (some .int) "java/lang/StringUTF16" "newBytesLength" (fun v h' _ => h0 = h' ∧ v = some (.int (8 : Int32)))
theorem ef_nbl4 (mid : MethodId)   : entryFrame mid #[(.int (4 : Int32))] 1 = mkF mid 0 #[.val (.int (4 : Int32))] [] := by first | (simp [entryFrame, mkF, argsToLocals, Value.category]; done) | rfl
set_option maxRecDepth 65536 in
set_option maxHeartbeats 40000000 in
theorem c_nbl4 {md : Md} {l : Launch} {Z : State} {n0 : Nat} {a0 : Array Value} (hw : HW a0 Z)  {h0 : Heap}  : G_nbl4 md l Z n0  h0 0 0 [] h0 0 #[.val (.int (4 : Int32))] [] := by
  refine Go.iloadN 1 d20_0 rfl rfl ?_
  refine Go.ifY 12 d20_1 (by decide) (by decide) (flt (by decide)).2.1 ?_
  refine Go.iloadN 13 d20_12 rfl rfl ?_
  refine Go.ldcI 15 d20_13 rfl (w95 hw) ?_
  refine Go.icmpY 55 d20_15 (by decide) (by decide) (tlt (by decide)).1 ?_
  refine Go.iloadN 56 d20_55 rfl rfl ?_
  refine Go.iconst 57 (1 : Int32) d20_56 rfl rfl ?_
  refine Go.ishl 58 d20_57 rfl ?_
  rw [show ((4 : Int32) <<< ((1 : Int32) &&& 31)) = (8 : Int32) from by decide]
  exact Go.retI d20_58 rfl (sf' := []) (⟨rfl, rfl⟩) (fun _ q => nomatch q) (Nat.le_of_ble_eq_true rfl) (Nat.le_of_ble_eq_true rfl)
abbrev G_nbf4 (md : Md) (l : Launch) (Z : State) (n0 : Nat)  (h0 : Heap) := Go md l Z n0 ({ frames := 1, cells := 1, slots := 8, locals := 12 } : Room) jdk_52_method_2_code 1 (some (.array .byte)) "java/lang/StringUTF16" "newBytesFor" (fun v h' sf' => ∃ x, v = some (.ref x) ∧ Ext h0 h' ∧ h0.size ≤ x ∧ Ary Z h' x .byte [(.int (0 : Int32)), (.int (0 : Int32)), (.int (0 : Int32)), (.int (0 : Int32)), (.int (0 : Int32)), (.int (0 : Int32)), (.int (0 : Int32)), (.int (0 : Int32))] ∧ sf' = [x] ∧ n0 ≤ x)
theorem ef_nbf4 (mid : MethodId)   : entryFrame mid #[(.int (4 : Int32))] 1 = mkF mid 0 #[.val (.int (4 : Int32))] [] := by first | (simp [entryFrame, mkF, argsToLocals, Value.category]; done) | rfl
set_option maxRecDepth 65536 in
set_option maxHeartbeats 40000000 in
theorem c_nbf4 {md : Md} {l : Launch} {Z : State} {n0 : Nat} {a0 : Array Value} (hw : HW a0 Z)  {h0 : Heap}  : G_nbf4 md l Z n0  h0 0 0 [] h0 0 #[.val (.int (4 : Int32))] [] := by
  refine Go.iloadN 1 d19_0 rfl rfl ?_
  refine Go.callS (S := []) 4 [(.int (4 : Int32))] d19_1 rfl rfl (w92 hw) (w93 hw) (w28 hw) (w94 hw) (by decide) (call_of_go (R := _) (len := 3) (W := 0) (plainFor_of_name pn_0) (fun mid => ef_nbl4 mid  ) (c_nbl4 hw  ) (w94 hw) (w28 hw) (by decide) (by decide)) (lenOf pd_0 rfl) (Nat.le_of_ble_eq_true rfl) rfl (Nat.le_of_ble_eq_true rfl) (Nat.le_of_ble_eq_true rfl) (fun _ q => nomatch q) (fun v h_1 sf_2 hq => ?_)
  obtain ⟨rfl, rfl⟩ := hq
  refine Go.more (sf' := []) ?_ (Nat.le_refl _) (Nat.le_refl _) (fun _ q => List.mem_append_right _ q)
  show G_nbf4 md l Z n0  h0 0 0 [] h0 4 #[.val (.int (4 : Int32))] [(.int (8 : Int32))]
  refine Go.newA 8 6 d19_4 rfl rfl (w30 hw) (by decide) 8 (Nat.le_refl _) (by decide) (Nat.le_of_ble_eq_true rfl) (Nat.le_of_ble_eq_true rfl) (fun h_3 x_4 g_5 q_6 E_7 lt_8 A_9 => ?_)
  have A_10 : Ary Z h_3 x_4 .byte [(.int (0 : Int32)), (.int (0 : Int32)), (.int (0 : Int32)), (.int (0 : Int32)), (.int (0 : Int32)), (.int (0 : Int32)), (.int (0 : Int32)), (.int (0 : Int32))] := A_9
  show G_nbf4 md l Z n0  h0 1 8 [x_4] h_3 6 #[.val (.int (4 : Int32))] [(.ref x_4)]
  exact Go.retA d19_6 rfl rfl rfl (sf' := [x_4]) (⟨_, rfl, E_7, (Nat.le_of_eq g_5), A_10, rfl, q_6⟩) (sub1 (List.mem_of_getElem? (i := 0) rfl)) (Nat.le_of_ble_eq_true rfl) (Nat.le_of_ble_eq_true rfl)
abbrev G_tob4 (md : Md) (l : Launch) (Z : State) (n0 : Nat) (b : Addr) (c0 c1 c2 c3 : Int32) (h0 : Heap) := Go md l Z n0 ({ frames := 2, cells := 1, slots := 8, locals := 24 } : Room) jdk_52_method_14_code 5 (some (.array .byte)) "java/lang/StringUTF16" "toBytes" (fun v h' _ => ∃ x, v = some (.ref x) ∧ Ext h0 h' ∧ h0.size ≤ x ∧ Ary Z h' x .byte [(.int (lo16 c0)), (.int (hi16 c0)), (.int (lo16 c1)), (.int (hi16 c1)), (.int (lo16 c2)), (.int (hi16 c2)), (.int (lo16 c3)), (.int (hi16 c3))])
theorem ef_tob4 (mid : MethodId) (b : Addr) (c0 c1 c2 c3 : Int32)  : entryFrame mid #[(.ref b), (.int (0 : Int32)), (.int (4 : Int32))] 5 = mkF mid 0 #[.val (.ref b), .val (.int (0 : Int32)), .val (.int (4 : Int32)), .unset, .unset] [] := by first | (simp [entryFrame, mkF, argsToLocals, Value.category]; done) | rfl
set_option maxRecDepth 65536 in
set_option maxHeartbeats 40000000 in
theorem c_tob4 {md : Md} {l : Launch} {Z : State} {n0 : Nat} {a0 : Array Value} (hw : HW a0 Z) (b : Addr) (c0 c1 c2 c3 : Int32) {h0 : Heap} (A : Ary Z h0 b .char [(.int c0), (.int c1), (.int c2), (.int c3)]) (UA : Sta Z Z.heap "java/lang/StringUTF16" "$assertionsDisabled" "Z" (.int 1)) (UH : Sta Z Z.heap "java/lang/StringUTF16" "HI_BYTE_SHIFT" "I" (.int 0)) (UL : Sta Z Z.heap "java/lang/StringUTF16" "LO_BYTE_SHIFT" "I" (.int 8))  : G_tob4 md l Z n0 b c0 c1 c2 c3 h0 0 0 [] h0 0 #[.val (.ref b), .val (.int (0 : Int32)), .val (.int (4 : Int32)), .unset, .unset] [] := by
  refine Go.iloadN 1 d18_0 rfl rfl ?_
  refine Go.callS (S := []) 4 [(.int (4 : Int32))] d18_1 rfl rfl (w89 hw) (w90 hw) (w28 hw) (w91 hw) (by decide) (call_of_go (R := _) (len := 3) (W := 0) (plainFor_of_name pn_0) (fun mid => ef_nbf4 mid  ) (c_nbf4 hw  ) (w91 hw) (w28 hw) (by decide) (by decide)) (lenOf pd_1 rfl) (Nat.le_of_ble_eq_true rfl) rfl (Nat.le_of_ble_eq_true rfl) (Nat.le_of_ble_eq_true rfl) (fun _ q => nomatch q) (fun v h_1 sf_2 hq => ?_)
  obtain ⟨d, rfl, X_d, le_d, A_d, rfl, n0d⟩ := hq
  have nd : d ≠ b := Nat.ne_of_gt (Nat.lt_of_lt_of_le A.lt le_d)
  show G_tob4 md l Z n0 b c0 c1 c2 c3 h0 1 8 [d] h_1 4 #[.val (.ref b), .val (.int (0 : Int32)), .val (.int (4 : Int32)), .unset, .unset] [(.ref d)]
  refine Go.astoreN 5 #[.val (.ref b), .val (.int (0 : Int32)), .val (.int (4 : Int32)), .val (.ref d), .unset] d18_4 rfl rfl rfl ?_
  refine Go.iconst 6 (0 : Int32) d18_5 rfl rfl ?_
  refine Go.istore 8 #[.val (.ref b), .val (.int (0 : Int32)), .val (.int (4 : Int32)), .val (.ref d), .val (.int (0 : Int32))] d18_6 rfl rfl ?_
  refine Go.iload 10 d18_8 rfl rfl ?_
  refine Go.iloadN 11 d18_10 rfl rfl ?_
  refine Go.icmpN 14 d18_11 rfl (tlt (by decide)).2.1 ?_
  refine Go.aloadN 15 d18_14 rfl rfl rfl ?_
  refine Go.iload 17 d18_15 rfl rfl ?_
  refine Go.aloadN 18 d18_17 rfl rfl rfl ?_
  refine Go.iloadN 19 d18_18 rfl rfl ?_
  have f_3 := A.ext X_d
  refine Go.caload 0 20 d18_19 rfl f_3 (by decide) rfl ?_
  refine Go.callS (S := []) 23 [(.ref d), (.int (0 : Int32)), (.int c0)] d18_20 rfl rfl (w96 hw) (w97 hw) (w28 hw) (w98 hw) (by decide) (call_of_go (R := _) (len := 3) (W := 0) (plainFor_of_name pn_0) (fun mid => ef_putc0 mid d c0 [(.int (0 : Int32)), (.int (0 : Int32)), (.int (0 : Int32)), (.int (0 : Int32)), (.int (0 : Int32)), (.int (0 : Int32)), (.int (0 : Int32)), (.int (0 : Int32))] ) (c_putc0 hw d c0 [(.int (0 : Int32)), (.int (0 : Int32)), (.int (0 : Int32)), (.int (0 : Int32)), (.int (0 : Int32)), (.int (0 : Int32)), (.int (0 : Int32)), (.int (0 : Int32))] A_d n0d (Nat.le_of_ble_eq_true rfl) UA UH UL) (w98 hw) (w28 hw) (by decide) (by decide)) (lenOf pd_2 rfl) (Nat.le_of_ble_eq_true rfl) rfl (Nat.le_of_ble_eq_true rfl) (Nat.le_of_ble_eq_true rfl) (fun _ q => q) (fun v h_7 sf_8 hq => ?_)
  obtain ⟨rfl, K_4, A_5⟩ := hq
  have A_6 : Ary Z h_7 d .byte [(.int (lo16 c0)), (.int (hi16 c0)), (.int (0 : Int32)), (.int (0 : Int32)), (.int (0 : Int32)), (.int (0 : Int32)), (.int (0 : Int32)), (.int (0 : Int32))] := A_5
  refine Go.more (sf' := [d]) ?_ (Nat.le_refl _) (Nat.le_refl _) (fun _ q => List.mem_append_right _ q)
  show G_tob4 md l Z n0 b c0 c1 c2 c3 h0 1 8 [d] h_7 23 #[.val (.ref b), .val (.int (0 : Int32)), .val (.int (4 : Int32)), .val (.ref d), .val (.int (0 : Int32))] []
  refine Go.iinc 26 #[.val (.ref b), .val (.int ((0 : Int32) + (1 : Int32))), .val (.int (4 : Int32)), .val (.ref d), .val (.int (0 : Int32))] (1 : Int32) d18_23 rfl rfl rfl rfl ?_
  rw [show ((0 : Int32) + (1 : Int32)) = (1 : Int32) from by decide]
  refine Go.iinc 29 #[.val (.ref b), .val (.int (1 : Int32)), .val (.int (4 : Int32)), .val (.ref d), .val (.int ((0 : Int32) + (1 : Int32)))] (1 : Int32) d18_26 rfl rfl rfl rfl ?_
  rw [show ((0 : Int32) + (1 : Int32)) = (1 : Int32) from by decide]
  refine Go.goto 8 d18_29 (by decide) (by decide) ?_
  refine Go.iload 10 d18_8 rfl rfl ?_
  refine Go.iloadN 11 d18_10 rfl rfl ?_
  refine Go.icmpN 14 d18_11 rfl (tlt (by decide)).2.1 ?_
  refine Go.aloadN 15 d18_14 rfl rfl rfl ?_
  refine Go.iload 17 d18_15 rfl rfl ?_
  refine Go.aloadN 18 d18_17 rfl rfl rfl ?_
  refine Go.iloadN 19 d18_18 rfl rfl ?_
  have X_9 : Ext h0 h_7 := extK X_d K_4 (allS le_d all0)
  have f_10 := A.ext X_9
  refine Go.caload 1 20 d18_19 rfl f_10 (by decide) rfl ?_
  refine Go.callS (S := []) 23 [(.ref d), (.int (1 : Int32)), (.int c1)] d18_20 rfl rfl (w96 hw) (w97 hw) (w28 hw) (w98 hw) (by decide) (call_of_go (R := _) (len := 3) (W := 0) (plainFor_of_name pn_0) (fun mid => ef_putc1 mid d c1 [(.int (lo16 c0)), (.int (hi16 c0)), (.int (0 : Int32)), (.int (0 : Int32)), (.int (0 : Int32)), (.int (0 : Int32)), (.int (0 : Int32)), (.int (0 : Int32))] ) (c_putc1 hw d c1 [(.int (lo16 c0)), (.int (hi16 c0)), (.int (0 : Int32)), (.int (0 : Int32)), (.int (0 : Int32)), (.int (0 : Int32)), (.int (0 : Int32)), (.int (0 : Int32))] A_6 n0d (Nat.le_of_ble_eq_true rfl) UA UH UL) (w98 hw) (w28 hw) (by decide) (by decide)) (lenOf pd_2 rfl) (Nat.le_of_ble_eq_true rfl) rfl (Nat.le_of_ble_eq_true rfl) (Nat.le_of_ble_eq_true rfl) (fun _ q => q) (fun v h_14 sf_15 hq => ?_)
  obtain ⟨rfl, K_11, A_12⟩ := hq
  have A_13 : Ary Z h_14 d .byte [(.int (lo16 c0)), (.int (hi16 c0)), (.int (lo16 c1)), (.int (hi16 c1)), (.int (0 : Int32)), (.int (0 : Int32)), (.int (0 : Int32)), (.int (0 : Int32))] := A_12
  refine Go.more (sf' := [d]) ?_ (Nat.le_refl _) (Nat.le_refl _) (fun _ q => List.mem_append_right _ q)
  show G_tob4 md l Z n0 b c0 c1 c2 c3 h0 1 8 [d] h_14 23 #[.val (.ref b), .val (.int (1 : Int32)), .val (.int (4 : Int32)), .val (.ref d), .val (.int (1 : Int32))] []
  refine Go.iinc 26 #[.val (.ref b), .val (.int ((1 : Int32) + (1 : Int32))), .val (.int (4 : Int32)), .val (.ref d), .val (.int (1 : Int32))] (1 : Int32) d18_23 rfl rfl rfl rfl ?_
  rw [show ((1 : Int32) + (1 : Int32)) = (2 : Int32) from by decide]
  refine Go.iinc 29 #[.val (.ref b), .val (.int (2 : Int32)), .val (.int (4 : Int32)), .val (.ref d), .val (.int ((1 : Int32) + (1 : Int32)))] (1 : Int32) d18_26 rfl rfl rfl rfl ?_
  rw [show ((1 : Int32) + (1 : Int32)) = (2 : Int32) from by decide]
  refine Go.goto 8 d18_29 (by decide) (by decide) ?_
  refine Go.iload 10 d18_8 rfl rfl ?_
  refine Go.iloadN 11 d18_10 rfl rfl ?_
  refine Go.icmpN 14 d18_11 rfl (tlt (by decide)).2.1 ?_
  refine Go.aloadN 15 d18_14 rfl rfl rfl ?_
  refine Go.iload 17 d18_15 rfl rfl ?_
  refine Go.aloadN 18 d18_17 rfl rfl rfl ?_
  refine Go.iloadN 19 d18_18 rfl rfl ?_
  have X_16 : Ext h0 h_14 := extK X_9 K_11 (allS le_d all0)
  have f_17 := A.ext X_16
  refine Go.caload 2 20 d18_19 rfl f_17 (by decide) rfl ?_
  refine Go.callS (S := []) 23 [(.ref d), (.int (2 : Int32)), (.int c2)] d18_20 rfl rfl (w96 hw) (w97 hw) (w28 hw) (w98 hw) (by decide) (call_of_go (R := _) (len := 3) (W := 0) (plainFor_of_name pn_0) (fun mid => ef_putc2 mid d c2 [(.int (lo16 c0)), (.int (hi16 c0)), (.int (lo16 c1)), (.int (hi16 c1)), (.int (0 : Int32)), (.int (0 : Int32)), (.int (0 : Int32)), (.int (0 : Int32))] ) (c_putc2 hw d c2 [(.int (lo16 c0)), (.int (hi16 c0)), (.int (lo16 c1)), (.int (hi16 c1)), (.int (0 : Int32)), (.int (0 : Int32)), (.int (0 : Int32)), (.int (0 : Int32))] A_13 n0d (Nat.le_of_ble_eq_true rfl) UA UH UL) (w98 hw) (w28 hw) (by decide) (by decide)) (lenOf pd_2 rfl) (Nat.le_of_ble_eq_true rfl) rfl (Nat.le_of_ble_eq_true rfl) (Nat.le_of_ble_eq_true rfl) (fun _ q => q) (fun v h_21 sf_22 hq => ?_)
  obtain ⟨rfl, K_18, A_19⟩ := hq
  have A_20 : Ary Z h_21 d .byte [(.int (lo16 c0)), (.int (hi16 c0)), (.int (lo16 c1)), (.int (hi16 c1)), (.int (lo16 c2)), (.int (hi16 c2)), (.int (0 : Int32)), (.int (0 : Int32))] := A_19
  refine Go.more (sf' := [d]) ?_ (Nat.le_refl _) (Nat.le_refl _) (fun _ q => List.mem_append_right _ q)
  show G_tob4 md l Z n0 b c0 c1 c2 c3 h0 1 8 [d] h_21 23 #[.val (.ref b), .val (.int (2 : Int32)), .val (.int (4 : Int32)), .val (.ref d), .val (.int (2 : Int32))] []
  refine Go.iinc 26 #[.val (.ref b), .val (.int ((2 : Int32) + (1 : Int32))), .val (.int (4 : Int32)), .val (.ref d), .val (.int (2 : Int32))] (1 : Int32) d18_23 rfl rfl rfl rfl ?_
  rw [show ((2 : Int32) + (1 : Int32)) = (3 : Int32) from by decide]
  refine Go.iinc 29 #[.val (.ref b), .val (.int (3 : Int32)), .val (.int (4 : Int32)), .val (.ref d), .val (.int ((2 : Int32) + (1 : Int32)))] (1 : Int32) d18_26 rfl rfl rfl rfl ?_
  rw [show ((2 : Int32) + (1 : Int32)) = (3 : Int32) from by decide]
  refine Go.goto 8 d18_29 (by decide) (by decide) ?_
  refine Go.iload 10 d18_8 rfl rfl ?_
  refine Go.iloadN 11 d18_10 rfl rfl ?_
  refine Go.icmpN 14 d18_11 rfl (tlt (by decide)).2.1 ?_
  refine Go.aloadN 15 d18_14 rfl rfl rfl ?_
  refine Go.iload 17 d18_15 rfl rfl ?_
  refine Go.aloadN 18 d18_17 rfl rfl rfl ?_
  refine Go.iloadN 19 d18_18 rfl rfl ?_
  have X_23 : Ext h0 h_21 := extK X_16 K_18 (allS le_d all0)
  have f_24 := A.ext X_23
  refine Go.caload 3 20 d18_19 rfl f_24 (by decide) rfl ?_
  refine Go.callS (S := []) 23 [(.ref d), (.int (3 : Int32)), (.int c3)] d18_20 rfl rfl (w96 hw) (w97 hw) (w28 hw) (w98 hw) (by decide) (call_of_go (R := _) (len := 3) (W := 0) (plainFor_of_name pn_0) (fun mid => ef_putc3 mid d c3 [(.int (lo16 c0)), (.int (hi16 c0)), (.int (lo16 c1)), (.int (hi16 c1)), (.int (lo16 c2)), (.int (hi16 c2)), (.int (0 : Int32)), (.int (0 : Int32))] ) (c_putc3 hw d c3 [(.int (lo16 c0)), (.int (hi16 c0)), (.int (lo16 c1)), (.int (hi16 c1)), (.int (lo16 c2)), (.int (hi16 c2)), (.int (0 : Int32)), (.int (0 : Int32))] A_20 n0d (Nat.le_of_ble_eq_true rfl) UA UH UL) (w98 hw) (w28 hw) (by decide) (by decide)) (lenOf pd_2 rfl) (Nat.le_of_ble_eq_true rfl) rfl (Nat.le_of_ble_eq_true rfl) (Nat.le_of_ble_eq_true rfl) (fun _ q => q) (fun v h_28 sf_29 hq => ?_)
  obtain ⟨rfl, K_25, A_26⟩ := hq
  have A_27 : Ary Z h_28 d .byte [(.int (lo16 c0)), (.int (hi16 c0)), (.int (lo16 c1)), (.int (hi16 c1)), (.int (lo16 c2)), (.int (hi16 c2)), (.int (lo16 c3)), (.int (hi16 c3))] := A_26
  refine Go.more (sf' := [d]) ?_ (Nat.le_refl _) (Nat.le_refl _) (fun _ q => List.mem_append_right _ q)
  show G_tob4 md l Z n0 b c0 c1 c2 c3 h0 1 8 [d] h_28 23 #[.val (.ref b), .val (.int (3 : Int32)), .val (.int (4 : Int32)), .val (.ref d), .val (.int (3 : Int32))] []
  refine Go.iinc 26 #[.val (.ref b), .val (.int ((3 : Int32) + (1 : Int32))), .val (.int (4 : Int32)), .val (.ref d), .val (.int (3 : Int32))] (1 : Int32) d18_23 rfl rfl rfl rfl ?_
  rw [show ((3 : Int32) + (1 : Int32)) = (4 : Int32) from by decide]
  refine Go.iinc 29 #[.val (.ref b), .val (.int (4 : Int32)), .val (.int (4 : Int32)), .val (.ref d), .val (.int ((3 : Int32) + (1 : Int32)))] (1 : Int32) d18_26 rfl rfl rfl rfl ?_
  rw [show ((3 : Int32) + (1 : Int32)) = (4 : Int32) from by decide]
  refine Go.goto 8 d18_29 (by decide) (by decide) ?_
  refine Go.iload 10 d18_8 rfl rfl ?_
  refine Go.iloadN 11 d18_10 rfl rfl ?_
  refine Go.icmpY 32 d18_11 (by decide) (by decide) (flt (by decide)).2.1 ?_
  refine Go.aloadN 33 d18_32 rfl rfl rfl ?_
  have X_30 : Ext h0 h_28 := extK X_23 K_25 (allS le_d all0)
  exact Go.retA d18_33 rfl rfl rfl (sf' := []) (⟨_, rfl, X_30, le_d, A_27⟩) (fun _ q => nomatch q) (Nat.le_of_ble_eq_true rfl) (Nat.le_of_ble_eq_true rfl)
abbrev G_cmp5_4 (md : Md) (l : Launch) (Z : State) (n0 : Nat) (b d : Addr) (c0 c1 c2 c3 : Int32) (h0 : Heap) := Go md l Z n0 ({ frames := 0, cells := 0, slots := 0, locals := 0 } : Room) jdk_52_method_21_code 7 (some .int) "java/lang/StringUTF16" "compress" (fun v h' _ => ∃ r : Int32, v = some (.int r) ∧ Keep h0 h' [d] ∧ ((r = (4 : Int32) ∧ (¬ (255 : Int32) < c0 ∧ ¬ (255 : Int32) < c1 ∧ ¬ (255 : Int32) < c2 ∧ ¬ (255 : Int32) < c3) ∧ Ary Z h' d .byte [(.int c0.toInt8.toInt32), (.int c1.toInt8.toInt32), (.int c2.toInt8.toInt32), (.int c3.toInt8.toInt32)]) ∨ (r = (0 : Int32) ∧ (255 : Int32) < c0) ∨ (r = (1 : Int32) ∧ (255 : Int32) < c1) ∨ (r = (2 : Int32) ∧ (255 : Int32) < c2) ∨ (r = (3 : Int32) ∧ (255 : Int32) < c3)))
theorem ef_cmp5_4 (mid : MethodId) (b d : Addr) (c0 c1 c2 c3 : Int32)  : entryFrame mid #[(.ref b), (.int (0 : Int32)), (.ref d), (.int (0 : Int32)), (.int (4 : Int32))] 7 = mkF mid 0 #[.val (.ref b), .val (.int (0 : Int32)), .val (.ref d), .val (.int (0 : Int32)), .val (.int (4 : Int32)), .unset, .unset] [] := by first | (simp [entryFrame, mkF, argsToLocals, Value.category]; done) | rfl
set_option maxRecDepth 65536 in
set_option maxHeartbeats 40000000 in
theorem c_cmp5_4 {md : Md} {l : Launch} {Z : State} {n0 : Nat} {a0 : Array Value} (hw : HW a0 Z) (b d : Addr) (c0 c1 c2 c3 : Int32) {h0 : Heap} (A : Ary Z h0 b .char [(.int c0), (.int c1), (.int c2), (.int c3)]) (D : Ary Z h0 d .byte [(.int (0 : Int32)), (.int (0 : Int32)), (.int (0 : Int32)), (.int (0 : Int32))]) (n0d : n0 ≤ d) (nbd : b ≠ d) : G_cmp5_4 md l Z n0 b d c0 c1 c2 c3 h0 0 0 [d] h0 0 #[.val (.ref b), .val (.int (0 : Int32)), .val (.ref d), .val (.int (0 : Int32)), .val (.int (4 : Int32)), .unset, .unset] [] := by
  refine Go.iconst 1 (0 : Int32) d7_0 rfl rfl ?_
  refine Go.istore 3 #[.val (.ref b), .val (.int (0 : Int32)), .val (.ref d), .val (.int (0 : Int32)), .val (.int (4 : Int32)), .val (.int (0 : Int32)), .unset] d7_1 rfl rfl ?_
  refine Go.iload 5 d7_3 rfl rfl ?_
  refine Go.iload 7 d7_5 rfl rfl ?_
  refine Go.icmpN 10 d7_7 rfl (tlt (by decide)).2.1 ?_
  refine Go.aloadN 11 d7_10 rfl rfl rfl ?_
  refine Go.iloadN 12 d7_11 rfl rfl ?_
  refine Go.caload 0 13 d7_12 rfl A (by decide) rfl ?_
  refine Go.istore 15 #[.val (.ref b), .val (.int (0 : Int32)), .val (.ref d), .val (.int (0 : Int32)), .val (.int (4 : Int32)), .val (.int (0 : Int32)), .val (.int c0)] d7_13 rfl rfl ?_
  refine Go.iload 17 d7_15 rfl rfl ?_
  refine Go.sipush 20 (255 : Int32) d7_17 rfl rfl ?_
  by_cases hb_0 : (255 : Int32) < c0
  · skip
    refine Go.icmpN 23 d7_20 rfl (tlt hb_0).2.2.2 ?_
    refine Go.iload 25 d7_23 rfl rfl ?_
    exact Go.retI d7_25 rfl (sf' := []) (⟨_, rfl, (Keep.refl h0 [d]), Or.inr (Or.inl (⟨rfl, hb_0⟩))⟩) (fun _ q => nomatch q) (Nat.le_of_ble_eq_true rfl) (Nat.le_of_ble_eq_true rfl)
  · skip
    refine Go.icmpY 26 d7_20 (by decide) (by decide) (flt hb_0).2.2.2 ?_
    refine Go.aloadN 27 d7_26 rfl rfl rfl ?_
    refine Go.iloadN 28 d7_27 rfl rfl ?_
    refine Go.iload 30 d7_28 rfl rfl ?_
    refine Go.i2b 31 d7_30 rfl ?_
    refine Go.bastore 0 32 d7_31 rfl D (by decide) (Nat.le_of_ble_eq_true rfl) (List.mem_of_getElem? (i := 0) rfl) n0d (fun h_1 W_2 A_3 => ?_)
    have A_4 : Ary Z h_1 d .byte [(.int (c0).toInt8.toInt32), (.int (0 : Int32)), (.int (0 : Int32)), (.int (0 : Int32))] := by have := A_3; rw [i8_idem _] at this; exact this
    refine Go.iinc 35 #[.val (.ref b), .val (.int ((0 : Int32) + (1 : Int32))), .val (.ref d), .val (.int (0 : Int32)), .val (.int (4 : Int32)), .val (.int (0 : Int32)), .val (.int c0)] (1 : Int32) d7_32 rfl rfl rfl rfl ?_
    rw [show ((0 : Int32) + (1 : Int32)) = (1 : Int32) from by decide]
    refine Go.iinc 38 #[.val (.ref b), .val (.int (1 : Int32)), .val (.ref d), .val (.int ((0 : Int32) + (1 : Int32))), .val (.int (4 : Int32)), .val (.int (0 : Int32)), .val (.int c0)] (1 : Int32) d7_35 rfl rfl rfl rfl ?_
    rw [show ((0 : Int32) + (1 : Int32)) = (1 : Int32) from by decide]
    refine Go.iinc 41 #[.val (.ref b), .val (.int (1 : Int32)), .val (.ref d), .val (.int (1 : Int32)), .val (.int (4 : Int32)), .val (.int ((0 : Int32) + (1 : Int32))), .val (.int c0)] (1 : Int32) d7_38 rfl rfl rfl rfl ?_
    rw [show ((0 : Int32) + (1 : Int32)) = (1 : Int32) from by decide]
    refine Go.goto 3 d7_41 (by decide) (by decide) ?_
    refine Go.iload 5 d7_3 rfl rfl ?_
    refine Go.iload 7 d7_5 rfl rfl ?_
    refine Go.icmpN 10 d7_7 rfl (tlt (by decide)).2.1 ?_
    refine Go.aloadN 11 d7_10 rfl rfl rfl ?_
    refine Go.iloadN 12 d7_11 rfl rfl ?_
    have f_5 := (A.other W_2 nbd)
    refine Go.caload 1 13 d7_12 rfl f_5 (by decide) rfl ?_
    refine Go.istore 15 #[.val (.ref b), .val (.int (1 : Int32)), .val (.ref d), .val (.int (1 : Int32)), .val (.int (4 : Int32)), .val (.int (1 : Int32)), .val (.int c1)] d7_13 rfl rfl ?_
    refine Go.iload 17 d7_15 rfl rfl ?_
    refine Go.sipush 20 (255 : Int32) d7_17 rfl rfl ?_
    by_cases hb_1 : (255 : Int32) < c1
    · skip
      refine Go.icmpN 23 d7_20 rfl (tlt hb_1).2.2.2 ?_
      refine Go.iload 25 d7_23 rfl rfl ?_
      exact Go.retI d7_25 rfl (sf' := []) (⟨_, rfl, ((Keep.refl h0 [d]).wr W_2 (Or.inl (List.mem_of_getElem? (i := 0) rfl))), Or.inr (Or.inr (Or.inl (⟨rfl, hb_1⟩)))⟩) (fun _ q => nomatch q) (Nat.le_of_ble_eq_true rfl) (Nat.le_of_ble_eq_true rfl)
    · skip
      refine Go.icmpY 26 d7_20 (by decide) (by decide) (flt hb_1).2.2.2 ?_
      refine Go.aloadN 27 d7_26 rfl rfl rfl ?_
      refine Go.iloadN 28 d7_27 rfl rfl ?_
      refine Go.iload 30 d7_28 rfl rfl ?_
      refine Go.i2b 31 d7_30 rfl ?_
      refine Go.bastore 1 32 d7_31 rfl A_4 (by decide) (Nat.le_of_ble_eq_true rfl) (List.mem_of_getElem? (i := 0) rfl) n0d (fun h_6 W_7 A_8 => ?_)
      have A_9 : Ary Z h_6 d .byte [(.int (c0).toInt8.toInt32), (.int (c1).toInt8.toInt32), (.int (0 : Int32)), (.int (0 : Int32))] := by have := A_8; rw [i8_idem _] at this; exact this
      refine Go.iinc 35 #[.val (.ref b), .val (.int ((1 : Int32) + (1 : Int32))), .val (.ref d), .val (.int (1 : Int32)), .val (.int (4 : Int32)), .val (.int (1 : Int32)), .val (.int c1)] (1 : Int32) d7_32 rfl rfl rfl rfl ?_
      rw [show ((1 : Int32) + (1 : Int32)) = (2 : Int32) from by decide]
      refine Go.iinc 38 #[.val (.ref b), .val (.int (2 : Int32)), .val (.ref d), .val (.int ((1 : Int32) + (1 : Int32))), .val (.int (4 : Int32)), .val (.int (1 : Int32)), .val (.int c1)] (1 : Int32) d7_35 rfl rfl rfl rfl ?_
      rw [show ((1 : Int32) + (1 : Int32)) = (2 : Int32) from by decide]
      refine Go.iinc 41 #[.val (.ref b), .val (.int (2 : Int32)), .val (.ref d), .val (.int (2 : Int32)), .val (.int (4 : Int32)), .val (.int ((1 : Int32) + (1 : Int32))), .val (.int c1)] (1 : Int32) d7_38 rfl rfl rfl rfl ?_
      rw [show ((1 : Int32) + (1 : Int32)) = (2 : Int32) from by decide]
      refine Go.goto 3 d7_41 (by decide) (by decide) ?_
      refine Go.iload 5 d7_3 rfl rfl ?_
      refine Go.iload 7 d7_5 rfl rfl ?_
      refine Go.icmpN 10 d7_7 rfl (tlt (by decide)).2.1 ?_
      refine Go.aloadN 11 d7_10 rfl rfl rfl ?_
      refine Go.iloadN 12 d7_11 rfl rfl ?_
      have f_10 := (f_5.other W_7 nbd)
      refine Go.caload 2 13 d7_12 rfl f_10 (by decide) rfl ?_
      refine Go.istore 15 #[.val (.ref b), .val (.int (2 : Int32)), .val (.ref d), .val (.int (2 : Int32)), .val (.int (4 : Int32)), .val (.int (2 : Int32)), .val (.int c2)] d7_13 rfl rfl ?_
      refine Go.iload 17 d7_15 rfl rfl ?_
      refine Go.sipush 20 (255 : Int32) d7_17 rfl rfl ?_
      by_cases hb_2 : (255 : Int32) < c2
      · skip
        refine Go.icmpN 23 d7_20 rfl (tlt hb_2).2.2.2 ?_
        refine Go.iload 25 d7_23 rfl rfl ?_
        exact Go.retI d7_25 rfl (sf' := []) (⟨_, rfl, (((Keep.refl h0 [d]).wr W_2 (Or.inl (List.mem_of_getElem? (i := 0) rfl))).wr W_7 (Or.inl (List.mem_of_getElem? (i := 0) rfl))), Or.inr (Or.inr (Or.inr (Or.inl (⟨rfl, hb_2⟩))))⟩) (fun _ q => nomatch q) (Nat.le_of_ble_eq_true rfl) (Nat.le_of_ble_eq_true rfl)
      · skip
        refine Go.icmpY 26 d7_20 (by decide) (by decide) (flt hb_2).2.2.2 ?_
        refine Go.aloadN 27 d7_26 rfl rfl rfl ?_
        refine Go.iloadN 28 d7_27 rfl rfl ?_
        refine Go.iload 30 d7_28 rfl rfl ?_
        refine Go.i2b 31 d7_30 rfl ?_
        refine Go.bastore 2 32 d7_31 rfl A_9 (by decide) (Nat.le_of_ble_eq_true rfl) (List.mem_of_getElem? (i := 0) rfl) n0d (fun h_11 W_12 A_13 => ?_)
        have A_14 : Ary Z h_11 d .byte [(.int (c0).toInt8.toInt32), (.int (c1).toInt8.toInt32), (.int (c2).toInt8.toInt32), (.int (0 : Int32))] := by have := A_13; rw [i8_idem _] at this; exact this
        refine Go.iinc 35 #[.val (.ref b), .val (.int ((2 : Int32) + (1 : Int32))), .val (.ref d), .val (.int (2 : Int32)), .val (.int (4 : Int32)), .val (.int (2 : Int32)), .val (.int c2)] (1 : Int32) d7_32 rfl rfl rfl rfl ?_
        rw [show ((2 : Int32) + (1 : Int32)) = (3 : Int32) from by decide]
        refine Go.iinc 38 #[.val (.ref b), .val (.int (3 : Int32)), .val (.ref d), .val (.int ((2 : Int32) + (1 : Int32))), .val (.int (4 : Int32)), .val (.int (2 : Int32)), .val (.int c2)] (1 : Int32) d7_35 rfl rfl rfl rfl ?_
        rw [show ((2 : Int32) + (1 : Int32)) = (3 : Int32) from by decide]
        refine Go.iinc 41 #[.val (.ref b), .val (.int (3 : Int32)), .val (.ref d), .val (.int (3 : Int32)), .val (.int (4 : Int32)), .val (.int ((2 : Int32) + (1 : Int32))), .val (.int c2)] (1 : Int32) d7_38 rfl rfl rfl rfl ?_
        rw [show ((2 : Int32) + (1 : Int32)) = (3 : Int32) from by decide]
        refine Go.goto 3 d7_41 (by decide) (by decide) ?_
        refine Go.iload 5 d7_3 rfl rfl ?_
        refine Go.iload 7 d7_5 rfl rfl ?_
        refine Go.icmpN 10 d7_7 rfl (tlt (by decide)).2.1 ?_
        refine Go.aloadN 11 d7_10 rfl rfl rfl ?_
        refine Go.iloadN 12 d7_11 rfl rfl ?_
        have f_15 := (f_10.other W_12 nbd)
        refine Go.caload 3 13 d7_12 rfl f_15 (by decide) rfl ?_
        refine Go.istore 15 #[.val (.ref b), .val (.int (3 : Int32)), .val (.ref d), .val (.int (3 : Int32)), .val (.int (4 : Int32)), .val (.int (3 : Int32)), .val (.int c3)] d7_13 rfl rfl ?_
        refine Go.iload 17 d7_15 rfl rfl ?_
        refine Go.sipush 20 (255 : Int32) d7_17 rfl rfl ?_
        by_cases hb_3 : (255 : Int32) < c3
        · skip
          refine Go.icmpN 23 d7_20 rfl (tlt hb_3).2.2.2 ?_
          refine Go.iload 25 d7_23 rfl rfl ?_
          exact Go.retI d7_25 rfl (sf' := []) (⟨_, rfl, ((((Keep.refl h0 [d]).wr W_2 (Or.inl (List.mem_of_getElem? (i := 0) rfl))).wr W_7 (Or.inl (List.mem_of_getElem? (i := 0) rfl))).wr W_12 (Or.inl (List.mem_of_getElem? (i := 0) rfl))), Or.inr (Or.inr (Or.inr (Or.inr (⟨rfl, hb_3⟩))))⟩) (fun _ q => nomatch q) (Nat.le_of_ble_eq_true rfl) (Nat.le_of_ble_eq_true rfl)
        · skip
          refine Go.icmpY 26 d7_20 (by decide) (by decide) (flt hb_3).2.2.2 ?_
          refine Go.aloadN 27 d7_26 rfl rfl rfl ?_
          refine Go.iloadN 28 d7_27 rfl rfl ?_
          refine Go.iload 30 d7_28 rfl rfl ?_
          refine Go.i2b 31 d7_30 rfl ?_
          refine Go.bastore 3 32 d7_31 rfl A_14 (by decide) (Nat.le_of_ble_eq_true rfl) (List.mem_of_getElem? (i := 0) rfl) n0d (fun h_16 W_17 A_18 => ?_)
          have A_19 : Ary Z h_16 d .byte [(.int (c0).toInt8.toInt32), (.int (c1).toInt8.toInt32), (.int (c2).toInt8.toInt32), (.int (c3).toInt8.toInt32)] := by have := A_18; rw [i8_idem _] at this; exact this
          refine Go.iinc 35 #[.val (.ref b), .val (.int ((3 : Int32) + (1 : Int32))), .val (.ref d), .val (.int (3 : Int32)), .val (.int (4 : Int32)), .val (.int (3 : Int32)), .val (.int c3)] (1 : Int32) d7_32 rfl rfl rfl rfl ?_
          rw [show ((3 : Int32) + (1 : Int32)) = (4 : Int32) from by decide]
          refine Go.iinc 38 #[.val (.ref b), .val (.int (4 : Int32)), .val (.ref d), .val (.int ((3 : Int32) + (1 : Int32))), .val (.int (4 : Int32)), .val (.int (3 : Int32)), .val (.int c3)] (1 : Int32) d7_35 rfl rfl rfl rfl ?_
          rw [show ((3 : Int32) + (1 : Int32)) = (4 : Int32) from by decide]
          refine Go.iinc 41 #[.val (.ref b), .val (.int (4 : Int32)), .val (.ref d), .val (.int (4 : Int32)), .val (.int (4 : Int32)), .val (.int ((3 : Int32) + (1 : Int32))), .val (.int c3)] (1 : Int32) d7_38 rfl rfl rfl rfl ?_
          rw [show ((3 : Int32) + (1 : Int32)) = (4 : Int32) from by decide]
          refine Go.goto 3 d7_41 (by decide) (by decide) ?_
          refine Go.iload 5 d7_3 rfl rfl ?_
          refine Go.iload 7 d7_5 rfl rfl ?_
          refine Go.icmpY 44 d7_7 (by decide) (by decide) (flt (by decide)).2.1 ?_
          refine Go.iload 46 d7_44 rfl rfl ?_
          exact Go.retI d7_46 rfl (sf' := []) (⟨_, rfl, (((((Keep.refl h0 [d]).wr W_2 (Or.inl (List.mem_of_getElem? (i := 0) rfl))).wr W_7 (Or.inl (List.mem_of_getElem? (i := 0) rfl))).wr W_12 (Or.inl (List.mem_of_getElem? (i := 0) rfl))).wr W_17 (Or.inl (List.mem_of_getElem? (i := 0) rfl))), Or.inl ⟨rfl, ⟨hb_0, hb_1, hb_2, hb_3⟩, A_19⟩⟩) (fun _ q => nomatch q) (Nat.le_of_ble_eq_true rfl) (Nat.le_of_ble_eq_true rfl)
abbrev G_cmp3_4 (md : Md) (l : Launch) (Z : State) (n0 : Nat) (b : Addr) (c0 c1 c2 c3 : Int32) (h0 : Heap) := Go md l Z n0 ({ frames := 3, cells := 2, slots := 12, locals := 40 } : Room) jdk_52_method_16_code 6 (some (.array .byte)) "java/lang/StringUTF16" "compress" (fun v h' _ => ∃ x, v = some (.ref x) ∧ Ext h0 h' ∧ h0.size ≤ x ∧ (((¬ (255 : Int32) < c0 ∧ ¬ (255 : Int32) < c1 ∧ ¬ (255 : Int32) < c2 ∧ ¬ (255 : Int32) < c3) ∧ Ary Z h' x .byte [(.int c0.toInt8.toInt32), (.int c1.toInt8.toInt32), (.int c2.toInt8.toInt32), (.int c3.toInt8.toInt32)]) ∨ (((255 : Int32) < c0 ∨ (255 : Int32) < c1 ∨ (255 : Int32) < c2 ∨ (255 : Int32) < c3) ∧ Ary Z h' x .byte [(.int (lo16 c0)), (.int (hi16 c0)), (.int (lo16 c1)), (.int (hi16 c1)), (.int (lo16 c2)), (.int (hi16 c2)), (.int (lo16 c3)), (.int (hi16 c3))])))
theorem ef_cmp3_4 (mid : MethodId) (b : Addr) (c0 c1 c2 c3 : Int32)  : entryFrame mid #[(.ref b), (.int (0 : Int32)), (.int (4 : Int32))] 6 = mkF mid 0 #[.val (.ref b), .val (.int (0 : Int32)), .val (.int (4 : Int32)), .unset, .unset, .unset] [] := by first | (simp [entryFrame, mkF, argsToLocals, Value.category]; done) | rfl
set_option maxRecDepth 65536 in
set_option maxHeartbeats 40000000 in
theorem c_cmp3_4 {md : Md} {l : Launch} {Z : State} {n0 : Nat} {a0 : Array Value} (hw : HW a0 Z) (b : Addr) (c0 c1 c2 c3 : Int32) {h0 : Heap} (A : Ary Z h0 b .char [(.int c0), (.int c1), (.int c2), (.int c3)]) (b_c0 : CHP c0) (b_c1 : CHP c1) (b_c2 : CHP c2) (b_c3 : CHP c3) (UA : Sta Z Z.heap "java/lang/StringUTF16" "$assertionsDisabled" "Z" (.int 1)) (UH : Sta Z Z.heap "java/lang/StringUTF16" "HI_BYTE_SHIFT" "I" (.int 0)) (UL : Sta Z Z.heap "java/lang/StringUTF16" "LO_BYTE_SHIFT" "I" (.int 8))  : G_cmp3_4 md l Z n0 b c0 c1 c2 c3 h0 0 0 [] h0 0 #[.val (.ref b), .val (.int (0 : Int32)), .val (.int (4 : Int32)), .unset, .unset, .unset] [] := by
  refine Go.iloadN 1 d6_0 rfl rfl ?_
  refine Go.newA 4 3 d6_1 rfl rfl (w30 hw) (by decide) 4 (Nat.le_refl _) (by decide) (Nat.le_of_ble_eq_true rfl) (Nat.le_of_ble_eq_true rfl) (fun h_1 x_2 g_3 q_4 E_5 lt_6 A_7 => ?_)
  have A_8 : Ary Z h_1 x_2 .byte [(.int (0 : Int32)), (.int (0 : Int32)), (.int (0 : Int32)), (.int (0 : Int32))] := A_7
  show G_cmp3_4 md l Z n0 b c0 c1 c2 c3 h0 1 4 [x_2] h_1 3 #[.val (.ref b), .val (.int (0 : Int32)), .val (.int (4 : Int32)), .unset, .unset, .unset] [(.ref x_2)]
  refine Go.astoreN 4 #[.val (.ref b), .val (.int (0 : Int32)), .val (.int (4 : Int32)), .val (.ref x_2), .unset, .unset] d6_3 rfl rfl rfl ?_
  refine Go.aloadN 5 d6_4 rfl rfl rfl ?_
  refine Go.iloadN 6 d6_5 rfl rfl ?_
  refine Go.aloadN 7 d6_6 rfl rfl rfl ?_
  refine Go.iconst 8 (0 : Int32) d6_7 rfl rfl ?_
  refine Go.iloadN 9 d6_8 rfl rfl ?_
  have f_9 := A.ext E_5
  have nbd : b ≠ x_2 := Nat.ne_of_lt (Nat.lt_of_lt_of_le A.lt (Nat.le_of_eq g_3))
  refine Go.callS (S := []) 12 [(.ref b), (.int (0 : Int32)), (.ref x_2), (.int (0 : Int32)), (.int (4 : Int32))] d6_9 rfl rfl (w31 hw) (w32 hw) (w28 hw) (w33 hw) (by decide) (call_of_go (R := _) (len := 3) (W := 0) (plainFor_of_name pn_0) (fun mid => ef_cmp5_4 mid b x_2 c0 c1 c2 c3 ) (c_cmp5_4 hw b x_2 c0 c1 c2 c3 f_9 A_8 q_4 nbd) (w33 hw) (w28 hw) (by decide) (by decide)) (lenOf pd_3 rfl) (Nat.le_of_ble_eq_true rfl) rfl (Nat.le_of_ble_eq_true rfl) (Nat.le_of_ble_eq_true rfl) (fun _ q => q) (fun v h_10 sf_11 hq => ?_)
  obtain ⟨r, rfl, K5, ⟨rfl, hlat, D5⟩ | ⟨rfl, hbig⟩ | ⟨rfl, hbig⟩ | ⟨rfl, hbig⟩ | ⟨rfl, hbig⟩⟩ := hq
  · skip
    refine Go.more (sf' := [x_2]) ?_ (Nat.le_refl _) (Nat.le_refl _) (fun _ q => List.mem_append_right _ q)
    show G_cmp3_4 md l Z n0 b c0 c1 c2 c3 h0 1 4 [x_2] h_10 12 #[.val (.ref b), .val (.int (0 : Int32)), .val (.int (4 : Int32)), .val (.ref x_2), .unset, .unset] [(.int (4 : Int32))]
    refine Go.istore 14 #[.val (.ref b), .val (.int (0 : Int32)), .val (.int (4 : Int32)), .val (.ref x_2), .val (.int (4 : Int32)), .unset] d6_12 rfl rfl ?_
    refine Go.iload 16 d6_14 rfl rfl ?_
    refine Go.iloadN 17 d6_16 rfl rfl ?_
    refine Go.icmpY 57 d6_17 (by decide) (by decide) (teq (by decide)).1 ?_
    refine Go.aloadN 58 d6_57 rfl rfl rfl ?_
    have X_12 : Ext h0 h_10 := extK E_5 K5 (allS (Nat.le_of_eq g_3) all0)
    exact Go.retA d6_58 rfl rfl rfl (sf' := []) (⟨_, rfl, X_12, (Nat.le_of_eq g_3), Or.inl ⟨hlat, D5⟩⟩) (fun _ q => nomatch q) (Nat.le_of_ble_eq_true rfl) (Nat.le_of_ble_eq_true rfl)
  · skip
    refine Go.more (sf' := [x_2]) ?_ (Nat.le_refl _) (Nat.le_refl _) (fun _ q => List.mem_append_right _ q)
    show G_cmp3_4 md l Z n0 b c0 c1 c2 c3 h0 1 4 [x_2] h_10 12 #[.val (.ref b), .val (.int (0 : Int32)), .val (.int (4 : Int32)), .val (.ref x_2), .unset, .unset] [(.int (0 : Int32))]
    refine Go.istore 14 #[.val (.ref b), .val (.int (0 : Int32)), .val (.int (4 : Int32)), .val (.ref x_2), .val (.int (0 : Int32)), .unset] d6_12 rfl rfl ?_
    refine Go.iload 16 d6_14 rfl rfl ?_
    refine Go.iloadN 17 d6_16 rfl rfl ?_
    refine Go.icmpN 20 d6_17 rfl (feq (by decide)).1 ?_
    refine Go.aloadN 21 d6_20 rfl rfl rfl ?_
    refine Go.iloadN 22 d6_21 rfl rfl ?_
    refine Go.iloadN 23 d6_22 rfl rfl ?_
    have X_13 : Ext h0 h_10 := extK E_5 K5 (allS (Nat.le_of_eq g_3) all0)
    have f_14 := A.ext X_13
    refine Go.callS (S := []) 26 [(.ref b), (.int (0 : Int32)), (.int (4 : Int32))] d6_23 rfl rfl (w86 hw) (w87 hw) (w28 hw) (w88 hw) (by decide) (call_of_go (R := _) (len := 3) (W := 0) (plainFor_of_name pn_0) (fun mid => ef_tob4 mid b c0 c1 c2 c3 ) (c_tob4 hw b c0 c1 c2 c3 f_14 UA UH UL) (w88 hw) (w28 hw) (by decide) (by decide)) (lenOf pd_4 rfl) (Nat.le_of_ble_eq_true rfl) rfl (Nat.le_of_ble_eq_true rfl) (Nat.le_of_ble_eq_true rfl) (fun _ q => nomatch q) (fun v h_15 sf_20 hq => ?_)
    obtain ⟨x_16, rfl, E_17, le_18, A_19⟩ := hq
    refine Go.more (sf' := [x_2]) ?_ (Nat.le_refl _) (Nat.le_refl _) (fun _ q => List.mem_append_right _ q)
    show G_cmp3_4 md l Z n0 b c0 c1 c2 c3 h0 2 12 [x_2] h_15 26 #[.val (.ref b), .val (.int (0 : Int32)), .val (.int (4 : Int32)), .val (.ref x_2), .val (.int (0 : Int32)), .unset] [(.ref x_16)]
    refine Go.astore 28 #[.val (.ref b), .val (.int (0 : Int32)), .val (.int (4 : Int32)), .val (.ref x_2), .val (.int (0 : Int32)), .val (.ref x_16)] d6_26 rfl rfl rfl ?_
    refine Go.aload 30 d6_28 rfl rfl rfl ?_
    refine Go.iload 32 d6_30 rfl rfl ?_
    refine Go.callS (S := []) 35 [(.ref x_16), (.int (0 : Int32))] d6_32 rfl rfl (w102 hw) (w103 hw) (w28 hw) (w104 hw) (by decide) (call_of_go (R := _) (len := 3) (W := 0) (plainFor_of_name pn_0) (fun mid => ef_getc0 mid x_16 (lo16 c0) (hi16 c0) [(.int (lo16 c0)), (.int (hi16 c0)), (.int (lo16 c1)), (.int (hi16 c1)), (.int (lo16 c2)), (.int (hi16 c2)), (.int (lo16 c3)), (.int (hi16 c3))] ) (c_getc0 hw x_16 (lo16 c0) (hi16 c0) [(.int (lo16 c0)), (.int (hi16 c0)), (.int (lo16 c1)), (.int (hi16 c1)), (.int (lo16 c2)), (.int (hi16 c2)), (.int (lo16 c3)), (.int (hi16 c3))] A_19 rfl rfl UA UH UL) (w104 hw) (w28 hw) (by decide) (by decide)) (lenOf pd_5 rfl) (Nat.le_of_ble_eq_true rfl) rfl (Nat.le_of_ble_eq_true rfl) (Nat.le_of_ble_eq_true rfl) (fun _ q => nomatch q) (fun v h_21 sf_22 hq => ?_)
    obtain ⟨rfl, rfl⟩ := hq
    rw [rt16 b_c0]
    refine Go.more (sf' := [x_2]) ?_ (Nat.le_refl _) (Nat.le_refl _) (fun _ q => List.mem_append_right _ q)
    show G_cmp3_4 md l Z n0 b c0 c1 c2 c3 h0 2 12 [x_2] h_15 35 #[.val (.ref b), .val (.int (0 : Int32)), .val (.int (4 : Int32)), .val (.ref x_2), .val (.int (0 : Int32)), .val (.ref x_16)] [(.int c0)]
    refine Go.sipush 38 (255 : Int32) d6_35 rfl rfl ?_
    refine Go.icmpY 54 d6_38 (by decide) (by decide) (tlt hbig).2.2.1 ?_
    refine Go.aload 56 d6_54 rfl rfl rfl ?_
    have X_23 : Ext h0 h_15 := extT X_13 E_17
    exact Go.retA d6_56 rfl rfl rfl (sf' := []) (⟨_, rfl, X_23, (Nat.le_trans X_13.1 le_18), Or.inr ⟨Or.inl (hbig), A_19⟩⟩) (fun _ q => nomatch q) (Nat.le_of_ble_eq_true rfl) (Nat.le_of_ble_eq_true rfl)
  · skip
    refine Go.more (sf' := [x_2]) ?_ (Nat.le_refl _) (Nat.le_refl _) (fun _ q => List.mem_append_right _ q)
    show G_cmp3_4 md l Z n0 b c0 c1 c2 c3 h0 1 4 [x_2] h_10 12 #[.val (.ref b), .val (.int (0 : Int32)), .val (.int (4 : Int32)), .val (.ref x_2), .unset, .unset] [(.int (1 : Int32))]
    refine Go.istore 14 #[.val (.ref b), .val (.int (0 : Int32)), .val (.int (4 : Int32)), .val (.ref x_2), .val (.int (1 : Int32)), .unset] d6_12 rfl rfl ?_
    refine Go.iload 16 d6_14 rfl rfl ?_
    refine Go.iloadN 17 d6_16 rfl rfl ?_
    refine Go.icmpN 20 d6_17 rfl (feq (by decide)).1 ?_
    refine Go.aloadN 21 d6_20 rfl rfl rfl ?_
    refine Go.iloadN 22 d6_21 rfl rfl ?_
    refine Go.iloadN 23 d6_22 rfl rfl ?_
    have X_24 : Ext h0 h_10 := extK E_5 K5 (allS (Nat.le_of_eq g_3) all0)
    have f_25 := A.ext X_24
    refine Go.callS (S := []) 26 [(.ref b), (.int (0 : Int32)), (.int (4 : Int32))] d6_23 rfl rfl (w86 hw) (w87 hw) (w28 hw) (w88 hw) (by decide) (call_of_go (R := _) (len := 3) (W := 0) (plainFor_of_name pn_0) (fun mid => ef_tob4 mid b c0 c1 c2 c3 ) (c_tob4 hw b c0 c1 c2 c3 f_25 UA UH UL) (w88 hw) (w28 hw) (by decide) (by decide)) (lenOf pd_4 rfl) (Nat.le_of_ble_eq_true rfl) rfl (Nat.le_of_ble_eq_true rfl) (Nat.le_of_ble_eq_true rfl) (fun _ q => nomatch q) (fun v h_26 sf_31 hq => ?_)
    obtain ⟨x_27, rfl, E_28, le_29, A_30⟩ := hq
    refine Go.more (sf' := [x_2]) ?_ (Nat.le_refl _) (Nat.le_refl _) (fun _ q => List.mem_append_right _ q)
    show G_cmp3_4 md l Z n0 b c0 c1 c2 c3 h0 2 12 [x_2] h_26 26 #[.val (.ref b), .val (.int (0 : Int32)), .val (.int (4 : Int32)), .val (.ref x_2), .val (.int (1 : Int32)), .unset] [(.ref x_27)]
    refine Go.astore 28 #[.val (.ref b), .val (.int (0 : Int32)), .val (.int (4 : Int32)), .val (.ref x_2), .val (.int (1 : Int32)), .val (.ref x_27)] d6_26 rfl rfl rfl ?_
    refine Go.aload 30 d6_28 rfl rfl rfl ?_
    refine Go.iload 32 d6_30 rfl rfl ?_
    refine Go.callS (S := []) 35 [(.ref x_27), (.int (1 : Int32))] d6_32 rfl rfl (w102 hw) (w103 hw) (w28 hw) (w104 hw) (by decide) (call_of_go (R := _) (len := 3) (W := 0) (plainFor_of_name pn_0) (fun mid => ef_getc1 mid x_27 (lo16 c1) (hi16 c1) [(.int (lo16 c0)), (.int (hi16 c0)), (.int (lo16 c1)), (.int (hi16 c1)), (.int (lo16 c2)), (.int (hi16 c2)), (.int (lo16 c3)), (.int (hi16 c3))] ) (c_getc1 hw x_27 (lo16 c1) (hi16 c1) [(.int (lo16 c0)), (.int (hi16 c0)), (.int (lo16 c1)), (.int (hi16 c1)), (.int (lo16 c2)), (.int (hi16 c2)), (.int (lo16 c3)), (.int (hi16 c3))] A_30 rfl rfl UA UH UL) (w104 hw) (w28 hw) (by decide) (by decide)) (lenOf pd_5 rfl) (Nat.le_of_ble_eq_true rfl) rfl (Nat.le_of_ble_eq_true rfl) (Nat.le_of_ble_eq_true rfl) (fun _ q => nomatch q) (fun v h_32 sf_33 hq => ?_)
    obtain ⟨rfl, rfl⟩ := hq
    rw [rt16 b_c1]
    refine Go.more (sf' := [x_2]) ?_ (Nat.le_refl _) (Nat.le_refl _) (fun _ q => List.mem_append_right _ q)
    show G_cmp3_4 md l Z n0 b c0 c1 c2 c3 h0 2 12 [x_2] h_26 35 #[.val (.ref b), .val (.int (0 : Int32)), .val (.int (4 : Int32)), .val (.ref x_2), .val (.int (1 : Int32)), .val (.ref x_27)] [(.int c1)]
    refine Go.sipush 38 (255 : Int32) d6_35 rfl rfl ?_
    refine Go.icmpY 54 d6_38 (by decide) (by decide) (tlt hbig).2.2.1 ?_
    refine Go.aload 56 d6_54 rfl rfl rfl ?_
    have X_34 : Ext h0 h_26 := extT X_24 E_28
    exact Go.retA d6_56 rfl rfl rfl (sf' := []) (⟨_, rfl, X_34, (Nat.le_trans X_24.1 le_29), Or.inr ⟨Or.inr (Or.inl (hbig)), A_30⟩⟩) (fun _ q => nomatch q) (Nat.le_of_ble_eq_true rfl) (Nat.le_of_ble_eq_true rfl)
  · skip
    refine Go.more (sf' := [x_2]) ?_ (Nat.le_refl _) (Nat.le_refl _) (fun _ q => List.mem_append_right _ q)
    show G_cmp3_4 md l Z n0 b c0 c1 c2 c3 h0 1 4 [x_2] h_10 12 #[.val (.ref b), .val (.int (0 : Int32)), .val (.int (4 : Int32)), .val (.ref x_2), .unset, .unset] [(.int (2 : Int32))]
    refine Go.istore 14 #[.val (.ref b), .val (.int (0 : Int32)), .val (.int (4 : Int32)), .val (.ref x_2), .val (.int (2 : Int32)), .unset] d6_12 rfl rfl ?_
    refine Go.iload 16 d6_14 rfl rfl ?_
    refine Go.iloadN 17 d6_16 rfl rfl ?_
    refine Go.icmpN 20 d6_17 rfl (feq (by decide)).1 ?_
    refine Go.aloadN 21 d6_20 rfl rfl rfl ?_
    refine Go.iloadN 22 d6_21 rfl rfl ?_
    refine Go.iloadN 23 d6_22 rfl rfl ?_
    have X_35 : Ext h0 h_10 := extK E_5 K5 (allS (Nat.le_of_eq g_3) all0)
    have f_36 := A.ext X_35
    refine Go.callS (S := []) 26 [(.ref b), (.int (0 : Int32)), (.int (4 : Int32))] d6_23 rfl rfl (w86 hw) (w87 hw) (w28 hw) (w88 hw) (by decide) (call_of_go (R := _) (len := 3) (W := 0) (plainFor_of_name pn_0) (fun mid => ef_tob4 mid b c0 c1 c2 c3 ) (c_tob4 hw b c0 c1 c2 c3 f_36 UA UH UL) (w88 hw) (w28 hw) (by decide) (by decide)) (lenOf pd_4 rfl) (Nat.le_of_ble_eq_true rfl) rfl (Nat.le_of_ble_eq_true rfl) (Nat.le_of_ble_eq_true rfl) (fun _ q => nomatch q) (fun v h_37 sf_42 hq => ?_)
    obtain ⟨x_38, rfl, E_39, le_40, A_41⟩ := hq
    refine Go.more (sf' := [x_2]) ?_ (Nat.le_refl _) (Nat.le_refl _) (fun _ q => List.mem_append_right _ q)
    show G_cmp3_4 md l Z n0 b c0 c1 c2 c3 h0 2 12 [x_2] h_37 26 #[.val (.ref b), .val (.int (0 : Int32)), .val (.int (4 : Int32)), .val (.ref x_2), .val (.int (2 : Int32)), .unset] [(.ref x_38)]
    refine Go.astore 28 #[.val (.ref b), .val (.int (0 : Int32)), .val (.int (4 : Int32)), .val (.ref x_2), .val (.int (2 : Int32)), .val (.ref x_38)] d6_26 rfl rfl rfl ?_
    refine Go.aload 30 d6_28 rfl rfl rfl ?_
    refine Go.iload 32 d6_30 rfl rfl ?_
    refine Go.callS (S := []) 35 [(.ref x_38), (.int (2 : Int32))] d6_32 rfl rfl (w102 hw) (w103 hw) (w28 hw) (w104 hw) (by decide) (call_of_go (R := _) (len := 3) (W := 0) (plainFor_of_name pn_0) (fun mid => ef_getc2 mid x_38 (lo16 c2) (hi16 c2) [(.int (lo16 c0)), (.int (hi16 c0)), (.int (lo16 c1)), (.int (hi16 c1)), (.int (lo16 c2)), (.int (hi16 c2)), (.int (lo16 c3)), (.int (hi16 c3))] ) (c_getc2 hw x_38 (lo16 c2) (hi16 c2) [(.int (lo16 c0)), (.int (hi16 c0)), (.int (lo16 c1)), (.int (hi16 c1)), (.int (lo16 c2)), (.int (hi16 c2)), (.int (lo16 c3)), (.int (hi16 c3))] A_41 rfl rfl UA UH UL) (w104 hw) (w28 hw) (by decide) (by decide)) (lenOf pd_5 rfl) (Nat.le_of_ble_eq_true rfl) rfl (Nat.le_of_ble_eq_true rfl) (Nat.le_of_ble_eq_true rfl) (fun _ q => nomatch q) (fun v h_43 sf_44 hq => ?_)
    obtain ⟨rfl, rfl⟩ := hq
    rw [rt16 b_c2]
    refine Go.more (sf' := [x_2]) ?_ (Nat.le_refl _) (Nat.le_refl _) (fun _ q => List.mem_append_right _ q)
    show G_cmp3_4 md l Z n0 b c0 c1 c2 c3 h0 2 12 [x_2] h_37 35 #[.val (.ref b), .val (.int (0 : Int32)), .val (.int (4 : Int32)), .val (.ref x_2), .val (.int (2 : Int32)), .val (.ref x_38)] [(.int c2)]
    refine Go.sipush 38 (255 : Int32) d6_35 rfl rfl ?_
    refine Go.icmpY 54 d6_38 (by decide) (by decide) (tlt hbig).2.2.1 ?_
    refine Go.aload 56 d6_54 rfl rfl rfl ?_
    have X_45 : Ext h0 h_37 := extT X_35 E_39
    exact Go.retA d6_56 rfl rfl rfl (sf' := []) (⟨_, rfl, X_45, (Nat.le_trans X_35.1 le_40), Or.inr ⟨Or.inr (Or.inr (Or.inl (hbig))), A_41⟩⟩) (fun _ q => nomatch q) (Nat.le_of_ble_eq_true rfl) (Nat.le_of_ble_eq_true rfl)
  · skip
    refine Go.more (sf' := [x_2]) ?_ (Nat.le_refl _) (Nat.le_refl _) (fun _ q => List.mem_append_right _ q)
    show G_cmp3_4 md l Z n0 b c0 c1 c2 c3 h0 1 4 [x_2] h_10 12 #[.val (.ref b), .val (.int (0 : Int32)), .val (.int (4 : Int32)), .val (.ref x_2), .unset, .unset] [(.int (3 : Int32))]
    refine Go.istore 14 #[.val (.ref b), .val (.int (0 : Int32)), .val (.int (4 : Int32)), .val (.ref x_2), .val (.int (3 : Int32)), .unset] d6_12 rfl rfl ?_
    refine Go.iload 16 d6_14 rfl rfl ?_
    refine Go.iloadN 17 d6_16 rfl rfl ?_
    refine Go.icmpN 20 d6_17 rfl (feq (by decide)).1 ?_
    refine Go.aloadN 21 d6_20 rfl rfl rfl ?_
    refine Go.iloadN 22 d6_21 rfl rfl ?_
    refine Go.iloadN 23 d6_22 rfl rfl ?_
    have X_46 : Ext h0 h_10 := extK E_5 K5 (allS (Nat.le_of_eq g_3) all0)
    have f_47 := A.ext X_46
    refine Go.callS (S := []) 26 [(.ref b), (.int (0 : Int32)), (.int (4 : Int32))] d6_23 rfl rfl (w86 hw) (w87 hw) (w28 hw) (w88 hw) (by decide) (call_of_go (R := _) (len := 3) (W := 0) (plainFor_of_name pn_0) (fun mid => ef_tob4 mid b c0 c1 c2 c3 ) (c_tob4 hw b c0 c1 c2 c3 f_47 UA UH UL) (w88 hw) (w28 hw) (by decide) (by decide)) (lenOf pd_4 rfl) (Nat.le_of_ble_eq_true rfl) rfl (Nat.le_of_ble_eq_true rfl) (Nat.le_of_ble_eq_true rfl) (fun _ q => nomatch q) (fun v h_48 sf_53 hq => ?_)
    obtain ⟨x_49, rfl, E_50, le_51, A_52⟩ := hq
    refine Go.more (sf' := [x_2]) ?_ (Nat.le_refl _) (Nat.le_refl _) (fun _ q => List.mem_append_right _ q)
    show G_cmp3_4 md l Z n0 b c0 c1 c2 c3 h0 2 12 [x_2] h_48 26 #[.val (.ref b), .val (.int (0 : Int32)), .val (.int (4 : Int32)), .val (.ref x_2), .val (.int (3 : Int32)), .unset] [(.ref x_49)]
    refine Go.astore 28 #[.val (.ref b), .val (.int (0 : Int32)), .val (.int (4 : Int32)), .val (.ref x_2), .val (.int (3 : Int32)), .val (.ref x_49)] d6_26 rfl rfl rfl ?_
    refine Go.aload 30 d6_28 rfl rfl rfl ?_
    refine Go.iload 32 d6_30 rfl rfl ?_
    refine Go.callS (S := []) 35 [(.ref x_49), (.int (3 : Int32))] d6_32 rfl rfl (w102 hw) (w103 hw) (w28 hw) (w104 hw) (by decide) (call_of_go (R := _) (len := 3) (W := 0) (plainFor_of_name pn_0) (fun mid => ef_getc3 mid x_49 (lo16 c3) (hi16 c3) [(.int (lo16 c0)), (.int (hi16 c0)), (.int (lo16 c1)), (.int (hi16 c1)), (.int (lo16 c2)), (.int (hi16 c2)), (.int (lo16 c3)), (.int (hi16 c3))] ) (c_getc3 hw x_49 (lo16 c3) (hi16 c3) [(.int (lo16 c0)), (.int (hi16 c0)), (.int (lo16 c1)), (.int (hi16 c1)), (.int (lo16 c2)), (.int (hi16 c2)), (.int (lo16 c3)), (.int (hi16 c3))] A_52 rfl rfl UA UH UL) (w104 hw) (w28 hw) (by decide) (by decide)) (lenOf pd_5 rfl) (Nat.le_of_ble_eq_true rfl) rfl (Nat.le_of_ble_eq_true rfl) (Nat.le_of_ble_eq_true rfl) (fun _ q => nomatch q) (fun v h_54 sf_55 hq => ?_)
    obtain ⟨rfl, rfl⟩ := hq
    rw [rt16 b_c3]
    refine Go.more (sf' := [x_2]) ?_ (Nat.le_refl _) (Nat.le_refl _) (fun _ q => List.mem_append_right _ q)
    show G_cmp3_4 md l Z n0 b c0 c1 c2 c3 h0 2 12 [x_2] h_48 35 #[.val (.ref b), .val (.int (0 : Int32)), .val (.int (4 : Int32)), .val (.ref x_2), .val (.int (3 : Int32)), .val (.ref x_49)] [(.int c3)]
    refine Go.sipush 38 (255 : Int32) d6_35 rfl rfl ?_
    refine Go.icmpY 54 d6_38 (by decide) (by decide) (tlt hbig).2.2.1 ?_
    refine Go.aload 56 d6_54 rfl rfl rfl ?_
    have X_56 : Ext h0 h_48 := extT X_46 E_50
    exact Go.retA d6_56 rfl rfl rfl (sf' := []) (⟨_, rfl, X_56, (Nat.le_trans X_46.1 le_51), Or.inr ⟨Or.inr (Or.inr (Or.inr (hbig))), A_52⟩⟩) (fun _ q => nomatch q) (Nat.le_of_ble_eq_true rfl) (Nat.le_of_ble_eq_true rfl)
abbrev G_cfl4_0 (md : Md) (l : Launch) (Z : State) (n0 : Nat) (d : Addr) (vs : List Value) (h0 : Heap) := Go md l Z n0 ({ frames := 0, cells := 0, slots := 0, locals := 0 } : Room) jdk_52_method_15_code 2 (some .byte) "java/lang/StringUTF16" "coderFromArrayLen" (fun v h' _ => h0 = h' ∧ v = some (.int 0))
theorem ef_cfl4_0 (mid : MethodId) (d : Addr) (vs : List Value)  : entryFrame mid #[(.ref d), (.int (4 : Int32))] 2 = mkF mid 0 #[.val (.ref d), .val (.int (4 : Int32))] [] := by first | (simp [entryFrame, mkF, argsToLocals, Value.category]; done) | rfl
set_option maxRecDepth 65536 in
set_option maxHeartbeats 40000000 in
theorem c_cfl4_0 {md : Md} {l : Launch} {Z : State} {n0 : Nat} {a0 : Array Value} (hw : HW a0 Z) (d : Addr) (vs : List Value) {h0 : Heap} (A : Ary Z h0 d .byte vs) (hl : vs.length = 4) : G_cfl4_0 md l Z n0 d vs h0 0 0 [] h0 0 #[.val (.ref d), .val (.int (4 : Int32))] [] := by
  refine Go.iloadN 1 d8_0 rfl rfl ?_
  refine Go.aloadN 2 d8_1 rfl rfl rfl ?_
  refine Go.alen 3 (4 : Int32) d8_2 rfl A (by rw [hl]; rfl) ?_
  refine Go.isub 4 d8_3 rfl ?_
  rw [show ((4 : Int32) - (4 : Int32)) = (0 : Int32) from by decide]
  refine Go.bipush 6 (31 : Int32) d8_4 rfl rfl ?_
  refine Go.iushr 7 d8_6 rfl ?_
  refine Go.i2b 8 d8_7 rfl ?_
  exact Go.retN (0 : Int32) d8_8 rfl (t := .byte) (by simp) (by decide) (sf' := []) (⟨rfl, rfl⟩) (fun _ q => nomatch q) (Nat.le_of_ble_eq_true rfl) (Nat.le_of_ble_eq_true rfl)
abbrev G_cfl4_1 (md : Md) (l : Launch) (Z : State) (n0 : Nat) (d : Addr) (vs : List Value) (h0 : Heap) := Go md l Z n0 ({ frames := 0, cells := 0, slots := 0, locals := 0 } : Room) jdk_52_method_15_code 2 (some .byte) "java/lang/StringUTF16" "coderFromArrayLen" (fun v h' _ => h0 = h' ∧ v = some (.int 1))
theorem ef_cfl4_1 (mid : MethodId) (d : Addr) (vs : List Value)  : entryFrame mid #[(.ref d), (.int (4 : Int32))] 2 = mkF mid 0 #[.val (.ref d), .val (.int (4 : Int32))] [] := by first | (simp [entryFrame, mkF, argsToLocals, Value.category]; done) | rfl
set_option maxRecDepth 65536 in
set_option maxHeartbeats 40000000 in
theorem c_cfl4_1 {md : Md} {l : Launch} {Z : State} {n0 : Nat} {a0 : Array Value} (hw : HW a0 Z) (d : Addr) (vs : List Value) {h0 : Heap} (A : Ary Z h0 d .byte vs) (hl : vs.length = 8) : G_cfl4_1 md l Z n0 d vs h0 0 0 [] h0 0 #[.val (.ref d), .val (.int (4 : Int32))] [] := by
  refine Go.iloadN 1 d8_0 rfl rfl ?_
  refine Go.aloadN 2 d8_1 rfl rfl rfl ?_
  refine Go.alen 3 (8 : Int32) d8_2 rfl A (by rw [hl]; rfl) ?_
  refine Go.isub 4 d8_3 rfl ?_
  rw [show ((4 : Int32) - (8 : Int32)) = (-4 : Int32) from by decide]
  refine Go.bipush 6 (31 : Int32) d8_4 rfl rfl ?_
  refine Go.iushr 7 d8_6 rfl ?_
  refine Go.i2b 8 d8_7 rfl ?_
  exact Go.retN (1 : Int32) d8_8 rfl (t := .byte) (by simp) (by decide) (sf' := []) (⟨rfl, rfl⟩) (fun _ q => nomatch q) (Nat.le_of_ble_eq_true rfl) (Nat.le_of_ble_eq_true rfl)
abbrev G_new4_4 (md : Md) (l : Launch) (Z : State) (n0 : Nat) (x b : Addr) (z : Int32) (c0 c1 c2 c3 : Int32) (h0 : Heap) := Go md l Z n0 ({ frames := 4, cells := 2, slots := 12, locals := 57 } : Room) jdk_42_method_149_code 6 none "java/lang/String" "<init>" (fun v h' _ => v = none ∧ Keep h0 h' [x] ∧ Gst Z h' x [c0, c1, c2, c3])
theorem ef_new4_4 (mid : MethodId) (x b : Addr) (z : Int32) (c0 c1 c2 c3 : Int32)  : entryFrame mid #[(.ref x), (.ref b), (.int (0 : Int32)), (.int (4 : Int32)), .null] 6 = mkF mid 0 #[.val (.ref x), .val (.ref b), .val (.int (0 : Int32)), .val (.int (4 : Int32)), .val .null, .unset] [] := by first | (simp [entryFrame, mkF, argsToLocals, Value.category]; done) | rfl
set_option maxRecDepth 65536 in
set_option maxHeartbeats 40000000 in
theorem c_new4_4 {md : Md} {l : Launch} {Z : State} {n0 : Nat} {a0 : Array Value} (hw : HW a0 Z) (x b : Addr) (z : Int32) (c0 c1 c2 c3 : Int32) {h0 : Heap} (E : Exa Z h0 x "java/lang/String") (n0x : n0 ≤ x) {v0 c0_ : Value} (V : Fld Z h0 x "java/lang/String" "value" "[B" v0) (C : Fld Z h0 x "java/lang/String" "coder" "B" c0_) (A : Ary Z h0 b .char [(.int c0), (.int c1), (.int c2), (.int c3)]) (b_c0 : CHP c0) (b_c1 : CHP c1) (b_c2 : CHP c2) (b_c3 : CHP c3) (SC : Sta Z Z.heap "java/lang/String" "COMPACT_STRINGS" "Z" (.int z)) (hz : ¬ z = 0) (UA : Sta Z Z.heap "java/lang/StringUTF16" "$assertionsDisabled" "Z" (.int 1)) (UH : Sta Z Z.heap "java/lang/StringUTF16" "HI_BYTE_SHIFT" "I" (.int 0)) (UL : Sta Z Z.heap "java/lang/StringUTF16" "LO_BYTE_SHIFT" "I" (.int 8))  : G_new4_4 md l Z n0 x b z c0 c1 c2 c3 h0 0 0 [x] h0 0 #[.val (.ref x), .val (.ref b), .val (.int (0 : Int32)), .val (.int (4 : Int32)), .val .null, .unset] [] := by
  refine Go.aloadN 1 d4_0 rfl rfl rfl ?_
  refine Go.initO (W := 0) 4 d4_1 rfl (w22 hw) (w23 hw) (w24 hw) rfl (by decide) (Nat.le_of_ble_eq_true rfl) (by decide) ?_
  refine Go.iloadN 5 d4_4 rfl rfl ?_
  refine Go.ifY 27 d4_5 (by decide) (by decide) (feq (by decide)).2 ?_
  refine Go.getS 30 d4_27 rfl (w25 hw) Via.refl SC ?_
  refine Go.ifN 33 d4_30 rfl (feq hz).1 ?_
  refine Go.aloadN 34 d4_33 rfl rfl rfl ?_
  refine Go.iloadN 35 d4_34 rfl rfl ?_
  refine Go.iloadN 36 d4_35 rfl rfl ?_
  refine Go.callS (S := []) 39 [(.ref b), (.int (0 : Int32)), (.int (4 : Int32))] d4_36 rfl rfl (w26 hw) (w27 hw) (w28 hw) (w29 hw) (by decide) (call_of_go (R := _) (len := 3) (W := 0) (plainFor_of_name pn_0) (fun mid => ef_cmp3_4 mid b c0 c1 c2 c3 ) (c_cmp3_4 hw b c0 c1 c2 c3 A b_c0 b_c1 b_c2 b_c3 UA UH UL) (w29 hw) (w28 hw) (by decide) (by decide)) (lenOf pd_4 rfl) (Nat.le_of_ble_eq_true rfl) rfl (Nat.le_of_ble_eq_true rfl) (Nat.le_of_ble_eq_true rfl) (fun _ q => nomatch q) (fun v h_1 sf_2 hq => ?_)
  obtain ⟨y, rfl, X3, le3, ⟨hlat, A3⟩ | ⟨hbig, A3⟩⟩ := hq
  · skip
    refine Go.more (sf' := [x]) ?_ (Nat.le_refl _) (Nat.le_refl _) (fun _ q => List.mem_append_right _ q)
    show G_new4_4 md l Z n0 x b z c0 c1 c2 c3 h0 2 12 [x] h_1 39 #[.val (.ref x), .val (.ref b), .val (.int (0 : Int32)), .val (.int (4 : Int32)), .val .null, .unset] [(.ref y)]
    have nyx : y ≠ x := Nat.ne_of_gt (Nat.lt_of_lt_of_le E.lt le3)
    refine Go.astore 41 #[.val (.ref x), .val (.ref b), .val (.int (0 : Int32)), .val (.int (4 : Int32)), .val .null, .val (.ref y)] d4_39 rfl rfl rfl ?_
    refine Go.aloadN 42 d4_41 rfl rfl rfl ?_
    refine Go.aload 44 d4_42 rfl rfl rfl ?_
    refine Go.iloadN 45 d4_44 rfl rfl ?_
    refine Go.callS (S := [(.ref x)]) 48 [(.ref y), (.int (4 : Int32))] d4_45 rfl rfl (w34 hw) (w35 hw) (w28 hw) (w36 hw) (by decide) (call_of_go (R := _) (len := 3) (W := 1) (plainFor_of_name pn_0) (fun mid => ef_cfl4_0 mid y [(.int c0.toInt8.toInt32), (.int c1.toInt8.toInt32), (.int c2.toInt8.toInt32), (.int c3.toInt8.toInt32)] ) (c_cfl4_0 hw y [(.int c0.toInt8.toInt32), (.int c1.toInt8.toInt32), (.int c2.toInt8.toInt32), (.int c3.toInt8.toInt32)] A3 rfl) (w36 hw) (w28 hw) (by decide) (by decide)) (lenOf pd_6 rfl) (Nat.le_of_ble_eq_true rfl) rfl (Nat.le_of_ble_eq_true rfl) (Nat.le_of_ble_eq_true rfl) (fun _ q => nomatch q) (fun v h_3 sf_4 hq => ?_)
    obtain ⟨rfl, rfl⟩ := hq
    refine Go.more (sf' := [x]) ?_ (Nat.le_refl _) (Nat.le_refl _) (fun _ q => List.mem_append_right _ q)
    show G_new4_4 md l Z n0 x b z c0 c1 c2 c3 h0 2 12 [x] h_1 48 #[.val (.ref x), .val (.ref b), .val (.int (0 : Int32)), .val (.int (4 : Int32)), .val .null, .val (.ref y)] [(.int (0 : Int32)), (.ref x)]
    have f_5 := E.ext X3
    have f_6 := C.ext X3
    refine Go.putF 51 (.int (0 : Int32)) d4_48 rfl (w37 hw) Via.refl f_6 f_5 (Or.inr ⟨(w38 hw), rfl, rfl⟩) (w13 hw) (ty := .byte) (by decide) rfl rfl (List.mem_of_getElem? (i := 0) rfl) n0x (fun h_7 W_8 => ?_)
    refine Go.aloadN 52 d4_51 rfl rfl rfl ?_
    refine Go.aload 54 d4_52 rfl rfl rfl ?_
    have f_9 := (f_5.wr W_8)
    have f_10 := ((V.ext X3).other W_8 (Or.inr (slot_ne (Or.inr (w40 hw)) (Or.inr (w38 hw)) (by decide) (t := (.array .byte)) (t' := .byte) (by decide) (by decide))))
    refine Go.putF 57 (.ref y) d4_54 rfl (w39 hw) Via.refl f_10 f_9 (Or.inr ⟨(w40 hw), rfl, rfl⟩) (w13 hw) (ty := (.array .byte)) (by decide) rfl rfl (List.mem_of_getElem? (i := 0) rfl) n0x (fun h_11 W_12 => ?_)
    have f_13 := (f_9.wr W_12)
    have f_14 := ((f_6.same W_8).other W_12 (Or.inr (slot_ne (Or.inr (w38 hw)) (Or.inr (w40 hw)) (by decide) (t := .byte) (t' := (.array .byte)) (by decide) (by decide))))
    have f_15 := ((A3.other W_8 nyx).other W_12 nyx)
    exact Go.ret0 d4_57 rfl (sf' := []) (⟨rfl, ((((Keep.refl h0 [x]).ext X3).wr W_8 (Or.inl (List.mem_of_getElem? (i := 0) rfl))).wr W_12 (Or.inl (List.mem_of_getElem? (i := 0) rfl))), y, (0 : Int32), _, f_13, f_14, (f_10.same W_12), f_15, Or.inl ⟨rfl, rfl, (latC ⟨chp0 b_c0, hlat.1⟩ (latC ⟨chp0 b_c1, hlat.2.1⟩ (latC ⟨chp0 b_c2, hlat.2.2.1⟩ (latC ⟨chp0 b_c3, hlat.2.2.2⟩ latN))))⟩⟩) (fun _ q => nomatch q) (Nat.le_of_ble_eq_true rfl) (Nat.le_of_ble_eq_true rfl)
  · skip
    refine Go.more (sf' := [x]) ?_ (Nat.le_refl _) (Nat.le_refl _) (fun _ q => List.mem_append_right _ q)
    show G_new4_4 md l Z n0 x b z c0 c1 c2 c3 h0 2 12 [x] h_1 39 #[.val (.ref x), .val (.ref b), .val (.int (0 : Int32)), .val (.int (4 : Int32)), .val .null, .unset] [(.ref y)]
    have nyx : y ≠ x := Nat.ne_of_gt (Nat.lt_of_lt_of_le E.lt le3)
    refine Go.astore 41 #[.val (.ref x), .val (.ref b), .val (.int (0 : Int32)), .val (.int (4 : Int32)), .val .null, .val (.ref y)] d4_39 rfl rfl rfl ?_
    refine Go.aloadN 42 d4_41 rfl rfl rfl ?_
    refine Go.aload 44 d4_42 rfl rfl rfl ?_
    refine Go.iloadN 45 d4_44 rfl rfl ?_
    refine Go.callS (S := [(.ref x)]) 48 [(.ref y), (.int (4 : Int32))] d4_45 rfl rfl (w34 hw) (w35 hw) (w28 hw) (w36 hw) (by decide) (call_of_go (R := _) (len := 3) (W := 1) (plainFor_of_name pn_0) (fun mid => ef_cfl4_1 mid y [(.int (lo16 c0)), (.int (hi16 c0)), (.int (lo16 c1)), (.int (hi16 c1)), (.int (lo16 c2)), (.int (hi16 c2)), (.int (lo16 c3)), (.int (hi16 c3))] ) (c_cfl4_1 hw y [(.int (lo16 c0)), (.int (hi16 c0)), (.int (lo16 c1)), (.int (hi16 c1)), (.int (lo16 c2)), (.int (hi16 c2)), (.int (lo16 c3)), (.int (hi16 c3))] A3 rfl) (w36 hw) (w28 hw) (by decide) (by decide)) (lenOf pd_6 rfl) (Nat.le_of_ble_eq_true rfl) rfl (Nat.le_of_ble_eq_true rfl) (Nat.le_of_ble_eq_true rfl) (fun _ q => nomatch q) (fun v h_16 sf_17 hq => ?_)
    obtain ⟨rfl, rfl⟩ := hq
    refine Go.more (sf' := [x]) ?_ (Nat.le_refl _) (Nat.le_refl _) (fun _ q => List.mem_append_right _ q)
    show G_new4_4 md l Z n0 x b z c0 c1 c2 c3 h0 2 12 [x] h_1 48 #[.val (.ref x), .val (.ref b), .val (.int (0 : Int32)), .val (.int (4 : Int32)), .val .null, .val (.ref y)] [(.int (1 : Int32)), (.ref x)]
    have f_18 := E.ext X3
    have f_19 := C.ext X3
    refine Go.putF 51 (.int (1 : Int32)) d4_48 rfl (w37 hw) Via.refl f_19 f_18 (Or.inr ⟨(w38 hw), rfl, rfl⟩) (w13 hw) (ty := .byte) (by decide) rfl rfl (List.mem_of_getElem? (i := 0) rfl) n0x (fun h_20 W_21 => ?_)
    refine Go.aloadN 52 d4_51 rfl rfl rfl ?_
    refine Go.aload 54 d4_52 rfl rfl rfl ?_
    have f_22 := (f_18.wr W_21)
    have f_23 := ((V.ext X3).other W_21 (Or.inr (slot_ne (Or.inr (w40 hw)) (Or.inr (w38 hw)) (by decide) (t := (.array .byte)) (t' := .byte) (by decide) (by decide))))
    refine Go.putF 57 (.ref y) d4_54 rfl (w39 hw) Via.refl f_23 f_22 (Or.inr ⟨(w40 hw), rfl, rfl⟩) (w13 hw) (ty := (.array .byte)) (by decide) rfl rfl (List.mem_of_getElem? (i := 0) rfl) n0x (fun h_24 W_25 => ?_)
    have f_26 := (f_22.wr W_25)
    have f_27 := ((f_19.same W_21).other W_25 (Or.inr (slot_ne (Or.inr (w38 hw)) (Or.inr (w40 hw)) (by decide) (t := .byte) (t' := (.array .byte)) (by decide) (by decide))))
    have f_28 := ((A3.other W_21 nyx).other W_25 nyx)
    exact Go.ret0 d4_57 rfl (sf' := []) (⟨rfl, ((((Keep.refl h0 [x]).ext X3).wr W_21 (Or.inl (List.mem_of_getElem? (i := 0) rfl))).wr W_25 (Or.inl (List.mem_of_getElem? (i := 0) rfl))), y, (1 : Int32), _, f_26, f_27, (f_23.same W_25), f_28, Or.inr ⟨rfl, rfl, by rcases hbig with hbig | hbig | hbig | hbig <;> exact ⟨_, by simp, hbig⟩⟩⟩) (fun _ q => nomatch q) (Nat.le_of_ble_eq_true rfl) (Nat.le_of_ble_eq_true rfl)
abbrev G_new1_4 (md : Md) (l : Launch) (Z : State) (n0 : Nat) (x b : Addr) (z : Int32) (c0 c1 c2 c3 : Int32) (h0 : Heap) := Go md l Z n0 ({ frames := 5, cells := 2, slots := 12, locals := 74 } : Room) jdk_42_method_3_code 2 none "java/lang/String" "<init>" (fun v h' _ => v = none ∧ Keep h0 h' [x] ∧ Gst Z h' x [c0, c1, c2, c3])
theorem ef_new1_4 (mid : MethodId) (x b : Addr) (z : Int32) (c0 c1 c2 c3 : Int32)  : entryFrame mid #[(.ref x), (.ref b)] 2 = mkF mid 0 #[.val (.ref x), .val (.ref b)] [] := by first | (simp [entryFrame, mkF, argsToLocals, Value.category]; done) | rfl
set_option maxRecDepth 65536 in
set_option maxHeartbeats 40000000 in
theorem c_new1_4 {md : Md} {l : Launch} {Z : State} {n0 : Nat} {a0 : Array Value} (hw : HW a0 Z) (x b : Addr) (z : Int32) (c0 c1 c2 c3 : Int32) {h0 : Heap} (E : Exa Z h0 x "java/lang/String") (n0x : n0 ≤ x) {v0 c0_ : Value} (V : Fld Z h0 x "java/lang/String" "value" "[B" v0) (C : Fld Z h0 x "java/lang/String" "coder" "B" c0_) (A : Ary Z h0 b .char [(.int c0), (.int c1), (.int c2), (.int c3)]) (b_c0 : CHP c0) (b_c1 : CHP c1) (b_c2 : CHP c2) (b_c3 : CHP c3) (SC : Sta Z Z.heap "java/lang/String" "COMPACT_STRINGS" "Z" (.int z)) (hz : ¬ z = 0) (UA : Sta Z Z.heap "java/lang/StringUTF16" "$assertionsDisabled" "Z" (.int 1)) (UH : Sta Z Z.heap "java/lang/StringUTF16" "HI_BYTE_SHIFT" "I" (.int 0)) (UL : Sta Z Z.heap "java/lang/StringUTF16" "LO_BYTE_SHIFT" "I" (.int 8))  : G_new1_4 md l Z n0 x b z c0 c1 c2 c3 h0 0 0 [x] h0 0 #[.val (.ref x), .val (.ref b)] [] := by
  refine Go.aloadN 1 d3_0 rfl rfl rfl ?_
  refine Go.aloadN 2 d3_1 rfl rfl rfl ?_
  refine Go.iconst 3 (0 : Int32) d3_2 rfl rfl ?_
  refine Go.aloadN 4 d3_3 rfl rfl rfl ?_
  refine Go.alen 5 (4 : Int32) d3_4 rfl A rfl ?_
  refine Go.aconstNull 6 d3_5 rfl ?_
  refine Go.callC (S := []) (a := x) 9 [(.ref b), (.int (0 : Int32)), (.int (4 : Int32)), .null] d3_6 rfl rfl rfl (w18 hw) (w19 hw) (w21 hw) (by decide) (call_of_go (R := _) (len := 3) (W := 0) (plainFor_of_name pn_1) (fun mid => ef_new4_4 mid x b z c0 c1 c2 c3 ) (c_new4_4 hw x b z c0 c1 c2 c3 E n0x V C A b_c0 b_c1 b_c2 b_c3 SC hz UA UH UL) (w21 hw) (w14 hw) (by decide) (by decide)) (lenOf pd_7 rfl) (Nat.le_of_ble_eq_true rfl) rfl (Nat.le_of_ble_eq_true rfl) (Nat.le_of_ble_eq_true rfl) (fun _ q => q) (fun v h_1 sf_2 hq => ?_)
  obtain ⟨rfl, K2, S2⟩ := hq
  refine Go.more (sf' := [x]) ?_ (Nat.le_refl _) (Nat.le_refl _) (fun _ q => List.mem_append_right _ q)
  show G_new1_4 md l Z n0 x b z c0 c1 c2 c3 h0 2 12 [x] h_1 9 #[.val (.ref x), .val (.ref b)] []
  exact Go.ret0 d3_9 rfl (sf' := []) (⟨rfl, K2, S2⟩) (fun _ q => nomatch q) (Nat.le_of_ble_eq_true rfl) (Nat.le_of_ble_eq_true rfl)
abbrev G_coder (md : Md) (l : Launch) (Z : State) (n0 : Nat) (x : Addr) (z cd : Int32) (h0 : Heap) := Go md l Z n0 ({ frames := 0, cells := 0, slots := 0, locals := 0 } : Room) jdk_42_method_152_code 1 (some .byte) "java/lang/String" "coder" (fun v h' _ => h0 = h' ∧ v = some (.int cd))
theorem ef_coder (mid : MethodId) (x : Addr) (z cd : Int32)  : entryFrame mid #[(.ref x)] 1 = mkF mid 0 #[.val (.ref x)] [] := by first | (simp [entryFrame, mkF, argsToLocals, Value.category]; done) | rfl
set_option maxRecDepth 65536 in
set_option maxHeartbeats 40000000 in
theorem c_coder {md : Md} {l : Launch} {Z : State} {n0 : Nat} {a0 : Array Value} (hw : HW a0 Z) (x : Addr) (z cd : Int32) {h0 : Heap} (C : Fld Z h0 x "java/lang/String" "coder" "B" (.int cd)) (hcd : nar .byte cd = cd) (SC : Sta Z Z.heap "java/lang/String" "COMPACT_STRINGS" "Z" (.int z)) (hz : ¬ z = 0)  : G_coder md l Z n0 x z cd h0 0 0 [] h0 0 #[.val (.ref x)] [] := by
  refine Go.getS 3 d12_0 rfl (w25 hw) Via.refl SC ?_
  refine Go.ifN 6 d12_3 rfl (feq hz).1 ?_
  refine Go.aloadN 7 d12_6 rfl rfl rfl ?_
  refine Go.getF 10 d12_7 rfl (w37 hw) Via.refl C ?_
  refine Go.goto 14 d12_10 (by decide) (by decide) ?_
  exact Go.retN cd d12_14 rfl (t := .byte) (by simp) hcd (sf' := []) (⟨rfl, rfl⟩) (fun _ q => nomatch q) (Nat.le_of_ble_eq_true rfl) (Nat.le_of_ble_eq_true rfl)
abbrev G_glen (md : Md) (l : Launch) (Z : State) (n0 : Nat) (x t : Addr) (z cd : Int32) (vs : List Value) (h0 : Heap) := Go md l Z n0 ({ frames := 1, cells := 0, slots := 0, locals := 13 } : Room) jdk_42_method_54_code 1 (some .int) "java/lang/String" "length" (fun v h' _ => h0 = h' ∧ v = some (.int ((Int32.ofNat vs.length) >>> (cd &&& 31))))
theorem ef_glen (mid : MethodId) (x t : Addr) (z cd : Int32) (vs : List Value)  : entryFrame mid #[(.ref x)] 1 = mkF mid 0 #[.val (.ref x)] [] := by first | (simp [entryFrame, mkF, argsToLocals, Value.category]; done) | rfl
set_option maxRecDepth 65536 in
set_option maxHeartbeats 40000000 in
theorem c_glen {md : Md} {l : Launch} {Z : State} {n0 : Nat} {a0 : Array Value} (hw : HW a0 Z) (x t : Addr) (z cd : Int32) (vs : List Value) {h0 : Heap} (E : Exa Z h0 x "java/lang/String") (C : Fld Z h0 x "java/lang/String" "coder" "B" (.int cd)) (V : Fld Z h0 x "java/lang/String" "value" "[B" (.ref t)) (A : Ary Z h0 t .byte vs) (hcd : nar .byte cd = cd) (SC : Sta Z Z.heap "java/lang/String" "COMPACT_STRINGS" "Z" (.int z)) (hz : ¬ z = 0)  : G_glen md l Z n0 x t z cd vs h0 0 0 [] h0 0 #[.val (.ref x)] [] := by
  refine Go.aloadN 1 d11_0 rfl rfl rfl ?_
  refine Go.getF 4 d11_1 rfl (w39 hw) Via.refl V ?_
  refine Go.alen 5 (Int32.ofNat vs.length) d11_4 rfl A rfl ?_
  refine Go.aloadN 6 d11_5 rfl rfl rfl ?_
  refine Go.callV (S := [(.int (Int32.ofNat vs.length))]) (a := x) 9 [] d11_6 rfl rfl (w58 hw) (w59 hw) (w61 hw) (w60 hw) (fun _ q => notFace_of_selects (args := #[]) (mvT q (w61 hw))) (by decide) E (call_of_go (R := _) (len := 3) (W := 1) (plainFor_of_name pn_1) (fun mid => ef_coder mid x z cd ) (c_coder hw x z cd C hcd SC hz) (w62 hw) (w14 hw) (by decide) (by decide)) (lenOf pd_8 rfl) (Nat.le_of_ble_eq_true rfl) rfl (Nat.le_of_ble_eq_true rfl) (Nat.le_of_ble_eq_true rfl) (fun _ q => nomatch q) (fun v h_1 sf_2 hq => ?_)
  obtain ⟨rfl, rfl⟩ := hq
  refine Go.more (sf' := []) ?_ (Nat.le_refl _) (Nat.le_refl _) (fun _ q => List.mem_append_right _ q)
  show G_glen md l Z n0 x t z cd vs h0 0 0 [] h0 9 #[.val (.ref x)] [(.int cd), (.int (Int32.ofNat vs.length))]
  refine Go.ishr 10 d11_9 rfl ?_
  exact Go.retI d11_10 rfl (sf' := []) (⟨rfl, rfl⟩) (fun _ q => nomatch q) (Nat.le_of_ble_eq_true rfl) (Nat.le_of_ble_eq_true rfl)
abbrev G_isl0 (md : Md) (l : Launch) (Z : State) (n0 : Nat) (x : Addr) (z : Int32) (h0 : Heap) := Go md l Z n0 ({ frames := 0, cells := 0, slots := 0, locals := 0 } : Room) jdk_42_method_154_code 1 (some .boolean) "java/lang/String" "isLatin1" (fun v h' _ => h0 = h' ∧ v = some (.int 1))
theorem ef_isl0 (mid : MethodId) (x : Addr) (z : Int32)  : entryFrame mid #[(.ref x)] 1 = mkF mid 0 #[.val (.ref x)] [] := by first | (simp [entryFrame, mkF, argsToLocals, Value.category]; done) | rfl
set_option maxRecDepth 65536 in
set_option maxHeartbeats 40000000 in
theorem c_isl0 {md : Md} {l : Launch} {Z : State} {n0 : Nat} {a0 : Array Value} (hw : HW a0 Z) (x : Addr) (z : Int32) {h0 : Heap} (C : Fld Z h0 x "java/lang/String" "coder" "B" (.int 0)) (SC : Sta Z Z.heap "java/lang/String" "COMPACT_STRINGS" "Z" (.int z)) (hz : ¬ z = 0)  : G_isl0 md l Z n0 x z h0 0 0 [] h0 0 #[.val (.ref x)] [] := by
  refine Go.getS 3 d16_0 rfl (w25 hw) Via.refl SC ?_
  refine Go.ifN 6 d16_3 rfl (feq hz).1 ?_
  refine Go.aloadN 7 d16_6 rfl rfl rfl ?_
  refine Go.getF 10 d16_7 rfl (w37 hw) Via.refl C ?_
  refine Go.ifN 13 d16_10 rfl (teq (by decide)).2 ?_
  refine Go.iconst 14 (1 : Int32) d16_13 rfl rfl ?_
  refine Go.goto 18 d16_14 (by decide) (by decide) ?_
  exact Go.retN (1 : Int32) d16_18 rfl (t := .boolean) (by simp) rfl (sf' := []) (⟨rfl, rfl⟩) (fun _ q => nomatch q) (Nat.le_of_ble_eq_true rfl) (Nat.le_of_ble_eq_true rfl)
abbrev G_isl1 (md : Md) (l : Launch) (Z : State) (n0 : Nat) (x : Addr) (z : Int32) (h0 : Heap) := Go md l Z n0 ({ frames := 0, cells := 0, slots := 0, locals := 0 } : Room) jdk_42_method_154_code 1 (some .boolean) "java/lang/String" "isLatin1" (fun v h' _ => h0 = h' ∧ v = some (.int 0))
theorem ef_isl1 (mid : MethodId) (x : Addr) (z : Int32)  : entryFrame mid #[(.ref x)] 1 = mkF mid 0 #[.val (.ref x)] [] := by first | (simp [entryFrame, mkF, argsToLocals, Value.category]; done) | rfl
set_option maxRecDepth 65536 in
set_option maxHeartbeats 40000000 in
theorem c_isl1 {md : Md} {l : Launch} {Z : State} {n0 : Nat} {a0 : Array Value} (hw : HW a0 Z) (x : Addr) (z : Int32) {h0 : Heap} (C : Fld Z h0 x "java/lang/String" "coder" "B" (.int 1)) (SC : Sta Z Z.heap "java/lang/String" "COMPACT_STRINGS" "Z" (.int z)) (hz : ¬ z = 0)  : G_isl1 md l Z n0 x z h0 0 0 [] h0 0 #[.val (.ref x)] [] := by
  refine Go.getS 3 d16_0 rfl (w25 hw) Via.refl SC ?_
  refine Go.ifN 6 d16_3 rfl (feq hz).1 ?_
  refine Go.aloadN 7 d16_6 rfl rfl rfl ?_
  refine Go.getF 10 d16_7 rfl (w37 hw) Via.refl C ?_
  refine Go.ifY 17 d16_10 (by decide) (by decide) (feq (by decide)).2 ?_
  refine Go.iconst 18 (0 : Int32) d16_17 rfl rfl ?_
  exact Go.retN (0 : Int32) d16_18 rfl (t := .boolean) (by simp) rfl (sf' := []) (⟨rfl, rfl⟩) (fun _ q => nomatch q) (Nat.le_of_ble_eq_true rfl) (Nat.le_of_ble_eq_true rfl)
abbrev G_draw (md : Md) (l : Launch) (Z : State) (n0 : Nat) (x : Int32) (h0 : Heap) := Go md l Z n0 ({ frames := 0, cells := 0, slots := 0, locals := 0 } : Room) method_2_code 3 (some .char) "com/example/tugas/tugas/TextRequireLengthPinLaw" "draw" (fun v h' _ => h0 = h' ∧ ∃ r : Int32, v = some (.int r) ∧ CHP r)
theorem ef_draw (mid : MethodId) (x : Int32)  : entryFrame mid #[(.int x)] 3 = mkF mid 0 #[.val (.int x), .unset, .unset] [] := by first | (simp [entryFrame, mkF, argsToLocals, Value.category]; done) | rfl
set_option maxRecDepth 65536 in
set_option maxHeartbeats 40000000 in
theorem c_draw {md : Md} {l : Launch} {Z : State} {n0 : Nat} {a0 : Array Value} (hw : HW a0 Z) (x : Int32) {h0 : Heap}  : G_draw md l Z n0 x h0 0 0 [] h0 0 #[.val (.int x), .unset, .unset] [] := by
  refine Go.iloadN 1 d1_0 rfl rfl ?_
  refine Go.iconst 2 (3 : Int32) d1_1 rfl rfl ?_
  refine Go.iand 3 d1_2 rfl ?_
  refine Go.istoreN 4 #[.val (.int x), .val (.int (x &&& (3 : Int32))), .unset] d1_3 rfl rfl ?_
  refine Go.iloadN 5 d1_4 rfl rfl ?_
  refine Go.iconst 6 (2 : Int32) d1_5 rfl rfl ?_
  refine Go.iushr 7 d1_6 rfl ?_
  refine Go.istoreN 8 #[.val (.int x), .val (.int (x &&& (3 : Int32))), .val (.int (ushr x (2 : Int32)))] d1_7 rfl rfl ?_
  refine Go.iloadN 9 d1_8 rfl rfl ?_
  by_cases hc9 : (x &&& (3 : Int32)) = (0 : Int32)
  · skip
    refine Go.ifN 12 d1_9 rfl (teq hc9).2 ?_
    refine Go.iloadN 13 d1_12 rfl rfl ?_
    refine Go.sipush 16 (255 : Int32) d1_13 rfl rfl ?_
    refine Go.iand 17 d1_16 rfl ?_
    refine Go.i2c 18 d1_17 rfl ?_
    exact Go.retN (chr ((ushr x (2 : Int32)) &&& (255 : Int32))) d1_18 rfl (t := .char) (by simp) (nar_cc (chp_chr _)) (sf' := []) (⟨rfl, _, rfl, chp_chr _⟩) (fun _ q => nomatch q) (Nat.le_of_ble_eq_true rfl) (Nat.le_of_ble_eq_true rfl)
  · skip
    refine Go.ifY 19 d1_9 (by decide) (by decide) (feq hc9).2 ?_
    refine Go.iloadN 20 d1_19 rfl rfl ?_
    refine Go.iconst 21 (1 : Int32) d1_20 rfl rfl ?_
    by_cases hc21 : (x &&& (3 : Int32)) = (1 : Int32)
    · skip
      refine Go.icmpN 24 d1_21 rfl (teq hc21).2 ?_
      refine Go.ldcI 26 d1_24 rfl (w5 hw) ?_
      refine Go.iloadN 27 d1_26 rfl rfl ?_
      refine Go.sipush 30 (1023 : Int32) d1_27 rfl rfl ?_
      refine Go.iand 31 d1_30 rfl ?_
      refine Go.iadd 32 d1_31 rfl ?_
      refine Go.i2c 33 d1_32 rfl ?_
      exact Go.retN (chr ((55296 : Int32) + ((ushr x (2 : Int32)) &&& (1023 : Int32)))) d1_33 rfl (t := .char) (by simp) (nar_cc (chp_chr _)) (sf' := []) (⟨rfl, _, rfl, chp_chr _⟩) (fun _ q => nomatch q) (Nat.le_of_ble_eq_true rfl) (Nat.le_of_ble_eq_true rfl)
    · skip
      refine Go.icmpY 34 d1_21 (by decide) (by decide) (feq hc21).2 ?_
      refine Go.iloadN 35 d1_34 rfl rfl ?_
      refine Go.iconst 36 (2 : Int32) d1_35 rfl rfl ?_
      by_cases hc36 : (x &&& (3 : Int32)) = (2 : Int32)
      · skip
        refine Go.icmpN 39 d1_36 rfl (teq hc36).2 ?_
        refine Go.ldcI 41 d1_39 rfl (w4 hw) ?_
        refine Go.iloadN 42 d1_41 rfl rfl ?_
        refine Go.sipush 45 (1023 : Int32) d1_42 rfl rfl ?_
        refine Go.iand 46 d1_45 rfl ?_
        refine Go.iadd 47 d1_46 rfl ?_
        refine Go.i2c 48 d1_47 rfl ?_
        exact Go.retN (chr ((56320 : Int32) + ((ushr x (2 : Int32)) &&& (1023 : Int32)))) d1_48 rfl (t := .char) (by simp) (nar_cc (chp_chr _)) (sf' := []) (⟨rfl, _, rfl, chp_chr _⟩) (fun _ q => nomatch q) (Nat.le_of_ble_eq_true rfl) (Nat.le_of_ble_eq_true rfl)
      · skip
        refine Go.icmpY 49 d1_36 (by decide) (by decide) (feq hc36).2 ?_
        refine Go.iloadN 50 d1_49 rfl rfl ?_
        refine Go.i2c 51 d1_50 rfl ?_
        exact Go.retN (chr (ushr x (2 : Int32))) d1_51 rfl (t := .char) (by simp) (nar_cc (chp_chr _)) (sf' := []) (⟨rfl, _, rfl, chp_chr _⟩) (fun _ q => nomatch q) (Nat.le_of_ble_eq_true rfl) (Nat.le_of_ble_eq_true rfl)
abbrev G_minj (md : Md) (l : Launch) (Z : State) (n0 : Nat) (x y : Int64) (h0 : Heap) := Go md l Z n0 ({ frames := 0, cells := 0, slots := 0, locals := 0 } : Room) jdk_29_method_70_code 4 (some .long) "java/lang/Math" "min" (fun v h' _ => h0 = h' ∧ v = some (.long (if (0 : Int32) < (lcmpW x y) then y else x)))
theorem ef_minj (mid : MethodId) (x y : Int64)  : entryFrame mid #[(.long x), (.long y)] 4 = mkF mid 0 #[.val (.long x), .second, .val (.long y), .second] [] := by first | (simp [entryFrame, mkF, argsToLocals, Value.category]; done) | rfl
set_option maxRecDepth 65536 in
set_option maxHeartbeats 40000000 in
theorem c_minj {md : Md} {l : Launch} {Z : State} {n0 : Nat} {a0 : Array Value} (hw : HW a0 Z) (x y : Int64) {h0 : Heap}  : G_minj md l Z n0 x y h0 0 0 [] h0 0 #[.val (.long x), .second, .val (.long y), .second] [] := by
  refine Go.lloadN 1 d2_0 rfl rfl ?_
  refine Go.lloadN 2 d2_1 rfl rfl ?_
  refine Go.lcmp 3 d2_2 rfl ?_
  by_cases hc3 : (0 : Int32) < (lcmpW x y)
  · skip
    refine Go.ifY 10 d2_3 (by decide) (by decide) (tlt hc3).2.2.1 ?_
    refine Go.lloadN 11 d2_10 rfl rfl ?_
    exact Go.retJ d2_11 rfl (sf' := []) (⟨rfl, by rw [if_pos hc3]⟩) (fun _ q => nomatch q) (Nat.le_of_ble_eq_true rfl) (Nat.le_of_ble_eq_true rfl)
  · skip
    refine Go.ifN 6 d2_3 rfl (flt hc3).2.2.1 ?_
    refine Go.lloadN 7 d2_6 rfl rfl ?_
    refine Go.goto 11 d2_7 (by decide) (by decide) ?_
    exact Go.retJ d2_11 rfl (sf' := []) (⟨rfl, by rw [if_neg hc3]⟩) (fun _ q => nomatch q) (Nat.le_of_ble_eq_true rfl) (Nat.le_of_ble_eq_true rfl)
abbrev G_pair (md : Md) (l : Launch) (Z : State) (n0 : Nat) (x y : Int32) (h0 : Heap) := Go md l Z n0 ({ frames := 0, cells := 0, slots := 0, locals := 0 } : Room) method_3_code 2 (some .boolean) "com/example/tugas/tugas/TextRequireLengthPinLaw" "pair" (fun v h' _ => h0 = h' ∧ ∃ r : Int32, v = some (.int r) ∧ ((r = 1 ∧ PR x y) ∨ (r = 0 ∧ ¬ PR x y)))
theorem ef_pair (mid : MethodId) (x y : Int32)  : entryFrame mid #[(.int x), (.int y)] 2 = mkF mid 0 #[.val (.int x), .val (.int y)] [] := by first | (simp [entryFrame, mkF, argsToLocals, Value.category]; done) | rfl
set_option maxRecDepth 65536 in
set_option maxHeartbeats 40000000 in
theorem c_pair {md : Md} {l : Launch} {Z : State} {n0 : Nat} {a0 : Array Value} (hw : HW a0 Z) (x y : Int32) {h0 : Heap}  : G_pair md l Z n0 x y h0 0 0 [] h0 0 #[.val (.int x), .val (.int y)] [] := by
  refine Go.iloadN 1 d17_0 rfl rfl ?_
  refine Go.ldcI 3 d17_1 rfl (w5 hw) ?_
  by_cases hc3 : x < (55296 : Int32)
  · skip
    refine Go.icmpY 28 d17_3 (by decide) (by decide) (tlt hc3).1 ?_
    refine Go.iconst 29 (0 : Int32) d17_28 rfl rfl ?_
    exact Go.retN (0 : Int32) d17_29 rfl (t := .boolean) (by simp) rfl (sf' := []) (⟨rfl, _, rfl, Or.inr ⟨rfl, fun q => q.1 hc3⟩⟩) (fun _ q => nomatch q) (Nat.le_of_ble_eq_true rfl) (Nat.le_of_ble_eq_true rfl)
  · skip
    refine Go.icmpN 6 d17_3 rfl (flt hc3).1 ?_
    refine Go.iloadN 7 d17_6 rfl rfl ?_
    refine Go.ldcI 9 d17_7 rfl (w85 hw) ?_
    by_cases hc9 : (56319 : Int32) < x
    · skip
      refine Go.icmpY 28 d17_9 (by decide) (by decide) (tlt hc9).2.2.1 ?_
      refine Go.iconst 29 (0 : Int32) d17_28 rfl rfl ?_
      exact Go.retN (0 : Int32) d17_29 rfl (t := .boolean) (by simp) rfl (sf' := []) (⟨rfl, _, rfl, Or.inr ⟨rfl, fun q => q.2.1 hc9⟩⟩) (fun _ q => nomatch q) (Nat.le_of_ble_eq_true rfl) (Nat.le_of_ble_eq_true rfl)
    · skip
      refine Go.icmpN 12 d17_9 rfl (flt hc9).2.2.1 ?_
      refine Go.iloadN 13 d17_12 rfl rfl ?_
      refine Go.ldcI 15 d17_13 rfl (w4 hw) ?_
      by_cases hc15 : y < (56320 : Int32)
      · skip
        refine Go.icmpY 28 d17_15 (by decide) (by decide) (tlt hc15).1 ?_
        refine Go.iconst 29 (0 : Int32) d17_28 rfl rfl ?_
        exact Go.retN (0 : Int32) d17_29 rfl (t := .boolean) (by simp) rfl (sf' := []) (⟨rfl, _, rfl, Or.inr ⟨rfl, fun q => q.2.2.1 hc15⟩⟩) (fun _ q => nomatch q) (Nat.le_of_ble_eq_true rfl) (Nat.le_of_ble_eq_true rfl)
      · skip
        refine Go.icmpN 18 d17_15 rfl (flt hc15).1 ?_
        refine Go.iloadN 19 d17_18 rfl rfl ?_
        refine Go.ldcI 21 d17_19 rfl (w120 hw) ?_
        by_cases hc21 : (57343 : Int32) < y
        · skip
          refine Go.icmpY 28 d17_21 (by decide) (by decide) (tlt hc21).2.2.1 ?_
          refine Go.iconst 29 (0 : Int32) d17_28 rfl rfl ?_
          exact Go.retN (0 : Int32) d17_29 rfl (t := .boolean) (by simp) rfl (sf' := []) (⟨rfl, _, rfl, Or.inr ⟨rfl, fun q => q.2.2.2 hc21⟩⟩) (fun _ q => nomatch q) (Nat.le_of_ble_eq_true rfl) (Nat.le_of_ble_eq_true rfl)
        · skip
          refine Go.icmpN 24 d17_21 rfl (flt hc21).2.2.1 ?_
          refine Go.iconst 25 (1 : Int32) d17_24 rfl rfl ?_
          refine Go.goto 29 d17_25 (by decide) (by decide) ?_
          exact Go.retN (1 : Int32) d17_29 rfl (t := .boolean) (by simp) rfl (sf' := []) (⟨rfl, _, rfl, Or.inl ⟨rfl, hc3, hc9, hc15, hc21⟩⟩) (fun _ q => nomatch q) (Nat.le_of_ble_eq_true rfl) (Nat.le_of_ble_eq_true rfl)
abbrev G_ishs (md : Md) (l : Launch) (Z : State) (n0 : Nat) (x : Int32) (h0 : Heap) := Go md l Z n0 ({ frames := 0, cells := 0, slots := 0, locals := 0 } : Room) jdk_89_method_14_code 1 (some .boolean) "java/lang/Character" "isHighSurrogate" (fun v h' _ => h0 = h' ∧ ∃ r : Int32, v = some (.int r) ∧ ((r = 1 ∧ HS x) ∨ (r = 0 ∧ ¬ HS x)))
theorem ef_ishs (mid : MethodId) (x : Int32)  : entryFrame mid #[(.int x)] 1 = mkF mid 0 #[.val (.int x)] [] := by first | (simp [entryFrame, mkF, argsToLocals, Value.category]; done) | rfl
set_option maxRecDepth 65536 in
set_option maxHeartbeats 40000000 in
theorem c_ishs {md : Md} {l : Launch} {Z : State} {n0 : Nat} {a0 : Array Value} (hw : HW a0 Z) (x : Int32) {h0 : Heap}  : G_ishs md l Z n0 x h0 0 0 [] h0 0 #[.val (.int x)] [] := by
  refine Go.iloadN 1 d25_0 rfl rfl ?_
  refine Go.ldcI 3 d25_1 rfl (w115 hw) ?_
  by_cases hc3 : x < (55296 : Int32)
  · skip
    refine Go.icmpY 16 d25_3 (by decide) (by decide) (tlt hc3).1 ?_
    refine Go.iconst 17 (0 : Int32) d25_16 rfl rfl ?_
    exact Go.retN (0 : Int32) d25_17 rfl (t := .boolean) (by simp) rfl (sf' := []) (⟨rfl, _, rfl, Or.inr ⟨rfl, fun q => q.1 hc3⟩⟩) (fun _ q => nomatch q) (Nat.le_of_ble_eq_true rfl) (Nat.le_of_ble_eq_true rfl)
  · skip
    refine Go.icmpN 6 d25_3 rfl (flt hc3).1 ?_
    refine Go.iloadN 7 d25_6 rfl rfl ?_
    refine Go.ldcI 9 d25_7 rfl (w116 hw) ?_
    by_cases hc9 : x < (56320 : Int32)
    · skip
      refine Go.icmpN 12 d25_9 rfl (tlt hc9).2.1 ?_
      refine Go.iconst 13 (1 : Int32) d25_12 rfl rfl ?_
      refine Go.goto 17 d25_13 (by decide) (by decide) ?_
      exact Go.retN (1 : Int32) d25_17 rfl (t := .boolean) (by simp) rfl (sf' := []) (⟨rfl, _, rfl, Or.inl ⟨rfl, hc3, hc9⟩⟩) (fun _ q => nomatch q) (Nat.le_of_ble_eq_true rfl) (Nat.le_of_ble_eq_true rfl)
    · skip
      refine Go.icmpY 16 d25_9 (by decide) (by decide) (flt hc9).2.1 ?_
      refine Go.iconst 17 (0 : Int32) d25_16 rfl rfl ?_
      exact Go.retN (0 : Int32) d25_17 rfl (t := .boolean) (by simp) rfl (sf' := []) (⟨rfl, _, rfl, Or.inr ⟨rfl, fun q => hc9 q.2⟩⟩) (fun _ q => nomatch q) (Nat.le_of_ble_eq_true rfl) (Nat.le_of_ble_eq_true rfl)
abbrev G_isls (md : Md) (l : Launch) (Z : State) (n0 : Nat) (x : Int32) (h0 : Heap) := Go md l Z n0 ({ frames := 0, cells := 0, slots := 0, locals := 0 } : Room) jdk_89_method_15_code 1 (some .boolean) "java/lang/Character" "isLowSurrogate" (fun v h' _ => h0 = h' ∧ ∃ r : Int32, v = some (.int r) ∧ ((r = 1 ∧ LS x) ∨ (r = 0 ∧ ¬ LS x)))
theorem ef_isls (mid : MethodId) (x : Int32)  : entryFrame mid #[(.int x)] 1 = mkF mid 0 #[.val (.int x)] [] := by first | (simp [entryFrame, mkF, argsToLocals, Value.category]; done) | rfl
set_option maxRecDepth 65536 in
set_option maxHeartbeats 40000000 in
theorem c_isls {md : Md} {l : Launch} {Z : State} {n0 : Nat} {a0 : Array Value} (hw : HW a0 Z) (x : Int32) {h0 : Heap}  : G_isls md l Z n0 x h0 0 0 [] h0 0 #[.val (.int x)] [] := by
  refine Go.iloadN 1 d26_0 rfl rfl ?_
  refine Go.ldcI 3 d26_1 rfl (w116 hw) ?_
  by_cases hc3 : x < (56320 : Int32)
  · skip
    refine Go.icmpY 16 d26_3 (by decide) (by decide) (tlt hc3).1 ?_
    refine Go.iconst 17 (0 : Int32) d26_16 rfl rfl ?_
    exact Go.retN (0 : Int32) d26_17 rfl (t := .boolean) (by simp) rfl (sf' := []) (⟨rfl, _, rfl, Or.inr ⟨rfl, fun q => q.1 hc3⟩⟩) (fun _ q => nomatch q) (Nat.le_of_ble_eq_true rfl) (Nat.le_of_ble_eq_true rfl)
  · skip
    refine Go.icmpN 6 d26_3 rfl (flt hc3).1 ?_
    refine Go.iloadN 7 d26_6 rfl rfl ?_
    refine Go.ldcI 9 d26_7 rfl (w121 hw) ?_
    by_cases hc9 : x < (57344 : Int32)
    · skip
      refine Go.icmpN 12 d26_9 rfl (tlt hc9).2.1 ?_
      refine Go.iconst 13 (1 : Int32) d26_12 rfl rfl ?_
      refine Go.goto 17 d26_13 (by decide) (by decide) ?_
      exact Go.retN (1 : Int32) d26_17 rfl (t := .boolean) (by simp) rfl (sf' := []) (⟨rfl, _, rfl, Or.inl ⟨rfl, hc3, hc9⟩⟩) (fun _ q => nomatch q) (Nat.le_of_ble_eq_true rfl) (Nat.le_of_ble_eq_true rfl)
    · skip
      refine Go.icmpY 16 d26_9 (by decide) (by decide) (flt hc9).2.1 ?_
      refine Go.iconst 17 (0 : Int32) d26_16 rfl rfl ?_
      exact Go.retN (0 : Int32) d26_17 rfl (t := .boolean) (by simp) rfl (sf' := []) (⟨rfl, _, rfl, Or.inr ⟨rfl, fun q => hc9 q.2⟩⟩) (fun _ q => nomatch q) (Nat.le_of_ble_eq_true rfl) (Nat.le_of_ble_eq_true rfl)
abbrev G_isemp (md : Md) (l : Launch) (Z : State) (n0 : Nat) (x t : Addr) (vs : List Value) (h0 : Heap) := Go md l Z n0 ({ frames := 0, cells := 0, slots := 0, locals := 0 } : Room) jdk_42_method_55_code 1 (some .boolean) "java/lang/String" "isEmpty" (fun v h' _ => h0 = h' ∧ v = some (.int 0))
theorem ef_isemp (mid : MethodId) (x t : Addr) (vs : List Value)  : entryFrame mid #[(.ref x)] 1 = mkF mid 0 #[.val (.ref x)] [] := by first | (simp [entryFrame, mkF, argsToLocals, Value.category]; done) | rfl
set_option maxRecDepth 65536 in
set_option maxHeartbeats 40000000 in
theorem c_isemp {md : Md} {l : Launch} {Z : State} {n0 : Nat} {a0 : Array Value} (hw : HW a0 Z) (x t : Addr) (vs : List Value) {h0 : Heap} (V : Fld Z h0 x "java/lang/String" "value" "[B" (.ref t)) (A : Ary Z h0 t .byte vs) (hne : ¬ Int32.ofNat vs.length = 0) : G_isemp md l Z n0 x t vs h0 0 0 [] h0 0 #[.val (.ref x)] [] := by
  refine Go.aloadN 1 d10_0 rfl rfl rfl ?_
  refine Go.getF 4 d10_1 rfl (w39 hw) Via.refl V ?_
  refine Go.alen 5 (Int32.ofNat vs.length) d10_4 rfl A rfl ?_
  refine Go.ifY 12 d10_5 (by decide) (by decide) (feq hne).2 ?_
  refine Go.iconst 13 (0 : Int32) d10_12 rfl rfl ?_
  exact Go.retN (0 : Int32) d10_13 rfl (t := .boolean) (by simp) rfl (sf' := []) (⟨rfl, rfl⟩) (fun _ q => nomatch q) (Nat.le_of_ble_eq_true rfl) (Nat.le_of_ble_eq_true rfl)
abbrev G_cpc4_1 (md : Md) (l : Launch) (Z : State) (n0 : Nat) (b : Addr) (c0 : Int32) (h0 : Heap) := Go md l Z n0 ({ frames := 0, cells := 0, slots := 0, locals := 0 } : Room) jdk_52_method_11_code 6 (some .int) "java/lang/StringUTF16" "codePointCount" (fun v h' _ => h0 = h' ∧ v = some (.int (cpc (1 : Int32) [c0])))
theorem ef_cpc4_1 (mid : MethodId) (b : Addr) (c0 : Int32)  : entryFrame mid #[(.ref b), (.int (0 : Int32)), (.int (1 : Int32)), (.int (0 : Int32))] 6 = mkF mid 0 #[.val (.ref b), .val (.int (0 : Int32)), .val (.int (1 : Int32)), .val (.int (0 : Int32)), .unset, .unset] [] := by first | (simp [entryFrame, mkF, argsToLocals, Value.category]; done) | rfl
set_option maxRecDepth 65536 in
set_option maxHeartbeats 40000000 in
theorem c_cpc4_1 {md : Md} {l : Launch} {Z : State} {n0 : Nat} {a0 : Array Value} (hw : HW a0 Z) (b : Addr) (c0 : Int32) {h0 : Heap} (A : Ary Z h0 b .byte [(.int (lo16 c0)), (.int (hi16 c0))]) (b_c0 : CHP c0) (UA : Sta Z Z.heap "java/lang/StringUTF16" "$assertionsDisabled" "Z" (.int 1)) (UH : Sta Z Z.heap "java/lang/StringUTF16" "HI_BYTE_SHIFT" "I" (.int 0)) (UL : Sta Z Z.heap "java/lang/StringUTF16" "LO_BYTE_SHIFT" "I" (.int 8))  : G_cpc4_1 md l Z n0 b c0 h0 0 0 [] h0 0 #[.val (.ref b), .val (.int (0 : Int32)), .val (.int (1 : Int32)), .val (.int (0 : Int32)), .unset, .unset] [] := by
  refine Go.getS 3 d24_0 rfl (w99 hw) Via.refl UA ?_
  refine Go.ifY 19 d24_3 (by decide) (by decide) (feq (by decide)).2 ?_
  refine Go.iloadN 20 d24_19 rfl rfl ?_
  refine Go.iloadN 21 d24_20 rfl rfl ?_
  refine Go.isub 22 d24_21 rfl ?_
  rw [show ((1 : Int32) - (0 : Int32)) = (1 : Int32) from by decide]
  refine Go.istore 24 #[.val (.ref b), .val (.int (0 : Int32)), .val (.int (1 : Int32)), .val (.int (0 : Int32)), .val (.int (1 : Int32)), .unset] d24_22 rfl rfl ?_
  refine Go.iloadN 25 d24_24 rfl rfl ?_
  refine Go.istore 27 #[.val (.ref b), .val (.int (0 : Int32)), .val (.int (1 : Int32)), .val (.int (0 : Int32)), .val (.int (1 : Int32)), .val (.int (0 : Int32))] d24_25 rfl rfl ?_
  refine Go.iloadN 28 d24_27 rfl rfl ?_
  refine Go.ifY 44 d24_28 (by decide) (by decide) (teq (by decide)).1 ?_
  refine Go.iload 46 d24_44 rfl rfl ?_
  refine Go.iloadN 47 d24_46 rfl rfl ?_
  refine Go.iconst 48 (1 : Int32) d24_47 rfl rfl ?_
  refine Go.isub 49 d24_48 rfl ?_
  rw [show ((1 : Int32) - (1 : Int32)) = (0 : Int32) from by decide]
  refine Go.icmpY 88 d24_49 (by decide) (by decide) (flt (by decide)).2.1 ?_
  refine Go.iload 90 d24_88 rfl rfl ?_
  exact Go.retI d24_90 rfl (sf' := []) (⟨rfl, rfl⟩) (fun _ q => nomatch q) (Nat.le_of_ble_eq_true rfl) (Nat.le_of_ble_eq_true rfl)
abbrev G_cpc3_1 (md : Md) (l : Launch) (Z : State) (n0 : Nat) (b : Addr) (c0 : Int32) (h0 : Heap) := Go md l Z n0 ({ frames := 1, cells := 0, slots := 0, locals := 17 } : Room) jdk_52_method_12_code 3 (some .int) "java/lang/StringUTF16" "codePointCount" (fun v h' _ => h0 = h' ∧ v = some (.int (cpc (1 : Int32) [c0])))
theorem ef_cpc3_1 (mid : MethodId) (b : Addr) (c0 : Int32)  : entryFrame mid #[(.ref b), (.int (0 : Int32)), (.int (1 : Int32))] 3 = mkF mid 0 #[.val (.ref b), .val (.int (0 : Int32)), .val (.int (1 : Int32))] [] := by first | (simp [entryFrame, mkF, argsToLocals, Value.category]; done) | rfl
set_option maxRecDepth 65536 in
set_option maxHeartbeats 40000000 in
theorem c_cpc3_1 {md : Md} {l : Launch} {Z : State} {n0 : Nat} {a0 : Array Value} (hw : HW a0 Z) (b : Addr) (c0 : Int32) {h0 : Heap} (A : Ary Z h0 b .byte [(.int (lo16 c0)), (.int (hi16 c0))]) (b_c0 : CHP c0) (UA : Sta Z Z.heap "java/lang/StringUTF16" "$assertionsDisabled" "Z" (.int 1)) (UH : Sta Z Z.heap "java/lang/StringUTF16" "HI_BYTE_SHIFT" "I" (.int 0)) (UL : Sta Z Z.heap "java/lang/StringUTF16" "LO_BYTE_SHIFT" "I" (.int 8))  : G_cpc3_1 md l Z n0 b c0 h0 0 0 [] h0 0 #[.val (.ref b), .val (.int (0 : Int32)), .val (.int (1 : Int32))] [] := by
  refine Go.aloadN 1 d23_0 rfl rfl rfl ?_
  refine Go.iloadN 2 d23_1 rfl rfl ?_
  refine Go.iloadN 3 d23_2 rfl rfl ?_
  refine Go.iconst 4 (0 : Int32) d23_3 rfl rfl ?_
  refine Go.callS (S := []) 7 [(.ref b), (.int (0 : Int32)), (.int (1 : Int32)), (.int (0 : Int32))] d23_4 rfl rfl (w108 hw) (w109 hw) (w28 hw) (w110 hw) (by decide) (call_of_go (R := _) (len := 3) (W := 0) (plainFor_of_name pn_0) (fun mid => ef_cpc4_1 mid b c0 ) (c_cpc4_1 hw b c0 A b_c0 UA UH UL) (w110 hw) (w28 hw) (by decide) (by decide)) (lenOf pd_9 rfl) (Nat.le_of_ble_eq_true rfl) rfl (Nat.le_of_ble_eq_true rfl) (Nat.le_of_ble_eq_true rfl) (fun _ q => nomatch q) (fun v h_1 sf_2 hq => ?_)
  obtain ⟨rfl, rfl⟩ := hq
  refine Go.more (sf' := []) ?_ (Nat.le_refl _) (Nat.le_refl _) (fun _ q => List.mem_append_right _ q)
  show G_cpc3_1 md l Z n0 b c0 h0 0 0 [] h0 7 #[.val (.ref b), .val (.int (0 : Int32)), .val (.int (1 : Int32))] [(.int (cpc (1 : Int32) [c0]))]
  exact Go.retI d23_7 rfl (sf' := []) (⟨rfl, rfl⟩) (fun _ q => nomatch q) (Nat.le_of_ble_eq_true rfl) (Nat.le_of_ble_eq_true rfl)
abbrev G_cft1 (md : Md) (l : Launch) (Z : State) (n0 : Nat)  (h0 : Heap) := Go md l Z n0 ({ frames := 0, cells := 0, slots := 0, locals := 0 } : Room) jdk_41_method_12_code 4 (some .int) "jdk/internal/util/Preconditions" "checkFromToIndex" (fun v h' _ => h0 = h' ∧ v = some (.int 0))
theorem ef_cft1 (mid : MethodId)   : entryFrame mid #[(.int (0 : Int32)), (.int (1 : Int32)), (.int (1 : Int32)), .null] 4 = mkF mid 0 #[.val (.int (0 : Int32)), .val (.int (1 : Int32)), .val (.int (1 : Int32)), .val .null] [] := by first | (simp [entryFrame, mkF, argsToLocals, Value.category]; done) | rfl
set_option maxRecDepth 65536 in
set_option maxHeartbeats 40000000 in
theorem c_cft1 {md : Md} {l : Launch} {Z : State} {n0 : Nat} {a0 : Array Value} (hw : HW a0 Z)  {h0 : Heap}  : G_cft1 md l Z n0  h0 0 0 [] h0 0 #[.val (.int (0 : Int32)), .val (.int (1 : Int32)), .val (.int (1 : Int32)), .val .null] [] := by
  refine Go.iloadN 1 d15_0 rfl rfl ?_
  refine Go.ifN 4 d15_1 rfl (flt (by decide)).1 ?_
  refine Go.iloadN 5 d15_4 rfl rfl ?_
  refine Go.iloadN 6 d15_5 rfl rfl ?_
  refine Go.icmpN 9 d15_6 rfl (flt (by decide)).2.2.1 ?_
  refine Go.iloadN 10 d15_9 rfl rfl ?_
  refine Go.iloadN 11 d15_10 rfl rfl ?_
  refine Go.icmpY 22 d15_11 (by decide) (by decide) (flt (by decide)).2.2.2 ?_
  refine Go.iloadN 23 d15_22 rfl rfl ?_
  exact Go.retI d15_23 rfl (sf' := []) (⟨rfl, rfl⟩) (fun _ q => nomatch q) (Nat.le_of_ble_eq_true rfl) (Nat.le_of_ble_eq_true rfl)
abbrev G_oft1 (md : Md) (l : Launch) (Z : State) (n0 : Nat)  (h0 : Heap) := Go md l Z n0 ({ frames := 1, cells := 0, slots := 0, locals := 15 } : Room) jdk_31_method_18_code 3 (some .int) "java/util/Objects" "checkFromToIndex" (fun v h' _ => h0 = h' ∧ v = some (.int 0))
theorem ef_oft1 (mid : MethodId)   : entryFrame mid #[(.int (0 : Int32)), (.int (1 : Int32)), (.int (1 : Int32))] 3 = mkF mid 0 #[.val (.int (0 : Int32)), .val (.int (1 : Int32)), .val (.int (1 : Int32))] [] := by first | (simp [entryFrame, mkF, argsToLocals, Value.category]; done) | rfl
set_option maxRecDepth 65536 in
set_option maxHeartbeats 40000000 in
theorem c_oft1 {md : Md} {l : Launch} {Z : State} {n0 : Nat} {a0 : Array Value} (hw : HW a0 Z)  {h0 : Heap}  : G_oft1 md l Z n0  h0 0 0 [] h0 0 #[.val (.int (0 : Int32)), .val (.int (1 : Int32)), .val (.int (1 : Int32))] [] := by
  refine Go.iloadN 1 d14_0 rfl rfl ?_
  refine Go.iloadN 2 d14_1 rfl rfl ?_
  refine Go.iloadN 3 d14_2 rfl rfl ?_
  refine Go.aconstNull 4 d14_3 rfl ?_
  refine Go.callS (S := []) 7 [(.int (0 : Int32)), (.int (1 : Int32)), (.int (1 : Int32)), .null] d14_4 rfl rfl (w73 hw) (w74 hw) (w75 hw) (w76 hw) (by decide) (call_of_go (R := _) (len := 3) (W := 0) (plainFor_of_name pn_2) (fun mid => ef_cft1 mid  ) (c_cft1 hw  ) (w76 hw) (w75 hw) (by decide) (by decide)) (lenOf pd_10 rfl) (Nat.le_of_ble_eq_true rfl) rfl (Nat.le_of_ble_eq_true rfl) (Nat.le_of_ble_eq_true rfl) (fun _ q => nomatch q) (fun v h_1 sf_2 hq => ?_)
  obtain ⟨rfl, rfl⟩ := hq
  refine Go.more (sf' := []) ?_ (Nat.le_refl _) (Nat.le_refl _) (fun _ q => List.mem_append_right _ q)
  show G_oft1 md l Z n0  h0 0 0 [] h0 7 #[.val (.int (0 : Int32)), .val (.int (1 : Int32)), .val (.int (1 : Int32))] [(.int (0 : Int32))]
  exact Go.retI d14_7 rfl (sf' := []) (⟨rfl, rfl⟩) (fun _ q => nomatch q) (Nat.le_of_ble_eq_true rfl) (Nat.le_of_ble_eq_true rfl)
abbrev G_cpp1_0 (md : Md) (l : Launch) (Z : State) (n0 : Nat) (x t : Addr) (z : Int32) (c0 : Int32) (h0 : Heap) := Go md l Z n0 ({ frames := 2, cells := 0, slots := 0, locals := 29 } : Room) jdk_42_method_59_code 3 (some .int) "java/lang/String" "codePointCount" (fun v h' _ => h0 = h' ∧ v = some (.int (1 : Int32)))
theorem ef_cpp1_0 (mid : MethodId) (x t : Addr) (z : Int32) (c0 : Int32)  : entryFrame mid #[(.ref x), (.int (0 : Int32)), (.int (1 : Int32))] 3 = mkF mid 0 #[.val (.ref x), .val (.int (0 : Int32)), .val (.int (1 : Int32))] [] := by first | (simp [entryFrame, mkF, argsToLocals, Value.category]; done) | rfl
set_option maxRecDepth 65536 in
set_option maxHeartbeats 40000000 in
theorem c_cpp1_0 {md : Md} {l : Launch} {Z : State} {n0 : Nat} {a0 : Array Value} (hw : HW a0 Z) (x t : Addr) (z : Int32) (c0 : Int32) {h0 : Heap} (E : Exa Z h0 x "java/lang/String") (C : Fld Z h0 x "java/lang/String" "coder" "B" (.int 0)) (V : Fld Z h0 x "java/lang/String" "value" "[B" (.ref t)) (A : Ary Z h0 t .byte [(.int c0.toInt8.toInt32)]) (b_c0 : CHP c0) (SC : Sta Z Z.heap "java/lang/String" "COMPACT_STRINGS" "Z" (.int z)) (hz : ¬ z = 0) (UA : Sta Z Z.heap "java/lang/StringUTF16" "$assertionsDisabled" "Z" (.int 1)) (UH : Sta Z Z.heap "java/lang/StringUTF16" "HI_BYTE_SHIFT" "I" (.int 0)) (UL : Sta Z Z.heap "java/lang/StringUTF16" "LO_BYTE_SHIFT" "I" (.int 8))  : G_cpp1_0 md l Z n0 x t z c0 h0 0 0 [] h0 0 #[.val (.ref x), .val (.int (0 : Int32)), .val (.int (1 : Int32))] [] := by
  refine Go.iloadN 1 d13_0 rfl rfl ?_
  refine Go.iloadN 2 d13_1 rfl rfl ?_
  refine Go.aloadN 3 d13_2 rfl rfl rfl ?_
  refine Go.callV (S := [(.int (1 : Int32)), (.int (0 : Int32))]) (a := x) 6 [] d13_3 rfl rfl (w68 hw) (w54 hw) (w56 hw) (w55 hw) (fun _ q => notFace_of_selects (args := #[]) (mvT q (w56 hw))) (by decide) E (call_of_go (R := _) (len := 3) (W := 2) (plainFor_of_name pn_1) (fun mid => ef_glen mid x t z (0 : Int32) [(.int c0.toInt8.toInt32)] ) (c_glen hw x t z (0 : Int32) [(.int c0.toInt8.toInt32)] E C V A rfl SC hz) (w57 hw) (w14 hw) (by decide) (by decide)) (lenOf pd_11 rfl) (Nat.le_of_ble_eq_true rfl) rfl (Nat.le_of_ble_eq_true rfl) (Nat.le_of_ble_eq_true rfl) (fun _ q => nomatch q) (fun v h_1 sf_2 hq => ?_)
  obtain ⟨rfl, rfl⟩ := hq
  rw [show (Int32.ofNat (List.length (α := Value) [(.int c0.toInt8.toInt32)])) >>> ((0 : Int32) &&& 31) = (1 : Int32) from by show Int32.ofNat 1 >>> ((0 : Int32) &&& 31) = (1 : Int32); decide]
  refine Go.more (sf' := []) ?_ (Nat.le_refl _) (Nat.le_refl _) (fun _ q => List.mem_append_right _ q)
  show G_cpp1_0 md l Z n0 x t z c0 h0 0 0 [] h0 6 #[.val (.ref x), .val (.int (0 : Int32)), .val (.int (1 : Int32))] [(.int (1 : Int32)), (.int (1 : Int32)), (.int (0 : Int32))]
  refine Go.callS (S := []) 9 [(.int (0 : Int32)), (.int (1 : Int32)), (.int (1 : Int32))] d13_6 rfl rfl (w69 hw) (w70 hw) (w71 hw) (w72 hw) (by decide) (call_of_go (R := _) (len := 3) (W := 0) (plainFor_of_name pn_3) (fun mid => ef_oft1 mid  ) (c_oft1 hw  ) (w72 hw) (w71 hw) (by decide) (by decide)) (lenOf pd_12 rfl) (Nat.le_of_ble_eq_true rfl) rfl (Nat.le_of_ble_eq_true rfl) (Nat.le_of_ble_eq_true rfl) (fun _ q => nomatch q) (fun v h_3 sf_4 hq => ?_)
  obtain ⟨rfl, rfl⟩ := hq
  refine Go.more (sf' := []) ?_ (Nat.le_refl _) (Nat.le_refl _) (fun _ q => List.mem_append_right _ q)
  show G_cpp1_0 md l Z n0 x t z c0 h0 0 0 [] h0 9 #[.val (.ref x), .val (.int (0 : Int32)), .val (.int (1 : Int32))] [(.int (0 : Int32))]
  refine Go.pop 10 d13_9 rfl rfl ?_
  refine Go.aloadN 11 d13_10 rfl rfl rfl ?_
  refine Go.callV (S := []) (a := x) 14 [] d13_11 rfl rfl (w77 hw) (w78 hw) (w80 hw) (w79 hw) (fun _ q => notFace_of_selects (args := #[]) (mvT q (w80 hw))) (by decide) E (call_of_go (R := _) (len := 3) (W := 0) (plainFor_of_name pn_1) (fun mid => ef_isl0 mid x z ) (c_isl0 hw x z C SC hz) (w81 hw) (w14 hw) (by decide) (by decide)) (lenOf pd_13 rfl) (Nat.le_of_ble_eq_true rfl) rfl (Nat.le_of_ble_eq_true rfl) (Nat.le_of_ble_eq_true rfl) (fun _ q => nomatch q) (fun v h_5 sf_6 hq => ?_)
  obtain ⟨rfl, rfl⟩ := hq
  refine Go.more (sf' := []) ?_ (Nat.le_refl _) (Nat.le_refl _) (fun _ q => List.mem_append_right _ q)
  show G_cpp1_0 md l Z n0 x t z c0 h0 0 0 [] h0 14 #[.val (.ref x), .val (.int (0 : Int32)), .val (.int (1 : Int32))] [(.int (1 : Int32))]
  refine Go.ifN 17 d13_14 rfl (feq (by decide)).1 ?_
  refine Go.iloadN 18 d13_17 rfl rfl ?_
  refine Go.iloadN 19 d13_18 rfl rfl ?_
  refine Go.isub 20 d13_19 rfl ?_
  rw [show ((1 : Int32) - (0 : Int32)) = (1 : Int32) from by decide]
  exact Go.retI d13_20 rfl (sf' := []) (⟨rfl, rfl⟩) (fun _ q => nomatch q) (Nat.le_of_ble_eq_true rfl) (Nat.le_of_ble_eq_true rfl)
abbrev G_cpp1_1 (md : Md) (l : Launch) (Z : State) (n0 : Nat) (x t : Addr) (z : Int32) (c0 : Int32) (h0 : Heap) := Go md l Z n0 ({ frames := 2, cells := 0, slots := 0, locals := 31 } : Room) jdk_42_method_59_code 3 (some .int) "java/lang/String" "codePointCount" (fun v h' _ => h0 = h' ∧ v = some (.int (cpc (1 : Int32) [c0])))
theorem ef_cpp1_1 (mid : MethodId) (x t : Addr) (z : Int32) (c0 : Int32)  : entryFrame mid #[(.ref x), (.int (0 : Int32)), (.int (1 : Int32))] 3 = mkF mid 0 #[.val (.ref x), .val (.int (0 : Int32)), .val (.int (1 : Int32))] [] := by first | (simp [entryFrame, mkF, argsToLocals, Value.category]; done) | rfl
set_option maxRecDepth 65536 in
set_option maxHeartbeats 40000000 in
theorem c_cpp1_1 {md : Md} {l : Launch} {Z : State} {n0 : Nat} {a0 : Array Value} (hw : HW a0 Z) (x t : Addr) (z : Int32) (c0 : Int32) {h0 : Heap} (E : Exa Z h0 x "java/lang/String") (C : Fld Z h0 x "java/lang/String" "coder" "B" (.int 1)) (V : Fld Z h0 x "java/lang/String" "value" "[B" (.ref t)) (A : Ary Z h0 t .byte [(.int (lo16 c0)), (.int (hi16 c0))]) (b_c0 : CHP c0) (SC : Sta Z Z.heap "java/lang/String" "COMPACT_STRINGS" "Z" (.int z)) (hz : ¬ z = 0) (UA : Sta Z Z.heap "java/lang/StringUTF16" "$assertionsDisabled" "Z" (.int 1)) (UH : Sta Z Z.heap "java/lang/StringUTF16" "HI_BYTE_SHIFT" "I" (.int 0)) (UL : Sta Z Z.heap "java/lang/StringUTF16" "LO_BYTE_SHIFT" "I" (.int 8))  : G_cpp1_1 md l Z n0 x t z c0 h0 0 0 [] h0 0 #[.val (.ref x), .val (.int (0 : Int32)), .val (.int (1 : Int32))] [] := by
  refine Go.iloadN 1 d13_0 rfl rfl ?_
  refine Go.iloadN 2 d13_1 rfl rfl ?_
  refine Go.aloadN 3 d13_2 rfl rfl rfl ?_
  refine Go.callV (S := [(.int (1 : Int32)), (.int (0 : Int32))]) (a := x) 6 [] d13_3 rfl rfl (w68 hw) (w54 hw) (w56 hw) (w55 hw) (fun _ q => notFace_of_selects (args := #[]) (mvT q (w56 hw))) (by decide) E (call_of_go (R := _) (len := 3) (W := 2) (plainFor_of_name pn_1) (fun mid => ef_glen mid x t z (1 : Int32) [(.int (lo16 c0)), (.int (hi16 c0))] ) (c_glen hw x t z (1 : Int32) [(.int (lo16 c0)), (.int (hi16 c0))] E C V A rfl SC hz) (w57 hw) (w14 hw) (by decide) (by decide)) (lenOf pd_11 rfl) (Nat.le_of_ble_eq_true rfl) rfl (Nat.le_of_ble_eq_true rfl) (Nat.le_of_ble_eq_true rfl) (fun _ q => nomatch q) (fun v h_1 sf_2 hq => ?_)
  obtain ⟨rfl, rfl⟩ := hq
  rw [show (Int32.ofNat (List.length (α := Value) [(.int (lo16 c0)), (.int (hi16 c0))])) >>> ((1 : Int32) &&& 31) = (1 : Int32) from by show Int32.ofNat 2 >>> ((1 : Int32) &&& 31) = (1 : Int32); decide]
  refine Go.more (sf' := []) ?_ (Nat.le_refl _) (Nat.le_refl _) (fun _ q => List.mem_append_right _ q)
  show G_cpp1_1 md l Z n0 x t z c0 h0 0 0 [] h0 6 #[.val (.ref x), .val (.int (0 : Int32)), .val (.int (1 : Int32))] [(.int (1 : Int32)), (.int (1 : Int32)), (.int (0 : Int32))]
  refine Go.callS (S := []) 9 [(.int (0 : Int32)), (.int (1 : Int32)), (.int (1 : Int32))] d13_6 rfl rfl (w69 hw) (w70 hw) (w71 hw) (w72 hw) (by decide) (call_of_go (R := _) (len := 3) (W := 0) (plainFor_of_name pn_3) (fun mid => ef_oft1 mid  ) (c_oft1 hw  ) (w72 hw) (w71 hw) (by decide) (by decide)) (lenOf pd_12 rfl) (Nat.le_of_ble_eq_true rfl) rfl (Nat.le_of_ble_eq_true rfl) (Nat.le_of_ble_eq_true rfl) (fun _ q => nomatch q) (fun v h_3 sf_4 hq => ?_)
  obtain ⟨rfl, rfl⟩ := hq
  refine Go.more (sf' := []) ?_ (Nat.le_refl _) (Nat.le_refl _) (fun _ q => List.mem_append_right _ q)
  show G_cpp1_1 md l Z n0 x t z c0 h0 0 0 [] h0 9 #[.val (.ref x), .val (.int (0 : Int32)), .val (.int (1 : Int32))] [(.int (0 : Int32))]
  refine Go.pop 10 d13_9 rfl rfl ?_
  refine Go.aloadN 11 d13_10 rfl rfl rfl ?_
  refine Go.callV (S := []) (a := x) 14 [] d13_11 rfl rfl (w77 hw) (w78 hw) (w80 hw) (w79 hw) (fun _ q => notFace_of_selects (args := #[]) (mvT q (w80 hw))) (by decide) E (call_of_go (R := _) (len := 3) (W := 0) (plainFor_of_name pn_1) (fun mid => ef_isl1 mid x z ) (c_isl1 hw x z C SC hz) (w81 hw) (w14 hw) (by decide) (by decide)) (lenOf pd_13 rfl) (Nat.le_of_ble_eq_true rfl) rfl (Nat.le_of_ble_eq_true rfl) (Nat.le_of_ble_eq_true rfl) (fun _ q => nomatch q) (fun v h_5 sf_6 hq => ?_)
  obtain ⟨rfl, rfl⟩ := hq
  refine Go.more (sf' := []) ?_ (Nat.le_refl _) (Nat.le_refl _) (fun _ q => List.mem_append_right _ q)
  show G_cpp1_1 md l Z n0 x t z c0 h0 0 0 [] h0 14 #[.val (.ref x), .val (.int (0 : Int32)), .val (.int (1 : Int32))] [(.int (0 : Int32))]
  refine Go.ifY 21 d13_14 (by decide) (by decide) (teq (by decide)).1 ?_
  refine Go.aloadN 22 d13_21 rfl rfl rfl ?_
  refine Go.getF 25 d13_22 rfl (w39 hw) Via.refl V ?_
  refine Go.iloadN 26 d13_25 rfl rfl ?_
  refine Go.iloadN 27 d13_26 rfl rfl ?_
  refine Go.callS (S := []) 30 [(.ref t), (.int (0 : Int32)), (.int (1 : Int32))] d13_27 rfl rfl (w105 hw) (w106 hw) (w28 hw) (w107 hw) (by decide) (call_of_go (R := _) (len := 3) (W := 0) (plainFor_of_name pn_0) (fun mid => ef_cpc3_1 mid t c0 ) (c_cpc3_1 hw t c0 A b_c0 UA UH UL) (w107 hw) (w28 hw) (by decide) (by decide)) (lenOf pd_14 rfl) (Nat.le_of_ble_eq_true rfl) rfl (Nat.le_of_ble_eq_true rfl) (Nat.le_of_ble_eq_true rfl) (fun _ q => nomatch q) (fun v h_7 sf_8 hq => ?_)
  obtain ⟨rfl, rfl⟩ := hq
  refine Go.more (sf' := []) ?_ (Nat.le_refl _) (Nat.le_refl _) (fun _ q => List.mem_append_right _ q)
  show G_cpp1_1 md l Z n0 x t z c0 h0 0 0 [] h0 30 #[.val (.ref x), .val (.int (0 : Int32)), .val (.int (1 : Int32))] [(.int (cpc (1 : Int32) [c0]))]
  exact Go.retI d13_30 rfl (sf' := []) (⟨rfl, rfl⟩) (fun _ q => nomatch q) (Nat.le_of_ble_eq_true rfl) (Nat.le_of_ble_eq_true rfl)
abbrev G_reqlen1 (md : Md) (l : Launch) (Z : State) (n0 : Nat) (f x : Addr) (mx z : Int32) (c0 : Int32) (h0 : Heap) := Go md l Z n0 ({ frames := 3, cells := 0, slots := 0, locals := 45 } : Room) prog_15_method_2_code 3 (some (.object "java/lang/String")) "com/example/tugas/tugas/Text" "requireLength" (fun v h' _ => h0 = h' ∧ v = some (.ref x))
theorem ef_reqlen1 (mid : MethodId) (f x : Addr) (mx z : Int32) (c0 : Int32)  : entryFrame mid #[(.ref f), (.ref x), (.int mx)] 3 = mkF mid 0 #[.val (.ref f), .val (.ref x), .val (.int mx)] [] := by first | (simp [entryFrame, mkF, argsToLocals, Value.category]; done) | rfl
set_option maxRecDepth 65536 in
set_option maxHeartbeats 40000000 in
theorem c_reqlen1 {md : Md} {l : Launch} {Z : State} {n0 : Nat} {a0 : Array Value} (hw : HW a0 Z) (f x : Addr) (mx z : Int32) (c0 : Int32) {h0 : Heap} (G : Gst Z h0 x [c0]) (hm : ¬ mx < cpc (1 : Int32) [c0]) (b_c0 : CHP c0) (SC : Sta Z Z.heap "java/lang/String" "COMPACT_STRINGS" "Z" (.int z)) (hz : ¬ z = 0) (UA : Sta Z Z.heap "java/lang/StringUTF16" "$assertionsDisabled" "Z" (.int 1)) (UH : Sta Z Z.heap "java/lang/StringUTF16" "HI_BYTE_SHIFT" "I" (.int 0)) (UL : Sta Z Z.heap "java/lang/StringUTF16" "LO_BYTE_SHIFT" "I" (.int 8))  : G_reqlen1 md l Z n0 f x mx z c0 h0 0 0 [] h0 0 #[.val (.ref f), .val (.ref x), .val (.int mx)] [] := by
  obtain ⟨t, cd, vs, E, C, V, A, ⟨rfl, rfl, hb⟩ | ⟨rfl, rfl, hb⟩⟩ := G
  · skip
    have A' : Ary Z h0 t .byte [(.int c0.toInt8.toInt32)] := A
    refine Go.aloadN 1 d9_0 rfl rfl rfl ?_
    refine Go.nullN 4 d9_1 rfl ?_
    refine Go.aloadN 5 d9_4 rfl rfl rfl ?_
    refine Go.callV (S := []) (a := x) 8 [] d9_5 rfl rfl (w48 hw) (w49 hw) (w51 hw) (w50 hw) (fun _ q => notFace_of_selects (args := #[]) (mvT q (w51 hw))) (by decide) E (call_of_go (R := _) (len := 3) (W := 0) (plainFor_of_name pn_1) (fun mid => ef_isemp mid x t [(.int c0.toInt8.toInt32)] ) (c_isemp hw x t [(.int c0.toInt8.toInt32)] V A' (by show ¬ Int32.ofNat 1 = 0; decide)) (w52 hw) (w14 hw) (by decide) (by decide)) (lenOf pd_13 rfl) (Nat.le_of_ble_eq_true rfl) rfl (Nat.le_of_ble_eq_true rfl) (Nat.le_of_ble_eq_true rfl) (fun _ q => nomatch q) (fun v h_1 sf_2 hq => ?_)
    obtain ⟨rfl, rfl⟩ := hq
    refine Go.more (sf' := []) ?_ (Nat.le_refl _) (Nat.le_refl _) (fun _ q => List.mem_append_right _ q)
    show G_reqlen1 md l Z n0 f x mx z c0 h0 0 0 [] h0 8 #[.val (.ref f), .val (.ref x), .val (.int mx)] [(.int (0 : Int32))]
    refine Go.ifN 11 d9_8 rfl (teq (by decide)).2 ?_
    refine Go.aloadN 12 d9_11 rfl rfl rfl ?_
    refine Go.iconst 13 (0 : Int32) d9_12 rfl rfl ?_
    refine Go.aloadN 14 d9_13 rfl rfl rfl ?_
    refine Go.callV (S := [(.int (0 : Int32)), (.ref x)]) (a := x) 17 [] d9_14 rfl rfl (w53 hw) (w54 hw) (w56 hw) (w55 hw) (fun _ q => notFace_of_selects (args := #[]) (mvT q (w56 hw))) (by decide) E (call_of_go (R := _) (len := 3) (W := 2) (plainFor_of_name pn_1) (fun mid => ef_glen mid x t z (0 : Int32) [(.int c0.toInt8.toInt32)] ) (c_glen hw x t z (0 : Int32) [(.int c0.toInt8.toInt32)] E C V A' rfl SC hz) (w57 hw) (w14 hw) (by decide) (by decide)) (lenOf pd_11 rfl) (Nat.le_of_ble_eq_true rfl) rfl (Nat.le_of_ble_eq_true rfl) (Nat.le_of_ble_eq_true rfl) (fun _ q => nomatch q) (fun v h_3 sf_4 hq => ?_)
    obtain ⟨rfl, rfl⟩ := hq
    rw [show (Int32.ofNat (List.length (α := Value) [(.int c0.toInt8.toInt32)])) >>> ((0 : Int32) &&& 31) = (1 : Int32) from by show Int32.ofNat 1 >>> ((0 : Int32) &&& 31) = (1 : Int32); decide]
    refine Go.more (sf' := []) ?_ (Nat.le_refl _) (Nat.le_refl _) (fun _ q => List.mem_append_right _ q)
    show G_reqlen1 md l Z n0 f x mx z c0 h0 0 0 [] h0 17 #[.val (.ref f), .val (.ref x), .val (.int mx)] [(.int (1 : Int32)), (.int (0 : Int32)), (.ref x)]
    refine Go.callV (S := []) (a := x) 20 [(.int (0 : Int32)), (.int (1 : Int32))] d9_17 rfl rfl (w63 hw) (w64 hw) (w66 hw) (w65 hw) (fun _ q => notFace_of_selects (args := #[]) (mvT q (w66 hw))) (by decide) E (call_of_go (R := _) (len := 3) (W := 0) (plainFor_of_name pn_1) (fun mid => ef_cpp1_0 mid x t z c0 ) (c_cpp1_0 hw x t z c0 E C V A' b_c0 SC hz UA UH UL) (w67 hw) (w14 hw) (by decide) (by decide)) (lenOf pd_15 rfl) (Nat.le_of_ble_eq_true rfl) rfl (Nat.le_of_ble_eq_true rfl) (Nat.le_of_ble_eq_true rfl) (fun _ q => nomatch q) (fun v h_5 sf_6 hq => ?_)
    obtain ⟨rfl, rfl⟩ := hq
    refine Go.more (sf' := []) ?_ (Nat.le_refl _) (Nat.le_refl _) (fun _ q => List.mem_append_right _ q)
    show G_reqlen1 md l Z n0 f x mx z c0 h0 0 0 [] h0 20 #[.val (.ref f), .val (.ref x), .val (.int mx)] [(.int (1 : Int32))]
    refine Go.iloadN 21 d9_20 rfl rfl ?_
    refine Go.icmpY 39 d9_21 (by decide) (by decide) (flt (by rw [cpc_lat hb] at hm; exact hm)).2.2.2 ?_
    refine Go.aloadN 40 d9_39 rfl rfl rfl ?_
    exact Go.retA d9_40 rfl rfl rfl (sf' := []) (⟨rfl, rfl⟩) (fun _ q => nomatch q) (Nat.le_of_ble_eq_true rfl) (Nat.le_of_ble_eq_true rfl)
  · skip
    have A' : Ary Z h0 t .byte [(.int (lo16 c0)), (.int (hi16 c0))] := A
    refine Go.aloadN 1 d9_0 rfl rfl rfl ?_
    refine Go.nullN 4 d9_1 rfl ?_
    refine Go.aloadN 5 d9_4 rfl rfl rfl ?_
    refine Go.callV (S := []) (a := x) 8 [] d9_5 rfl rfl (w48 hw) (w49 hw) (w51 hw) (w50 hw) (fun _ q => notFace_of_selects (args := #[]) (mvT q (w51 hw))) (by decide) E (call_of_go (R := _) (len := 3) (W := 0) (plainFor_of_name pn_1) (fun mid => ef_isemp mid x t [(.int (lo16 c0)), (.int (hi16 c0))] ) (c_isemp hw x t [(.int (lo16 c0)), (.int (hi16 c0))] V A' (by show ¬ Int32.ofNat 2 = 0; decide)) (w52 hw) (w14 hw) (by decide) (by decide)) (lenOf pd_13 rfl) (Nat.le_of_ble_eq_true rfl) rfl (Nat.le_of_ble_eq_true rfl) (Nat.le_of_ble_eq_true rfl) (fun _ q => nomatch q) (fun v h_7 sf_8 hq => ?_)
    obtain ⟨rfl, rfl⟩ := hq
    refine Go.more (sf' := []) ?_ (Nat.le_refl _) (Nat.le_refl _) (fun _ q => List.mem_append_right _ q)
    show G_reqlen1 md l Z n0 f x mx z c0 h0 0 0 [] h0 8 #[.val (.ref f), .val (.ref x), .val (.int mx)] [(.int (0 : Int32))]
    refine Go.ifN 11 d9_8 rfl (teq (by decide)).2 ?_
    refine Go.aloadN 12 d9_11 rfl rfl rfl ?_
    refine Go.iconst 13 (0 : Int32) d9_12 rfl rfl ?_
    refine Go.aloadN 14 d9_13 rfl rfl rfl ?_
    refine Go.callV (S := [(.int (0 : Int32)), (.ref x)]) (a := x) 17 [] d9_14 rfl rfl (w53 hw) (w54 hw) (w56 hw) (w55 hw) (fun _ q => notFace_of_selects (args := #[]) (mvT q (w56 hw))) (by decide) E (call_of_go (R := _) (len := 3) (W := 2) (plainFor_of_name pn_1) (fun mid => ef_glen mid x t z (1 : Int32) [(.int (lo16 c0)), (.int (hi16 c0))] ) (c_glen hw x t z (1 : Int32) [(.int (lo16 c0)), (.int (hi16 c0))] E C V A' rfl SC hz) (w57 hw) (w14 hw) (by decide) (by decide)) (lenOf pd_11 rfl) (Nat.le_of_ble_eq_true rfl) rfl (Nat.le_of_ble_eq_true rfl) (Nat.le_of_ble_eq_true rfl) (fun _ q => nomatch q) (fun v h_9 sf_10 hq => ?_)
    obtain ⟨rfl, rfl⟩ := hq
    rw [show (Int32.ofNat (List.length (α := Value) [(.int (lo16 c0)), (.int (hi16 c0))])) >>> ((1 : Int32) &&& 31) = (1 : Int32) from by show Int32.ofNat 2 >>> ((1 : Int32) &&& 31) = (1 : Int32); decide]
    refine Go.more (sf' := []) ?_ (Nat.le_refl _) (Nat.le_refl _) (fun _ q => List.mem_append_right _ q)
    show G_reqlen1 md l Z n0 f x mx z c0 h0 0 0 [] h0 17 #[.val (.ref f), .val (.ref x), .val (.int mx)] [(.int (1 : Int32)), (.int (0 : Int32)), (.ref x)]
    refine Go.callV (S := []) (a := x) 20 [(.int (0 : Int32)), (.int (1 : Int32))] d9_17 rfl rfl (w63 hw) (w64 hw) (w66 hw) (w65 hw) (fun _ q => notFace_of_selects (args := #[]) (mvT q (w66 hw))) (by decide) E (call_of_go (R := _) (len := 3) (W := 0) (plainFor_of_name pn_1) (fun mid => ef_cpp1_1 mid x t z c0 ) (c_cpp1_1 hw x t z c0 E C V A' b_c0 SC hz UA UH UL) (w67 hw) (w14 hw) (by decide) (by decide)) (lenOf pd_15 rfl) (Nat.le_of_ble_eq_true rfl) rfl (Nat.le_of_ble_eq_true rfl) (Nat.le_of_ble_eq_true rfl) (fun _ q => nomatch q) (fun v h_11 sf_12 hq => ?_)
    obtain ⟨rfl, rfl⟩ := hq
    refine Go.more (sf' := []) ?_ (Nat.le_refl _) (Nat.le_refl _) (fun _ q => List.mem_append_right _ q)
    show G_reqlen1 md l Z n0 f x mx z c0 h0 0 0 [] h0 20 #[.val (.ref f), .val (.ref x), .val (.int mx)] [(.int (cpc (1 : Int32) [c0]))]
    refine Go.iloadN 21 d9_20 rfl rfl ?_
    refine Go.icmpY 39 d9_21 (by decide) (by decide) (flt hm).2.2.2 ?_
    refine Go.aloadN 40 d9_39 rfl rfl rfl ?_
    exact Go.retA d9_40 rfl rfl rfl (sf' := []) (⟨rfl, rfl⟩) (fun _ q => nomatch q) (Nat.le_of_ble_eq_true rfl) (Nat.le_of_ble_eq_true rfl)
abbrev G_cpc4_2 (md : Md) (l : Launch) (Z : State) (n0 : Nat) (b : Addr) (c0 c1 : Int32) (h0 : Heap) := Go md l Z n0 ({ frames := 1, cells := 0, slots := 0, locals := 13 } : Room) jdk_52_method_11_code 6 (some .int) "java/lang/StringUTF16" "codePointCount" (fun v h' _ => h0 = h' ∧ v = some (.int (cpc (2 : Int32) [c0, c1])))
theorem ef_cpc4_2 (mid : MethodId) (b : Addr) (c0 c1 : Int32)  : entryFrame mid #[(.ref b), (.int (0 : Int32)), (.int (2 : Int32)), (.int (0 : Int32))] 6 = mkF mid 0 #[.val (.ref b), .val (.int (0 : Int32)), .val (.int (2 : Int32)), .val (.int (0 : Int32)), .unset, .unset] [] := by first | (simp [entryFrame, mkF, argsToLocals, Value.category]; done) | rfl
set_option maxRecDepth 65536 in
set_option maxHeartbeats 40000000 in
theorem c_cpc4_2 {md : Md} {l : Launch} {Z : State} {n0 : Nat} {a0 : Array Value} (hw : HW a0 Z) (b : Addr) (c0 c1 : Int32) {h0 : Heap} (A : Ary Z h0 b .byte [(.int (lo16 c0)), (.int (hi16 c0)), (.int (lo16 c1)), (.int (hi16 c1))]) (b_c0 : CHP c0) (b_c1 : CHP c1) (UA : Sta Z Z.heap "java/lang/StringUTF16" "$assertionsDisabled" "Z" (.int 1)) (UH : Sta Z Z.heap "java/lang/StringUTF16" "HI_BYTE_SHIFT" "I" (.int 0)) (UL : Sta Z Z.heap "java/lang/StringUTF16" "LO_BYTE_SHIFT" "I" (.int 8))  : G_cpc4_2 md l Z n0 b c0 c1 h0 0 0 [] h0 0 #[.val (.ref b), .val (.int (0 : Int32)), .val (.int (2 : Int32)), .val (.int (0 : Int32)), .unset, .unset] [] := by
  refine Go.getS 3 d24_0 rfl (w99 hw) Via.refl UA ?_
  refine Go.ifY 19 d24_3 (by decide) (by decide) (feq (by decide)).2 ?_
  refine Go.iloadN 20 d24_19 rfl rfl ?_
  refine Go.iloadN 21 d24_20 rfl rfl ?_
  refine Go.isub 22 d24_21 rfl ?_
  rw [show ((2 : Int32) - (0 : Int32)) = (2 : Int32) from by decide]
  refine Go.istore 24 #[.val (.ref b), .val (.int (0 : Int32)), .val (.int (2 : Int32)), .val (.int (0 : Int32)), .val (.int (2 : Int32)), .unset] d24_22 rfl rfl ?_
  refine Go.iloadN 25 d24_24 rfl rfl ?_
  refine Go.istore 27 #[.val (.ref b), .val (.int (0 : Int32)), .val (.int (2 : Int32)), .val (.int (0 : Int32)), .val (.int (2 : Int32)), .val (.int (0 : Int32))] d24_25 rfl rfl ?_
  refine Go.iloadN 28 d24_27 rfl rfl ?_
  refine Go.ifY 44 d24_28 (by decide) (by decide) (teq (by decide)).1 ?_
  refine Go.iload 46 d24_44 rfl rfl ?_
  refine Go.iloadN 47 d24_46 rfl rfl ?_
  refine Go.iconst 48 (1 : Int32) d24_47 rfl rfl ?_
  refine Go.isub 49 d24_48 rfl ?_
  rw [show ((2 : Int32) - (1 : Int32)) = (1 : Int32) from by decide]
  refine Go.icmpN 52 d24_49 rfl (tlt (by decide)).2.1 ?_
  refine Go.aloadN 53 d24_52 rfl rfl rfl ?_
  refine Go.iload 55 d24_53 rfl rfl ?_
  refine Go.iinc 58 #[.val (.ref b), .val (.int (0 : Int32)), .val (.int (2 : Int32)), .val (.int (0 : Int32)), .val (.int (2 : Int32)), .val (.int ((0 : Int32) + (1 : Int32)))] (1 : Int32) d24_55 rfl rfl rfl rfl ?_
  rw [show ((0 : Int32) + (1 : Int32)) = (1 : Int32) from by decide]
  refine Go.callS (S := []) 61 [(.ref b), (.int (0 : Int32))] d24_58 rfl rfl (w102 hw) (w103 hw) (w28 hw) (w104 hw) (by decide) (call_of_go (R := _) (len := 3) (W := 0) (plainFor_of_name pn_0) (fun mid => ef_getc0 mid b (lo16 c0) (hi16 c0) [(.int (lo16 c0)), (.int (hi16 c0)), (.int (lo16 c1)), (.int (hi16 c1))] ) (c_getc0 hw b (lo16 c0) (hi16 c0) [(.int (lo16 c0)), (.int (hi16 c0)), (.int (lo16 c1)), (.int (hi16 c1))] A rfl rfl UA UH UL) (w104 hw) (w28 hw) (by decide) (by decide)) (lenOf pd_5 rfl) (Nat.le_of_ble_eq_true rfl) rfl (Nat.le_of_ble_eq_true rfl) (Nat.le_of_ble_eq_true rfl) (fun _ q => nomatch q) (fun v h_1 sf_2 hq => ?_)
  obtain ⟨rfl, rfl⟩ := hq
  rw [rt16 b_c0]
  refine Go.more (sf' := []) ?_ (Nat.le_refl _) (Nat.le_refl _) (fun _ q => List.mem_append_right _ q)
  show G_cpc4_2 md l Z n0 b c0 c1 h0 0 0 [] h0 61 #[.val (.ref b), .val (.int (0 : Int32)), .val (.int (2 : Int32)), .val (.int (0 : Int32)), .val (.int (2 : Int32)), .val (.int (1 : Int32))] [(.int c0)]
  refine Go.callS (S := []) 64 [(.int c0)] d24_61 rfl rfl (w111 hw) (w112 hw) (w113 hw) (w114 hw) (by decide) (call_of_go (R := _) (len := 3) (W := 0) pf_0 (fun mid => ef_ishs mid c0 ) (c_ishs hw c0 ) (w114 hw) (w113 hw) (by decide) (by decide)) (lenOf pd_16 rfl) (Nat.le_of_ble_eq_true rfl) rfl (Nat.le_of_ble_eq_true rfl) (Nat.le_of_ble_eq_true rfl) (fun _ q => nomatch q) (fun v h_3 sf_4 hq => ?_)
  obtain ⟨rfl, r, rfl, ⟨rfl, hh_0⟩ | ⟨rfl, hh_0⟩⟩ := hq
  · skip
    refine Go.more (sf' := []) ?_ (Nat.le_refl _) (Nat.le_refl _) (fun _ q => List.mem_append_right _ q)
    show G_cpc4_2 md l Z n0 b c0 c1 h0 0 0 [] h0 64 #[.val (.ref b), .val (.int (0 : Int32)), .val (.int (2 : Int32)), .val (.int (0 : Int32)), .val (.int (2 : Int32)), .val (.int (1 : Int32))] [(.int (1 : Int32))]
    refine Go.ifN 67 d24_64 rfl (feq (by decide)).1 ?_
    refine Go.aloadN 68 d24_67 rfl rfl rfl ?_
    refine Go.iload 70 d24_68 rfl rfl ?_
    refine Go.callS (S := []) 73 [(.ref b), (.int (1 : Int32))] d24_70 rfl rfl (w102 hw) (w103 hw) (w28 hw) (w104 hw) (by decide) (call_of_go (R := _) (len := 3) (W := 0) (plainFor_of_name pn_0) (fun mid => ef_getc1 mid b (lo16 c1) (hi16 c1) [(.int (lo16 c0)), (.int (hi16 c0)), (.int (lo16 c1)), (.int (hi16 c1))] ) (c_getc1 hw b (lo16 c1) (hi16 c1) [(.int (lo16 c0)), (.int (hi16 c0)), (.int (lo16 c1)), (.int (hi16 c1))] A rfl rfl UA UH UL) (w104 hw) (w28 hw) (by decide) (by decide)) (lenOf pd_5 rfl) (Nat.le_of_ble_eq_true rfl) rfl (Nat.le_of_ble_eq_true rfl) (Nat.le_of_ble_eq_true rfl) (fun _ q => nomatch q) (fun v h_5 sf_6 hq => ?_)
    obtain ⟨rfl, rfl⟩ := hq
    rw [rt16 b_c1]
    refine Go.more (sf' := []) ?_ (Nat.le_refl _) (Nat.le_refl _) (fun _ q => List.mem_append_right _ q)
    show G_cpc4_2 md l Z n0 b c0 c1 h0 0 0 [] h0 73 #[.val (.ref b), .val (.int (0 : Int32)), .val (.int (2 : Int32)), .val (.int (0 : Int32)), .val (.int (2 : Int32)), .val (.int (1 : Int32))] [(.int c1)]
    refine Go.callS (S := []) 76 [(.int c1)] d24_73 rfl rfl (w117 hw) (w118 hw) (w113 hw) (w119 hw) (by decide) (call_of_go (R := _) (len := 3) (W := 0) pf_1 (fun mid => ef_isls mid c1 ) (c_isls hw c1 ) (w119 hw) (w113 hw) (by decide) (by decide)) (lenOf pd_16 rfl) (Nat.le_of_ble_eq_true rfl) rfl (Nat.le_of_ble_eq_true rfl) (Nat.le_of_ble_eq_true rfl) (fun _ q => nomatch q) (fun v h_7 sf_8 hq => ?_)
    obtain ⟨rfl, r, rfl, ⟨rfl, hl_1⟩ | ⟨rfl, hl_1⟩⟩ := hq
    · skip
      refine Go.more (sf' := []) ?_ (Nat.le_refl _) (Nat.le_refl _) (fun _ q => List.mem_append_right _ q)
      show G_cpc4_2 md l Z n0 b c0 c1 h0 0 0 [] h0 76 #[.val (.ref b), .val (.int (0 : Int32)), .val (.int (2 : Int32)), .val (.int (0 : Int32)), .val (.int (2 : Int32)), .val (.int (1 : Int32))] [(.int (1 : Int32))]
      refine Go.ifN 79 d24_76 rfl (feq (by decide)).1 ?_
      refine Go.iinc 82 #[.val (.ref b), .val (.int (0 : Int32)), .val (.int (2 : Int32)), .val (.int (0 : Int32)), .val (.int ((2 : Int32) + (-1 : Int32))), .val (.int (1 : Int32))] (-1 : Int32) d24_79 rfl rfl rfl rfl ?_
      rw [show ((2 : Int32) + (-1 : Int32)) = (1 : Int32) from by decide]
      refine Go.iinc 85 #[.val (.ref b), .val (.int (0 : Int32)), .val (.int (2 : Int32)), .val (.int (0 : Int32)), .val (.int (1 : Int32)), .val (.int ((1 : Int32) + (1 : Int32)))] (1 : Int32) d24_82 rfl rfl rfl rfl ?_
      rw [show ((1 : Int32) + (1 : Int32)) = (2 : Int32) from by decide]
      refine Go.goto 44 d24_85 (by decide) (by decide) ?_
      refine Go.iload 46 d24_44 rfl rfl ?_
      refine Go.iloadN 47 d24_46 rfl rfl ?_
      refine Go.iconst 48 (1 : Int32) d24_47 rfl rfl ?_
      refine Go.isub 49 d24_48 rfl ?_
      rw [show ((2 : Int32) - (1 : Int32)) = (1 : Int32) from by decide]
      refine Go.icmpY 88 d24_49 (by decide) (by decide) (flt (by decide)).2.1 ?_
      refine Go.iload 90 d24_88 rfl rfl ?_
      exact Go.retI d24_90 rfl (sf' := []) (⟨rfl, by simp [cpc, hh_0, hl_1] <;> rfl⟩) (fun _ q => nomatch q) (Nat.le_of_ble_eq_true rfl) (Nat.le_of_ble_eq_true rfl)
    · skip
      refine Go.more (sf' := []) ?_ (Nat.le_refl _) (Nat.le_refl _) (fun _ q => List.mem_append_right _ q)
      show G_cpc4_2 md l Z n0 b c0 c1 h0 0 0 [] h0 76 #[.val (.ref b), .val (.int (0 : Int32)), .val (.int (2 : Int32)), .val (.int (0 : Int32)), .val (.int (2 : Int32)), .val (.int (1 : Int32))] [(.int (0 : Int32))]
      refine Go.ifY 44 d24_76 (by decide) (by decide) (teq (by decide)).1 ?_
      refine Go.iload 46 d24_44 rfl rfl ?_
      refine Go.iloadN 47 d24_46 rfl rfl ?_
      refine Go.iconst 48 (1 : Int32) d24_47 rfl rfl ?_
      refine Go.isub 49 d24_48 rfl ?_
      rw [show ((2 : Int32) - (1 : Int32)) = (1 : Int32) from by decide]
      refine Go.icmpY 88 d24_49 (by decide) (by decide) (flt (by decide)).2.1 ?_
      refine Go.iload 90 d24_88 rfl rfl ?_
      exact Go.retI d24_90 rfl (sf' := []) (⟨rfl, by simp [cpc, hh_0, hl_1] <;> rfl⟩) (fun _ q => nomatch q) (Nat.le_of_ble_eq_true rfl) (Nat.le_of_ble_eq_true rfl)
  · skip
    refine Go.more (sf' := []) ?_ (Nat.le_refl _) (Nat.le_refl _) (fun _ q => List.mem_append_right _ q)
    show G_cpc4_2 md l Z n0 b c0 c1 h0 0 0 [] h0 64 #[.val (.ref b), .val (.int (0 : Int32)), .val (.int (2 : Int32)), .val (.int (0 : Int32)), .val (.int (2 : Int32)), .val (.int (1 : Int32))] [(.int (0 : Int32))]
    refine Go.ifY 44 d24_64 (by decide) (by decide) (teq (by decide)).1 ?_
    refine Go.iload 46 d24_44 rfl rfl ?_
    refine Go.iloadN 47 d24_46 rfl rfl ?_
    refine Go.iconst 48 (1 : Int32) d24_47 rfl rfl ?_
    refine Go.isub 49 d24_48 rfl ?_
    rw [show ((2 : Int32) - (1 : Int32)) = (1 : Int32) from by decide]
    refine Go.icmpY 88 d24_49 (by decide) (by decide) (flt (by decide)).2.1 ?_
    refine Go.iload 90 d24_88 rfl rfl ?_
    exact Go.retI d24_90 rfl (sf' := []) (⟨rfl, by simp [cpc, hh_0] <;> rfl⟩) (fun _ q => nomatch q) (Nat.le_of_ble_eq_true rfl) (Nat.le_of_ble_eq_true rfl)
abbrev G_cpc3_2 (md : Md) (l : Launch) (Z : State) (n0 : Nat) (b : Addr) (c0 c1 : Int32) (h0 : Heap) := Go md l Z n0 ({ frames := 2, cells := 0, slots := 0, locals := 30 } : Room) jdk_52_method_12_code 3 (some .int) "java/lang/StringUTF16" "codePointCount" (fun v h' _ => h0 = h' ∧ v = some (.int (cpc (2 : Int32) [c0, c1])))
theorem ef_cpc3_2 (mid : MethodId) (b : Addr) (c0 c1 : Int32)  : entryFrame mid #[(.ref b), (.int (0 : Int32)), (.int (2 : Int32))] 3 = mkF mid 0 #[.val (.ref b), .val (.int (0 : Int32)), .val (.int (2 : Int32))] [] := by first | (simp [entryFrame, mkF, argsToLocals, Value.category]; done) | rfl
set_option maxRecDepth 65536 in
set_option maxHeartbeats 40000000 in
theorem c_cpc3_2 {md : Md} {l : Launch} {Z : State} {n0 : Nat} {a0 : Array Value} (hw : HW a0 Z) (b : Addr) (c0 c1 : Int32) {h0 : Heap} (A : Ary Z h0 b .byte [(.int (lo16 c0)), (.int (hi16 c0)), (.int (lo16 c1)), (.int (hi16 c1))]) (b_c0 : CHP c0) (b_c1 : CHP c1) (UA : Sta Z Z.heap "java/lang/StringUTF16" "$assertionsDisabled" "Z" (.int 1)) (UH : Sta Z Z.heap "java/lang/StringUTF16" "HI_BYTE_SHIFT" "I" (.int 0)) (UL : Sta Z Z.heap "java/lang/StringUTF16" "LO_BYTE_SHIFT" "I" (.int 8))  : G_cpc3_2 md l Z n0 b c0 c1 h0 0 0 [] h0 0 #[.val (.ref b), .val (.int (0 : Int32)), .val (.int (2 : Int32))] [] := by
  refine Go.aloadN 1 d23_0 rfl rfl rfl ?_
  refine Go.iloadN 2 d23_1 rfl rfl ?_
  refine Go.iloadN 3 d23_2 rfl rfl ?_
  refine Go.iconst 4 (0 : Int32) d23_3 rfl rfl ?_
  refine Go.callS (S := []) 7 [(.ref b), (.int (0 : Int32)), (.int (2 : Int32)), (.int (0 : Int32))] d23_4 rfl rfl (w108 hw) (w109 hw) (w28 hw) (w110 hw) (by decide) (call_of_go (R := _) (len := 3) (W := 0) (plainFor_of_name pn_0) (fun mid => ef_cpc4_2 mid b c0 c1 ) (c_cpc4_2 hw b c0 c1 A b_c0 b_c1 UA UH UL) (w110 hw) (w28 hw) (by decide) (by decide)) (lenOf pd_9 rfl) (Nat.le_of_ble_eq_true rfl) rfl (Nat.le_of_ble_eq_true rfl) (Nat.le_of_ble_eq_true rfl) (fun _ q => nomatch q) (fun v h_1 sf_2 hq => ?_)
  obtain ⟨rfl, rfl⟩ := hq
  refine Go.more (sf' := []) ?_ (Nat.le_refl _) (Nat.le_refl _) (fun _ q => List.mem_append_right _ q)
  show G_cpc3_2 md l Z n0 b c0 c1 h0 0 0 [] h0 7 #[.val (.ref b), .val (.int (0 : Int32)), .val (.int (2 : Int32))] [(.int (cpc (2 : Int32) [c0, c1]))]
  exact Go.retI d23_7 rfl (sf' := []) (⟨rfl, rfl⟩) (fun _ q => nomatch q) (Nat.le_of_ble_eq_true rfl) (Nat.le_of_ble_eq_true rfl)
abbrev G_cft2 (md : Md) (l : Launch) (Z : State) (n0 : Nat)  (h0 : Heap) := Go md l Z n0 ({ frames := 0, cells := 0, slots := 0, locals := 0 } : Room) jdk_41_method_12_code 4 (some .int) "jdk/internal/util/Preconditions" "checkFromToIndex" (fun v h' _ => h0 = h' ∧ v = some (.int 0))
theorem ef_cft2 (mid : MethodId)   : entryFrame mid #[(.int (0 : Int32)), (.int (2 : Int32)), (.int (2 : Int32)), .null] 4 = mkF mid 0 #[.val (.int (0 : Int32)), .val (.int (2 : Int32)), .val (.int (2 : Int32)), .val .null] [] := by first | (simp [entryFrame, mkF, argsToLocals, Value.category]; done) | rfl
set_option maxRecDepth 65536 in
set_option maxHeartbeats 40000000 in
theorem c_cft2 {md : Md} {l : Launch} {Z : State} {n0 : Nat} {a0 : Array Value} (hw : HW a0 Z)  {h0 : Heap}  : G_cft2 md l Z n0  h0 0 0 [] h0 0 #[.val (.int (0 : Int32)), .val (.int (2 : Int32)), .val (.int (2 : Int32)), .val .null] [] := by
  refine Go.iloadN 1 d15_0 rfl rfl ?_
  refine Go.ifN 4 d15_1 rfl (flt (by decide)).1 ?_
  refine Go.iloadN 5 d15_4 rfl rfl ?_
  refine Go.iloadN 6 d15_5 rfl rfl ?_
  refine Go.icmpN 9 d15_6 rfl (flt (by decide)).2.2.1 ?_
  refine Go.iloadN 10 d15_9 rfl rfl ?_
  refine Go.iloadN 11 d15_10 rfl rfl ?_
  refine Go.icmpY 22 d15_11 (by decide) (by decide) (flt (by decide)).2.2.2 ?_
  refine Go.iloadN 23 d15_22 rfl rfl ?_
  exact Go.retI d15_23 rfl (sf' := []) (⟨rfl, rfl⟩) (fun _ q => nomatch q) (Nat.le_of_ble_eq_true rfl) (Nat.le_of_ble_eq_true rfl)
abbrev G_oft2 (md : Md) (l : Launch) (Z : State) (n0 : Nat)  (h0 : Heap) := Go md l Z n0 ({ frames := 1, cells := 0, slots := 0, locals := 15 } : Room) jdk_31_method_18_code 3 (some .int) "java/util/Objects" "checkFromToIndex" (fun v h' _ => h0 = h' ∧ v = some (.int 0))
theorem ef_oft2 (mid : MethodId)   : entryFrame mid #[(.int (0 : Int32)), (.int (2 : Int32)), (.int (2 : Int32))] 3 = mkF mid 0 #[.val (.int (0 : Int32)), .val (.int (2 : Int32)), .val (.int (2 : Int32))] [] := by first | (simp [entryFrame, mkF, argsToLocals, Value.category]; done) | rfl
set_option maxRecDepth 65536 in
set_option maxHeartbeats 40000000 in
theorem c_oft2 {md : Md} {l : Launch} {Z : State} {n0 : Nat} {a0 : Array Value} (hw : HW a0 Z)  {h0 : Heap}  : G_oft2 md l Z n0  h0 0 0 [] h0 0 #[.val (.int (0 : Int32)), .val (.int (2 : Int32)), .val (.int (2 : Int32))] [] := by
  refine Go.iloadN 1 d14_0 rfl rfl ?_
  refine Go.iloadN 2 d14_1 rfl rfl ?_
  refine Go.iloadN 3 d14_2 rfl rfl ?_
  refine Go.aconstNull 4 d14_3 rfl ?_
  refine Go.callS (S := []) 7 [(.int (0 : Int32)), (.int (2 : Int32)), (.int (2 : Int32)), .null] d14_4 rfl rfl (w73 hw) (w74 hw) (w75 hw) (w76 hw) (by decide) (call_of_go (R := _) (len := 3) (W := 0) (plainFor_of_name pn_2) (fun mid => ef_cft2 mid  ) (c_cft2 hw  ) (w76 hw) (w75 hw) (by decide) (by decide)) (lenOf pd_10 rfl) (Nat.le_of_ble_eq_true rfl) rfl (Nat.le_of_ble_eq_true rfl) (Nat.le_of_ble_eq_true rfl) (fun _ q => nomatch q) (fun v h_1 sf_2 hq => ?_)
  obtain ⟨rfl, rfl⟩ := hq
  refine Go.more (sf' := []) ?_ (Nat.le_refl _) (Nat.le_refl _) (fun _ q => List.mem_append_right _ q)
  show G_oft2 md l Z n0  h0 0 0 [] h0 7 #[.val (.int (0 : Int32)), .val (.int (2 : Int32)), .val (.int (2 : Int32))] [(.int (0 : Int32))]
  exact Go.retI d14_7 rfl (sf' := []) (⟨rfl, rfl⟩) (fun _ q => nomatch q) (Nat.le_of_ble_eq_true rfl) (Nat.le_of_ble_eq_true rfl)
abbrev G_cpp2_0 (md : Md) (l : Launch) (Z : State) (n0 : Nat) (x t : Addr) (z : Int32) (c0 c1 : Int32) (h0 : Heap) := Go md l Z n0 ({ frames := 2, cells := 0, slots := 0, locals := 29 } : Room) jdk_42_method_59_code 3 (some .int) "java/lang/String" "codePointCount" (fun v h' _ => h0 = h' ∧ v = some (.int (2 : Int32)))
theorem ef_cpp2_0 (mid : MethodId) (x t : Addr) (z : Int32) (c0 c1 : Int32)  : entryFrame mid #[(.ref x), (.int (0 : Int32)), (.int (2 : Int32))] 3 = mkF mid 0 #[.val (.ref x), .val (.int (0 : Int32)), .val (.int (2 : Int32))] [] := by first | (simp [entryFrame, mkF, argsToLocals, Value.category]; done) | rfl
set_option maxRecDepth 65536 in
set_option maxHeartbeats 40000000 in
theorem c_cpp2_0 {md : Md} {l : Launch} {Z : State} {n0 : Nat} {a0 : Array Value} (hw : HW a0 Z) (x t : Addr) (z : Int32) (c0 c1 : Int32) {h0 : Heap} (E : Exa Z h0 x "java/lang/String") (C : Fld Z h0 x "java/lang/String" "coder" "B" (.int 0)) (V : Fld Z h0 x "java/lang/String" "value" "[B" (.ref t)) (A : Ary Z h0 t .byte [(.int c0.toInt8.toInt32), (.int c1.toInt8.toInt32)]) (b_c0 : CHP c0) (b_c1 : CHP c1) (SC : Sta Z Z.heap "java/lang/String" "COMPACT_STRINGS" "Z" (.int z)) (hz : ¬ z = 0) (UA : Sta Z Z.heap "java/lang/StringUTF16" "$assertionsDisabled" "Z" (.int 1)) (UH : Sta Z Z.heap "java/lang/StringUTF16" "HI_BYTE_SHIFT" "I" (.int 0)) (UL : Sta Z Z.heap "java/lang/StringUTF16" "LO_BYTE_SHIFT" "I" (.int 8))  : G_cpp2_0 md l Z n0 x t z c0 c1 h0 0 0 [] h0 0 #[.val (.ref x), .val (.int (0 : Int32)), .val (.int (2 : Int32))] [] := by
  refine Go.iloadN 1 d13_0 rfl rfl ?_
  refine Go.iloadN 2 d13_1 rfl rfl ?_
  refine Go.aloadN 3 d13_2 rfl rfl rfl ?_
  refine Go.callV (S := [(.int (2 : Int32)), (.int (0 : Int32))]) (a := x) 6 [] d13_3 rfl rfl (w68 hw) (w54 hw) (w56 hw) (w55 hw) (fun _ q => notFace_of_selects (args := #[]) (mvT q (w56 hw))) (by decide) E (call_of_go (R := _) (len := 3) (W := 2) (plainFor_of_name pn_1) (fun mid => ef_glen mid x t z (0 : Int32) [(.int c0.toInt8.toInt32), (.int c1.toInt8.toInt32)] ) (c_glen hw x t z (0 : Int32) [(.int c0.toInt8.toInt32), (.int c1.toInt8.toInt32)] E C V A rfl SC hz) (w57 hw) (w14 hw) (by decide) (by decide)) (lenOf pd_11 rfl) (Nat.le_of_ble_eq_true rfl) rfl (Nat.le_of_ble_eq_true rfl) (Nat.le_of_ble_eq_true rfl) (fun _ q => nomatch q) (fun v h_1 sf_2 hq => ?_)
  obtain ⟨rfl, rfl⟩ := hq
  rw [show (Int32.ofNat (List.length (α := Value) [(.int c0.toInt8.toInt32), (.int c1.toInt8.toInt32)])) >>> ((0 : Int32) &&& 31) = (2 : Int32) from by show Int32.ofNat 2 >>> ((0 : Int32) &&& 31) = (2 : Int32); decide]
  refine Go.more (sf' := []) ?_ (Nat.le_refl _) (Nat.le_refl _) (fun _ q => List.mem_append_right _ q)
  show G_cpp2_0 md l Z n0 x t z c0 c1 h0 0 0 [] h0 6 #[.val (.ref x), .val (.int (0 : Int32)), .val (.int (2 : Int32))] [(.int (2 : Int32)), (.int (2 : Int32)), (.int (0 : Int32))]
  refine Go.callS (S := []) 9 [(.int (0 : Int32)), (.int (2 : Int32)), (.int (2 : Int32))] d13_6 rfl rfl (w69 hw) (w70 hw) (w71 hw) (w72 hw) (by decide) (call_of_go (R := _) (len := 3) (W := 0) (plainFor_of_name pn_3) (fun mid => ef_oft2 mid  ) (c_oft2 hw  ) (w72 hw) (w71 hw) (by decide) (by decide)) (lenOf pd_12 rfl) (Nat.le_of_ble_eq_true rfl) rfl (Nat.le_of_ble_eq_true rfl) (Nat.le_of_ble_eq_true rfl) (fun _ q => nomatch q) (fun v h_3 sf_4 hq => ?_)
  obtain ⟨rfl, rfl⟩ := hq
  refine Go.more (sf' := []) ?_ (Nat.le_refl _) (Nat.le_refl _) (fun _ q => List.mem_append_right _ q)
  show G_cpp2_0 md l Z n0 x t z c0 c1 h0 0 0 [] h0 9 #[.val (.ref x), .val (.int (0 : Int32)), .val (.int (2 : Int32))] [(.int (0 : Int32))]
  refine Go.pop 10 d13_9 rfl rfl ?_
  refine Go.aloadN 11 d13_10 rfl rfl rfl ?_
  refine Go.callV (S := []) (a := x) 14 [] d13_11 rfl rfl (w77 hw) (w78 hw) (w80 hw) (w79 hw) (fun _ q => notFace_of_selects (args := #[]) (mvT q (w80 hw))) (by decide) E (call_of_go (R := _) (len := 3) (W := 0) (plainFor_of_name pn_1) (fun mid => ef_isl0 mid x z ) (c_isl0 hw x z C SC hz) (w81 hw) (w14 hw) (by decide) (by decide)) (lenOf pd_13 rfl) (Nat.le_of_ble_eq_true rfl) rfl (Nat.le_of_ble_eq_true rfl) (Nat.le_of_ble_eq_true rfl) (fun _ q => nomatch q) (fun v h_5 sf_6 hq => ?_)
  obtain ⟨rfl, rfl⟩ := hq
  refine Go.more (sf' := []) ?_ (Nat.le_refl _) (Nat.le_refl _) (fun _ q => List.mem_append_right _ q)
  show G_cpp2_0 md l Z n0 x t z c0 c1 h0 0 0 [] h0 14 #[.val (.ref x), .val (.int (0 : Int32)), .val (.int (2 : Int32))] [(.int (1 : Int32))]
  refine Go.ifN 17 d13_14 rfl (feq (by decide)).1 ?_
  refine Go.iloadN 18 d13_17 rfl rfl ?_
  refine Go.iloadN 19 d13_18 rfl rfl ?_
  refine Go.isub 20 d13_19 rfl ?_
  rw [show ((2 : Int32) - (0 : Int32)) = (2 : Int32) from by decide]
  exact Go.retI d13_20 rfl (sf' := []) (⟨rfl, rfl⟩) (fun _ q => nomatch q) (Nat.le_of_ble_eq_true rfl) (Nat.le_of_ble_eq_true rfl)
abbrev G_cpp2_1 (md : Md) (l : Launch) (Z : State) (n0 : Nat) (x t : Addr) (z : Int32) (c0 c1 : Int32) (h0 : Heap) := Go md l Z n0 ({ frames := 3, cells := 0, slots := 0, locals := 44 } : Room) jdk_42_method_59_code 3 (some .int) "java/lang/String" "codePointCount" (fun v h' _ => h0 = h' ∧ v = some (.int (cpc (2 : Int32) [c0, c1])))
theorem ef_cpp2_1 (mid : MethodId) (x t : Addr) (z : Int32) (c0 c1 : Int32)  : entryFrame mid #[(.ref x), (.int (0 : Int32)), (.int (2 : Int32))] 3 = mkF mid 0 #[.val (.ref x), .val (.int (0 : Int32)), .val (.int (2 : Int32))] [] := by first | (simp [entryFrame, mkF, argsToLocals, Value.category]; done) | rfl
set_option maxRecDepth 65536 in
set_option maxHeartbeats 40000000 in
theorem c_cpp2_1 {md : Md} {l : Launch} {Z : State} {n0 : Nat} {a0 : Array Value} (hw : HW a0 Z) (x t : Addr) (z : Int32) (c0 c1 : Int32) {h0 : Heap} (E : Exa Z h0 x "java/lang/String") (C : Fld Z h0 x "java/lang/String" "coder" "B" (.int 1)) (V : Fld Z h0 x "java/lang/String" "value" "[B" (.ref t)) (A : Ary Z h0 t .byte [(.int (lo16 c0)), (.int (hi16 c0)), (.int (lo16 c1)), (.int (hi16 c1))]) (b_c0 : CHP c0) (b_c1 : CHP c1) (SC : Sta Z Z.heap "java/lang/String" "COMPACT_STRINGS" "Z" (.int z)) (hz : ¬ z = 0) (UA : Sta Z Z.heap "java/lang/StringUTF16" "$assertionsDisabled" "Z" (.int 1)) (UH : Sta Z Z.heap "java/lang/StringUTF16" "HI_BYTE_SHIFT" "I" (.int 0)) (UL : Sta Z Z.heap "java/lang/StringUTF16" "LO_BYTE_SHIFT" "I" (.int 8))  : G_cpp2_1 md l Z n0 x t z c0 c1 h0 0 0 [] h0 0 #[.val (.ref x), .val (.int (0 : Int32)), .val (.int (2 : Int32))] [] := by
  refine Go.iloadN 1 d13_0 rfl rfl ?_
  refine Go.iloadN 2 d13_1 rfl rfl ?_
  refine Go.aloadN 3 d13_2 rfl rfl rfl ?_
  refine Go.callV (S := [(.int (2 : Int32)), (.int (0 : Int32))]) (a := x) 6 [] d13_3 rfl rfl (w68 hw) (w54 hw) (w56 hw) (w55 hw) (fun _ q => notFace_of_selects (args := #[]) (mvT q (w56 hw))) (by decide) E (call_of_go (R := _) (len := 3) (W := 2) (plainFor_of_name pn_1) (fun mid => ef_glen mid x t z (1 : Int32) [(.int (lo16 c0)), (.int (hi16 c0)), (.int (lo16 c1)), (.int (hi16 c1))] ) (c_glen hw x t z (1 : Int32) [(.int (lo16 c0)), (.int (hi16 c0)), (.int (lo16 c1)), (.int (hi16 c1))] E C V A rfl SC hz) (w57 hw) (w14 hw) (by decide) (by decide)) (lenOf pd_11 rfl) (Nat.le_of_ble_eq_true rfl) rfl (Nat.le_of_ble_eq_true rfl) (Nat.le_of_ble_eq_true rfl) (fun _ q => nomatch q) (fun v h_1 sf_2 hq => ?_)
  obtain ⟨rfl, rfl⟩ := hq
  rw [show (Int32.ofNat (List.length (α := Value) [(.int (lo16 c0)), (.int (hi16 c0)), (.int (lo16 c1)), (.int (hi16 c1))])) >>> ((1 : Int32) &&& 31) = (2 : Int32) from by show Int32.ofNat 4 >>> ((1 : Int32) &&& 31) = (2 : Int32); decide]
  refine Go.more (sf' := []) ?_ (Nat.le_refl _) (Nat.le_refl _) (fun _ q => List.mem_append_right _ q)
  show G_cpp2_1 md l Z n0 x t z c0 c1 h0 0 0 [] h0 6 #[.val (.ref x), .val (.int (0 : Int32)), .val (.int (2 : Int32))] [(.int (2 : Int32)), (.int (2 : Int32)), (.int (0 : Int32))]
  refine Go.callS (S := []) 9 [(.int (0 : Int32)), (.int (2 : Int32)), (.int (2 : Int32))] d13_6 rfl rfl (w69 hw) (w70 hw) (w71 hw) (w72 hw) (by decide) (call_of_go (R := _) (len := 3) (W := 0) (plainFor_of_name pn_3) (fun mid => ef_oft2 mid  ) (c_oft2 hw  ) (w72 hw) (w71 hw) (by decide) (by decide)) (lenOf pd_12 rfl) (Nat.le_of_ble_eq_true rfl) rfl (Nat.le_of_ble_eq_true rfl) (Nat.le_of_ble_eq_true rfl) (fun _ q => nomatch q) (fun v h_3 sf_4 hq => ?_)
  obtain ⟨rfl, rfl⟩ := hq
  refine Go.more (sf' := []) ?_ (Nat.le_refl _) (Nat.le_refl _) (fun _ q => List.mem_append_right _ q)
  show G_cpp2_1 md l Z n0 x t z c0 c1 h0 0 0 [] h0 9 #[.val (.ref x), .val (.int (0 : Int32)), .val (.int (2 : Int32))] [(.int (0 : Int32))]
  refine Go.pop 10 d13_9 rfl rfl ?_
  refine Go.aloadN 11 d13_10 rfl rfl rfl ?_
  refine Go.callV (S := []) (a := x) 14 [] d13_11 rfl rfl (w77 hw) (w78 hw) (w80 hw) (w79 hw) (fun _ q => notFace_of_selects (args := #[]) (mvT q (w80 hw))) (by decide) E (call_of_go (R := _) (len := 3) (W := 0) (plainFor_of_name pn_1) (fun mid => ef_isl1 mid x z ) (c_isl1 hw x z C SC hz) (w81 hw) (w14 hw) (by decide) (by decide)) (lenOf pd_13 rfl) (Nat.le_of_ble_eq_true rfl) rfl (Nat.le_of_ble_eq_true rfl) (Nat.le_of_ble_eq_true rfl) (fun _ q => nomatch q) (fun v h_5 sf_6 hq => ?_)
  obtain ⟨rfl, rfl⟩ := hq
  refine Go.more (sf' := []) ?_ (Nat.le_refl _) (Nat.le_refl _) (fun _ q => List.mem_append_right _ q)
  show G_cpp2_1 md l Z n0 x t z c0 c1 h0 0 0 [] h0 14 #[.val (.ref x), .val (.int (0 : Int32)), .val (.int (2 : Int32))] [(.int (0 : Int32))]
  refine Go.ifY 21 d13_14 (by decide) (by decide) (teq (by decide)).1 ?_
  refine Go.aloadN 22 d13_21 rfl rfl rfl ?_
  refine Go.getF 25 d13_22 rfl (w39 hw) Via.refl V ?_
  refine Go.iloadN 26 d13_25 rfl rfl ?_
  refine Go.iloadN 27 d13_26 rfl rfl ?_
  refine Go.callS (S := []) 30 [(.ref t), (.int (0 : Int32)), (.int (2 : Int32))] d13_27 rfl rfl (w105 hw) (w106 hw) (w28 hw) (w107 hw) (by decide) (call_of_go (R := _) (len := 3) (W := 0) (plainFor_of_name pn_0) (fun mid => ef_cpc3_2 mid t c0 c1 ) (c_cpc3_2 hw t c0 c1 A b_c0 b_c1 UA UH UL) (w107 hw) (w28 hw) (by decide) (by decide)) (lenOf pd_14 rfl) (Nat.le_of_ble_eq_true rfl) rfl (Nat.le_of_ble_eq_true rfl) (Nat.le_of_ble_eq_true rfl) (fun _ q => nomatch q) (fun v h_7 sf_8 hq => ?_)
  obtain ⟨rfl, rfl⟩ := hq
  refine Go.more (sf' := []) ?_ (Nat.le_refl _) (Nat.le_refl _) (fun _ q => List.mem_append_right _ q)
  show G_cpp2_1 md l Z n0 x t z c0 c1 h0 0 0 [] h0 30 #[.val (.ref x), .val (.int (0 : Int32)), .val (.int (2 : Int32))] [(.int (cpc (2 : Int32) [c0, c1]))]
  exact Go.retI d13_30 rfl (sf' := []) (⟨rfl, rfl⟩) (fun _ q => nomatch q) (Nat.le_of_ble_eq_true rfl) (Nat.le_of_ble_eq_true rfl)
abbrev G_reqlen2 (md : Md) (l : Launch) (Z : State) (n0 : Nat) (f x : Addr) (mx z : Int32) (c0 c1 : Int32) (h0 : Heap) := Go md l Z n0 ({ frames := 4, cells := 0, slots := 0, locals := 58 } : Room) prog_15_method_2_code 3 (some (.object "java/lang/String")) "com/example/tugas/tugas/Text" "requireLength" (fun v h' _ => h0 = h' ∧ v = some (.ref x))
theorem ef_reqlen2 (mid : MethodId) (f x : Addr) (mx z : Int32) (c0 c1 : Int32)  : entryFrame mid #[(.ref f), (.ref x), (.int mx)] 3 = mkF mid 0 #[.val (.ref f), .val (.ref x), .val (.int mx)] [] := by first | (simp [entryFrame, mkF, argsToLocals, Value.category]; done) | rfl
set_option maxRecDepth 65536 in
set_option maxHeartbeats 40000000 in
theorem c_reqlen2 {md : Md} {l : Launch} {Z : State} {n0 : Nat} {a0 : Array Value} (hw : HW a0 Z) (f x : Addr) (mx z : Int32) (c0 c1 : Int32) {h0 : Heap} (G : Gst Z h0 x [c0, c1]) (hm : ¬ mx < cpc (2 : Int32) [c0, c1]) (b_c0 : CHP c0) (b_c1 : CHP c1) (SC : Sta Z Z.heap "java/lang/String" "COMPACT_STRINGS" "Z" (.int z)) (hz : ¬ z = 0) (UA : Sta Z Z.heap "java/lang/StringUTF16" "$assertionsDisabled" "Z" (.int 1)) (UH : Sta Z Z.heap "java/lang/StringUTF16" "HI_BYTE_SHIFT" "I" (.int 0)) (UL : Sta Z Z.heap "java/lang/StringUTF16" "LO_BYTE_SHIFT" "I" (.int 8))  : G_reqlen2 md l Z n0 f x mx z c0 c1 h0 0 0 [] h0 0 #[.val (.ref f), .val (.ref x), .val (.int mx)] [] := by
  obtain ⟨t, cd, vs, E, C, V, A, ⟨rfl, rfl, hb⟩ | ⟨rfl, rfl, hb⟩⟩ := G
  · skip
    have A' : Ary Z h0 t .byte [(.int c0.toInt8.toInt32), (.int c1.toInt8.toInt32)] := A
    refine Go.aloadN 1 d9_0 rfl rfl rfl ?_
    refine Go.nullN 4 d9_1 rfl ?_
    refine Go.aloadN 5 d9_4 rfl rfl rfl ?_
    refine Go.callV (S := []) (a := x) 8 [] d9_5 rfl rfl (w48 hw) (w49 hw) (w51 hw) (w50 hw) (fun _ q => notFace_of_selects (args := #[]) (mvT q (w51 hw))) (by decide) E (call_of_go (R := _) (len := 3) (W := 0) (plainFor_of_name pn_1) (fun mid => ef_isemp mid x t [(.int c0.toInt8.toInt32), (.int c1.toInt8.toInt32)] ) (c_isemp hw x t [(.int c0.toInt8.toInt32), (.int c1.toInt8.toInt32)] V A' (by show ¬ Int32.ofNat 2 = 0; decide)) (w52 hw) (w14 hw) (by decide) (by decide)) (lenOf pd_13 rfl) (Nat.le_of_ble_eq_true rfl) rfl (Nat.le_of_ble_eq_true rfl) (Nat.le_of_ble_eq_true rfl) (fun _ q => nomatch q) (fun v h_1 sf_2 hq => ?_)
    obtain ⟨rfl, rfl⟩ := hq
    refine Go.more (sf' := []) ?_ (Nat.le_refl _) (Nat.le_refl _) (fun _ q => List.mem_append_right _ q)
    show G_reqlen2 md l Z n0 f x mx z c0 c1 h0 0 0 [] h0 8 #[.val (.ref f), .val (.ref x), .val (.int mx)] [(.int (0 : Int32))]
    refine Go.ifN 11 d9_8 rfl (teq (by decide)).2 ?_
    refine Go.aloadN 12 d9_11 rfl rfl rfl ?_
    refine Go.iconst 13 (0 : Int32) d9_12 rfl rfl ?_
    refine Go.aloadN 14 d9_13 rfl rfl rfl ?_
    refine Go.callV (S := [(.int (0 : Int32)), (.ref x)]) (a := x) 17 [] d9_14 rfl rfl (w53 hw) (w54 hw) (w56 hw) (w55 hw) (fun _ q => notFace_of_selects (args := #[]) (mvT q (w56 hw))) (by decide) E (call_of_go (R := _) (len := 3) (W := 2) (plainFor_of_name pn_1) (fun mid => ef_glen mid x t z (0 : Int32) [(.int c0.toInt8.toInt32), (.int c1.toInt8.toInt32)] ) (c_glen hw x t z (0 : Int32) [(.int c0.toInt8.toInt32), (.int c1.toInt8.toInt32)] E C V A' rfl SC hz) (w57 hw) (w14 hw) (by decide) (by decide)) (lenOf pd_11 rfl) (Nat.le_of_ble_eq_true rfl) rfl (Nat.le_of_ble_eq_true rfl) (Nat.le_of_ble_eq_true rfl) (fun _ q => nomatch q) (fun v h_3 sf_4 hq => ?_)
    obtain ⟨rfl, rfl⟩ := hq
    rw [show (Int32.ofNat (List.length (α := Value) [(.int c0.toInt8.toInt32), (.int c1.toInt8.toInt32)])) >>> ((0 : Int32) &&& 31) = (2 : Int32) from by show Int32.ofNat 2 >>> ((0 : Int32) &&& 31) = (2 : Int32); decide]
    refine Go.more (sf' := []) ?_ (Nat.le_refl _) (Nat.le_refl _) (fun _ q => List.mem_append_right _ q)
    show G_reqlen2 md l Z n0 f x mx z c0 c1 h0 0 0 [] h0 17 #[.val (.ref f), .val (.ref x), .val (.int mx)] [(.int (2 : Int32)), (.int (0 : Int32)), (.ref x)]
    refine Go.callV (S := []) (a := x) 20 [(.int (0 : Int32)), (.int (2 : Int32))] d9_17 rfl rfl (w63 hw) (w64 hw) (w66 hw) (w65 hw) (fun _ q => notFace_of_selects (args := #[]) (mvT q (w66 hw))) (by decide) E (call_of_go (R := _) (len := 3) (W := 0) (plainFor_of_name pn_1) (fun mid => ef_cpp2_0 mid x t z c0 c1 ) (c_cpp2_0 hw x t z c0 c1 E C V A' b_c0 b_c1 SC hz UA UH UL) (w67 hw) (w14 hw) (by decide) (by decide)) (lenOf pd_15 rfl) (Nat.le_of_ble_eq_true rfl) rfl (Nat.le_of_ble_eq_true rfl) (Nat.le_of_ble_eq_true rfl) (fun _ q => nomatch q) (fun v h_5 sf_6 hq => ?_)
    obtain ⟨rfl, rfl⟩ := hq
    refine Go.more (sf' := []) ?_ (Nat.le_refl _) (Nat.le_refl _) (fun _ q => List.mem_append_right _ q)
    show G_reqlen2 md l Z n0 f x mx z c0 c1 h0 0 0 [] h0 20 #[.val (.ref f), .val (.ref x), .val (.int mx)] [(.int (2 : Int32))]
    refine Go.iloadN 21 d9_20 rfl rfl ?_
    refine Go.icmpY 39 d9_21 (by decide) (by decide) (flt (by rw [cpc_lat hb] at hm; exact hm)).2.2.2 ?_
    refine Go.aloadN 40 d9_39 rfl rfl rfl ?_
    exact Go.retA d9_40 rfl rfl rfl (sf' := []) (⟨rfl, rfl⟩) (fun _ q => nomatch q) (Nat.le_of_ble_eq_true rfl) (Nat.le_of_ble_eq_true rfl)
  · skip
    have A' : Ary Z h0 t .byte [(.int (lo16 c0)), (.int (hi16 c0)), (.int (lo16 c1)), (.int (hi16 c1))] := A
    refine Go.aloadN 1 d9_0 rfl rfl rfl ?_
    refine Go.nullN 4 d9_1 rfl ?_
    refine Go.aloadN 5 d9_4 rfl rfl rfl ?_
    refine Go.callV (S := []) (a := x) 8 [] d9_5 rfl rfl (w48 hw) (w49 hw) (w51 hw) (w50 hw) (fun _ q => notFace_of_selects (args := #[]) (mvT q (w51 hw))) (by decide) E (call_of_go (R := _) (len := 3) (W := 0) (plainFor_of_name pn_1) (fun mid => ef_isemp mid x t [(.int (lo16 c0)), (.int (hi16 c0)), (.int (lo16 c1)), (.int (hi16 c1))] ) (c_isemp hw x t [(.int (lo16 c0)), (.int (hi16 c0)), (.int (lo16 c1)), (.int (hi16 c1))] V A' (by show ¬ Int32.ofNat 4 = 0; decide)) (w52 hw) (w14 hw) (by decide) (by decide)) (lenOf pd_13 rfl) (Nat.le_of_ble_eq_true rfl) rfl (Nat.le_of_ble_eq_true rfl) (Nat.le_of_ble_eq_true rfl) (fun _ q => nomatch q) (fun v h_7 sf_8 hq => ?_)
    obtain ⟨rfl, rfl⟩ := hq
    refine Go.more (sf' := []) ?_ (Nat.le_refl _) (Nat.le_refl _) (fun _ q => List.mem_append_right _ q)
    show G_reqlen2 md l Z n0 f x mx z c0 c1 h0 0 0 [] h0 8 #[.val (.ref f), .val (.ref x), .val (.int mx)] [(.int (0 : Int32))]
    refine Go.ifN 11 d9_8 rfl (teq (by decide)).2 ?_
    refine Go.aloadN 12 d9_11 rfl rfl rfl ?_
    refine Go.iconst 13 (0 : Int32) d9_12 rfl rfl ?_
    refine Go.aloadN 14 d9_13 rfl rfl rfl ?_
    refine Go.callV (S := [(.int (0 : Int32)), (.ref x)]) (a := x) 17 [] d9_14 rfl rfl (w53 hw) (w54 hw) (w56 hw) (w55 hw) (fun _ q => notFace_of_selects (args := #[]) (mvT q (w56 hw))) (by decide) E (call_of_go (R := _) (len := 3) (W := 2) (plainFor_of_name pn_1) (fun mid => ef_glen mid x t z (1 : Int32) [(.int (lo16 c0)), (.int (hi16 c0)), (.int (lo16 c1)), (.int (hi16 c1))] ) (c_glen hw x t z (1 : Int32) [(.int (lo16 c0)), (.int (hi16 c0)), (.int (lo16 c1)), (.int (hi16 c1))] E C V A' rfl SC hz) (w57 hw) (w14 hw) (by decide) (by decide)) (lenOf pd_11 rfl) (Nat.le_of_ble_eq_true rfl) rfl (Nat.le_of_ble_eq_true rfl) (Nat.le_of_ble_eq_true rfl) (fun _ q => nomatch q) (fun v h_9 sf_10 hq => ?_)
    obtain ⟨rfl, rfl⟩ := hq
    rw [show (Int32.ofNat (List.length (α := Value) [(.int (lo16 c0)), (.int (hi16 c0)), (.int (lo16 c1)), (.int (hi16 c1))])) >>> ((1 : Int32) &&& 31) = (2 : Int32) from by show Int32.ofNat 4 >>> ((1 : Int32) &&& 31) = (2 : Int32); decide]
    refine Go.more (sf' := []) ?_ (Nat.le_refl _) (Nat.le_refl _) (fun _ q => List.mem_append_right _ q)
    show G_reqlen2 md l Z n0 f x mx z c0 c1 h0 0 0 [] h0 17 #[.val (.ref f), .val (.ref x), .val (.int mx)] [(.int (2 : Int32)), (.int (0 : Int32)), (.ref x)]
    refine Go.callV (S := []) (a := x) 20 [(.int (0 : Int32)), (.int (2 : Int32))] d9_17 rfl rfl (w63 hw) (w64 hw) (w66 hw) (w65 hw) (fun _ q => notFace_of_selects (args := #[]) (mvT q (w66 hw))) (by decide) E (call_of_go (R := _) (len := 3) (W := 0) (plainFor_of_name pn_1) (fun mid => ef_cpp2_1 mid x t z c0 c1 ) (c_cpp2_1 hw x t z c0 c1 E C V A' b_c0 b_c1 SC hz UA UH UL) (w67 hw) (w14 hw) (by decide) (by decide)) (lenOf pd_15 rfl) (Nat.le_of_ble_eq_true rfl) rfl (Nat.le_of_ble_eq_true rfl) (Nat.le_of_ble_eq_true rfl) (fun _ q => nomatch q) (fun v h_11 sf_12 hq => ?_)
    obtain ⟨rfl, rfl⟩ := hq
    refine Go.more (sf' := []) ?_ (Nat.le_refl _) (Nat.le_refl _) (fun _ q => List.mem_append_right _ q)
    show G_reqlen2 md l Z n0 f x mx z c0 c1 h0 0 0 [] h0 20 #[.val (.ref f), .val (.ref x), .val (.int mx)] [(.int (cpc (2 : Int32) [c0, c1]))]
    refine Go.iloadN 21 d9_20 rfl rfl ?_
    refine Go.icmpY 39 d9_21 (by decide) (by decide) (flt hm).2.2.2 ?_
    refine Go.aloadN 40 d9_39 rfl rfl rfl ?_
    exact Go.retA d9_40 rfl rfl rfl (sf' := []) (⟨rfl, rfl⟩) (fun _ q => nomatch q) (Nat.le_of_ble_eq_true rfl) (Nat.le_of_ble_eq_true rfl)
abbrev G_cpc4_3 (md : Md) (l : Launch) (Z : State) (n0 : Nat) (b : Addr) (c0 c1 c2 : Int32) (h0 : Heap) := Go md l Z n0 ({ frames := 1, cells := 0, slots := 0, locals := 13 } : Room) jdk_52_method_11_code 6 (some .int) "java/lang/StringUTF16" "codePointCount" (fun v h' _ => h0 = h' ∧ v = some (.int (cpc (3 : Int32) [c0, c1, c2])))
theorem ef_cpc4_3 (mid : MethodId) (b : Addr) (c0 c1 c2 : Int32)  : entryFrame mid #[(.ref b), (.int (0 : Int32)), (.int (3 : Int32)), (.int (0 : Int32))] 6 = mkF mid 0 #[.val (.ref b), .val (.int (0 : Int32)), .val (.int (3 : Int32)), .val (.int (0 : Int32)), .unset, .unset] [] := by first | (simp [entryFrame, mkF, argsToLocals, Value.category]; done) | rfl
set_option maxRecDepth 65536 in
set_option maxHeartbeats 40000000 in
theorem c_cpc4_3 {md : Md} {l : Launch} {Z : State} {n0 : Nat} {a0 : Array Value} (hw : HW a0 Z) (b : Addr) (c0 c1 c2 : Int32) {h0 : Heap} (A : Ary Z h0 b .byte [(.int (lo16 c0)), (.int (hi16 c0)), (.int (lo16 c1)), (.int (hi16 c1)), (.int (lo16 c2)), (.int (hi16 c2))]) (b_c0 : CHP c0) (b_c1 : CHP c1) (b_c2 : CHP c2) (UA : Sta Z Z.heap "java/lang/StringUTF16" "$assertionsDisabled" "Z" (.int 1)) (UH : Sta Z Z.heap "java/lang/StringUTF16" "HI_BYTE_SHIFT" "I" (.int 0)) (UL : Sta Z Z.heap "java/lang/StringUTF16" "LO_BYTE_SHIFT" "I" (.int 8))  : G_cpc4_3 md l Z n0 b c0 c1 c2 h0 0 0 [] h0 0 #[.val (.ref b), .val (.int (0 : Int32)), .val (.int (3 : Int32)), .val (.int (0 : Int32)), .unset, .unset] [] := by
  refine Go.getS 3 d24_0 rfl (w99 hw) Via.refl UA ?_
  refine Go.ifY 19 d24_3 (by decide) (by decide) (feq (by decide)).2 ?_
  refine Go.iloadN 20 d24_19 rfl rfl ?_
  refine Go.iloadN 21 d24_20 rfl rfl ?_
  refine Go.isub 22 d24_21 rfl ?_
  rw [show ((3 : Int32) - (0 : Int32)) = (3 : Int32) from by decide]
  refine Go.istore 24 #[.val (.ref b), .val (.int (0 : Int32)), .val (.int (3 : Int32)), .val (.int (0 : Int32)), .val (.int (3 : Int32)), .unset] d24_22 rfl rfl ?_
  refine Go.iloadN 25 d24_24 rfl rfl ?_
  refine Go.istore 27 #[.val (.ref b), .val (.int (0 : Int32)), .val (.int (3 : Int32)), .val (.int (0 : Int32)), .val (.int (3 : Int32)), .val (.int (0 : Int32))] d24_25 rfl rfl ?_
  refine Go.iloadN 28 d24_27 rfl rfl ?_
  refine Go.ifY 44 d24_28 (by decide) (by decide) (teq (by decide)).1 ?_
  refine Go.iload 46 d24_44 rfl rfl ?_
  refine Go.iloadN 47 d24_46 rfl rfl ?_
  refine Go.iconst 48 (1 : Int32) d24_47 rfl rfl ?_
  refine Go.isub 49 d24_48 rfl ?_
  rw [show ((3 : Int32) - (1 : Int32)) = (2 : Int32) from by decide]
  refine Go.icmpN 52 d24_49 rfl (tlt (by decide)).2.1 ?_
  refine Go.aloadN 53 d24_52 rfl rfl rfl ?_
  refine Go.iload 55 d24_53 rfl rfl ?_
  refine Go.iinc 58 #[.val (.ref b), .val (.int (0 : Int32)), .val (.int (3 : Int32)), .val (.int (0 : Int32)), .val (.int (3 : Int32)), .val (.int ((0 : Int32) + (1 : Int32)))] (1 : Int32) d24_55 rfl rfl rfl rfl ?_
  rw [show ((0 : Int32) + (1 : Int32)) = (1 : Int32) from by decide]
  refine Go.callS (S := []) 61 [(.ref b), (.int (0 : Int32))] d24_58 rfl rfl (w102 hw) (w103 hw) (w28 hw) (w104 hw) (by decide) (call_of_go (R := _) (len := 3) (W := 0) (plainFor_of_name pn_0) (fun mid => ef_getc0 mid b (lo16 c0) (hi16 c0) [(.int (lo16 c0)), (.int (hi16 c0)), (.int (lo16 c1)), (.int (hi16 c1)), (.int (lo16 c2)), (.int (hi16 c2))] ) (c_getc0 hw b (lo16 c0) (hi16 c0) [(.int (lo16 c0)), (.int (hi16 c0)), (.int (lo16 c1)), (.int (hi16 c1)), (.int (lo16 c2)), (.int (hi16 c2))] A rfl rfl UA UH UL) (w104 hw) (w28 hw) (by decide) (by decide)) (lenOf pd_5 rfl) (Nat.le_of_ble_eq_true rfl) rfl (Nat.le_of_ble_eq_true rfl) (Nat.le_of_ble_eq_true rfl) (fun _ q => nomatch q) (fun v h_1 sf_2 hq => ?_)
  obtain ⟨rfl, rfl⟩ := hq
  rw [rt16 b_c0]
  refine Go.more (sf' := []) ?_ (Nat.le_refl _) (Nat.le_refl _) (fun _ q => List.mem_append_right _ q)
  show G_cpc4_3 md l Z n0 b c0 c1 c2 h0 0 0 [] h0 61 #[.val (.ref b), .val (.int (0 : Int32)), .val (.int (3 : Int32)), .val (.int (0 : Int32)), .val (.int (3 : Int32)), .val (.int (1 : Int32))] [(.int c0)]
  refine Go.callS (S := []) 64 [(.int c0)] d24_61 rfl rfl (w111 hw) (w112 hw) (w113 hw) (w114 hw) (by decide) (call_of_go (R := _) (len := 3) (W := 0) pf_0 (fun mid => ef_ishs mid c0 ) (c_ishs hw c0 ) (w114 hw) (w113 hw) (by decide) (by decide)) (lenOf pd_16 rfl) (Nat.le_of_ble_eq_true rfl) rfl (Nat.le_of_ble_eq_true rfl) (Nat.le_of_ble_eq_true rfl) (fun _ q => nomatch q) (fun v h_3 sf_4 hq => ?_)
  obtain ⟨rfl, r, rfl, ⟨rfl, hh_0⟩ | ⟨rfl, hh_0⟩⟩ := hq
  · skip
    refine Go.more (sf' := []) ?_ (Nat.le_refl _) (Nat.le_refl _) (fun _ q => List.mem_append_right _ q)
    show G_cpc4_3 md l Z n0 b c0 c1 c2 h0 0 0 [] h0 64 #[.val (.ref b), .val (.int (0 : Int32)), .val (.int (3 : Int32)), .val (.int (0 : Int32)), .val (.int (3 : Int32)), .val (.int (1 : Int32))] [(.int (1 : Int32))]
    refine Go.ifN 67 d24_64 rfl (feq (by decide)).1 ?_
    refine Go.aloadN 68 d24_67 rfl rfl rfl ?_
    refine Go.iload 70 d24_68 rfl rfl ?_
    refine Go.callS (S := []) 73 [(.ref b), (.int (1 : Int32))] d24_70 rfl rfl (w102 hw) (w103 hw) (w28 hw) (w104 hw) (by decide) (call_of_go (R := _) (len := 3) (W := 0) (plainFor_of_name pn_0) (fun mid => ef_getc1 mid b (lo16 c1) (hi16 c1) [(.int (lo16 c0)), (.int (hi16 c0)), (.int (lo16 c1)), (.int (hi16 c1)), (.int (lo16 c2)), (.int (hi16 c2))] ) (c_getc1 hw b (lo16 c1) (hi16 c1) [(.int (lo16 c0)), (.int (hi16 c0)), (.int (lo16 c1)), (.int (hi16 c1)), (.int (lo16 c2)), (.int (hi16 c2))] A rfl rfl UA UH UL) (w104 hw) (w28 hw) (by decide) (by decide)) (lenOf pd_5 rfl) (Nat.le_of_ble_eq_true rfl) rfl (Nat.le_of_ble_eq_true rfl) (Nat.le_of_ble_eq_true rfl) (fun _ q => nomatch q) (fun v h_5 sf_6 hq => ?_)
    obtain ⟨rfl, rfl⟩ := hq
    rw [rt16 b_c1]
    refine Go.more (sf' := []) ?_ (Nat.le_refl _) (Nat.le_refl _) (fun _ q => List.mem_append_right _ q)
    show G_cpc4_3 md l Z n0 b c0 c1 c2 h0 0 0 [] h0 73 #[.val (.ref b), .val (.int (0 : Int32)), .val (.int (3 : Int32)), .val (.int (0 : Int32)), .val (.int (3 : Int32)), .val (.int (1 : Int32))] [(.int c1)]
    refine Go.callS (S := []) 76 [(.int c1)] d24_73 rfl rfl (w117 hw) (w118 hw) (w113 hw) (w119 hw) (by decide) (call_of_go (R := _) (len := 3) (W := 0) pf_1 (fun mid => ef_isls mid c1 ) (c_isls hw c1 ) (w119 hw) (w113 hw) (by decide) (by decide)) (lenOf pd_16 rfl) (Nat.le_of_ble_eq_true rfl) rfl (Nat.le_of_ble_eq_true rfl) (Nat.le_of_ble_eq_true rfl) (fun _ q => nomatch q) (fun v h_7 sf_8 hq => ?_)
    obtain ⟨rfl, r, rfl, ⟨rfl, hl_1⟩ | ⟨rfl, hl_1⟩⟩ := hq
    · skip
      refine Go.more (sf' := []) ?_ (Nat.le_refl _) (Nat.le_refl _) (fun _ q => List.mem_append_right _ q)
      show G_cpc4_3 md l Z n0 b c0 c1 c2 h0 0 0 [] h0 76 #[.val (.ref b), .val (.int (0 : Int32)), .val (.int (3 : Int32)), .val (.int (0 : Int32)), .val (.int (3 : Int32)), .val (.int (1 : Int32))] [(.int (1 : Int32))]
      refine Go.ifN 79 d24_76 rfl (feq (by decide)).1 ?_
      refine Go.iinc 82 #[.val (.ref b), .val (.int (0 : Int32)), .val (.int (3 : Int32)), .val (.int (0 : Int32)), .val (.int ((3 : Int32) + (-1 : Int32))), .val (.int (1 : Int32))] (-1 : Int32) d24_79 rfl rfl rfl rfl ?_
      rw [show ((3 : Int32) + (-1 : Int32)) = (2 : Int32) from by decide]
      refine Go.iinc 85 #[.val (.ref b), .val (.int (0 : Int32)), .val (.int (3 : Int32)), .val (.int (0 : Int32)), .val (.int (2 : Int32)), .val (.int ((1 : Int32) + (1 : Int32)))] (1 : Int32) d24_82 rfl rfl rfl rfl ?_
      rw [show ((1 : Int32) + (1 : Int32)) = (2 : Int32) from by decide]
      refine Go.goto 44 d24_85 (by decide) (by decide) ?_
      refine Go.iload 46 d24_44 rfl rfl ?_
      refine Go.iloadN 47 d24_46 rfl rfl ?_
      refine Go.iconst 48 (1 : Int32) d24_47 rfl rfl ?_
      refine Go.isub 49 d24_48 rfl ?_
      rw [show ((3 : Int32) - (1 : Int32)) = (2 : Int32) from by decide]
      refine Go.icmpY 88 d24_49 (by decide) (by decide) (flt (by decide)).2.1 ?_
      refine Go.iload 90 d24_88 rfl rfl ?_
      exact Go.retI d24_90 rfl (sf' := []) (⟨rfl, by simp [cpc, hh_0, hl_1] <;> rfl⟩) (fun _ q => nomatch q) (Nat.le_of_ble_eq_true rfl) (Nat.le_of_ble_eq_true rfl)
    · skip
      refine Go.more (sf' := []) ?_ (Nat.le_refl _) (Nat.le_refl _) (fun _ q => List.mem_append_right _ q)
      show G_cpc4_3 md l Z n0 b c0 c1 c2 h0 0 0 [] h0 76 #[.val (.ref b), .val (.int (0 : Int32)), .val (.int (3 : Int32)), .val (.int (0 : Int32)), .val (.int (3 : Int32)), .val (.int (1 : Int32))] [(.int (0 : Int32))]
      refine Go.ifY 44 d24_76 (by decide) (by decide) (teq (by decide)).1 ?_
      refine Go.iload 46 d24_44 rfl rfl ?_
      refine Go.iloadN 47 d24_46 rfl rfl ?_
      refine Go.iconst 48 (1 : Int32) d24_47 rfl rfl ?_
      refine Go.isub 49 d24_48 rfl ?_
      rw [show ((3 : Int32) - (1 : Int32)) = (2 : Int32) from by decide]
      refine Go.icmpN 52 d24_49 rfl (tlt (by decide)).2.1 ?_
      refine Go.aloadN 53 d24_52 rfl rfl rfl ?_
      refine Go.iload 55 d24_53 rfl rfl ?_
      refine Go.iinc 58 #[.val (.ref b), .val (.int (0 : Int32)), .val (.int (3 : Int32)), .val (.int (0 : Int32)), .val (.int (3 : Int32)), .val (.int ((1 : Int32) + (1 : Int32)))] (1 : Int32) d24_55 rfl rfl rfl rfl ?_
      rw [show ((1 : Int32) + (1 : Int32)) = (2 : Int32) from by decide]
      refine Go.callS (S := []) 61 [(.ref b), (.int (1 : Int32))] d24_58 rfl rfl (w102 hw) (w103 hw) (w28 hw) (w104 hw) (by decide) (call_of_go (R := _) (len := 3) (W := 0) (plainFor_of_name pn_0) (fun mid => ef_getc1 mid b (lo16 c1) (hi16 c1) [(.int (lo16 c0)), (.int (hi16 c0)), (.int (lo16 c1)), (.int (hi16 c1)), (.int (lo16 c2)), (.int (hi16 c2))] ) (c_getc1 hw b (lo16 c1) (hi16 c1) [(.int (lo16 c0)), (.int (hi16 c0)), (.int (lo16 c1)), (.int (hi16 c1)), (.int (lo16 c2)), (.int (hi16 c2))] A rfl rfl UA UH UL) (w104 hw) (w28 hw) (by decide) (by decide)) (lenOf pd_5 rfl) (Nat.le_of_ble_eq_true rfl) rfl (Nat.le_of_ble_eq_true rfl) (Nat.le_of_ble_eq_true rfl) (fun _ q => nomatch q) (fun v h_9 sf_10 hq => ?_)
      obtain ⟨rfl, rfl⟩ := hq
      rw [rt16 b_c1]
      refine Go.more (sf' := []) ?_ (Nat.le_refl _) (Nat.le_refl _) (fun _ q => List.mem_append_right _ q)
      show G_cpc4_3 md l Z n0 b c0 c1 c2 h0 0 0 [] h0 61 #[.val (.ref b), .val (.int (0 : Int32)), .val (.int (3 : Int32)), .val (.int (0 : Int32)), .val (.int (3 : Int32)), .val (.int (2 : Int32))] [(.int c1)]
      refine Go.callS (S := []) 64 [(.int c1)] d24_61 rfl rfl (w111 hw) (w112 hw) (w113 hw) (w114 hw) (by decide) (call_of_go (R := _) (len := 3) (W := 0) pf_0 (fun mid => ef_ishs mid c1 ) (c_ishs hw c1 ) (w114 hw) (w113 hw) (by decide) (by decide)) (lenOf pd_16 rfl) (Nat.le_of_ble_eq_true rfl) rfl (Nat.le_of_ble_eq_true rfl) (Nat.le_of_ble_eq_true rfl) (fun _ q => nomatch q) (fun v h_11 sf_12 hq => ?_)
      obtain ⟨rfl, r, rfl, ⟨rfl, hh_1⟩ | ⟨rfl, hh_1⟩⟩ := hq
      · skip
        refine Go.more (sf' := []) ?_ (Nat.le_refl _) (Nat.le_refl _) (fun _ q => List.mem_append_right _ q)
        show G_cpc4_3 md l Z n0 b c0 c1 c2 h0 0 0 [] h0 64 #[.val (.ref b), .val (.int (0 : Int32)), .val (.int (3 : Int32)), .val (.int (0 : Int32)), .val (.int (3 : Int32)), .val (.int (2 : Int32))] [(.int (1 : Int32))]
        refine Go.ifN 67 d24_64 rfl (feq (by decide)).1 ?_
        refine Go.aloadN 68 d24_67 rfl rfl rfl ?_
        refine Go.iload 70 d24_68 rfl rfl ?_
        refine Go.callS (S := []) 73 [(.ref b), (.int (2 : Int32))] d24_70 rfl rfl (w102 hw) (w103 hw) (w28 hw) (w104 hw) (by decide) (call_of_go (R := _) (len := 3) (W := 0) (plainFor_of_name pn_0) (fun mid => ef_getc2 mid b (lo16 c2) (hi16 c2) [(.int (lo16 c0)), (.int (hi16 c0)), (.int (lo16 c1)), (.int (hi16 c1)), (.int (lo16 c2)), (.int (hi16 c2))] ) (c_getc2 hw b (lo16 c2) (hi16 c2) [(.int (lo16 c0)), (.int (hi16 c0)), (.int (lo16 c1)), (.int (hi16 c1)), (.int (lo16 c2)), (.int (hi16 c2))] A rfl rfl UA UH UL) (w104 hw) (w28 hw) (by decide) (by decide)) (lenOf pd_5 rfl) (Nat.le_of_ble_eq_true rfl) rfl (Nat.le_of_ble_eq_true rfl) (Nat.le_of_ble_eq_true rfl) (fun _ q => nomatch q) (fun v h_13 sf_14 hq => ?_)
        obtain ⟨rfl, rfl⟩ := hq
        rw [rt16 b_c2]
        refine Go.more (sf' := []) ?_ (Nat.le_refl _) (Nat.le_refl _) (fun _ q => List.mem_append_right _ q)
        show G_cpc4_3 md l Z n0 b c0 c1 c2 h0 0 0 [] h0 73 #[.val (.ref b), .val (.int (0 : Int32)), .val (.int (3 : Int32)), .val (.int (0 : Int32)), .val (.int (3 : Int32)), .val (.int (2 : Int32))] [(.int c2)]
        refine Go.callS (S := []) 76 [(.int c2)] d24_73 rfl rfl (w117 hw) (w118 hw) (w113 hw) (w119 hw) (by decide) (call_of_go (R := _) (len := 3) (W := 0) pf_1 (fun mid => ef_isls mid c2 ) (c_isls hw c2 ) (w119 hw) (w113 hw) (by decide) (by decide)) (lenOf pd_16 rfl) (Nat.le_of_ble_eq_true rfl) rfl (Nat.le_of_ble_eq_true rfl) (Nat.le_of_ble_eq_true rfl) (fun _ q => nomatch q) (fun v h_15 sf_16 hq => ?_)
        obtain ⟨rfl, r, rfl, ⟨rfl, hl_2⟩ | ⟨rfl, hl_2⟩⟩ := hq
        · skip
          refine Go.more (sf' := []) ?_ (Nat.le_refl _) (Nat.le_refl _) (fun _ q => List.mem_append_right _ q)
          show G_cpc4_3 md l Z n0 b c0 c1 c2 h0 0 0 [] h0 76 #[.val (.ref b), .val (.int (0 : Int32)), .val (.int (3 : Int32)), .val (.int (0 : Int32)), .val (.int (3 : Int32)), .val (.int (2 : Int32))] [(.int (1 : Int32))]
          refine Go.ifN 79 d24_76 rfl (feq (by decide)).1 ?_
          refine Go.iinc 82 #[.val (.ref b), .val (.int (0 : Int32)), .val (.int (3 : Int32)), .val (.int (0 : Int32)), .val (.int ((3 : Int32) + (-1 : Int32))), .val (.int (2 : Int32))] (-1 : Int32) d24_79 rfl rfl rfl rfl ?_
          rw [show ((3 : Int32) + (-1 : Int32)) = (2 : Int32) from by decide]
          refine Go.iinc 85 #[.val (.ref b), .val (.int (0 : Int32)), .val (.int (3 : Int32)), .val (.int (0 : Int32)), .val (.int (2 : Int32)), .val (.int ((2 : Int32) + (1 : Int32)))] (1 : Int32) d24_82 rfl rfl rfl rfl ?_
          rw [show ((2 : Int32) + (1 : Int32)) = (3 : Int32) from by decide]
          refine Go.goto 44 d24_85 (by decide) (by decide) ?_
          refine Go.iload 46 d24_44 rfl rfl ?_
          refine Go.iloadN 47 d24_46 rfl rfl ?_
          refine Go.iconst 48 (1 : Int32) d24_47 rfl rfl ?_
          refine Go.isub 49 d24_48 rfl ?_
          rw [show ((3 : Int32) - (1 : Int32)) = (2 : Int32) from by decide]
          refine Go.icmpY 88 d24_49 (by decide) (by decide) (flt (by decide)).2.1 ?_
          refine Go.iload 90 d24_88 rfl rfl ?_
          exact Go.retI d24_90 rfl (sf' := []) (⟨rfl, by simp [cpc, hh_0, hl_1, hh_1, hl_2] <;> rfl⟩) (fun _ q => nomatch q) (Nat.le_of_ble_eq_true rfl) (Nat.le_of_ble_eq_true rfl)
        · skip
          refine Go.more (sf' := []) ?_ (Nat.le_refl _) (Nat.le_refl _) (fun _ q => List.mem_append_right _ q)
          show G_cpc4_3 md l Z n0 b c0 c1 c2 h0 0 0 [] h0 76 #[.val (.ref b), .val (.int (0 : Int32)), .val (.int (3 : Int32)), .val (.int (0 : Int32)), .val (.int (3 : Int32)), .val (.int (2 : Int32))] [(.int (0 : Int32))]
          refine Go.ifY 44 d24_76 (by decide) (by decide) (teq (by decide)).1 ?_
          refine Go.iload 46 d24_44 rfl rfl ?_
          refine Go.iloadN 47 d24_46 rfl rfl ?_
          refine Go.iconst 48 (1 : Int32) d24_47 rfl rfl ?_
          refine Go.isub 49 d24_48 rfl ?_
          rw [show ((3 : Int32) - (1 : Int32)) = (2 : Int32) from by decide]
          refine Go.icmpY 88 d24_49 (by decide) (by decide) (flt (by decide)).2.1 ?_
          refine Go.iload 90 d24_88 rfl rfl ?_
          exact Go.retI d24_90 rfl (sf' := []) (⟨rfl, by simp [cpc, hh_0, hl_1, hh_1, hl_2] <;> rfl⟩) (fun _ q => nomatch q) (Nat.le_of_ble_eq_true rfl) (Nat.le_of_ble_eq_true rfl)
      · skip
        refine Go.more (sf' := []) ?_ (Nat.le_refl _) (Nat.le_refl _) (fun _ q => List.mem_append_right _ q)
        show G_cpc4_3 md l Z n0 b c0 c1 c2 h0 0 0 [] h0 64 #[.val (.ref b), .val (.int (0 : Int32)), .val (.int (3 : Int32)), .val (.int (0 : Int32)), .val (.int (3 : Int32)), .val (.int (2 : Int32))] [(.int (0 : Int32))]
        refine Go.ifY 44 d24_64 (by decide) (by decide) (teq (by decide)).1 ?_
        refine Go.iload 46 d24_44 rfl rfl ?_
        refine Go.iloadN 47 d24_46 rfl rfl ?_
        refine Go.iconst 48 (1 : Int32) d24_47 rfl rfl ?_
        refine Go.isub 49 d24_48 rfl ?_
        rw [show ((3 : Int32) - (1 : Int32)) = (2 : Int32) from by decide]
        refine Go.icmpY 88 d24_49 (by decide) (by decide) (flt (by decide)).2.1 ?_
        refine Go.iload 90 d24_88 rfl rfl ?_
        exact Go.retI d24_90 rfl (sf' := []) (⟨rfl, by simp [cpc, hh_0, hl_1, hh_1] <;> rfl⟩) (fun _ q => nomatch q) (Nat.le_of_ble_eq_true rfl) (Nat.le_of_ble_eq_true rfl)
  · skip
    refine Go.more (sf' := []) ?_ (Nat.le_refl _) (Nat.le_refl _) (fun _ q => List.mem_append_right _ q)
    show G_cpc4_3 md l Z n0 b c0 c1 c2 h0 0 0 [] h0 64 #[.val (.ref b), .val (.int (0 : Int32)), .val (.int (3 : Int32)), .val (.int (0 : Int32)), .val (.int (3 : Int32)), .val (.int (1 : Int32))] [(.int (0 : Int32))]
    refine Go.ifY 44 d24_64 (by decide) (by decide) (teq (by decide)).1 ?_
    refine Go.iload 46 d24_44 rfl rfl ?_
    refine Go.iloadN 47 d24_46 rfl rfl ?_
    refine Go.iconst 48 (1 : Int32) d24_47 rfl rfl ?_
    refine Go.isub 49 d24_48 rfl ?_
    rw [show ((3 : Int32) - (1 : Int32)) = (2 : Int32) from by decide]
    refine Go.icmpN 52 d24_49 rfl (tlt (by decide)).2.1 ?_
    refine Go.aloadN 53 d24_52 rfl rfl rfl ?_
    refine Go.iload 55 d24_53 rfl rfl ?_
    refine Go.iinc 58 #[.val (.ref b), .val (.int (0 : Int32)), .val (.int (3 : Int32)), .val (.int (0 : Int32)), .val (.int (3 : Int32)), .val (.int ((1 : Int32) + (1 : Int32)))] (1 : Int32) d24_55 rfl rfl rfl rfl ?_
    rw [show ((1 : Int32) + (1 : Int32)) = (2 : Int32) from by decide]
    refine Go.callS (S := []) 61 [(.ref b), (.int (1 : Int32))] d24_58 rfl rfl (w102 hw) (w103 hw) (w28 hw) (w104 hw) (by decide) (call_of_go (R := _) (len := 3) (W := 0) (plainFor_of_name pn_0) (fun mid => ef_getc1 mid b (lo16 c1) (hi16 c1) [(.int (lo16 c0)), (.int (hi16 c0)), (.int (lo16 c1)), (.int (hi16 c1)), (.int (lo16 c2)), (.int (hi16 c2))] ) (c_getc1 hw b (lo16 c1) (hi16 c1) [(.int (lo16 c0)), (.int (hi16 c0)), (.int (lo16 c1)), (.int (hi16 c1)), (.int (lo16 c2)), (.int (hi16 c2))] A rfl rfl UA UH UL) (w104 hw) (w28 hw) (by decide) (by decide)) (lenOf pd_5 rfl) (Nat.le_of_ble_eq_true rfl) rfl (Nat.le_of_ble_eq_true rfl) (Nat.le_of_ble_eq_true rfl) (fun _ q => nomatch q) (fun v h_17 sf_18 hq => ?_)
    obtain ⟨rfl, rfl⟩ := hq
    rw [rt16 b_c1]
    refine Go.more (sf' := []) ?_ (Nat.le_refl _) (Nat.le_refl _) (fun _ q => List.mem_append_right _ q)
    show G_cpc4_3 md l Z n0 b c0 c1 c2 h0 0 0 [] h0 61 #[.val (.ref b), .val (.int (0 : Int32)), .val (.int (3 : Int32)), .val (.int (0 : Int32)), .val (.int (3 : Int32)), .val (.int (2 : Int32))] [(.int c1)]
    refine Go.callS (S := []) 64 [(.int c1)] d24_61 rfl rfl (w111 hw) (w112 hw) (w113 hw) (w114 hw) (by decide) (call_of_go (R := _) (len := 3) (W := 0) pf_0 (fun mid => ef_ishs mid c1 ) (c_ishs hw c1 ) (w114 hw) (w113 hw) (by decide) (by decide)) (lenOf pd_16 rfl) (Nat.le_of_ble_eq_true rfl) rfl (Nat.le_of_ble_eq_true rfl) (Nat.le_of_ble_eq_true rfl) (fun _ q => nomatch q) (fun v h_19 sf_20 hq => ?_)
    obtain ⟨rfl, r, rfl, ⟨rfl, hh_1⟩ | ⟨rfl, hh_1⟩⟩ := hq
    · skip
      refine Go.more (sf' := []) ?_ (Nat.le_refl _) (Nat.le_refl _) (fun _ q => List.mem_append_right _ q)
      show G_cpc4_3 md l Z n0 b c0 c1 c2 h0 0 0 [] h0 64 #[.val (.ref b), .val (.int (0 : Int32)), .val (.int (3 : Int32)), .val (.int (0 : Int32)), .val (.int (3 : Int32)), .val (.int (2 : Int32))] [(.int (1 : Int32))]
      refine Go.ifN 67 d24_64 rfl (feq (by decide)).1 ?_
      refine Go.aloadN 68 d24_67 rfl rfl rfl ?_
      refine Go.iload 70 d24_68 rfl rfl ?_
      refine Go.callS (S := []) 73 [(.ref b), (.int (2 : Int32))] d24_70 rfl rfl (w102 hw) (w103 hw) (w28 hw) (w104 hw) (by decide) (call_of_go (R := _) (len := 3) (W := 0) (plainFor_of_name pn_0) (fun mid => ef_getc2 mid b (lo16 c2) (hi16 c2) [(.int (lo16 c0)), (.int (hi16 c0)), (.int (lo16 c1)), (.int (hi16 c1)), (.int (lo16 c2)), (.int (hi16 c2))] ) (c_getc2 hw b (lo16 c2) (hi16 c2) [(.int (lo16 c0)), (.int (hi16 c0)), (.int (lo16 c1)), (.int (hi16 c1)), (.int (lo16 c2)), (.int (hi16 c2))] A rfl rfl UA UH UL) (w104 hw) (w28 hw) (by decide) (by decide)) (lenOf pd_5 rfl) (Nat.le_of_ble_eq_true rfl) rfl (Nat.le_of_ble_eq_true rfl) (Nat.le_of_ble_eq_true rfl) (fun _ q => nomatch q) (fun v h_21 sf_22 hq => ?_)
      obtain ⟨rfl, rfl⟩ := hq
      rw [rt16 b_c2]
      refine Go.more (sf' := []) ?_ (Nat.le_refl _) (Nat.le_refl _) (fun _ q => List.mem_append_right _ q)
      show G_cpc4_3 md l Z n0 b c0 c1 c2 h0 0 0 [] h0 73 #[.val (.ref b), .val (.int (0 : Int32)), .val (.int (3 : Int32)), .val (.int (0 : Int32)), .val (.int (3 : Int32)), .val (.int (2 : Int32))] [(.int c2)]
      refine Go.callS (S := []) 76 [(.int c2)] d24_73 rfl rfl (w117 hw) (w118 hw) (w113 hw) (w119 hw) (by decide) (call_of_go (R := _) (len := 3) (W := 0) pf_1 (fun mid => ef_isls mid c2 ) (c_isls hw c2 ) (w119 hw) (w113 hw) (by decide) (by decide)) (lenOf pd_16 rfl) (Nat.le_of_ble_eq_true rfl) rfl (Nat.le_of_ble_eq_true rfl) (Nat.le_of_ble_eq_true rfl) (fun _ q => nomatch q) (fun v h_23 sf_24 hq => ?_)
      obtain ⟨rfl, r, rfl, ⟨rfl, hl_2⟩ | ⟨rfl, hl_2⟩⟩ := hq
      · skip
        refine Go.more (sf' := []) ?_ (Nat.le_refl _) (Nat.le_refl _) (fun _ q => List.mem_append_right _ q)
        show G_cpc4_3 md l Z n0 b c0 c1 c2 h0 0 0 [] h0 76 #[.val (.ref b), .val (.int (0 : Int32)), .val (.int (3 : Int32)), .val (.int (0 : Int32)), .val (.int (3 : Int32)), .val (.int (2 : Int32))] [(.int (1 : Int32))]
        refine Go.ifN 79 d24_76 rfl (feq (by decide)).1 ?_
        refine Go.iinc 82 #[.val (.ref b), .val (.int (0 : Int32)), .val (.int (3 : Int32)), .val (.int (0 : Int32)), .val (.int ((3 : Int32) + (-1 : Int32))), .val (.int (2 : Int32))] (-1 : Int32) d24_79 rfl rfl rfl rfl ?_
        rw [show ((3 : Int32) + (-1 : Int32)) = (2 : Int32) from by decide]
        refine Go.iinc 85 #[.val (.ref b), .val (.int (0 : Int32)), .val (.int (3 : Int32)), .val (.int (0 : Int32)), .val (.int (2 : Int32)), .val (.int ((2 : Int32) + (1 : Int32)))] (1 : Int32) d24_82 rfl rfl rfl rfl ?_
        rw [show ((2 : Int32) + (1 : Int32)) = (3 : Int32) from by decide]
        refine Go.goto 44 d24_85 (by decide) (by decide) ?_
        refine Go.iload 46 d24_44 rfl rfl ?_
        refine Go.iloadN 47 d24_46 rfl rfl ?_
        refine Go.iconst 48 (1 : Int32) d24_47 rfl rfl ?_
        refine Go.isub 49 d24_48 rfl ?_
        rw [show ((3 : Int32) - (1 : Int32)) = (2 : Int32) from by decide]
        refine Go.icmpY 88 d24_49 (by decide) (by decide) (flt (by decide)).2.1 ?_
        refine Go.iload 90 d24_88 rfl rfl ?_
        exact Go.retI d24_90 rfl (sf' := []) (⟨rfl, by simp [cpc, hh_0, hh_1, hl_2] <;> rfl⟩) (fun _ q => nomatch q) (Nat.le_of_ble_eq_true rfl) (Nat.le_of_ble_eq_true rfl)
      · skip
        refine Go.more (sf' := []) ?_ (Nat.le_refl _) (Nat.le_refl _) (fun _ q => List.mem_append_right _ q)
        show G_cpc4_3 md l Z n0 b c0 c1 c2 h0 0 0 [] h0 76 #[.val (.ref b), .val (.int (0 : Int32)), .val (.int (3 : Int32)), .val (.int (0 : Int32)), .val (.int (3 : Int32)), .val (.int (2 : Int32))] [(.int (0 : Int32))]
        refine Go.ifY 44 d24_76 (by decide) (by decide) (teq (by decide)).1 ?_
        refine Go.iload 46 d24_44 rfl rfl ?_
        refine Go.iloadN 47 d24_46 rfl rfl ?_
        refine Go.iconst 48 (1 : Int32) d24_47 rfl rfl ?_
        refine Go.isub 49 d24_48 rfl ?_
        rw [show ((3 : Int32) - (1 : Int32)) = (2 : Int32) from by decide]
        refine Go.icmpY 88 d24_49 (by decide) (by decide) (flt (by decide)).2.1 ?_
        refine Go.iload 90 d24_88 rfl rfl ?_
        exact Go.retI d24_90 rfl (sf' := []) (⟨rfl, by simp [cpc, hh_0, hh_1, hl_2] <;> rfl⟩) (fun _ q => nomatch q) (Nat.le_of_ble_eq_true rfl) (Nat.le_of_ble_eq_true rfl)
    · skip
      refine Go.more (sf' := []) ?_ (Nat.le_refl _) (Nat.le_refl _) (fun _ q => List.mem_append_right _ q)
      show G_cpc4_3 md l Z n0 b c0 c1 c2 h0 0 0 [] h0 64 #[.val (.ref b), .val (.int (0 : Int32)), .val (.int (3 : Int32)), .val (.int (0 : Int32)), .val (.int (3 : Int32)), .val (.int (2 : Int32))] [(.int (0 : Int32))]
      refine Go.ifY 44 d24_64 (by decide) (by decide) (teq (by decide)).1 ?_
      refine Go.iload 46 d24_44 rfl rfl ?_
      refine Go.iloadN 47 d24_46 rfl rfl ?_
      refine Go.iconst 48 (1 : Int32) d24_47 rfl rfl ?_
      refine Go.isub 49 d24_48 rfl ?_
      rw [show ((3 : Int32) - (1 : Int32)) = (2 : Int32) from by decide]
      refine Go.icmpY 88 d24_49 (by decide) (by decide) (flt (by decide)).2.1 ?_
      refine Go.iload 90 d24_88 rfl rfl ?_
      exact Go.retI d24_90 rfl (sf' := []) (⟨rfl, by simp [cpc, hh_0, hh_1] <;> rfl⟩) (fun _ q => nomatch q) (Nat.le_of_ble_eq_true rfl) (Nat.le_of_ble_eq_true rfl)
abbrev G_cpc3_3 (md : Md) (l : Launch) (Z : State) (n0 : Nat) (b : Addr) (c0 c1 c2 : Int32) (h0 : Heap) := Go md l Z n0 ({ frames := 2, cells := 0, slots := 0, locals := 30 } : Room) jdk_52_method_12_code 3 (some .int) "java/lang/StringUTF16" "codePointCount" (fun v h' _ => h0 = h' ∧ v = some (.int (cpc (3 : Int32) [c0, c1, c2])))
theorem ef_cpc3_3 (mid : MethodId) (b : Addr) (c0 c1 c2 : Int32)  : entryFrame mid #[(.ref b), (.int (0 : Int32)), (.int (3 : Int32))] 3 = mkF mid 0 #[.val (.ref b), .val (.int (0 : Int32)), .val (.int (3 : Int32))] [] := by first | (simp [entryFrame, mkF, argsToLocals, Value.category]; done) | rfl
set_option maxRecDepth 65536 in
set_option maxHeartbeats 40000000 in
theorem c_cpc3_3 {md : Md} {l : Launch} {Z : State} {n0 : Nat} {a0 : Array Value} (hw : HW a0 Z) (b : Addr) (c0 c1 c2 : Int32) {h0 : Heap} (A : Ary Z h0 b .byte [(.int (lo16 c0)), (.int (hi16 c0)), (.int (lo16 c1)), (.int (hi16 c1)), (.int (lo16 c2)), (.int (hi16 c2))]) (b_c0 : CHP c0) (b_c1 : CHP c1) (b_c2 : CHP c2) (UA : Sta Z Z.heap "java/lang/StringUTF16" "$assertionsDisabled" "Z" (.int 1)) (UH : Sta Z Z.heap "java/lang/StringUTF16" "HI_BYTE_SHIFT" "I" (.int 0)) (UL : Sta Z Z.heap "java/lang/StringUTF16" "LO_BYTE_SHIFT" "I" (.int 8))  : G_cpc3_3 md l Z n0 b c0 c1 c2 h0 0 0 [] h0 0 #[.val (.ref b), .val (.int (0 : Int32)), .val (.int (3 : Int32))] [] := by
  refine Go.aloadN 1 d23_0 rfl rfl rfl ?_
  refine Go.iloadN 2 d23_1 rfl rfl ?_
  refine Go.iloadN 3 d23_2 rfl rfl ?_
  refine Go.iconst 4 (0 : Int32) d23_3 rfl rfl ?_
  refine Go.callS (S := []) 7 [(.ref b), (.int (0 : Int32)), (.int (3 : Int32)), (.int (0 : Int32))] d23_4 rfl rfl (w108 hw) (w109 hw) (w28 hw) (w110 hw) (by decide) (call_of_go (R := _) (len := 3) (W := 0) (plainFor_of_name pn_0) (fun mid => ef_cpc4_3 mid b c0 c1 c2 ) (c_cpc4_3 hw b c0 c1 c2 A b_c0 b_c1 b_c2 UA UH UL) (w110 hw) (w28 hw) (by decide) (by decide)) (lenOf pd_9 rfl) (Nat.le_of_ble_eq_true rfl) rfl (Nat.le_of_ble_eq_true rfl) (Nat.le_of_ble_eq_true rfl) (fun _ q => nomatch q) (fun v h_1 sf_2 hq => ?_)
  obtain ⟨rfl, rfl⟩ := hq
  refine Go.more (sf' := []) ?_ (Nat.le_refl _) (Nat.le_refl _) (fun _ q => List.mem_append_right _ q)
  show G_cpc3_3 md l Z n0 b c0 c1 c2 h0 0 0 [] h0 7 #[.val (.ref b), .val (.int (0 : Int32)), .val (.int (3 : Int32))] [(.int (cpc (3 : Int32) [c0, c1, c2]))]
  exact Go.retI d23_7 rfl (sf' := []) (⟨rfl, rfl⟩) (fun _ q => nomatch q) (Nat.le_of_ble_eq_true rfl) (Nat.le_of_ble_eq_true rfl)
abbrev G_cft3 (md : Md) (l : Launch) (Z : State) (n0 : Nat)  (h0 : Heap) := Go md l Z n0 ({ frames := 0, cells := 0, slots := 0, locals := 0 } : Room) jdk_41_method_12_code 4 (some .int) "jdk/internal/util/Preconditions" "checkFromToIndex" (fun v h' _ => h0 = h' ∧ v = some (.int 0))
theorem ef_cft3 (mid : MethodId)   : entryFrame mid #[(.int (0 : Int32)), (.int (3 : Int32)), (.int (3 : Int32)), .null] 4 = mkF mid 0 #[.val (.int (0 : Int32)), .val (.int (3 : Int32)), .val (.int (3 : Int32)), .val .null] [] := by first | (simp [entryFrame, mkF, argsToLocals, Value.category]; done) | rfl
set_option maxRecDepth 65536 in
set_option maxHeartbeats 40000000 in
theorem c_cft3 {md : Md} {l : Launch} {Z : State} {n0 : Nat} {a0 : Array Value} (hw : HW a0 Z)  {h0 : Heap}  : G_cft3 md l Z n0  h0 0 0 [] h0 0 #[.val (.int (0 : Int32)), .val (.int (3 : Int32)), .val (.int (3 : Int32)), .val .null] [] := by
  refine Go.iloadN 1 d15_0 rfl rfl ?_
  refine Go.ifN 4 d15_1 rfl (flt (by decide)).1 ?_
  refine Go.iloadN 5 d15_4 rfl rfl ?_
  refine Go.iloadN 6 d15_5 rfl rfl ?_
  refine Go.icmpN 9 d15_6 rfl (flt (by decide)).2.2.1 ?_
  refine Go.iloadN 10 d15_9 rfl rfl ?_
  refine Go.iloadN 11 d15_10 rfl rfl ?_
  refine Go.icmpY 22 d15_11 (by decide) (by decide) (flt (by decide)).2.2.2 ?_
  refine Go.iloadN 23 d15_22 rfl rfl ?_
  exact Go.retI d15_23 rfl (sf' := []) (⟨rfl, rfl⟩) (fun _ q => nomatch q) (Nat.le_of_ble_eq_true rfl) (Nat.le_of_ble_eq_true rfl)
abbrev G_oft3 (md : Md) (l : Launch) (Z : State) (n0 : Nat)  (h0 : Heap) := Go md l Z n0 ({ frames := 1, cells := 0, slots := 0, locals := 15 } : Room) jdk_31_method_18_code 3 (some .int) "java/util/Objects" "checkFromToIndex" (fun v h' _ => h0 = h' ∧ v = some (.int 0))
theorem ef_oft3 (mid : MethodId)   : entryFrame mid #[(.int (0 : Int32)), (.int (3 : Int32)), (.int (3 : Int32))] 3 = mkF mid 0 #[.val (.int (0 : Int32)), .val (.int (3 : Int32)), .val (.int (3 : Int32))] [] := by first | (simp [entryFrame, mkF, argsToLocals, Value.category]; done) | rfl
set_option maxRecDepth 65536 in
set_option maxHeartbeats 40000000 in
theorem c_oft3 {md : Md} {l : Launch} {Z : State} {n0 : Nat} {a0 : Array Value} (hw : HW a0 Z)  {h0 : Heap}  : G_oft3 md l Z n0  h0 0 0 [] h0 0 #[.val (.int (0 : Int32)), .val (.int (3 : Int32)), .val (.int (3 : Int32))] [] := by
  refine Go.iloadN 1 d14_0 rfl rfl ?_
  refine Go.iloadN 2 d14_1 rfl rfl ?_
  refine Go.iloadN 3 d14_2 rfl rfl ?_
  refine Go.aconstNull 4 d14_3 rfl ?_
  refine Go.callS (S := []) 7 [(.int (0 : Int32)), (.int (3 : Int32)), (.int (3 : Int32)), .null] d14_4 rfl rfl (w73 hw) (w74 hw) (w75 hw) (w76 hw) (by decide) (call_of_go (R := _) (len := 3) (W := 0) (plainFor_of_name pn_2) (fun mid => ef_cft3 mid  ) (c_cft3 hw  ) (w76 hw) (w75 hw) (by decide) (by decide)) (lenOf pd_10 rfl) (Nat.le_of_ble_eq_true rfl) rfl (Nat.le_of_ble_eq_true rfl) (Nat.le_of_ble_eq_true rfl) (fun _ q => nomatch q) (fun v h_1 sf_2 hq => ?_)
  obtain ⟨rfl, rfl⟩ := hq
  refine Go.more (sf' := []) ?_ (Nat.le_refl _) (Nat.le_refl _) (fun _ q => List.mem_append_right _ q)
  show G_oft3 md l Z n0  h0 0 0 [] h0 7 #[.val (.int (0 : Int32)), .val (.int (3 : Int32)), .val (.int (3 : Int32))] [(.int (0 : Int32))]
  exact Go.retI d14_7 rfl (sf' := []) (⟨rfl, rfl⟩) (fun _ q => nomatch q) (Nat.le_of_ble_eq_true rfl) (Nat.le_of_ble_eq_true rfl)
abbrev G_cpp3_0 (md : Md) (l : Launch) (Z : State) (n0 : Nat) (x t : Addr) (z : Int32) (c0 c1 c2 : Int32) (h0 : Heap) := Go md l Z n0 ({ frames := 2, cells := 0, slots := 0, locals := 29 } : Room) jdk_42_method_59_code 3 (some .int) "java/lang/String" "codePointCount" (fun v h' _ => h0 = h' ∧ v = some (.int (3 : Int32)))
theorem ef_cpp3_0 (mid : MethodId) (x t : Addr) (z : Int32) (c0 c1 c2 : Int32)  : entryFrame mid #[(.ref x), (.int (0 : Int32)), (.int (3 : Int32))] 3 = mkF mid 0 #[.val (.ref x), .val (.int (0 : Int32)), .val (.int (3 : Int32))] [] := by first | (simp [entryFrame, mkF, argsToLocals, Value.category]; done) | rfl
set_option maxRecDepth 65536 in
set_option maxHeartbeats 40000000 in
theorem c_cpp3_0 {md : Md} {l : Launch} {Z : State} {n0 : Nat} {a0 : Array Value} (hw : HW a0 Z) (x t : Addr) (z : Int32) (c0 c1 c2 : Int32) {h0 : Heap} (E : Exa Z h0 x "java/lang/String") (C : Fld Z h0 x "java/lang/String" "coder" "B" (.int 0)) (V : Fld Z h0 x "java/lang/String" "value" "[B" (.ref t)) (A : Ary Z h0 t .byte [(.int c0.toInt8.toInt32), (.int c1.toInt8.toInt32), (.int c2.toInt8.toInt32)]) (b_c0 : CHP c0) (b_c1 : CHP c1) (b_c2 : CHP c2) (SC : Sta Z Z.heap "java/lang/String" "COMPACT_STRINGS" "Z" (.int z)) (hz : ¬ z = 0) (UA : Sta Z Z.heap "java/lang/StringUTF16" "$assertionsDisabled" "Z" (.int 1)) (UH : Sta Z Z.heap "java/lang/StringUTF16" "HI_BYTE_SHIFT" "I" (.int 0)) (UL : Sta Z Z.heap "java/lang/StringUTF16" "LO_BYTE_SHIFT" "I" (.int 8))  : G_cpp3_0 md l Z n0 x t z c0 c1 c2 h0 0 0 [] h0 0 #[.val (.ref x), .val (.int (0 : Int32)), .val (.int (3 : Int32))] [] := by
  refine Go.iloadN 1 d13_0 rfl rfl ?_
  refine Go.iloadN 2 d13_1 rfl rfl ?_
  refine Go.aloadN 3 d13_2 rfl rfl rfl ?_
  refine Go.callV (S := [(.int (3 : Int32)), (.int (0 : Int32))]) (a := x) 6 [] d13_3 rfl rfl (w68 hw) (w54 hw) (w56 hw) (w55 hw) (fun _ q => notFace_of_selects (args := #[]) (mvT q (w56 hw))) (by decide) E (call_of_go (R := _) (len := 3) (W := 2) (plainFor_of_name pn_1) (fun mid => ef_glen mid x t z (0 : Int32) [(.int c0.toInt8.toInt32), (.int c1.toInt8.toInt32), (.int c2.toInt8.toInt32)] ) (c_glen hw x t z (0 : Int32) [(.int c0.toInt8.toInt32), (.int c1.toInt8.toInt32), (.int c2.toInt8.toInt32)] E C V A rfl SC hz) (w57 hw) (w14 hw) (by decide) (by decide)) (lenOf pd_11 rfl) (Nat.le_of_ble_eq_true rfl) rfl (Nat.le_of_ble_eq_true rfl) (Nat.le_of_ble_eq_true rfl) (fun _ q => nomatch q) (fun v h_1 sf_2 hq => ?_)
  obtain ⟨rfl, rfl⟩ := hq
  rw [show (Int32.ofNat (List.length (α := Value) [(.int c0.toInt8.toInt32), (.int c1.toInt8.toInt32), (.int c2.toInt8.toInt32)])) >>> ((0 : Int32) &&& 31) = (3 : Int32) from by show Int32.ofNat 3 >>> ((0 : Int32) &&& 31) = (3 : Int32); decide]
  refine Go.more (sf' := []) ?_ (Nat.le_refl _) (Nat.le_refl _) (fun _ q => List.mem_append_right _ q)
  show G_cpp3_0 md l Z n0 x t z c0 c1 c2 h0 0 0 [] h0 6 #[.val (.ref x), .val (.int (0 : Int32)), .val (.int (3 : Int32))] [(.int (3 : Int32)), (.int (3 : Int32)), (.int (0 : Int32))]
  refine Go.callS (S := []) 9 [(.int (0 : Int32)), (.int (3 : Int32)), (.int (3 : Int32))] d13_6 rfl rfl (w69 hw) (w70 hw) (w71 hw) (w72 hw) (by decide) (call_of_go (R := _) (len := 3) (W := 0) (plainFor_of_name pn_3) (fun mid => ef_oft3 mid  ) (c_oft3 hw  ) (w72 hw) (w71 hw) (by decide) (by decide)) (lenOf pd_12 rfl) (Nat.le_of_ble_eq_true rfl) rfl (Nat.le_of_ble_eq_true rfl) (Nat.le_of_ble_eq_true rfl) (fun _ q => nomatch q) (fun v h_3 sf_4 hq => ?_)
  obtain ⟨rfl, rfl⟩ := hq
  refine Go.more (sf' := []) ?_ (Nat.le_refl _) (Nat.le_refl _) (fun _ q => List.mem_append_right _ q)
  show G_cpp3_0 md l Z n0 x t z c0 c1 c2 h0 0 0 [] h0 9 #[.val (.ref x), .val (.int (0 : Int32)), .val (.int (3 : Int32))] [(.int (0 : Int32))]
  refine Go.pop 10 d13_9 rfl rfl ?_
  refine Go.aloadN 11 d13_10 rfl rfl rfl ?_
  refine Go.callV (S := []) (a := x) 14 [] d13_11 rfl rfl (w77 hw) (w78 hw) (w80 hw) (w79 hw) (fun _ q => notFace_of_selects (args := #[]) (mvT q (w80 hw))) (by decide) E (call_of_go (R := _) (len := 3) (W := 0) (plainFor_of_name pn_1) (fun mid => ef_isl0 mid x z ) (c_isl0 hw x z C SC hz) (w81 hw) (w14 hw) (by decide) (by decide)) (lenOf pd_13 rfl) (Nat.le_of_ble_eq_true rfl) rfl (Nat.le_of_ble_eq_true rfl) (Nat.le_of_ble_eq_true rfl) (fun _ q => nomatch q) (fun v h_5 sf_6 hq => ?_)
  obtain ⟨rfl, rfl⟩ := hq
  refine Go.more (sf' := []) ?_ (Nat.le_refl _) (Nat.le_refl _) (fun _ q => List.mem_append_right _ q)
  show G_cpp3_0 md l Z n0 x t z c0 c1 c2 h0 0 0 [] h0 14 #[.val (.ref x), .val (.int (0 : Int32)), .val (.int (3 : Int32))] [(.int (1 : Int32))]
  refine Go.ifN 17 d13_14 rfl (feq (by decide)).1 ?_
  refine Go.iloadN 18 d13_17 rfl rfl ?_
  refine Go.iloadN 19 d13_18 rfl rfl ?_
  refine Go.isub 20 d13_19 rfl ?_
  rw [show ((3 : Int32) - (0 : Int32)) = (3 : Int32) from by decide]
  exact Go.retI d13_20 rfl (sf' := []) (⟨rfl, rfl⟩) (fun _ q => nomatch q) (Nat.le_of_ble_eq_true rfl) (Nat.le_of_ble_eq_true rfl)
abbrev G_cpp3_1 (md : Md) (l : Launch) (Z : State) (n0 : Nat) (x t : Addr) (z : Int32) (c0 c1 c2 : Int32) (h0 : Heap) := Go md l Z n0 ({ frames := 3, cells := 0, slots := 0, locals := 44 } : Room) jdk_42_method_59_code 3 (some .int) "java/lang/String" "codePointCount" (fun v h' _ => h0 = h' ∧ v = some (.int (cpc (3 : Int32) [c0, c1, c2])))
theorem ef_cpp3_1 (mid : MethodId) (x t : Addr) (z : Int32) (c0 c1 c2 : Int32)  : entryFrame mid #[(.ref x), (.int (0 : Int32)), (.int (3 : Int32))] 3 = mkF mid 0 #[.val (.ref x), .val (.int (0 : Int32)), .val (.int (3 : Int32))] [] := by first | (simp [entryFrame, mkF, argsToLocals, Value.category]; done) | rfl
set_option maxRecDepth 65536 in
set_option maxHeartbeats 40000000 in
theorem c_cpp3_1 {md : Md} {l : Launch} {Z : State} {n0 : Nat} {a0 : Array Value} (hw : HW a0 Z) (x t : Addr) (z : Int32) (c0 c1 c2 : Int32) {h0 : Heap} (E : Exa Z h0 x "java/lang/String") (C : Fld Z h0 x "java/lang/String" "coder" "B" (.int 1)) (V : Fld Z h0 x "java/lang/String" "value" "[B" (.ref t)) (A : Ary Z h0 t .byte [(.int (lo16 c0)), (.int (hi16 c0)), (.int (lo16 c1)), (.int (hi16 c1)), (.int (lo16 c2)), (.int (hi16 c2))]) (b_c0 : CHP c0) (b_c1 : CHP c1) (b_c2 : CHP c2) (SC : Sta Z Z.heap "java/lang/String" "COMPACT_STRINGS" "Z" (.int z)) (hz : ¬ z = 0) (UA : Sta Z Z.heap "java/lang/StringUTF16" "$assertionsDisabled" "Z" (.int 1)) (UH : Sta Z Z.heap "java/lang/StringUTF16" "HI_BYTE_SHIFT" "I" (.int 0)) (UL : Sta Z Z.heap "java/lang/StringUTF16" "LO_BYTE_SHIFT" "I" (.int 8))  : G_cpp3_1 md l Z n0 x t z c0 c1 c2 h0 0 0 [] h0 0 #[.val (.ref x), .val (.int (0 : Int32)), .val (.int (3 : Int32))] [] := by
  refine Go.iloadN 1 d13_0 rfl rfl ?_
  refine Go.iloadN 2 d13_1 rfl rfl ?_
  refine Go.aloadN 3 d13_2 rfl rfl rfl ?_
  refine Go.callV (S := [(.int (3 : Int32)), (.int (0 : Int32))]) (a := x) 6 [] d13_3 rfl rfl (w68 hw) (w54 hw) (w56 hw) (w55 hw) (fun _ q => notFace_of_selects (args := #[]) (mvT q (w56 hw))) (by decide) E (call_of_go (R := _) (len := 3) (W := 2) (plainFor_of_name pn_1) (fun mid => ef_glen mid x t z (1 : Int32) [(.int (lo16 c0)), (.int (hi16 c0)), (.int (lo16 c1)), (.int (hi16 c1)), (.int (lo16 c2)), (.int (hi16 c2))] ) (c_glen hw x t z (1 : Int32) [(.int (lo16 c0)), (.int (hi16 c0)), (.int (lo16 c1)), (.int (hi16 c1)), (.int (lo16 c2)), (.int (hi16 c2))] E C V A rfl SC hz) (w57 hw) (w14 hw) (by decide) (by decide)) (lenOf pd_11 rfl) (Nat.le_of_ble_eq_true rfl) rfl (Nat.le_of_ble_eq_true rfl) (Nat.le_of_ble_eq_true rfl) (fun _ q => nomatch q) (fun v h_1 sf_2 hq => ?_)
  obtain ⟨rfl, rfl⟩ := hq
  rw [show (Int32.ofNat (List.length (α := Value) [(.int (lo16 c0)), (.int (hi16 c0)), (.int (lo16 c1)), (.int (hi16 c1)), (.int (lo16 c2)), (.int (hi16 c2))])) >>> ((1 : Int32) &&& 31) = (3 : Int32) from by show Int32.ofNat 6 >>> ((1 : Int32) &&& 31) = (3 : Int32); decide]
  refine Go.more (sf' := []) ?_ (Nat.le_refl _) (Nat.le_refl _) (fun _ q => List.mem_append_right _ q)
  show G_cpp3_1 md l Z n0 x t z c0 c1 c2 h0 0 0 [] h0 6 #[.val (.ref x), .val (.int (0 : Int32)), .val (.int (3 : Int32))] [(.int (3 : Int32)), (.int (3 : Int32)), (.int (0 : Int32))]
  refine Go.callS (S := []) 9 [(.int (0 : Int32)), (.int (3 : Int32)), (.int (3 : Int32))] d13_6 rfl rfl (w69 hw) (w70 hw) (w71 hw) (w72 hw) (by decide) (call_of_go (R := _) (len := 3) (W := 0) (plainFor_of_name pn_3) (fun mid => ef_oft3 mid  ) (c_oft3 hw  ) (w72 hw) (w71 hw) (by decide) (by decide)) (lenOf pd_12 rfl) (Nat.le_of_ble_eq_true rfl) rfl (Nat.le_of_ble_eq_true rfl) (Nat.le_of_ble_eq_true rfl) (fun _ q => nomatch q) (fun v h_3 sf_4 hq => ?_)
  obtain ⟨rfl, rfl⟩ := hq
  refine Go.more (sf' := []) ?_ (Nat.le_refl _) (Nat.le_refl _) (fun _ q => List.mem_append_right _ q)
  show G_cpp3_1 md l Z n0 x t z c0 c1 c2 h0 0 0 [] h0 9 #[.val (.ref x), .val (.int (0 : Int32)), .val (.int (3 : Int32))] [(.int (0 : Int32))]
  refine Go.pop 10 d13_9 rfl rfl ?_
  refine Go.aloadN 11 d13_10 rfl rfl rfl ?_
  refine Go.callV (S := []) (a := x) 14 [] d13_11 rfl rfl (w77 hw) (w78 hw) (w80 hw) (w79 hw) (fun _ q => notFace_of_selects (args := #[]) (mvT q (w80 hw))) (by decide) E (call_of_go (R := _) (len := 3) (W := 0) (plainFor_of_name pn_1) (fun mid => ef_isl1 mid x z ) (c_isl1 hw x z C SC hz) (w81 hw) (w14 hw) (by decide) (by decide)) (lenOf pd_13 rfl) (Nat.le_of_ble_eq_true rfl) rfl (Nat.le_of_ble_eq_true rfl) (Nat.le_of_ble_eq_true rfl) (fun _ q => nomatch q) (fun v h_5 sf_6 hq => ?_)
  obtain ⟨rfl, rfl⟩ := hq
  refine Go.more (sf' := []) ?_ (Nat.le_refl _) (Nat.le_refl _) (fun _ q => List.mem_append_right _ q)
  show G_cpp3_1 md l Z n0 x t z c0 c1 c2 h0 0 0 [] h0 14 #[.val (.ref x), .val (.int (0 : Int32)), .val (.int (3 : Int32))] [(.int (0 : Int32))]
  refine Go.ifY 21 d13_14 (by decide) (by decide) (teq (by decide)).1 ?_
  refine Go.aloadN 22 d13_21 rfl rfl rfl ?_
  refine Go.getF 25 d13_22 rfl (w39 hw) Via.refl V ?_
  refine Go.iloadN 26 d13_25 rfl rfl ?_
  refine Go.iloadN 27 d13_26 rfl rfl ?_
  refine Go.callS (S := []) 30 [(.ref t), (.int (0 : Int32)), (.int (3 : Int32))] d13_27 rfl rfl (w105 hw) (w106 hw) (w28 hw) (w107 hw) (by decide) (call_of_go (R := _) (len := 3) (W := 0) (plainFor_of_name pn_0) (fun mid => ef_cpc3_3 mid t c0 c1 c2 ) (c_cpc3_3 hw t c0 c1 c2 A b_c0 b_c1 b_c2 UA UH UL) (w107 hw) (w28 hw) (by decide) (by decide)) (lenOf pd_14 rfl) (Nat.le_of_ble_eq_true rfl) rfl (Nat.le_of_ble_eq_true rfl) (Nat.le_of_ble_eq_true rfl) (fun _ q => nomatch q) (fun v h_7 sf_8 hq => ?_)
  obtain ⟨rfl, rfl⟩ := hq
  refine Go.more (sf' := []) ?_ (Nat.le_refl _) (Nat.le_refl _) (fun _ q => List.mem_append_right _ q)
  show G_cpp3_1 md l Z n0 x t z c0 c1 c2 h0 0 0 [] h0 30 #[.val (.ref x), .val (.int (0 : Int32)), .val (.int (3 : Int32))] [(.int (cpc (3 : Int32) [c0, c1, c2]))]
  exact Go.retI d13_30 rfl (sf' := []) (⟨rfl, rfl⟩) (fun _ q => nomatch q) (Nat.le_of_ble_eq_true rfl) (Nat.le_of_ble_eq_true rfl)
abbrev G_reqlen3 (md : Md) (l : Launch) (Z : State) (n0 : Nat) (f x : Addr) (mx z : Int32) (c0 c1 c2 : Int32) (h0 : Heap) := Go md l Z n0 ({ frames := 4, cells := 0, slots := 0, locals := 58 } : Room) prog_15_method_2_code 3 (some (.object "java/lang/String")) "com/example/tugas/tugas/Text" "requireLength" (fun v h' _ => h0 = h' ∧ v = some (.ref x))
theorem ef_reqlen3 (mid : MethodId) (f x : Addr) (mx z : Int32) (c0 c1 c2 : Int32)  : entryFrame mid #[(.ref f), (.ref x), (.int mx)] 3 = mkF mid 0 #[.val (.ref f), .val (.ref x), .val (.int mx)] [] := by first | (simp [entryFrame, mkF, argsToLocals, Value.category]; done) | rfl
set_option maxRecDepth 65536 in
set_option maxHeartbeats 40000000 in
theorem c_reqlen3 {md : Md} {l : Launch} {Z : State} {n0 : Nat} {a0 : Array Value} (hw : HW a0 Z) (f x : Addr) (mx z : Int32) (c0 c1 c2 : Int32) {h0 : Heap} (G : Gst Z h0 x [c0, c1, c2]) (hm : ¬ mx < cpc (3 : Int32) [c0, c1, c2]) (b_c0 : CHP c0) (b_c1 : CHP c1) (b_c2 : CHP c2) (SC : Sta Z Z.heap "java/lang/String" "COMPACT_STRINGS" "Z" (.int z)) (hz : ¬ z = 0) (UA : Sta Z Z.heap "java/lang/StringUTF16" "$assertionsDisabled" "Z" (.int 1)) (UH : Sta Z Z.heap "java/lang/StringUTF16" "HI_BYTE_SHIFT" "I" (.int 0)) (UL : Sta Z Z.heap "java/lang/StringUTF16" "LO_BYTE_SHIFT" "I" (.int 8))  : G_reqlen3 md l Z n0 f x mx z c0 c1 c2 h0 0 0 [] h0 0 #[.val (.ref f), .val (.ref x), .val (.int mx)] [] := by
  obtain ⟨t, cd, vs, E, C, V, A, ⟨rfl, rfl, hb⟩ | ⟨rfl, rfl, hb⟩⟩ := G
  · skip
    have A' : Ary Z h0 t .byte [(.int c0.toInt8.toInt32), (.int c1.toInt8.toInt32), (.int c2.toInt8.toInt32)] := A
    refine Go.aloadN 1 d9_0 rfl rfl rfl ?_
    refine Go.nullN 4 d9_1 rfl ?_
    refine Go.aloadN 5 d9_4 rfl rfl rfl ?_
    refine Go.callV (S := []) (a := x) 8 [] d9_5 rfl rfl (w48 hw) (w49 hw) (w51 hw) (w50 hw) (fun _ q => notFace_of_selects (args := #[]) (mvT q (w51 hw))) (by decide) E (call_of_go (R := _) (len := 3) (W := 0) (plainFor_of_name pn_1) (fun mid => ef_isemp mid x t [(.int c0.toInt8.toInt32), (.int c1.toInt8.toInt32), (.int c2.toInt8.toInt32)] ) (c_isemp hw x t [(.int c0.toInt8.toInt32), (.int c1.toInt8.toInt32), (.int c2.toInt8.toInt32)] V A' (by show ¬ Int32.ofNat 3 = 0; decide)) (w52 hw) (w14 hw) (by decide) (by decide)) (lenOf pd_13 rfl) (Nat.le_of_ble_eq_true rfl) rfl (Nat.le_of_ble_eq_true rfl) (Nat.le_of_ble_eq_true rfl) (fun _ q => nomatch q) (fun v h_1 sf_2 hq => ?_)
    obtain ⟨rfl, rfl⟩ := hq
    refine Go.more (sf' := []) ?_ (Nat.le_refl _) (Nat.le_refl _) (fun _ q => List.mem_append_right _ q)
    show G_reqlen3 md l Z n0 f x mx z c0 c1 c2 h0 0 0 [] h0 8 #[.val (.ref f), .val (.ref x), .val (.int mx)] [(.int (0 : Int32))]
    refine Go.ifN 11 d9_8 rfl (teq (by decide)).2 ?_
    refine Go.aloadN 12 d9_11 rfl rfl rfl ?_
    refine Go.iconst 13 (0 : Int32) d9_12 rfl rfl ?_
    refine Go.aloadN 14 d9_13 rfl rfl rfl ?_
    refine Go.callV (S := [(.int (0 : Int32)), (.ref x)]) (a := x) 17 [] d9_14 rfl rfl (w53 hw) (w54 hw) (w56 hw) (w55 hw) (fun _ q => notFace_of_selects (args := #[]) (mvT q (w56 hw))) (by decide) E (call_of_go (R := _) (len := 3) (W := 2) (plainFor_of_name pn_1) (fun mid => ef_glen mid x t z (0 : Int32) [(.int c0.toInt8.toInt32), (.int c1.toInt8.toInt32), (.int c2.toInt8.toInt32)] ) (c_glen hw x t z (0 : Int32) [(.int c0.toInt8.toInt32), (.int c1.toInt8.toInt32), (.int c2.toInt8.toInt32)] E C V A' rfl SC hz) (w57 hw) (w14 hw) (by decide) (by decide)) (lenOf pd_11 rfl) (Nat.le_of_ble_eq_true rfl) rfl (Nat.le_of_ble_eq_true rfl) (Nat.le_of_ble_eq_true rfl) (fun _ q => nomatch q) (fun v h_3 sf_4 hq => ?_)
    obtain ⟨rfl, rfl⟩ := hq
    rw [show (Int32.ofNat (List.length (α := Value) [(.int c0.toInt8.toInt32), (.int c1.toInt8.toInt32), (.int c2.toInt8.toInt32)])) >>> ((0 : Int32) &&& 31) = (3 : Int32) from by show Int32.ofNat 3 >>> ((0 : Int32) &&& 31) = (3 : Int32); decide]
    refine Go.more (sf' := []) ?_ (Nat.le_refl _) (Nat.le_refl _) (fun _ q => List.mem_append_right _ q)
    show G_reqlen3 md l Z n0 f x mx z c0 c1 c2 h0 0 0 [] h0 17 #[.val (.ref f), .val (.ref x), .val (.int mx)] [(.int (3 : Int32)), (.int (0 : Int32)), (.ref x)]
    refine Go.callV (S := []) (a := x) 20 [(.int (0 : Int32)), (.int (3 : Int32))] d9_17 rfl rfl (w63 hw) (w64 hw) (w66 hw) (w65 hw) (fun _ q => notFace_of_selects (args := #[]) (mvT q (w66 hw))) (by decide) E (call_of_go (R := _) (len := 3) (W := 0) (plainFor_of_name pn_1) (fun mid => ef_cpp3_0 mid x t z c0 c1 c2 ) (c_cpp3_0 hw x t z c0 c1 c2 E C V A' b_c0 b_c1 b_c2 SC hz UA UH UL) (w67 hw) (w14 hw) (by decide) (by decide)) (lenOf pd_15 rfl) (Nat.le_of_ble_eq_true rfl) rfl (Nat.le_of_ble_eq_true rfl) (Nat.le_of_ble_eq_true rfl) (fun _ q => nomatch q) (fun v h_5 sf_6 hq => ?_)
    obtain ⟨rfl, rfl⟩ := hq
    refine Go.more (sf' := []) ?_ (Nat.le_refl _) (Nat.le_refl _) (fun _ q => List.mem_append_right _ q)
    show G_reqlen3 md l Z n0 f x mx z c0 c1 c2 h0 0 0 [] h0 20 #[.val (.ref f), .val (.ref x), .val (.int mx)] [(.int (3 : Int32))]
    refine Go.iloadN 21 d9_20 rfl rfl ?_
    refine Go.icmpY 39 d9_21 (by decide) (by decide) (flt (by rw [cpc_lat hb] at hm; exact hm)).2.2.2 ?_
    refine Go.aloadN 40 d9_39 rfl rfl rfl ?_
    exact Go.retA d9_40 rfl rfl rfl (sf' := []) (⟨rfl, rfl⟩) (fun _ q => nomatch q) (Nat.le_of_ble_eq_true rfl) (Nat.le_of_ble_eq_true rfl)
  · skip
    have A' : Ary Z h0 t .byte [(.int (lo16 c0)), (.int (hi16 c0)), (.int (lo16 c1)), (.int (hi16 c1)), (.int (lo16 c2)), (.int (hi16 c2))] := A
    refine Go.aloadN 1 d9_0 rfl rfl rfl ?_
    refine Go.nullN 4 d9_1 rfl ?_
    refine Go.aloadN 5 d9_4 rfl rfl rfl ?_
    refine Go.callV (S := []) (a := x) 8 [] d9_5 rfl rfl (w48 hw) (w49 hw) (w51 hw) (w50 hw) (fun _ q => notFace_of_selects (args := #[]) (mvT q (w51 hw))) (by decide) E (call_of_go (R := _) (len := 3) (W := 0) (plainFor_of_name pn_1) (fun mid => ef_isemp mid x t [(.int (lo16 c0)), (.int (hi16 c0)), (.int (lo16 c1)), (.int (hi16 c1)), (.int (lo16 c2)), (.int (hi16 c2))] ) (c_isemp hw x t [(.int (lo16 c0)), (.int (hi16 c0)), (.int (lo16 c1)), (.int (hi16 c1)), (.int (lo16 c2)), (.int (hi16 c2))] V A' (by show ¬ Int32.ofNat 6 = 0; decide)) (w52 hw) (w14 hw) (by decide) (by decide)) (lenOf pd_13 rfl) (Nat.le_of_ble_eq_true rfl) rfl (Nat.le_of_ble_eq_true rfl) (Nat.le_of_ble_eq_true rfl) (fun _ q => nomatch q) (fun v h_7 sf_8 hq => ?_)
    obtain ⟨rfl, rfl⟩ := hq
    refine Go.more (sf' := []) ?_ (Nat.le_refl _) (Nat.le_refl _) (fun _ q => List.mem_append_right _ q)
    show G_reqlen3 md l Z n0 f x mx z c0 c1 c2 h0 0 0 [] h0 8 #[.val (.ref f), .val (.ref x), .val (.int mx)] [(.int (0 : Int32))]
    refine Go.ifN 11 d9_8 rfl (teq (by decide)).2 ?_
    refine Go.aloadN 12 d9_11 rfl rfl rfl ?_
    refine Go.iconst 13 (0 : Int32) d9_12 rfl rfl ?_
    refine Go.aloadN 14 d9_13 rfl rfl rfl ?_
    refine Go.callV (S := [(.int (0 : Int32)), (.ref x)]) (a := x) 17 [] d9_14 rfl rfl (w53 hw) (w54 hw) (w56 hw) (w55 hw) (fun _ q => notFace_of_selects (args := #[]) (mvT q (w56 hw))) (by decide) E (call_of_go (R := _) (len := 3) (W := 2) (plainFor_of_name pn_1) (fun mid => ef_glen mid x t z (1 : Int32) [(.int (lo16 c0)), (.int (hi16 c0)), (.int (lo16 c1)), (.int (hi16 c1)), (.int (lo16 c2)), (.int (hi16 c2))] ) (c_glen hw x t z (1 : Int32) [(.int (lo16 c0)), (.int (hi16 c0)), (.int (lo16 c1)), (.int (hi16 c1)), (.int (lo16 c2)), (.int (hi16 c2))] E C V A' rfl SC hz) (w57 hw) (w14 hw) (by decide) (by decide)) (lenOf pd_11 rfl) (Nat.le_of_ble_eq_true rfl) rfl (Nat.le_of_ble_eq_true rfl) (Nat.le_of_ble_eq_true rfl) (fun _ q => nomatch q) (fun v h_9 sf_10 hq => ?_)
    obtain ⟨rfl, rfl⟩ := hq
    rw [show (Int32.ofNat (List.length (α := Value) [(.int (lo16 c0)), (.int (hi16 c0)), (.int (lo16 c1)), (.int (hi16 c1)), (.int (lo16 c2)), (.int (hi16 c2))])) >>> ((1 : Int32) &&& 31) = (3 : Int32) from by show Int32.ofNat 6 >>> ((1 : Int32) &&& 31) = (3 : Int32); decide]
    refine Go.more (sf' := []) ?_ (Nat.le_refl _) (Nat.le_refl _) (fun _ q => List.mem_append_right _ q)
    show G_reqlen3 md l Z n0 f x mx z c0 c1 c2 h0 0 0 [] h0 17 #[.val (.ref f), .val (.ref x), .val (.int mx)] [(.int (3 : Int32)), (.int (0 : Int32)), (.ref x)]
    refine Go.callV (S := []) (a := x) 20 [(.int (0 : Int32)), (.int (3 : Int32))] d9_17 rfl rfl (w63 hw) (w64 hw) (w66 hw) (w65 hw) (fun _ q => notFace_of_selects (args := #[]) (mvT q (w66 hw))) (by decide) E (call_of_go (R := _) (len := 3) (W := 0) (plainFor_of_name pn_1) (fun mid => ef_cpp3_1 mid x t z c0 c1 c2 ) (c_cpp3_1 hw x t z c0 c1 c2 E C V A' b_c0 b_c1 b_c2 SC hz UA UH UL) (w67 hw) (w14 hw) (by decide) (by decide)) (lenOf pd_15 rfl) (Nat.le_of_ble_eq_true rfl) rfl (Nat.le_of_ble_eq_true rfl) (Nat.le_of_ble_eq_true rfl) (fun _ q => nomatch q) (fun v h_11 sf_12 hq => ?_)
    obtain ⟨rfl, rfl⟩ := hq
    refine Go.more (sf' := []) ?_ (Nat.le_refl _) (Nat.le_refl _) (fun _ q => List.mem_append_right _ q)
    show G_reqlen3 md l Z n0 f x mx z c0 c1 c2 h0 0 0 [] h0 20 #[.val (.ref f), .val (.ref x), .val (.int mx)] [(.int (cpc (3 : Int32) [c0, c1, c2]))]
    refine Go.iloadN 21 d9_20 rfl rfl ?_
    refine Go.icmpY 39 d9_21 (by decide) (by decide) (flt hm).2.2.2 ?_
    refine Go.aloadN 40 d9_39 rfl rfl rfl ?_
    exact Go.retA d9_40 rfl rfl rfl (sf' := []) (⟨rfl, rfl⟩) (fun _ q => nomatch q) (Nat.le_of_ble_eq_true rfl) (Nat.le_of_ble_eq_true rfl)
abbrev G_cpc4_4 (md : Md) (l : Launch) (Z : State) (n0 : Nat) (b : Addr) (c0 c1 c2 c3 : Int32) (h0 : Heap) := Go md l Z n0 ({ frames := 1, cells := 0, slots := 0, locals := 13 } : Room) jdk_52_method_11_code 6 (some .int) "java/lang/StringUTF16" "codePointCount" (fun v h' _ => h0 = h' ∧ v = some (.int (cpc (4 : Int32) [c0, c1, c2, c3])))
theorem ef_cpc4_4 (mid : MethodId) (b : Addr) (c0 c1 c2 c3 : Int32)  : entryFrame mid #[(.ref b), (.int (0 : Int32)), (.int (4 : Int32)), (.int (0 : Int32))] 6 = mkF mid 0 #[.val (.ref b), .val (.int (0 : Int32)), .val (.int (4 : Int32)), .val (.int (0 : Int32)), .unset, .unset] [] := by first | (simp [entryFrame, mkF, argsToLocals, Value.category]; done) | rfl
set_option maxRecDepth 65536 in
set_option maxHeartbeats 40000000 in
theorem c_cpc4_4 {md : Md} {l : Launch} {Z : State} {n0 : Nat} {a0 : Array Value} (hw : HW a0 Z) (b : Addr) (c0 c1 c2 c3 : Int32) {h0 : Heap} (A : Ary Z h0 b .byte [(.int (lo16 c0)), (.int (hi16 c0)), (.int (lo16 c1)), (.int (hi16 c1)), (.int (lo16 c2)), (.int (hi16 c2)), (.int (lo16 c3)), (.int (hi16 c3))]) (b_c0 : CHP c0) (b_c1 : CHP c1) (b_c2 : CHP c2) (b_c3 : CHP c3) (UA : Sta Z Z.heap "java/lang/StringUTF16" "$assertionsDisabled" "Z" (.int 1)) (UH : Sta Z Z.heap "java/lang/StringUTF16" "HI_BYTE_SHIFT" "I" (.int 0)) (UL : Sta Z Z.heap "java/lang/StringUTF16" "LO_BYTE_SHIFT" "I" (.int 8))  : G_cpc4_4 md l Z n0 b c0 c1 c2 c3 h0 0 0 [] h0 0 #[.val (.ref b), .val (.int (0 : Int32)), .val (.int (4 : Int32)), .val (.int (0 : Int32)), .unset, .unset] [] := by
  refine Go.getS 3 d24_0 rfl (w99 hw) Via.refl UA ?_
  refine Go.ifY 19 d24_3 (by decide) (by decide) (feq (by decide)).2 ?_
  refine Go.iloadN 20 d24_19 rfl rfl ?_
  refine Go.iloadN 21 d24_20 rfl rfl ?_
  refine Go.isub 22 d24_21 rfl ?_
  rw [show ((4 : Int32) - (0 : Int32)) = (4 : Int32) from by decide]
  refine Go.istore 24 #[.val (.ref b), .val (.int (0 : Int32)), .val (.int (4 : Int32)), .val (.int (0 : Int32)), .val (.int (4 : Int32)), .unset] d24_22 rfl rfl ?_
  refine Go.iloadN 25 d24_24 rfl rfl ?_
  refine Go.istore 27 #[.val (.ref b), .val (.int (0 : Int32)), .val (.int (4 : Int32)), .val (.int (0 : Int32)), .val (.int (4 : Int32)), .val (.int (0 : Int32))] d24_25 rfl rfl ?_
  refine Go.iloadN 28 d24_27 rfl rfl ?_
  refine Go.ifY 44 d24_28 (by decide) (by decide) (teq (by decide)).1 ?_
  refine Go.iload 46 d24_44 rfl rfl ?_
  refine Go.iloadN 47 d24_46 rfl rfl ?_
  refine Go.iconst 48 (1 : Int32) d24_47 rfl rfl ?_
  refine Go.isub 49 d24_48 rfl ?_
  rw [show ((4 : Int32) - (1 : Int32)) = (3 : Int32) from by decide]
  refine Go.icmpN 52 d24_49 rfl (tlt (by decide)).2.1 ?_
  refine Go.aloadN 53 d24_52 rfl rfl rfl ?_
  refine Go.iload 55 d24_53 rfl rfl ?_
  refine Go.iinc 58 #[.val (.ref b), .val (.int (0 : Int32)), .val (.int (4 : Int32)), .val (.int (0 : Int32)), .val (.int (4 : Int32)), .val (.int ((0 : Int32) + (1 : Int32)))] (1 : Int32) d24_55 rfl rfl rfl rfl ?_
  rw [show ((0 : Int32) + (1 : Int32)) = (1 : Int32) from by decide]
  refine Go.callS (S := []) 61 [(.ref b), (.int (0 : Int32))] d24_58 rfl rfl (w102 hw) (w103 hw) (w28 hw) (w104 hw) (by decide) (call_of_go (R := _) (len := 3) (W := 0) (plainFor_of_name pn_0) (fun mid => ef_getc0 mid b (lo16 c0) (hi16 c0) [(.int (lo16 c0)), (.int (hi16 c0)), (.int (lo16 c1)), (.int (hi16 c1)), (.int (lo16 c2)), (.int (hi16 c2)), (.int (lo16 c3)), (.int (hi16 c3))] ) (c_getc0 hw b (lo16 c0) (hi16 c0) [(.int (lo16 c0)), (.int (hi16 c0)), (.int (lo16 c1)), (.int (hi16 c1)), (.int (lo16 c2)), (.int (hi16 c2)), (.int (lo16 c3)), (.int (hi16 c3))] A rfl rfl UA UH UL) (w104 hw) (w28 hw) (by decide) (by decide)) (lenOf pd_5 rfl) (Nat.le_of_ble_eq_true rfl) rfl (Nat.le_of_ble_eq_true rfl) (Nat.le_of_ble_eq_true rfl) (fun _ q => nomatch q) (fun v h_1 sf_2 hq => ?_)
  obtain ⟨rfl, rfl⟩ := hq
  rw [rt16 b_c0]
  refine Go.more (sf' := []) ?_ (Nat.le_refl _) (Nat.le_refl _) (fun _ q => List.mem_append_right _ q)
  show G_cpc4_4 md l Z n0 b c0 c1 c2 c3 h0 0 0 [] h0 61 #[.val (.ref b), .val (.int (0 : Int32)), .val (.int (4 : Int32)), .val (.int (0 : Int32)), .val (.int (4 : Int32)), .val (.int (1 : Int32))] [(.int c0)]
  refine Go.callS (S := []) 64 [(.int c0)] d24_61 rfl rfl (w111 hw) (w112 hw) (w113 hw) (w114 hw) (by decide) (call_of_go (R := _) (len := 3) (W := 0) pf_0 (fun mid => ef_ishs mid c0 ) (c_ishs hw c0 ) (w114 hw) (w113 hw) (by decide) (by decide)) (lenOf pd_16 rfl) (Nat.le_of_ble_eq_true rfl) rfl (Nat.le_of_ble_eq_true rfl) (Nat.le_of_ble_eq_true rfl) (fun _ q => nomatch q) (fun v h_3 sf_4 hq => ?_)
  obtain ⟨rfl, r, rfl, ⟨rfl, hh_0⟩ | ⟨rfl, hh_0⟩⟩ := hq
  · skip
    refine Go.more (sf' := []) ?_ (Nat.le_refl _) (Nat.le_refl _) (fun _ q => List.mem_append_right _ q)
    show G_cpc4_4 md l Z n0 b c0 c1 c2 c3 h0 0 0 [] h0 64 #[.val (.ref b), .val (.int (0 : Int32)), .val (.int (4 : Int32)), .val (.int (0 : Int32)), .val (.int (4 : Int32)), .val (.int (1 : Int32))] [(.int (1 : Int32))]
    refine Go.ifN 67 d24_64 rfl (feq (by decide)).1 ?_
    refine Go.aloadN 68 d24_67 rfl rfl rfl ?_
    refine Go.iload 70 d24_68 rfl rfl ?_
    refine Go.callS (S := []) 73 [(.ref b), (.int (1 : Int32))] d24_70 rfl rfl (w102 hw) (w103 hw) (w28 hw) (w104 hw) (by decide) (call_of_go (R := _) (len := 3) (W := 0) (plainFor_of_name pn_0) (fun mid => ef_getc1 mid b (lo16 c1) (hi16 c1) [(.int (lo16 c0)), (.int (hi16 c0)), (.int (lo16 c1)), (.int (hi16 c1)), (.int (lo16 c2)), (.int (hi16 c2)), (.int (lo16 c3)), (.int (hi16 c3))] ) (c_getc1 hw b (lo16 c1) (hi16 c1) [(.int (lo16 c0)), (.int (hi16 c0)), (.int (lo16 c1)), (.int (hi16 c1)), (.int (lo16 c2)), (.int (hi16 c2)), (.int (lo16 c3)), (.int (hi16 c3))] A rfl rfl UA UH UL) (w104 hw) (w28 hw) (by decide) (by decide)) (lenOf pd_5 rfl) (Nat.le_of_ble_eq_true rfl) rfl (Nat.le_of_ble_eq_true rfl) (Nat.le_of_ble_eq_true rfl) (fun _ q => nomatch q) (fun v h_5 sf_6 hq => ?_)
    obtain ⟨rfl, rfl⟩ := hq
    rw [rt16 b_c1]
    refine Go.more (sf' := []) ?_ (Nat.le_refl _) (Nat.le_refl _) (fun _ q => List.mem_append_right _ q)
    show G_cpc4_4 md l Z n0 b c0 c1 c2 c3 h0 0 0 [] h0 73 #[.val (.ref b), .val (.int (0 : Int32)), .val (.int (4 : Int32)), .val (.int (0 : Int32)), .val (.int (4 : Int32)), .val (.int (1 : Int32))] [(.int c1)]
    refine Go.callS (S := []) 76 [(.int c1)] d24_73 rfl rfl (w117 hw) (w118 hw) (w113 hw) (w119 hw) (by decide) (call_of_go (R := _) (len := 3) (W := 0) pf_1 (fun mid => ef_isls mid c1 ) (c_isls hw c1 ) (w119 hw) (w113 hw) (by decide) (by decide)) (lenOf pd_16 rfl) (Nat.le_of_ble_eq_true rfl) rfl (Nat.le_of_ble_eq_true rfl) (Nat.le_of_ble_eq_true rfl) (fun _ q => nomatch q) (fun v h_7 sf_8 hq => ?_)
    obtain ⟨rfl, r, rfl, ⟨rfl, hl_1⟩ | ⟨rfl, hl_1⟩⟩ := hq
    · skip
      refine Go.more (sf' := []) ?_ (Nat.le_refl _) (Nat.le_refl _) (fun _ q => List.mem_append_right _ q)
      show G_cpc4_4 md l Z n0 b c0 c1 c2 c3 h0 0 0 [] h0 76 #[.val (.ref b), .val (.int (0 : Int32)), .val (.int (4 : Int32)), .val (.int (0 : Int32)), .val (.int (4 : Int32)), .val (.int (1 : Int32))] [(.int (1 : Int32))]
      refine Go.ifN 79 d24_76 rfl (feq (by decide)).1 ?_
      refine Go.iinc 82 #[.val (.ref b), .val (.int (0 : Int32)), .val (.int (4 : Int32)), .val (.int (0 : Int32)), .val (.int ((4 : Int32) + (-1 : Int32))), .val (.int (1 : Int32))] (-1 : Int32) d24_79 rfl rfl rfl rfl ?_
      rw [show ((4 : Int32) + (-1 : Int32)) = (3 : Int32) from by decide]
      refine Go.iinc 85 #[.val (.ref b), .val (.int (0 : Int32)), .val (.int (4 : Int32)), .val (.int (0 : Int32)), .val (.int (3 : Int32)), .val (.int ((1 : Int32) + (1 : Int32)))] (1 : Int32) d24_82 rfl rfl rfl rfl ?_
      rw [show ((1 : Int32) + (1 : Int32)) = (2 : Int32) from by decide]
      refine Go.goto 44 d24_85 (by decide) (by decide) ?_
      refine Go.iload 46 d24_44 rfl rfl ?_
      refine Go.iloadN 47 d24_46 rfl rfl ?_
      refine Go.iconst 48 (1 : Int32) d24_47 rfl rfl ?_
      refine Go.isub 49 d24_48 rfl ?_
      rw [show ((4 : Int32) - (1 : Int32)) = (3 : Int32) from by decide]
      refine Go.icmpN 52 d24_49 rfl (tlt (by decide)).2.1 ?_
      refine Go.aloadN 53 d24_52 rfl rfl rfl ?_
      refine Go.iload 55 d24_53 rfl rfl ?_
      refine Go.iinc 58 #[.val (.ref b), .val (.int (0 : Int32)), .val (.int (4 : Int32)), .val (.int (0 : Int32)), .val (.int (3 : Int32)), .val (.int ((2 : Int32) + (1 : Int32)))] (1 : Int32) d24_55 rfl rfl rfl rfl ?_
      rw [show ((2 : Int32) + (1 : Int32)) = (3 : Int32) from by decide]
      refine Go.callS (S := []) 61 [(.ref b), (.int (2 : Int32))] d24_58 rfl rfl (w102 hw) (w103 hw) (w28 hw) (w104 hw) (by decide) (call_of_go (R := _) (len := 3) (W := 0) (plainFor_of_name pn_0) (fun mid => ef_getc2 mid b (lo16 c2) (hi16 c2) [(.int (lo16 c0)), (.int (hi16 c0)), (.int (lo16 c1)), (.int (hi16 c1)), (.int (lo16 c2)), (.int (hi16 c2)), (.int (lo16 c3)), (.int (hi16 c3))] ) (c_getc2 hw b (lo16 c2) (hi16 c2) [(.int (lo16 c0)), (.int (hi16 c0)), (.int (lo16 c1)), (.int (hi16 c1)), (.int (lo16 c2)), (.int (hi16 c2)), (.int (lo16 c3)), (.int (hi16 c3))] A rfl rfl UA UH UL) (w104 hw) (w28 hw) (by decide) (by decide)) (lenOf pd_5 rfl) (Nat.le_of_ble_eq_true rfl) rfl (Nat.le_of_ble_eq_true rfl) (Nat.le_of_ble_eq_true rfl) (fun _ q => nomatch q) (fun v h_9 sf_10 hq => ?_)
      obtain ⟨rfl, rfl⟩ := hq
      rw [rt16 b_c2]
      refine Go.more (sf' := []) ?_ (Nat.le_refl _) (Nat.le_refl _) (fun _ q => List.mem_append_right _ q)
      show G_cpc4_4 md l Z n0 b c0 c1 c2 c3 h0 0 0 [] h0 61 #[.val (.ref b), .val (.int (0 : Int32)), .val (.int (4 : Int32)), .val (.int (0 : Int32)), .val (.int (3 : Int32)), .val (.int (3 : Int32))] [(.int c2)]
      refine Go.callS (S := []) 64 [(.int c2)] d24_61 rfl rfl (w111 hw) (w112 hw) (w113 hw) (w114 hw) (by decide) (call_of_go (R := _) (len := 3) (W := 0) pf_0 (fun mid => ef_ishs mid c2 ) (c_ishs hw c2 ) (w114 hw) (w113 hw) (by decide) (by decide)) (lenOf pd_16 rfl) (Nat.le_of_ble_eq_true rfl) rfl (Nat.le_of_ble_eq_true rfl) (Nat.le_of_ble_eq_true rfl) (fun _ q => nomatch q) (fun v h_11 sf_12 hq => ?_)
      obtain ⟨rfl, r, rfl, ⟨rfl, hh_2⟩ | ⟨rfl, hh_2⟩⟩ := hq
      · skip
        refine Go.more (sf' := []) ?_ (Nat.le_refl _) (Nat.le_refl _) (fun _ q => List.mem_append_right _ q)
        show G_cpc4_4 md l Z n0 b c0 c1 c2 c3 h0 0 0 [] h0 64 #[.val (.ref b), .val (.int (0 : Int32)), .val (.int (4 : Int32)), .val (.int (0 : Int32)), .val (.int (3 : Int32)), .val (.int (3 : Int32))] [(.int (1 : Int32))]
        refine Go.ifN 67 d24_64 rfl (feq (by decide)).1 ?_
        refine Go.aloadN 68 d24_67 rfl rfl rfl ?_
        refine Go.iload 70 d24_68 rfl rfl ?_
        refine Go.callS (S := []) 73 [(.ref b), (.int (3 : Int32))] d24_70 rfl rfl (w102 hw) (w103 hw) (w28 hw) (w104 hw) (by decide) (call_of_go (R := _) (len := 3) (W := 0) (plainFor_of_name pn_0) (fun mid => ef_getc3 mid b (lo16 c3) (hi16 c3) [(.int (lo16 c0)), (.int (hi16 c0)), (.int (lo16 c1)), (.int (hi16 c1)), (.int (lo16 c2)), (.int (hi16 c2)), (.int (lo16 c3)), (.int (hi16 c3))] ) (c_getc3 hw b (lo16 c3) (hi16 c3) [(.int (lo16 c0)), (.int (hi16 c0)), (.int (lo16 c1)), (.int (hi16 c1)), (.int (lo16 c2)), (.int (hi16 c2)), (.int (lo16 c3)), (.int (hi16 c3))] A rfl rfl UA UH UL) (w104 hw) (w28 hw) (by decide) (by decide)) (lenOf pd_5 rfl) (Nat.le_of_ble_eq_true rfl) rfl (Nat.le_of_ble_eq_true rfl) (Nat.le_of_ble_eq_true rfl) (fun _ q => nomatch q) (fun v h_13 sf_14 hq => ?_)
        obtain ⟨rfl, rfl⟩ := hq
        rw [rt16 b_c3]
        refine Go.more (sf' := []) ?_ (Nat.le_refl _) (Nat.le_refl _) (fun _ q => List.mem_append_right _ q)
        show G_cpc4_4 md l Z n0 b c0 c1 c2 c3 h0 0 0 [] h0 73 #[.val (.ref b), .val (.int (0 : Int32)), .val (.int (4 : Int32)), .val (.int (0 : Int32)), .val (.int (3 : Int32)), .val (.int (3 : Int32))] [(.int c3)]
        refine Go.callS (S := []) 76 [(.int c3)] d24_73 rfl rfl (w117 hw) (w118 hw) (w113 hw) (w119 hw) (by decide) (call_of_go (R := _) (len := 3) (W := 0) pf_1 (fun mid => ef_isls mid c3 ) (c_isls hw c3 ) (w119 hw) (w113 hw) (by decide) (by decide)) (lenOf pd_16 rfl) (Nat.le_of_ble_eq_true rfl) rfl (Nat.le_of_ble_eq_true rfl) (Nat.le_of_ble_eq_true rfl) (fun _ q => nomatch q) (fun v h_15 sf_16 hq => ?_)
        obtain ⟨rfl, r, rfl, ⟨rfl, hl_3⟩ | ⟨rfl, hl_3⟩⟩ := hq
        · skip
          refine Go.more (sf' := []) ?_ (Nat.le_refl _) (Nat.le_refl _) (fun _ q => List.mem_append_right _ q)
          show G_cpc4_4 md l Z n0 b c0 c1 c2 c3 h0 0 0 [] h0 76 #[.val (.ref b), .val (.int (0 : Int32)), .val (.int (4 : Int32)), .val (.int (0 : Int32)), .val (.int (3 : Int32)), .val (.int (3 : Int32))] [(.int (1 : Int32))]
          refine Go.ifN 79 d24_76 rfl (feq (by decide)).1 ?_
          refine Go.iinc 82 #[.val (.ref b), .val (.int (0 : Int32)), .val (.int (4 : Int32)), .val (.int (0 : Int32)), .val (.int ((3 : Int32) + (-1 : Int32))), .val (.int (3 : Int32))] (-1 : Int32) d24_79 rfl rfl rfl rfl ?_
          rw [show ((3 : Int32) + (-1 : Int32)) = (2 : Int32) from by decide]
          refine Go.iinc 85 #[.val (.ref b), .val (.int (0 : Int32)), .val (.int (4 : Int32)), .val (.int (0 : Int32)), .val (.int (2 : Int32)), .val (.int ((3 : Int32) + (1 : Int32)))] (1 : Int32) d24_82 rfl rfl rfl rfl ?_
          rw [show ((3 : Int32) + (1 : Int32)) = (4 : Int32) from by decide]
          refine Go.goto 44 d24_85 (by decide) (by decide) ?_
          refine Go.iload 46 d24_44 rfl rfl ?_
          refine Go.iloadN 47 d24_46 rfl rfl ?_
          refine Go.iconst 48 (1 : Int32) d24_47 rfl rfl ?_
          refine Go.isub 49 d24_48 rfl ?_
          rw [show ((4 : Int32) - (1 : Int32)) = (3 : Int32) from by decide]
          refine Go.icmpY 88 d24_49 (by decide) (by decide) (flt (by decide)).2.1 ?_
          refine Go.iload 90 d24_88 rfl rfl ?_
          exact Go.retI d24_90 rfl (sf' := []) (⟨rfl, by simp [cpc, hh_0, hl_1, hh_2, hl_3] <;> rfl⟩) (fun _ q => nomatch q) (Nat.le_of_ble_eq_true rfl) (Nat.le_of_ble_eq_true rfl)
        · skip
          refine Go.more (sf' := []) ?_ (Nat.le_refl _) (Nat.le_refl _) (fun _ q => List.mem_append_right _ q)
          show G_cpc4_4 md l Z n0 b c0 c1 c2 c3 h0 0 0 [] h0 76 #[.val (.ref b), .val (.int (0 : Int32)), .val (.int (4 : Int32)), .val (.int (0 : Int32)), .val (.int (3 : Int32)), .val (.int (3 : Int32))] [(.int (0 : Int32))]
          refine Go.ifY 44 d24_76 (by decide) (by decide) (teq (by decide)).1 ?_
          refine Go.iload 46 d24_44 rfl rfl ?_
          refine Go.iloadN 47 d24_46 rfl rfl ?_
          refine Go.iconst 48 (1 : Int32) d24_47 rfl rfl ?_
          refine Go.isub 49 d24_48 rfl ?_
          rw [show ((4 : Int32) - (1 : Int32)) = (3 : Int32) from by decide]
          refine Go.icmpY 88 d24_49 (by decide) (by decide) (flt (by decide)).2.1 ?_
          refine Go.iload 90 d24_88 rfl rfl ?_
          exact Go.retI d24_90 rfl (sf' := []) (⟨rfl, by simp [cpc, hh_0, hl_1, hh_2, hl_3] <;> rfl⟩) (fun _ q => nomatch q) (Nat.le_of_ble_eq_true rfl) (Nat.le_of_ble_eq_true rfl)
      · skip
        refine Go.more (sf' := []) ?_ (Nat.le_refl _) (Nat.le_refl _) (fun _ q => List.mem_append_right _ q)
        show G_cpc4_4 md l Z n0 b c0 c1 c2 c3 h0 0 0 [] h0 64 #[.val (.ref b), .val (.int (0 : Int32)), .val (.int (4 : Int32)), .val (.int (0 : Int32)), .val (.int (3 : Int32)), .val (.int (3 : Int32))] [(.int (0 : Int32))]
        refine Go.ifY 44 d24_64 (by decide) (by decide) (teq (by decide)).1 ?_
        refine Go.iload 46 d24_44 rfl rfl ?_
        refine Go.iloadN 47 d24_46 rfl rfl ?_
        refine Go.iconst 48 (1 : Int32) d24_47 rfl rfl ?_
        refine Go.isub 49 d24_48 rfl ?_
        rw [show ((4 : Int32) - (1 : Int32)) = (3 : Int32) from by decide]
        refine Go.icmpY 88 d24_49 (by decide) (by decide) (flt (by decide)).2.1 ?_
        refine Go.iload 90 d24_88 rfl rfl ?_
        exact Go.retI d24_90 rfl (sf' := []) (⟨rfl, by simp [cpc, hh_0, hl_1, hh_2] <;> rfl⟩) (fun _ q => nomatch q) (Nat.le_of_ble_eq_true rfl) (Nat.le_of_ble_eq_true rfl)
    · skip
      refine Go.more (sf' := []) ?_ (Nat.le_refl _) (Nat.le_refl _) (fun _ q => List.mem_append_right _ q)
      show G_cpc4_4 md l Z n0 b c0 c1 c2 c3 h0 0 0 [] h0 76 #[.val (.ref b), .val (.int (0 : Int32)), .val (.int (4 : Int32)), .val (.int (0 : Int32)), .val (.int (4 : Int32)), .val (.int (1 : Int32))] [(.int (0 : Int32))]
      refine Go.ifY 44 d24_76 (by decide) (by decide) (teq (by decide)).1 ?_
      refine Go.iload 46 d24_44 rfl rfl ?_
      refine Go.iloadN 47 d24_46 rfl rfl ?_
      refine Go.iconst 48 (1 : Int32) d24_47 rfl rfl ?_
      refine Go.isub 49 d24_48 rfl ?_
      rw [show ((4 : Int32) - (1 : Int32)) = (3 : Int32) from by decide]
      refine Go.icmpN 52 d24_49 rfl (tlt (by decide)).2.1 ?_
      refine Go.aloadN 53 d24_52 rfl rfl rfl ?_
      refine Go.iload 55 d24_53 rfl rfl ?_
      refine Go.iinc 58 #[.val (.ref b), .val (.int (0 : Int32)), .val (.int (4 : Int32)), .val (.int (0 : Int32)), .val (.int (4 : Int32)), .val (.int ((1 : Int32) + (1 : Int32)))] (1 : Int32) d24_55 rfl rfl rfl rfl ?_
      rw [show ((1 : Int32) + (1 : Int32)) = (2 : Int32) from by decide]
      refine Go.callS (S := []) 61 [(.ref b), (.int (1 : Int32))] d24_58 rfl rfl (w102 hw) (w103 hw) (w28 hw) (w104 hw) (by decide) (call_of_go (R := _) (len := 3) (W := 0) (plainFor_of_name pn_0) (fun mid => ef_getc1 mid b (lo16 c1) (hi16 c1) [(.int (lo16 c0)), (.int (hi16 c0)), (.int (lo16 c1)), (.int (hi16 c1)), (.int (lo16 c2)), (.int (hi16 c2)), (.int (lo16 c3)), (.int (hi16 c3))] ) (c_getc1 hw b (lo16 c1) (hi16 c1) [(.int (lo16 c0)), (.int (hi16 c0)), (.int (lo16 c1)), (.int (hi16 c1)), (.int (lo16 c2)), (.int (hi16 c2)), (.int (lo16 c3)), (.int (hi16 c3))] A rfl rfl UA UH UL) (w104 hw) (w28 hw) (by decide) (by decide)) (lenOf pd_5 rfl) (Nat.le_of_ble_eq_true rfl) rfl (Nat.le_of_ble_eq_true rfl) (Nat.le_of_ble_eq_true rfl) (fun _ q => nomatch q) (fun v h_17 sf_18 hq => ?_)
      obtain ⟨rfl, rfl⟩ := hq
      rw [rt16 b_c1]
      refine Go.more (sf' := []) ?_ (Nat.le_refl _) (Nat.le_refl _) (fun _ q => List.mem_append_right _ q)
      show G_cpc4_4 md l Z n0 b c0 c1 c2 c3 h0 0 0 [] h0 61 #[.val (.ref b), .val (.int (0 : Int32)), .val (.int (4 : Int32)), .val (.int (0 : Int32)), .val (.int (4 : Int32)), .val (.int (2 : Int32))] [(.int c1)]
      refine Go.callS (S := []) 64 [(.int c1)] d24_61 rfl rfl (w111 hw) (w112 hw) (w113 hw) (w114 hw) (by decide) (call_of_go (R := _) (len := 3) (W := 0) pf_0 (fun mid => ef_ishs mid c1 ) (c_ishs hw c1 ) (w114 hw) (w113 hw) (by decide) (by decide)) (lenOf pd_16 rfl) (Nat.le_of_ble_eq_true rfl) rfl (Nat.le_of_ble_eq_true rfl) (Nat.le_of_ble_eq_true rfl) (fun _ q => nomatch q) (fun v h_19 sf_20 hq => ?_)
      obtain ⟨rfl, r, rfl, ⟨rfl, hh_1⟩ | ⟨rfl, hh_1⟩⟩ := hq
      · skip
        refine Go.more (sf' := []) ?_ (Nat.le_refl _) (Nat.le_refl _) (fun _ q => List.mem_append_right _ q)
        show G_cpc4_4 md l Z n0 b c0 c1 c2 c3 h0 0 0 [] h0 64 #[.val (.ref b), .val (.int (0 : Int32)), .val (.int (4 : Int32)), .val (.int (0 : Int32)), .val (.int (4 : Int32)), .val (.int (2 : Int32))] [(.int (1 : Int32))]
        refine Go.ifN 67 d24_64 rfl (feq (by decide)).1 ?_
        refine Go.aloadN 68 d24_67 rfl rfl rfl ?_
        refine Go.iload 70 d24_68 rfl rfl ?_
        refine Go.callS (S := []) 73 [(.ref b), (.int (2 : Int32))] d24_70 rfl rfl (w102 hw) (w103 hw) (w28 hw) (w104 hw) (by decide) (call_of_go (R := _) (len := 3) (W := 0) (plainFor_of_name pn_0) (fun mid => ef_getc2 mid b (lo16 c2) (hi16 c2) [(.int (lo16 c0)), (.int (hi16 c0)), (.int (lo16 c1)), (.int (hi16 c1)), (.int (lo16 c2)), (.int (hi16 c2)), (.int (lo16 c3)), (.int (hi16 c3))] ) (c_getc2 hw b (lo16 c2) (hi16 c2) [(.int (lo16 c0)), (.int (hi16 c0)), (.int (lo16 c1)), (.int (hi16 c1)), (.int (lo16 c2)), (.int (hi16 c2)), (.int (lo16 c3)), (.int (hi16 c3))] A rfl rfl UA UH UL) (w104 hw) (w28 hw) (by decide) (by decide)) (lenOf pd_5 rfl) (Nat.le_of_ble_eq_true rfl) rfl (Nat.le_of_ble_eq_true rfl) (Nat.le_of_ble_eq_true rfl) (fun _ q => nomatch q) (fun v h_21 sf_22 hq => ?_)
        obtain ⟨rfl, rfl⟩ := hq
        rw [rt16 b_c2]
        refine Go.more (sf' := []) ?_ (Nat.le_refl _) (Nat.le_refl _) (fun _ q => List.mem_append_right _ q)
        show G_cpc4_4 md l Z n0 b c0 c1 c2 c3 h0 0 0 [] h0 73 #[.val (.ref b), .val (.int (0 : Int32)), .val (.int (4 : Int32)), .val (.int (0 : Int32)), .val (.int (4 : Int32)), .val (.int (2 : Int32))] [(.int c2)]
        refine Go.callS (S := []) 76 [(.int c2)] d24_73 rfl rfl (w117 hw) (w118 hw) (w113 hw) (w119 hw) (by decide) (call_of_go (R := _) (len := 3) (W := 0) pf_1 (fun mid => ef_isls mid c2 ) (c_isls hw c2 ) (w119 hw) (w113 hw) (by decide) (by decide)) (lenOf pd_16 rfl) (Nat.le_of_ble_eq_true rfl) rfl (Nat.le_of_ble_eq_true rfl) (Nat.le_of_ble_eq_true rfl) (fun _ q => nomatch q) (fun v h_23 sf_24 hq => ?_)
        obtain ⟨rfl, r, rfl, ⟨rfl, hl_2⟩ | ⟨rfl, hl_2⟩⟩ := hq
        · skip
          refine Go.more (sf' := []) ?_ (Nat.le_refl _) (Nat.le_refl _) (fun _ q => List.mem_append_right _ q)
          show G_cpc4_4 md l Z n0 b c0 c1 c2 c3 h0 0 0 [] h0 76 #[.val (.ref b), .val (.int (0 : Int32)), .val (.int (4 : Int32)), .val (.int (0 : Int32)), .val (.int (4 : Int32)), .val (.int (2 : Int32))] [(.int (1 : Int32))]
          refine Go.ifN 79 d24_76 rfl (feq (by decide)).1 ?_
          refine Go.iinc 82 #[.val (.ref b), .val (.int (0 : Int32)), .val (.int (4 : Int32)), .val (.int (0 : Int32)), .val (.int ((4 : Int32) + (-1 : Int32))), .val (.int (2 : Int32))] (-1 : Int32) d24_79 rfl rfl rfl rfl ?_
          rw [show ((4 : Int32) + (-1 : Int32)) = (3 : Int32) from by decide]
          refine Go.iinc 85 #[.val (.ref b), .val (.int (0 : Int32)), .val (.int (4 : Int32)), .val (.int (0 : Int32)), .val (.int (3 : Int32)), .val (.int ((2 : Int32) + (1 : Int32)))] (1 : Int32) d24_82 rfl rfl rfl rfl ?_
          rw [show ((2 : Int32) + (1 : Int32)) = (3 : Int32) from by decide]
          refine Go.goto 44 d24_85 (by decide) (by decide) ?_
          refine Go.iload 46 d24_44 rfl rfl ?_
          refine Go.iloadN 47 d24_46 rfl rfl ?_
          refine Go.iconst 48 (1 : Int32) d24_47 rfl rfl ?_
          refine Go.isub 49 d24_48 rfl ?_
          rw [show ((4 : Int32) - (1 : Int32)) = (3 : Int32) from by decide]
          refine Go.icmpY 88 d24_49 (by decide) (by decide) (flt (by decide)).2.1 ?_
          refine Go.iload 90 d24_88 rfl rfl ?_
          exact Go.retI d24_90 rfl (sf' := []) (⟨rfl, by simp [cpc, hh_0, hl_1, hh_1, hl_2] <;> rfl⟩) (fun _ q => nomatch q) (Nat.le_of_ble_eq_true rfl) (Nat.le_of_ble_eq_true rfl)
        · skip
          refine Go.more (sf' := []) ?_ (Nat.le_refl _) (Nat.le_refl _) (fun _ q => List.mem_append_right _ q)
          show G_cpc4_4 md l Z n0 b c0 c1 c2 c3 h0 0 0 [] h0 76 #[.val (.ref b), .val (.int (0 : Int32)), .val (.int (4 : Int32)), .val (.int (0 : Int32)), .val (.int (4 : Int32)), .val (.int (2 : Int32))] [(.int (0 : Int32))]
          refine Go.ifY 44 d24_76 (by decide) (by decide) (teq (by decide)).1 ?_
          refine Go.iload 46 d24_44 rfl rfl ?_
          refine Go.iloadN 47 d24_46 rfl rfl ?_
          refine Go.iconst 48 (1 : Int32) d24_47 rfl rfl ?_
          refine Go.isub 49 d24_48 rfl ?_
          rw [show ((4 : Int32) - (1 : Int32)) = (3 : Int32) from by decide]
          refine Go.icmpN 52 d24_49 rfl (tlt (by decide)).2.1 ?_
          refine Go.aloadN 53 d24_52 rfl rfl rfl ?_
          refine Go.iload 55 d24_53 rfl rfl ?_
          refine Go.iinc 58 #[.val (.ref b), .val (.int (0 : Int32)), .val (.int (4 : Int32)), .val (.int (0 : Int32)), .val (.int (4 : Int32)), .val (.int ((2 : Int32) + (1 : Int32)))] (1 : Int32) d24_55 rfl rfl rfl rfl ?_
          rw [show ((2 : Int32) + (1 : Int32)) = (3 : Int32) from by decide]
          refine Go.callS (S := []) 61 [(.ref b), (.int (2 : Int32))] d24_58 rfl rfl (w102 hw) (w103 hw) (w28 hw) (w104 hw) (by decide) (call_of_go (R := _) (len := 3) (W := 0) (plainFor_of_name pn_0) (fun mid => ef_getc2 mid b (lo16 c2) (hi16 c2) [(.int (lo16 c0)), (.int (hi16 c0)), (.int (lo16 c1)), (.int (hi16 c1)), (.int (lo16 c2)), (.int (hi16 c2)), (.int (lo16 c3)), (.int (hi16 c3))] ) (c_getc2 hw b (lo16 c2) (hi16 c2) [(.int (lo16 c0)), (.int (hi16 c0)), (.int (lo16 c1)), (.int (hi16 c1)), (.int (lo16 c2)), (.int (hi16 c2)), (.int (lo16 c3)), (.int (hi16 c3))] A rfl rfl UA UH UL) (w104 hw) (w28 hw) (by decide) (by decide)) (lenOf pd_5 rfl) (Nat.le_of_ble_eq_true rfl) rfl (Nat.le_of_ble_eq_true rfl) (Nat.le_of_ble_eq_true rfl) (fun _ q => nomatch q) (fun v h_25 sf_26 hq => ?_)
          obtain ⟨rfl, rfl⟩ := hq
          rw [rt16 b_c2]
          refine Go.more (sf' := []) ?_ (Nat.le_refl _) (Nat.le_refl _) (fun _ q => List.mem_append_right _ q)
          show G_cpc4_4 md l Z n0 b c0 c1 c2 c3 h0 0 0 [] h0 61 #[.val (.ref b), .val (.int (0 : Int32)), .val (.int (4 : Int32)), .val (.int (0 : Int32)), .val (.int (4 : Int32)), .val (.int (3 : Int32))] [(.int c2)]
          refine Go.callS (S := []) 64 [(.int c2)] d24_61 rfl rfl (w111 hw) (w112 hw) (w113 hw) (w114 hw) (by decide) (call_of_go (R := _) (len := 3) (W := 0) pf_0 (fun mid => ef_ishs mid c2 ) (c_ishs hw c2 ) (w114 hw) (w113 hw) (by decide) (by decide)) (lenOf pd_16 rfl) (Nat.le_of_ble_eq_true rfl) rfl (Nat.le_of_ble_eq_true rfl) (Nat.le_of_ble_eq_true rfl) (fun _ q => nomatch q) (fun v h_27 sf_28 hq => ?_)
          obtain ⟨rfl, r, rfl, ⟨rfl, hh_2⟩ | ⟨rfl, hh_2⟩⟩ := hq
          · skip
            refine Go.more (sf' := []) ?_ (Nat.le_refl _) (Nat.le_refl _) (fun _ q => List.mem_append_right _ q)
            show G_cpc4_4 md l Z n0 b c0 c1 c2 c3 h0 0 0 [] h0 64 #[.val (.ref b), .val (.int (0 : Int32)), .val (.int (4 : Int32)), .val (.int (0 : Int32)), .val (.int (4 : Int32)), .val (.int (3 : Int32))] [(.int (1 : Int32))]
            refine Go.ifN 67 d24_64 rfl (feq (by decide)).1 ?_
            refine Go.aloadN 68 d24_67 rfl rfl rfl ?_
            refine Go.iload 70 d24_68 rfl rfl ?_
            refine Go.callS (S := []) 73 [(.ref b), (.int (3 : Int32))] d24_70 rfl rfl (w102 hw) (w103 hw) (w28 hw) (w104 hw) (by decide) (call_of_go (R := _) (len := 3) (W := 0) (plainFor_of_name pn_0) (fun mid => ef_getc3 mid b (lo16 c3) (hi16 c3) [(.int (lo16 c0)), (.int (hi16 c0)), (.int (lo16 c1)), (.int (hi16 c1)), (.int (lo16 c2)), (.int (hi16 c2)), (.int (lo16 c3)), (.int (hi16 c3))] ) (c_getc3 hw b (lo16 c3) (hi16 c3) [(.int (lo16 c0)), (.int (hi16 c0)), (.int (lo16 c1)), (.int (hi16 c1)), (.int (lo16 c2)), (.int (hi16 c2)), (.int (lo16 c3)), (.int (hi16 c3))] A rfl rfl UA UH UL) (w104 hw) (w28 hw) (by decide) (by decide)) (lenOf pd_5 rfl) (Nat.le_of_ble_eq_true rfl) rfl (Nat.le_of_ble_eq_true rfl) (Nat.le_of_ble_eq_true rfl) (fun _ q => nomatch q) (fun v h_29 sf_30 hq => ?_)
            obtain ⟨rfl, rfl⟩ := hq
            rw [rt16 b_c3]
            refine Go.more (sf' := []) ?_ (Nat.le_refl _) (Nat.le_refl _) (fun _ q => List.mem_append_right _ q)
            show G_cpc4_4 md l Z n0 b c0 c1 c2 c3 h0 0 0 [] h0 73 #[.val (.ref b), .val (.int (0 : Int32)), .val (.int (4 : Int32)), .val (.int (0 : Int32)), .val (.int (4 : Int32)), .val (.int (3 : Int32))] [(.int c3)]
            refine Go.callS (S := []) 76 [(.int c3)] d24_73 rfl rfl (w117 hw) (w118 hw) (w113 hw) (w119 hw) (by decide) (call_of_go (R := _) (len := 3) (W := 0) pf_1 (fun mid => ef_isls mid c3 ) (c_isls hw c3 ) (w119 hw) (w113 hw) (by decide) (by decide)) (lenOf pd_16 rfl) (Nat.le_of_ble_eq_true rfl) rfl (Nat.le_of_ble_eq_true rfl) (Nat.le_of_ble_eq_true rfl) (fun _ q => nomatch q) (fun v h_31 sf_32 hq => ?_)
            obtain ⟨rfl, r, rfl, ⟨rfl, hl_3⟩ | ⟨rfl, hl_3⟩⟩ := hq
            · skip
              refine Go.more (sf' := []) ?_ (Nat.le_refl _) (Nat.le_refl _) (fun _ q => List.mem_append_right _ q)
              show G_cpc4_4 md l Z n0 b c0 c1 c2 c3 h0 0 0 [] h0 76 #[.val (.ref b), .val (.int (0 : Int32)), .val (.int (4 : Int32)), .val (.int (0 : Int32)), .val (.int (4 : Int32)), .val (.int (3 : Int32))] [(.int (1 : Int32))]
              refine Go.ifN 79 d24_76 rfl (feq (by decide)).1 ?_
              refine Go.iinc 82 #[.val (.ref b), .val (.int (0 : Int32)), .val (.int (4 : Int32)), .val (.int (0 : Int32)), .val (.int ((4 : Int32) + (-1 : Int32))), .val (.int (3 : Int32))] (-1 : Int32) d24_79 rfl rfl rfl rfl ?_
              rw [show ((4 : Int32) + (-1 : Int32)) = (3 : Int32) from by decide]
              refine Go.iinc 85 #[.val (.ref b), .val (.int (0 : Int32)), .val (.int (4 : Int32)), .val (.int (0 : Int32)), .val (.int (3 : Int32)), .val (.int ((3 : Int32) + (1 : Int32)))] (1 : Int32) d24_82 rfl rfl rfl rfl ?_
              rw [show ((3 : Int32) + (1 : Int32)) = (4 : Int32) from by decide]
              refine Go.goto 44 d24_85 (by decide) (by decide) ?_
              refine Go.iload 46 d24_44 rfl rfl ?_
              refine Go.iloadN 47 d24_46 rfl rfl ?_
              refine Go.iconst 48 (1 : Int32) d24_47 rfl rfl ?_
              refine Go.isub 49 d24_48 rfl ?_
              rw [show ((4 : Int32) - (1 : Int32)) = (3 : Int32) from by decide]
              refine Go.icmpY 88 d24_49 (by decide) (by decide) (flt (by decide)).2.1 ?_
              refine Go.iload 90 d24_88 rfl rfl ?_
              exact Go.retI d24_90 rfl (sf' := []) (⟨rfl, by simp [cpc, hh_0, hl_1, hh_1, hl_2, hh_2, hl_3] <;> rfl⟩) (fun _ q => nomatch q) (Nat.le_of_ble_eq_true rfl) (Nat.le_of_ble_eq_true rfl)
            · skip
              refine Go.more (sf' := []) ?_ (Nat.le_refl _) (Nat.le_refl _) (fun _ q => List.mem_append_right _ q)
              show G_cpc4_4 md l Z n0 b c0 c1 c2 c3 h0 0 0 [] h0 76 #[.val (.ref b), .val (.int (0 : Int32)), .val (.int (4 : Int32)), .val (.int (0 : Int32)), .val (.int (4 : Int32)), .val (.int (3 : Int32))] [(.int (0 : Int32))]
              refine Go.ifY 44 d24_76 (by decide) (by decide) (teq (by decide)).1 ?_
              refine Go.iload 46 d24_44 rfl rfl ?_
              refine Go.iloadN 47 d24_46 rfl rfl ?_
              refine Go.iconst 48 (1 : Int32) d24_47 rfl rfl ?_
              refine Go.isub 49 d24_48 rfl ?_
              rw [show ((4 : Int32) - (1 : Int32)) = (3 : Int32) from by decide]
              refine Go.icmpY 88 d24_49 (by decide) (by decide) (flt (by decide)).2.1 ?_
              refine Go.iload 90 d24_88 rfl rfl ?_
              exact Go.retI d24_90 rfl (sf' := []) (⟨rfl, by simp [cpc, hh_0, hl_1, hh_1, hl_2, hh_2, hl_3] <;> rfl⟩) (fun _ q => nomatch q) (Nat.le_of_ble_eq_true rfl) (Nat.le_of_ble_eq_true rfl)
          · skip
            refine Go.more (sf' := []) ?_ (Nat.le_refl _) (Nat.le_refl _) (fun _ q => List.mem_append_right _ q)
            show G_cpc4_4 md l Z n0 b c0 c1 c2 c3 h0 0 0 [] h0 64 #[.val (.ref b), .val (.int (0 : Int32)), .val (.int (4 : Int32)), .val (.int (0 : Int32)), .val (.int (4 : Int32)), .val (.int (3 : Int32))] [(.int (0 : Int32))]
            refine Go.ifY 44 d24_64 (by decide) (by decide) (teq (by decide)).1 ?_
            refine Go.iload 46 d24_44 rfl rfl ?_
            refine Go.iloadN 47 d24_46 rfl rfl ?_
            refine Go.iconst 48 (1 : Int32) d24_47 rfl rfl ?_
            refine Go.isub 49 d24_48 rfl ?_
            rw [show ((4 : Int32) - (1 : Int32)) = (3 : Int32) from by decide]
            refine Go.icmpY 88 d24_49 (by decide) (by decide) (flt (by decide)).2.1 ?_
            refine Go.iload 90 d24_88 rfl rfl ?_
            exact Go.retI d24_90 rfl (sf' := []) (⟨rfl, by simp [cpc, hh_0, hl_1, hh_1, hl_2, hh_2] <;> rfl⟩) (fun _ q => nomatch q) (Nat.le_of_ble_eq_true rfl) (Nat.le_of_ble_eq_true rfl)
      · skip
        refine Go.more (sf' := []) ?_ (Nat.le_refl _) (Nat.le_refl _) (fun _ q => List.mem_append_right _ q)
        show G_cpc4_4 md l Z n0 b c0 c1 c2 c3 h0 0 0 [] h0 64 #[.val (.ref b), .val (.int (0 : Int32)), .val (.int (4 : Int32)), .val (.int (0 : Int32)), .val (.int (4 : Int32)), .val (.int (2 : Int32))] [(.int (0 : Int32))]
        refine Go.ifY 44 d24_64 (by decide) (by decide) (teq (by decide)).1 ?_
        refine Go.iload 46 d24_44 rfl rfl ?_
        refine Go.iloadN 47 d24_46 rfl rfl ?_
        refine Go.iconst 48 (1 : Int32) d24_47 rfl rfl ?_
        refine Go.isub 49 d24_48 rfl ?_
        rw [show ((4 : Int32) - (1 : Int32)) = (3 : Int32) from by decide]
        refine Go.icmpN 52 d24_49 rfl (tlt (by decide)).2.1 ?_
        refine Go.aloadN 53 d24_52 rfl rfl rfl ?_
        refine Go.iload 55 d24_53 rfl rfl ?_
        refine Go.iinc 58 #[.val (.ref b), .val (.int (0 : Int32)), .val (.int (4 : Int32)), .val (.int (0 : Int32)), .val (.int (4 : Int32)), .val (.int ((2 : Int32) + (1 : Int32)))] (1 : Int32) d24_55 rfl rfl rfl rfl ?_
        rw [show ((2 : Int32) + (1 : Int32)) = (3 : Int32) from by decide]
        refine Go.callS (S := []) 61 [(.ref b), (.int (2 : Int32))] d24_58 rfl rfl (w102 hw) (w103 hw) (w28 hw) (w104 hw) (by decide) (call_of_go (R := _) (len := 3) (W := 0) (plainFor_of_name pn_0) (fun mid => ef_getc2 mid b (lo16 c2) (hi16 c2) [(.int (lo16 c0)), (.int (hi16 c0)), (.int (lo16 c1)), (.int (hi16 c1)), (.int (lo16 c2)), (.int (hi16 c2)), (.int (lo16 c3)), (.int (hi16 c3))] ) (c_getc2 hw b (lo16 c2) (hi16 c2) [(.int (lo16 c0)), (.int (hi16 c0)), (.int (lo16 c1)), (.int (hi16 c1)), (.int (lo16 c2)), (.int (hi16 c2)), (.int (lo16 c3)), (.int (hi16 c3))] A rfl rfl UA UH UL) (w104 hw) (w28 hw) (by decide) (by decide)) (lenOf pd_5 rfl) (Nat.le_of_ble_eq_true rfl) rfl (Nat.le_of_ble_eq_true rfl) (Nat.le_of_ble_eq_true rfl) (fun _ q => nomatch q) (fun v h_33 sf_34 hq => ?_)
        obtain ⟨rfl, rfl⟩ := hq
        rw [rt16 b_c2]
        refine Go.more (sf' := []) ?_ (Nat.le_refl _) (Nat.le_refl _) (fun _ q => List.mem_append_right _ q)
        show G_cpc4_4 md l Z n0 b c0 c1 c2 c3 h0 0 0 [] h0 61 #[.val (.ref b), .val (.int (0 : Int32)), .val (.int (4 : Int32)), .val (.int (0 : Int32)), .val (.int (4 : Int32)), .val (.int (3 : Int32))] [(.int c2)]
        refine Go.callS (S := []) 64 [(.int c2)] d24_61 rfl rfl (w111 hw) (w112 hw) (w113 hw) (w114 hw) (by decide) (call_of_go (R := _) (len := 3) (W := 0) pf_0 (fun mid => ef_ishs mid c2 ) (c_ishs hw c2 ) (w114 hw) (w113 hw) (by decide) (by decide)) (lenOf pd_16 rfl) (Nat.le_of_ble_eq_true rfl) rfl (Nat.le_of_ble_eq_true rfl) (Nat.le_of_ble_eq_true rfl) (fun _ q => nomatch q) (fun v h_35 sf_36 hq => ?_)
        obtain ⟨rfl, r, rfl, ⟨rfl, hh_2⟩ | ⟨rfl, hh_2⟩⟩ := hq
        · skip
          refine Go.more (sf' := []) ?_ (Nat.le_refl _) (Nat.le_refl _) (fun _ q => List.mem_append_right _ q)
          show G_cpc4_4 md l Z n0 b c0 c1 c2 c3 h0 0 0 [] h0 64 #[.val (.ref b), .val (.int (0 : Int32)), .val (.int (4 : Int32)), .val (.int (0 : Int32)), .val (.int (4 : Int32)), .val (.int (3 : Int32))] [(.int (1 : Int32))]
          refine Go.ifN 67 d24_64 rfl (feq (by decide)).1 ?_
          refine Go.aloadN 68 d24_67 rfl rfl rfl ?_
          refine Go.iload 70 d24_68 rfl rfl ?_
          refine Go.callS (S := []) 73 [(.ref b), (.int (3 : Int32))] d24_70 rfl rfl (w102 hw) (w103 hw) (w28 hw) (w104 hw) (by decide) (call_of_go (R := _) (len := 3) (W := 0) (plainFor_of_name pn_0) (fun mid => ef_getc3 mid b (lo16 c3) (hi16 c3) [(.int (lo16 c0)), (.int (hi16 c0)), (.int (lo16 c1)), (.int (hi16 c1)), (.int (lo16 c2)), (.int (hi16 c2)), (.int (lo16 c3)), (.int (hi16 c3))] ) (c_getc3 hw b (lo16 c3) (hi16 c3) [(.int (lo16 c0)), (.int (hi16 c0)), (.int (lo16 c1)), (.int (hi16 c1)), (.int (lo16 c2)), (.int (hi16 c2)), (.int (lo16 c3)), (.int (hi16 c3))] A rfl rfl UA UH UL) (w104 hw) (w28 hw) (by decide) (by decide)) (lenOf pd_5 rfl) (Nat.le_of_ble_eq_true rfl) rfl (Nat.le_of_ble_eq_true rfl) (Nat.le_of_ble_eq_true rfl) (fun _ q => nomatch q) (fun v h_37 sf_38 hq => ?_)
          obtain ⟨rfl, rfl⟩ := hq
          rw [rt16 b_c3]
          refine Go.more (sf' := []) ?_ (Nat.le_refl _) (Nat.le_refl _) (fun _ q => List.mem_append_right _ q)
          show G_cpc4_4 md l Z n0 b c0 c1 c2 c3 h0 0 0 [] h0 73 #[.val (.ref b), .val (.int (0 : Int32)), .val (.int (4 : Int32)), .val (.int (0 : Int32)), .val (.int (4 : Int32)), .val (.int (3 : Int32))] [(.int c3)]
          refine Go.callS (S := []) 76 [(.int c3)] d24_73 rfl rfl (w117 hw) (w118 hw) (w113 hw) (w119 hw) (by decide) (call_of_go (R := _) (len := 3) (W := 0) pf_1 (fun mid => ef_isls mid c3 ) (c_isls hw c3 ) (w119 hw) (w113 hw) (by decide) (by decide)) (lenOf pd_16 rfl) (Nat.le_of_ble_eq_true rfl) rfl (Nat.le_of_ble_eq_true rfl) (Nat.le_of_ble_eq_true rfl) (fun _ q => nomatch q) (fun v h_39 sf_40 hq => ?_)
          obtain ⟨rfl, r, rfl, ⟨rfl, hl_3⟩ | ⟨rfl, hl_3⟩⟩ := hq
          · skip
            refine Go.more (sf' := []) ?_ (Nat.le_refl _) (Nat.le_refl _) (fun _ q => List.mem_append_right _ q)
            show G_cpc4_4 md l Z n0 b c0 c1 c2 c3 h0 0 0 [] h0 76 #[.val (.ref b), .val (.int (0 : Int32)), .val (.int (4 : Int32)), .val (.int (0 : Int32)), .val (.int (4 : Int32)), .val (.int (3 : Int32))] [(.int (1 : Int32))]
            refine Go.ifN 79 d24_76 rfl (feq (by decide)).1 ?_
            refine Go.iinc 82 #[.val (.ref b), .val (.int (0 : Int32)), .val (.int (4 : Int32)), .val (.int (0 : Int32)), .val (.int ((4 : Int32) + (-1 : Int32))), .val (.int (3 : Int32))] (-1 : Int32) d24_79 rfl rfl rfl rfl ?_
            rw [show ((4 : Int32) + (-1 : Int32)) = (3 : Int32) from by decide]
            refine Go.iinc 85 #[.val (.ref b), .val (.int (0 : Int32)), .val (.int (4 : Int32)), .val (.int (0 : Int32)), .val (.int (3 : Int32)), .val (.int ((3 : Int32) + (1 : Int32)))] (1 : Int32) d24_82 rfl rfl rfl rfl ?_
            rw [show ((3 : Int32) + (1 : Int32)) = (4 : Int32) from by decide]
            refine Go.goto 44 d24_85 (by decide) (by decide) ?_
            refine Go.iload 46 d24_44 rfl rfl ?_
            refine Go.iloadN 47 d24_46 rfl rfl ?_
            refine Go.iconst 48 (1 : Int32) d24_47 rfl rfl ?_
            refine Go.isub 49 d24_48 rfl ?_
            rw [show ((4 : Int32) - (1 : Int32)) = (3 : Int32) from by decide]
            refine Go.icmpY 88 d24_49 (by decide) (by decide) (flt (by decide)).2.1 ?_
            refine Go.iload 90 d24_88 rfl rfl ?_
            exact Go.retI d24_90 rfl (sf' := []) (⟨rfl, by simp [cpc, hh_0, hl_1, hh_1, hh_2, hl_3] <;> rfl⟩) (fun _ q => nomatch q) (Nat.le_of_ble_eq_true rfl) (Nat.le_of_ble_eq_true rfl)
          · skip
            refine Go.more (sf' := []) ?_ (Nat.le_refl _) (Nat.le_refl _) (fun _ q => List.mem_append_right _ q)
            show G_cpc4_4 md l Z n0 b c0 c1 c2 c3 h0 0 0 [] h0 76 #[.val (.ref b), .val (.int (0 : Int32)), .val (.int (4 : Int32)), .val (.int (0 : Int32)), .val (.int (4 : Int32)), .val (.int (3 : Int32))] [(.int (0 : Int32))]
            refine Go.ifY 44 d24_76 (by decide) (by decide) (teq (by decide)).1 ?_
            refine Go.iload 46 d24_44 rfl rfl ?_
            refine Go.iloadN 47 d24_46 rfl rfl ?_
            refine Go.iconst 48 (1 : Int32) d24_47 rfl rfl ?_
            refine Go.isub 49 d24_48 rfl ?_
            rw [show ((4 : Int32) - (1 : Int32)) = (3 : Int32) from by decide]
            refine Go.icmpY 88 d24_49 (by decide) (by decide) (flt (by decide)).2.1 ?_
            refine Go.iload 90 d24_88 rfl rfl ?_
            exact Go.retI d24_90 rfl (sf' := []) (⟨rfl, by simp [cpc, hh_0, hl_1, hh_1, hh_2, hl_3] <;> rfl⟩) (fun _ q => nomatch q) (Nat.le_of_ble_eq_true rfl) (Nat.le_of_ble_eq_true rfl)
        · skip
          refine Go.more (sf' := []) ?_ (Nat.le_refl _) (Nat.le_refl _) (fun _ q => List.mem_append_right _ q)
          show G_cpc4_4 md l Z n0 b c0 c1 c2 c3 h0 0 0 [] h0 64 #[.val (.ref b), .val (.int (0 : Int32)), .val (.int (4 : Int32)), .val (.int (0 : Int32)), .val (.int (4 : Int32)), .val (.int (3 : Int32))] [(.int (0 : Int32))]
          refine Go.ifY 44 d24_64 (by decide) (by decide) (teq (by decide)).1 ?_
          refine Go.iload 46 d24_44 rfl rfl ?_
          refine Go.iloadN 47 d24_46 rfl rfl ?_
          refine Go.iconst 48 (1 : Int32) d24_47 rfl rfl ?_
          refine Go.isub 49 d24_48 rfl ?_
          rw [show ((4 : Int32) - (1 : Int32)) = (3 : Int32) from by decide]
          refine Go.icmpY 88 d24_49 (by decide) (by decide) (flt (by decide)).2.1 ?_
          refine Go.iload 90 d24_88 rfl rfl ?_
          exact Go.retI d24_90 rfl (sf' := []) (⟨rfl, by simp [cpc, hh_0, hl_1, hh_1, hh_2] <;> rfl⟩) (fun _ q => nomatch q) (Nat.le_of_ble_eq_true rfl) (Nat.le_of_ble_eq_true rfl)
  · skip
    refine Go.more (sf' := []) ?_ (Nat.le_refl _) (Nat.le_refl _) (fun _ q => List.mem_append_right _ q)
    show G_cpc4_4 md l Z n0 b c0 c1 c2 c3 h0 0 0 [] h0 64 #[.val (.ref b), .val (.int (0 : Int32)), .val (.int (4 : Int32)), .val (.int (0 : Int32)), .val (.int (4 : Int32)), .val (.int (1 : Int32))] [(.int (0 : Int32))]
    refine Go.ifY 44 d24_64 (by decide) (by decide) (teq (by decide)).1 ?_
    refine Go.iload 46 d24_44 rfl rfl ?_
    refine Go.iloadN 47 d24_46 rfl rfl ?_
    refine Go.iconst 48 (1 : Int32) d24_47 rfl rfl ?_
    refine Go.isub 49 d24_48 rfl ?_
    rw [show ((4 : Int32) - (1 : Int32)) = (3 : Int32) from by decide]
    refine Go.icmpN 52 d24_49 rfl (tlt (by decide)).2.1 ?_
    refine Go.aloadN 53 d24_52 rfl rfl rfl ?_
    refine Go.iload 55 d24_53 rfl rfl ?_
    refine Go.iinc 58 #[.val (.ref b), .val (.int (0 : Int32)), .val (.int (4 : Int32)), .val (.int (0 : Int32)), .val (.int (4 : Int32)), .val (.int ((1 : Int32) + (1 : Int32)))] (1 : Int32) d24_55 rfl rfl rfl rfl ?_
    rw [show ((1 : Int32) + (1 : Int32)) = (2 : Int32) from by decide]
    refine Go.callS (S := []) 61 [(.ref b), (.int (1 : Int32))] d24_58 rfl rfl (w102 hw) (w103 hw) (w28 hw) (w104 hw) (by decide) (call_of_go (R := _) (len := 3) (W := 0) (plainFor_of_name pn_0) (fun mid => ef_getc1 mid b (lo16 c1) (hi16 c1) [(.int (lo16 c0)), (.int (hi16 c0)), (.int (lo16 c1)), (.int (hi16 c1)), (.int (lo16 c2)), (.int (hi16 c2)), (.int (lo16 c3)), (.int (hi16 c3))] ) (c_getc1 hw b (lo16 c1) (hi16 c1) [(.int (lo16 c0)), (.int (hi16 c0)), (.int (lo16 c1)), (.int (hi16 c1)), (.int (lo16 c2)), (.int (hi16 c2)), (.int (lo16 c3)), (.int (hi16 c3))] A rfl rfl UA UH UL) (w104 hw) (w28 hw) (by decide) (by decide)) (lenOf pd_5 rfl) (Nat.le_of_ble_eq_true rfl) rfl (Nat.le_of_ble_eq_true rfl) (Nat.le_of_ble_eq_true rfl) (fun _ q => nomatch q) (fun v h_41 sf_42 hq => ?_)
    obtain ⟨rfl, rfl⟩ := hq
    rw [rt16 b_c1]
    refine Go.more (sf' := []) ?_ (Nat.le_refl _) (Nat.le_refl _) (fun _ q => List.mem_append_right _ q)
    show G_cpc4_4 md l Z n0 b c0 c1 c2 c3 h0 0 0 [] h0 61 #[.val (.ref b), .val (.int (0 : Int32)), .val (.int (4 : Int32)), .val (.int (0 : Int32)), .val (.int (4 : Int32)), .val (.int (2 : Int32))] [(.int c1)]
    refine Go.callS (S := []) 64 [(.int c1)] d24_61 rfl rfl (w111 hw) (w112 hw) (w113 hw) (w114 hw) (by decide) (call_of_go (R := _) (len := 3) (W := 0) pf_0 (fun mid => ef_ishs mid c1 ) (c_ishs hw c1 ) (w114 hw) (w113 hw) (by decide) (by decide)) (lenOf pd_16 rfl) (Nat.le_of_ble_eq_true rfl) rfl (Nat.le_of_ble_eq_true rfl) (Nat.le_of_ble_eq_true rfl) (fun _ q => nomatch q) (fun v h_43 sf_44 hq => ?_)
    obtain ⟨rfl, r, rfl, ⟨rfl, hh_1⟩ | ⟨rfl, hh_1⟩⟩ := hq
    · skip
      refine Go.more (sf' := []) ?_ (Nat.le_refl _) (Nat.le_refl _) (fun _ q => List.mem_append_right _ q)
      show G_cpc4_4 md l Z n0 b c0 c1 c2 c3 h0 0 0 [] h0 64 #[.val (.ref b), .val (.int (0 : Int32)), .val (.int (4 : Int32)), .val (.int (0 : Int32)), .val (.int (4 : Int32)), .val (.int (2 : Int32))] [(.int (1 : Int32))]
      refine Go.ifN 67 d24_64 rfl (feq (by decide)).1 ?_
      refine Go.aloadN 68 d24_67 rfl rfl rfl ?_
      refine Go.iload 70 d24_68 rfl rfl ?_
      refine Go.callS (S := []) 73 [(.ref b), (.int (2 : Int32))] d24_70 rfl rfl (w102 hw) (w103 hw) (w28 hw) (w104 hw) (by decide) (call_of_go (R := _) (len := 3) (W := 0) (plainFor_of_name pn_0) (fun mid => ef_getc2 mid b (lo16 c2) (hi16 c2) [(.int (lo16 c0)), (.int (hi16 c0)), (.int (lo16 c1)), (.int (hi16 c1)), (.int (lo16 c2)), (.int (hi16 c2)), (.int (lo16 c3)), (.int (hi16 c3))] ) (c_getc2 hw b (lo16 c2) (hi16 c2) [(.int (lo16 c0)), (.int (hi16 c0)), (.int (lo16 c1)), (.int (hi16 c1)), (.int (lo16 c2)), (.int (hi16 c2)), (.int (lo16 c3)), (.int (hi16 c3))] A rfl rfl UA UH UL) (w104 hw) (w28 hw) (by decide) (by decide)) (lenOf pd_5 rfl) (Nat.le_of_ble_eq_true rfl) rfl (Nat.le_of_ble_eq_true rfl) (Nat.le_of_ble_eq_true rfl) (fun _ q => nomatch q) (fun v h_45 sf_46 hq => ?_)
      obtain ⟨rfl, rfl⟩ := hq
      rw [rt16 b_c2]
      refine Go.more (sf' := []) ?_ (Nat.le_refl _) (Nat.le_refl _) (fun _ q => List.mem_append_right _ q)
      show G_cpc4_4 md l Z n0 b c0 c1 c2 c3 h0 0 0 [] h0 73 #[.val (.ref b), .val (.int (0 : Int32)), .val (.int (4 : Int32)), .val (.int (0 : Int32)), .val (.int (4 : Int32)), .val (.int (2 : Int32))] [(.int c2)]
      refine Go.callS (S := []) 76 [(.int c2)] d24_73 rfl rfl (w117 hw) (w118 hw) (w113 hw) (w119 hw) (by decide) (call_of_go (R := _) (len := 3) (W := 0) pf_1 (fun mid => ef_isls mid c2 ) (c_isls hw c2 ) (w119 hw) (w113 hw) (by decide) (by decide)) (lenOf pd_16 rfl) (Nat.le_of_ble_eq_true rfl) rfl (Nat.le_of_ble_eq_true rfl) (Nat.le_of_ble_eq_true rfl) (fun _ q => nomatch q) (fun v h_47 sf_48 hq => ?_)
      obtain ⟨rfl, r, rfl, ⟨rfl, hl_2⟩ | ⟨rfl, hl_2⟩⟩ := hq
      · skip
        refine Go.more (sf' := []) ?_ (Nat.le_refl _) (Nat.le_refl _) (fun _ q => List.mem_append_right _ q)
        show G_cpc4_4 md l Z n0 b c0 c1 c2 c3 h0 0 0 [] h0 76 #[.val (.ref b), .val (.int (0 : Int32)), .val (.int (4 : Int32)), .val (.int (0 : Int32)), .val (.int (4 : Int32)), .val (.int (2 : Int32))] [(.int (1 : Int32))]
        refine Go.ifN 79 d24_76 rfl (feq (by decide)).1 ?_
        refine Go.iinc 82 #[.val (.ref b), .val (.int (0 : Int32)), .val (.int (4 : Int32)), .val (.int (0 : Int32)), .val (.int ((4 : Int32) + (-1 : Int32))), .val (.int (2 : Int32))] (-1 : Int32) d24_79 rfl rfl rfl rfl ?_
        rw [show ((4 : Int32) + (-1 : Int32)) = (3 : Int32) from by decide]
        refine Go.iinc 85 #[.val (.ref b), .val (.int (0 : Int32)), .val (.int (4 : Int32)), .val (.int (0 : Int32)), .val (.int (3 : Int32)), .val (.int ((2 : Int32) + (1 : Int32)))] (1 : Int32) d24_82 rfl rfl rfl rfl ?_
        rw [show ((2 : Int32) + (1 : Int32)) = (3 : Int32) from by decide]
        refine Go.goto 44 d24_85 (by decide) (by decide) ?_
        refine Go.iload 46 d24_44 rfl rfl ?_
        refine Go.iloadN 47 d24_46 rfl rfl ?_
        refine Go.iconst 48 (1 : Int32) d24_47 rfl rfl ?_
        refine Go.isub 49 d24_48 rfl ?_
        rw [show ((4 : Int32) - (1 : Int32)) = (3 : Int32) from by decide]
        refine Go.icmpY 88 d24_49 (by decide) (by decide) (flt (by decide)).2.1 ?_
        refine Go.iload 90 d24_88 rfl rfl ?_
        exact Go.retI d24_90 rfl (sf' := []) (⟨rfl, by simp [cpc, hh_0, hh_1, hl_2] <;> rfl⟩) (fun _ q => nomatch q) (Nat.le_of_ble_eq_true rfl) (Nat.le_of_ble_eq_true rfl)
      · skip
        refine Go.more (sf' := []) ?_ (Nat.le_refl _) (Nat.le_refl _) (fun _ q => List.mem_append_right _ q)
        show G_cpc4_4 md l Z n0 b c0 c1 c2 c3 h0 0 0 [] h0 76 #[.val (.ref b), .val (.int (0 : Int32)), .val (.int (4 : Int32)), .val (.int (0 : Int32)), .val (.int (4 : Int32)), .val (.int (2 : Int32))] [(.int (0 : Int32))]
        refine Go.ifY 44 d24_76 (by decide) (by decide) (teq (by decide)).1 ?_
        refine Go.iload 46 d24_44 rfl rfl ?_
        refine Go.iloadN 47 d24_46 rfl rfl ?_
        refine Go.iconst 48 (1 : Int32) d24_47 rfl rfl ?_
        refine Go.isub 49 d24_48 rfl ?_
        rw [show ((4 : Int32) - (1 : Int32)) = (3 : Int32) from by decide]
        refine Go.icmpN 52 d24_49 rfl (tlt (by decide)).2.1 ?_
        refine Go.aloadN 53 d24_52 rfl rfl rfl ?_
        refine Go.iload 55 d24_53 rfl rfl ?_
        refine Go.iinc 58 #[.val (.ref b), .val (.int (0 : Int32)), .val (.int (4 : Int32)), .val (.int (0 : Int32)), .val (.int (4 : Int32)), .val (.int ((2 : Int32) + (1 : Int32)))] (1 : Int32) d24_55 rfl rfl rfl rfl ?_
        rw [show ((2 : Int32) + (1 : Int32)) = (3 : Int32) from by decide]
        refine Go.callS (S := []) 61 [(.ref b), (.int (2 : Int32))] d24_58 rfl rfl (w102 hw) (w103 hw) (w28 hw) (w104 hw) (by decide) (call_of_go (R := _) (len := 3) (W := 0) (plainFor_of_name pn_0) (fun mid => ef_getc2 mid b (lo16 c2) (hi16 c2) [(.int (lo16 c0)), (.int (hi16 c0)), (.int (lo16 c1)), (.int (hi16 c1)), (.int (lo16 c2)), (.int (hi16 c2)), (.int (lo16 c3)), (.int (hi16 c3))] ) (c_getc2 hw b (lo16 c2) (hi16 c2) [(.int (lo16 c0)), (.int (hi16 c0)), (.int (lo16 c1)), (.int (hi16 c1)), (.int (lo16 c2)), (.int (hi16 c2)), (.int (lo16 c3)), (.int (hi16 c3))] A rfl rfl UA UH UL) (w104 hw) (w28 hw) (by decide) (by decide)) (lenOf pd_5 rfl) (Nat.le_of_ble_eq_true rfl) rfl (Nat.le_of_ble_eq_true rfl) (Nat.le_of_ble_eq_true rfl) (fun _ q => nomatch q) (fun v h_49 sf_50 hq => ?_)
        obtain ⟨rfl, rfl⟩ := hq
        rw [rt16 b_c2]
        refine Go.more (sf' := []) ?_ (Nat.le_refl _) (Nat.le_refl _) (fun _ q => List.mem_append_right _ q)
        show G_cpc4_4 md l Z n0 b c0 c1 c2 c3 h0 0 0 [] h0 61 #[.val (.ref b), .val (.int (0 : Int32)), .val (.int (4 : Int32)), .val (.int (0 : Int32)), .val (.int (4 : Int32)), .val (.int (3 : Int32))] [(.int c2)]
        refine Go.callS (S := []) 64 [(.int c2)] d24_61 rfl rfl (w111 hw) (w112 hw) (w113 hw) (w114 hw) (by decide) (call_of_go (R := _) (len := 3) (W := 0) pf_0 (fun mid => ef_ishs mid c2 ) (c_ishs hw c2 ) (w114 hw) (w113 hw) (by decide) (by decide)) (lenOf pd_16 rfl) (Nat.le_of_ble_eq_true rfl) rfl (Nat.le_of_ble_eq_true rfl) (Nat.le_of_ble_eq_true rfl) (fun _ q => nomatch q) (fun v h_51 sf_52 hq => ?_)
        obtain ⟨rfl, r, rfl, ⟨rfl, hh_2⟩ | ⟨rfl, hh_2⟩⟩ := hq
        · skip
          refine Go.more (sf' := []) ?_ (Nat.le_refl _) (Nat.le_refl _) (fun _ q => List.mem_append_right _ q)
          show G_cpc4_4 md l Z n0 b c0 c1 c2 c3 h0 0 0 [] h0 64 #[.val (.ref b), .val (.int (0 : Int32)), .val (.int (4 : Int32)), .val (.int (0 : Int32)), .val (.int (4 : Int32)), .val (.int (3 : Int32))] [(.int (1 : Int32))]
          refine Go.ifN 67 d24_64 rfl (feq (by decide)).1 ?_
          refine Go.aloadN 68 d24_67 rfl rfl rfl ?_
          refine Go.iload 70 d24_68 rfl rfl ?_
          refine Go.callS (S := []) 73 [(.ref b), (.int (3 : Int32))] d24_70 rfl rfl (w102 hw) (w103 hw) (w28 hw) (w104 hw) (by decide) (call_of_go (R := _) (len := 3) (W := 0) (plainFor_of_name pn_0) (fun mid => ef_getc3 mid b (lo16 c3) (hi16 c3) [(.int (lo16 c0)), (.int (hi16 c0)), (.int (lo16 c1)), (.int (hi16 c1)), (.int (lo16 c2)), (.int (hi16 c2)), (.int (lo16 c3)), (.int (hi16 c3))] ) (c_getc3 hw b (lo16 c3) (hi16 c3) [(.int (lo16 c0)), (.int (hi16 c0)), (.int (lo16 c1)), (.int (hi16 c1)), (.int (lo16 c2)), (.int (hi16 c2)), (.int (lo16 c3)), (.int (hi16 c3))] A rfl rfl UA UH UL) (w104 hw) (w28 hw) (by decide) (by decide)) (lenOf pd_5 rfl) (Nat.le_of_ble_eq_true rfl) rfl (Nat.le_of_ble_eq_true rfl) (Nat.le_of_ble_eq_true rfl) (fun _ q => nomatch q) (fun v h_53 sf_54 hq => ?_)
          obtain ⟨rfl, rfl⟩ := hq
          rw [rt16 b_c3]
          refine Go.more (sf' := []) ?_ (Nat.le_refl _) (Nat.le_refl _) (fun _ q => List.mem_append_right _ q)
          show G_cpc4_4 md l Z n0 b c0 c1 c2 c3 h0 0 0 [] h0 73 #[.val (.ref b), .val (.int (0 : Int32)), .val (.int (4 : Int32)), .val (.int (0 : Int32)), .val (.int (4 : Int32)), .val (.int (3 : Int32))] [(.int c3)]
          refine Go.callS (S := []) 76 [(.int c3)] d24_73 rfl rfl (w117 hw) (w118 hw) (w113 hw) (w119 hw) (by decide) (call_of_go (R := _) (len := 3) (W := 0) pf_1 (fun mid => ef_isls mid c3 ) (c_isls hw c3 ) (w119 hw) (w113 hw) (by decide) (by decide)) (lenOf pd_16 rfl) (Nat.le_of_ble_eq_true rfl) rfl (Nat.le_of_ble_eq_true rfl) (Nat.le_of_ble_eq_true rfl) (fun _ q => nomatch q) (fun v h_55 sf_56 hq => ?_)
          obtain ⟨rfl, r, rfl, ⟨rfl, hl_3⟩ | ⟨rfl, hl_3⟩⟩ := hq
          · skip
            refine Go.more (sf' := []) ?_ (Nat.le_refl _) (Nat.le_refl _) (fun _ q => List.mem_append_right _ q)
            show G_cpc4_4 md l Z n0 b c0 c1 c2 c3 h0 0 0 [] h0 76 #[.val (.ref b), .val (.int (0 : Int32)), .val (.int (4 : Int32)), .val (.int (0 : Int32)), .val (.int (4 : Int32)), .val (.int (3 : Int32))] [(.int (1 : Int32))]
            refine Go.ifN 79 d24_76 rfl (feq (by decide)).1 ?_
            refine Go.iinc 82 #[.val (.ref b), .val (.int (0 : Int32)), .val (.int (4 : Int32)), .val (.int (0 : Int32)), .val (.int ((4 : Int32) + (-1 : Int32))), .val (.int (3 : Int32))] (-1 : Int32) d24_79 rfl rfl rfl rfl ?_
            rw [show ((4 : Int32) + (-1 : Int32)) = (3 : Int32) from by decide]
            refine Go.iinc 85 #[.val (.ref b), .val (.int (0 : Int32)), .val (.int (4 : Int32)), .val (.int (0 : Int32)), .val (.int (3 : Int32)), .val (.int ((3 : Int32) + (1 : Int32)))] (1 : Int32) d24_82 rfl rfl rfl rfl ?_
            rw [show ((3 : Int32) + (1 : Int32)) = (4 : Int32) from by decide]
            refine Go.goto 44 d24_85 (by decide) (by decide) ?_
            refine Go.iload 46 d24_44 rfl rfl ?_
            refine Go.iloadN 47 d24_46 rfl rfl ?_
            refine Go.iconst 48 (1 : Int32) d24_47 rfl rfl ?_
            refine Go.isub 49 d24_48 rfl ?_
            rw [show ((4 : Int32) - (1 : Int32)) = (3 : Int32) from by decide]
            refine Go.icmpY 88 d24_49 (by decide) (by decide) (flt (by decide)).2.1 ?_
            refine Go.iload 90 d24_88 rfl rfl ?_
            exact Go.retI d24_90 rfl (sf' := []) (⟨rfl, by simp [cpc, hh_0, hh_1, hl_2, hh_2, hl_3] <;> rfl⟩) (fun _ q => nomatch q) (Nat.le_of_ble_eq_true rfl) (Nat.le_of_ble_eq_true rfl)
          · skip
            refine Go.more (sf' := []) ?_ (Nat.le_refl _) (Nat.le_refl _) (fun _ q => List.mem_append_right _ q)
            show G_cpc4_4 md l Z n0 b c0 c1 c2 c3 h0 0 0 [] h0 76 #[.val (.ref b), .val (.int (0 : Int32)), .val (.int (4 : Int32)), .val (.int (0 : Int32)), .val (.int (4 : Int32)), .val (.int (3 : Int32))] [(.int (0 : Int32))]
            refine Go.ifY 44 d24_76 (by decide) (by decide) (teq (by decide)).1 ?_
            refine Go.iload 46 d24_44 rfl rfl ?_
            refine Go.iloadN 47 d24_46 rfl rfl ?_
            refine Go.iconst 48 (1 : Int32) d24_47 rfl rfl ?_
            refine Go.isub 49 d24_48 rfl ?_
            rw [show ((4 : Int32) - (1 : Int32)) = (3 : Int32) from by decide]
            refine Go.icmpY 88 d24_49 (by decide) (by decide) (flt (by decide)).2.1 ?_
            refine Go.iload 90 d24_88 rfl rfl ?_
            exact Go.retI d24_90 rfl (sf' := []) (⟨rfl, by simp [cpc, hh_0, hh_1, hl_2, hh_2, hl_3] <;> rfl⟩) (fun _ q => nomatch q) (Nat.le_of_ble_eq_true rfl) (Nat.le_of_ble_eq_true rfl)
        · skip
          refine Go.more (sf' := []) ?_ (Nat.le_refl _) (Nat.le_refl _) (fun _ q => List.mem_append_right _ q)
          show G_cpc4_4 md l Z n0 b c0 c1 c2 c3 h0 0 0 [] h0 64 #[.val (.ref b), .val (.int (0 : Int32)), .val (.int (4 : Int32)), .val (.int (0 : Int32)), .val (.int (4 : Int32)), .val (.int (3 : Int32))] [(.int (0 : Int32))]
          refine Go.ifY 44 d24_64 (by decide) (by decide) (teq (by decide)).1 ?_
          refine Go.iload 46 d24_44 rfl rfl ?_
          refine Go.iloadN 47 d24_46 rfl rfl ?_
          refine Go.iconst 48 (1 : Int32) d24_47 rfl rfl ?_
          refine Go.isub 49 d24_48 rfl ?_
          rw [show ((4 : Int32) - (1 : Int32)) = (3 : Int32) from by decide]
          refine Go.icmpY 88 d24_49 (by decide) (by decide) (flt (by decide)).2.1 ?_
          refine Go.iload 90 d24_88 rfl rfl ?_
          exact Go.retI d24_90 rfl (sf' := []) (⟨rfl, by simp [cpc, hh_0, hh_1, hl_2, hh_2] <;> rfl⟩) (fun _ q => nomatch q) (Nat.le_of_ble_eq_true rfl) (Nat.le_of_ble_eq_true rfl)
    · skip
      refine Go.more (sf' := []) ?_ (Nat.le_refl _) (Nat.le_refl _) (fun _ q => List.mem_append_right _ q)
      show G_cpc4_4 md l Z n0 b c0 c1 c2 c3 h0 0 0 [] h0 64 #[.val (.ref b), .val (.int (0 : Int32)), .val (.int (4 : Int32)), .val (.int (0 : Int32)), .val (.int (4 : Int32)), .val (.int (2 : Int32))] [(.int (0 : Int32))]
      refine Go.ifY 44 d24_64 (by decide) (by decide) (teq (by decide)).1 ?_
      refine Go.iload 46 d24_44 rfl rfl ?_
      refine Go.iloadN 47 d24_46 rfl rfl ?_
      refine Go.iconst 48 (1 : Int32) d24_47 rfl rfl ?_
      refine Go.isub 49 d24_48 rfl ?_
      rw [show ((4 : Int32) - (1 : Int32)) = (3 : Int32) from by decide]
      refine Go.icmpN 52 d24_49 rfl (tlt (by decide)).2.1 ?_
      refine Go.aloadN 53 d24_52 rfl rfl rfl ?_
      refine Go.iload 55 d24_53 rfl rfl ?_
      refine Go.iinc 58 #[.val (.ref b), .val (.int (0 : Int32)), .val (.int (4 : Int32)), .val (.int (0 : Int32)), .val (.int (4 : Int32)), .val (.int ((2 : Int32) + (1 : Int32)))] (1 : Int32) d24_55 rfl rfl rfl rfl ?_
      rw [show ((2 : Int32) + (1 : Int32)) = (3 : Int32) from by decide]
      refine Go.callS (S := []) 61 [(.ref b), (.int (2 : Int32))] d24_58 rfl rfl (w102 hw) (w103 hw) (w28 hw) (w104 hw) (by decide) (call_of_go (R := _) (len := 3) (W := 0) (plainFor_of_name pn_0) (fun mid => ef_getc2 mid b (lo16 c2) (hi16 c2) [(.int (lo16 c0)), (.int (hi16 c0)), (.int (lo16 c1)), (.int (hi16 c1)), (.int (lo16 c2)), (.int (hi16 c2)), (.int (lo16 c3)), (.int (hi16 c3))] ) (c_getc2 hw b (lo16 c2) (hi16 c2) [(.int (lo16 c0)), (.int (hi16 c0)), (.int (lo16 c1)), (.int (hi16 c1)), (.int (lo16 c2)), (.int (hi16 c2)), (.int (lo16 c3)), (.int (hi16 c3))] A rfl rfl UA UH UL) (w104 hw) (w28 hw) (by decide) (by decide)) (lenOf pd_5 rfl) (Nat.le_of_ble_eq_true rfl) rfl (Nat.le_of_ble_eq_true rfl) (Nat.le_of_ble_eq_true rfl) (fun _ q => nomatch q) (fun v h_57 sf_58 hq => ?_)
      obtain ⟨rfl, rfl⟩ := hq
      rw [rt16 b_c2]
      refine Go.more (sf' := []) ?_ (Nat.le_refl _) (Nat.le_refl _) (fun _ q => List.mem_append_right _ q)
      show G_cpc4_4 md l Z n0 b c0 c1 c2 c3 h0 0 0 [] h0 61 #[.val (.ref b), .val (.int (0 : Int32)), .val (.int (4 : Int32)), .val (.int (0 : Int32)), .val (.int (4 : Int32)), .val (.int (3 : Int32))] [(.int c2)]
      refine Go.callS (S := []) 64 [(.int c2)] d24_61 rfl rfl (w111 hw) (w112 hw) (w113 hw) (w114 hw) (by decide) (call_of_go (R := _) (len := 3) (W := 0) pf_0 (fun mid => ef_ishs mid c2 ) (c_ishs hw c2 ) (w114 hw) (w113 hw) (by decide) (by decide)) (lenOf pd_16 rfl) (Nat.le_of_ble_eq_true rfl) rfl (Nat.le_of_ble_eq_true rfl) (Nat.le_of_ble_eq_true rfl) (fun _ q => nomatch q) (fun v h_59 sf_60 hq => ?_)
      obtain ⟨rfl, r, rfl, ⟨rfl, hh_2⟩ | ⟨rfl, hh_2⟩⟩ := hq
      · skip
        refine Go.more (sf' := []) ?_ (Nat.le_refl _) (Nat.le_refl _) (fun _ q => List.mem_append_right _ q)
        show G_cpc4_4 md l Z n0 b c0 c1 c2 c3 h0 0 0 [] h0 64 #[.val (.ref b), .val (.int (0 : Int32)), .val (.int (4 : Int32)), .val (.int (0 : Int32)), .val (.int (4 : Int32)), .val (.int (3 : Int32))] [(.int (1 : Int32))]
        refine Go.ifN 67 d24_64 rfl (feq (by decide)).1 ?_
        refine Go.aloadN 68 d24_67 rfl rfl rfl ?_
        refine Go.iload 70 d24_68 rfl rfl ?_
        refine Go.callS (S := []) 73 [(.ref b), (.int (3 : Int32))] d24_70 rfl rfl (w102 hw) (w103 hw) (w28 hw) (w104 hw) (by decide) (call_of_go (R := _) (len := 3) (W := 0) (plainFor_of_name pn_0) (fun mid => ef_getc3 mid b (lo16 c3) (hi16 c3) [(.int (lo16 c0)), (.int (hi16 c0)), (.int (lo16 c1)), (.int (hi16 c1)), (.int (lo16 c2)), (.int (hi16 c2)), (.int (lo16 c3)), (.int (hi16 c3))] ) (c_getc3 hw b (lo16 c3) (hi16 c3) [(.int (lo16 c0)), (.int (hi16 c0)), (.int (lo16 c1)), (.int (hi16 c1)), (.int (lo16 c2)), (.int (hi16 c2)), (.int (lo16 c3)), (.int (hi16 c3))] A rfl rfl UA UH UL) (w104 hw) (w28 hw) (by decide) (by decide)) (lenOf pd_5 rfl) (Nat.le_of_ble_eq_true rfl) rfl (Nat.le_of_ble_eq_true rfl) (Nat.le_of_ble_eq_true rfl) (fun _ q => nomatch q) (fun v h_61 sf_62 hq => ?_)
        obtain ⟨rfl, rfl⟩ := hq
        rw [rt16 b_c3]
        refine Go.more (sf' := []) ?_ (Nat.le_refl _) (Nat.le_refl _) (fun _ q => List.mem_append_right _ q)
        show G_cpc4_4 md l Z n0 b c0 c1 c2 c3 h0 0 0 [] h0 73 #[.val (.ref b), .val (.int (0 : Int32)), .val (.int (4 : Int32)), .val (.int (0 : Int32)), .val (.int (4 : Int32)), .val (.int (3 : Int32))] [(.int c3)]
        refine Go.callS (S := []) 76 [(.int c3)] d24_73 rfl rfl (w117 hw) (w118 hw) (w113 hw) (w119 hw) (by decide) (call_of_go (R := _) (len := 3) (W := 0) pf_1 (fun mid => ef_isls mid c3 ) (c_isls hw c3 ) (w119 hw) (w113 hw) (by decide) (by decide)) (lenOf pd_16 rfl) (Nat.le_of_ble_eq_true rfl) rfl (Nat.le_of_ble_eq_true rfl) (Nat.le_of_ble_eq_true rfl) (fun _ q => nomatch q) (fun v h_63 sf_64 hq => ?_)
        obtain ⟨rfl, r, rfl, ⟨rfl, hl_3⟩ | ⟨rfl, hl_3⟩⟩ := hq
        · skip
          refine Go.more (sf' := []) ?_ (Nat.le_refl _) (Nat.le_refl _) (fun _ q => List.mem_append_right _ q)
          show G_cpc4_4 md l Z n0 b c0 c1 c2 c3 h0 0 0 [] h0 76 #[.val (.ref b), .val (.int (0 : Int32)), .val (.int (4 : Int32)), .val (.int (0 : Int32)), .val (.int (4 : Int32)), .val (.int (3 : Int32))] [(.int (1 : Int32))]
          refine Go.ifN 79 d24_76 rfl (feq (by decide)).1 ?_
          refine Go.iinc 82 #[.val (.ref b), .val (.int (0 : Int32)), .val (.int (4 : Int32)), .val (.int (0 : Int32)), .val (.int ((4 : Int32) + (-1 : Int32))), .val (.int (3 : Int32))] (-1 : Int32) d24_79 rfl rfl rfl rfl ?_
          rw [show ((4 : Int32) + (-1 : Int32)) = (3 : Int32) from by decide]
          refine Go.iinc 85 #[.val (.ref b), .val (.int (0 : Int32)), .val (.int (4 : Int32)), .val (.int (0 : Int32)), .val (.int (3 : Int32)), .val (.int ((3 : Int32) + (1 : Int32)))] (1 : Int32) d24_82 rfl rfl rfl rfl ?_
          rw [show ((3 : Int32) + (1 : Int32)) = (4 : Int32) from by decide]
          refine Go.goto 44 d24_85 (by decide) (by decide) ?_
          refine Go.iload 46 d24_44 rfl rfl ?_
          refine Go.iloadN 47 d24_46 rfl rfl ?_
          refine Go.iconst 48 (1 : Int32) d24_47 rfl rfl ?_
          refine Go.isub 49 d24_48 rfl ?_
          rw [show ((4 : Int32) - (1 : Int32)) = (3 : Int32) from by decide]
          refine Go.icmpY 88 d24_49 (by decide) (by decide) (flt (by decide)).2.1 ?_
          refine Go.iload 90 d24_88 rfl rfl ?_
          exact Go.retI d24_90 rfl (sf' := []) (⟨rfl, by simp [cpc, hh_0, hh_1, hh_2, hl_3] <;> rfl⟩) (fun _ q => nomatch q) (Nat.le_of_ble_eq_true rfl) (Nat.le_of_ble_eq_true rfl)
        · skip
          refine Go.more (sf' := []) ?_ (Nat.le_refl _) (Nat.le_refl _) (fun _ q => List.mem_append_right _ q)
          show G_cpc4_4 md l Z n0 b c0 c1 c2 c3 h0 0 0 [] h0 76 #[.val (.ref b), .val (.int (0 : Int32)), .val (.int (4 : Int32)), .val (.int (0 : Int32)), .val (.int (4 : Int32)), .val (.int (3 : Int32))] [(.int (0 : Int32))]
          refine Go.ifY 44 d24_76 (by decide) (by decide) (teq (by decide)).1 ?_
          refine Go.iload 46 d24_44 rfl rfl ?_
          refine Go.iloadN 47 d24_46 rfl rfl ?_
          refine Go.iconst 48 (1 : Int32) d24_47 rfl rfl ?_
          refine Go.isub 49 d24_48 rfl ?_
          rw [show ((4 : Int32) - (1 : Int32)) = (3 : Int32) from by decide]
          refine Go.icmpY 88 d24_49 (by decide) (by decide) (flt (by decide)).2.1 ?_
          refine Go.iload 90 d24_88 rfl rfl ?_
          exact Go.retI d24_90 rfl (sf' := []) (⟨rfl, by simp [cpc, hh_0, hh_1, hh_2, hl_3] <;> rfl⟩) (fun _ q => nomatch q) (Nat.le_of_ble_eq_true rfl) (Nat.le_of_ble_eq_true rfl)
      · skip
        refine Go.more (sf' := []) ?_ (Nat.le_refl _) (Nat.le_refl _) (fun _ q => List.mem_append_right _ q)
        show G_cpc4_4 md l Z n0 b c0 c1 c2 c3 h0 0 0 [] h0 64 #[.val (.ref b), .val (.int (0 : Int32)), .val (.int (4 : Int32)), .val (.int (0 : Int32)), .val (.int (4 : Int32)), .val (.int (3 : Int32))] [(.int (0 : Int32))]
        refine Go.ifY 44 d24_64 (by decide) (by decide) (teq (by decide)).1 ?_
        refine Go.iload 46 d24_44 rfl rfl ?_
        refine Go.iloadN 47 d24_46 rfl rfl ?_
        refine Go.iconst 48 (1 : Int32) d24_47 rfl rfl ?_
        refine Go.isub 49 d24_48 rfl ?_
        rw [show ((4 : Int32) - (1 : Int32)) = (3 : Int32) from by decide]
        refine Go.icmpY 88 d24_49 (by decide) (by decide) (flt (by decide)).2.1 ?_
        refine Go.iload 90 d24_88 rfl rfl ?_
        exact Go.retI d24_90 rfl (sf' := []) (⟨rfl, by simp [cpc, hh_0, hh_1, hh_2] <;> rfl⟩) (fun _ q => nomatch q) (Nat.le_of_ble_eq_true rfl) (Nat.le_of_ble_eq_true rfl)
abbrev G_cpc3_4 (md : Md) (l : Launch) (Z : State) (n0 : Nat) (b : Addr) (c0 c1 c2 c3 : Int32) (h0 : Heap) := Go md l Z n0 ({ frames := 2, cells := 0, slots := 0, locals := 30 } : Room) jdk_52_method_12_code 3 (some .int) "java/lang/StringUTF16" "codePointCount" (fun v h' _ => h0 = h' ∧ v = some (.int (cpc (4 : Int32) [c0, c1, c2, c3])))
theorem ef_cpc3_4 (mid : MethodId) (b : Addr) (c0 c1 c2 c3 : Int32)  : entryFrame mid #[(.ref b), (.int (0 : Int32)), (.int (4 : Int32))] 3 = mkF mid 0 #[.val (.ref b), .val (.int (0 : Int32)), .val (.int (4 : Int32))] [] := by first | (simp [entryFrame, mkF, argsToLocals, Value.category]; done) | rfl
set_option maxRecDepth 65536 in
set_option maxHeartbeats 40000000 in
theorem c_cpc3_4 {md : Md} {l : Launch} {Z : State} {n0 : Nat} {a0 : Array Value} (hw : HW a0 Z) (b : Addr) (c0 c1 c2 c3 : Int32) {h0 : Heap} (A : Ary Z h0 b .byte [(.int (lo16 c0)), (.int (hi16 c0)), (.int (lo16 c1)), (.int (hi16 c1)), (.int (lo16 c2)), (.int (hi16 c2)), (.int (lo16 c3)), (.int (hi16 c3))]) (b_c0 : CHP c0) (b_c1 : CHP c1) (b_c2 : CHP c2) (b_c3 : CHP c3) (UA : Sta Z Z.heap "java/lang/StringUTF16" "$assertionsDisabled" "Z" (.int 1)) (UH : Sta Z Z.heap "java/lang/StringUTF16" "HI_BYTE_SHIFT" "I" (.int 0)) (UL : Sta Z Z.heap "java/lang/StringUTF16" "LO_BYTE_SHIFT" "I" (.int 8))  : G_cpc3_4 md l Z n0 b c0 c1 c2 c3 h0 0 0 [] h0 0 #[.val (.ref b), .val (.int (0 : Int32)), .val (.int (4 : Int32))] [] := by
  refine Go.aloadN 1 d23_0 rfl rfl rfl ?_
  refine Go.iloadN 2 d23_1 rfl rfl ?_
  refine Go.iloadN 3 d23_2 rfl rfl ?_
  refine Go.iconst 4 (0 : Int32) d23_3 rfl rfl ?_
  refine Go.callS (S := []) 7 [(.ref b), (.int (0 : Int32)), (.int (4 : Int32)), (.int (0 : Int32))] d23_4 rfl rfl (w108 hw) (w109 hw) (w28 hw) (w110 hw) (by decide) (call_of_go (R := _) (len := 3) (W := 0) (plainFor_of_name pn_0) (fun mid => ef_cpc4_4 mid b c0 c1 c2 c3 ) (c_cpc4_4 hw b c0 c1 c2 c3 A b_c0 b_c1 b_c2 b_c3 UA UH UL) (w110 hw) (w28 hw) (by decide) (by decide)) (lenOf pd_9 rfl) (Nat.le_of_ble_eq_true rfl) rfl (Nat.le_of_ble_eq_true rfl) (Nat.le_of_ble_eq_true rfl) (fun _ q => nomatch q) (fun v h_1 sf_2 hq => ?_)
  obtain ⟨rfl, rfl⟩ := hq
  refine Go.more (sf' := []) ?_ (Nat.le_refl _) (Nat.le_refl _) (fun _ q => List.mem_append_right _ q)
  show G_cpc3_4 md l Z n0 b c0 c1 c2 c3 h0 0 0 [] h0 7 #[.val (.ref b), .val (.int (0 : Int32)), .val (.int (4 : Int32))] [(.int (cpc (4 : Int32) [c0, c1, c2, c3]))]
  exact Go.retI d23_7 rfl (sf' := []) (⟨rfl, rfl⟩) (fun _ q => nomatch q) (Nat.le_of_ble_eq_true rfl) (Nat.le_of_ble_eq_true rfl)
abbrev G_cft4 (md : Md) (l : Launch) (Z : State) (n0 : Nat)  (h0 : Heap) := Go md l Z n0 ({ frames := 0, cells := 0, slots := 0, locals := 0 } : Room) jdk_41_method_12_code 4 (some .int) "jdk/internal/util/Preconditions" "checkFromToIndex" (fun v h' _ => h0 = h' ∧ v = some (.int 0))
theorem ef_cft4 (mid : MethodId)   : entryFrame mid #[(.int (0 : Int32)), (.int (4 : Int32)), (.int (4 : Int32)), .null] 4 = mkF mid 0 #[.val (.int (0 : Int32)), .val (.int (4 : Int32)), .val (.int (4 : Int32)), .val .null] [] := by first | (simp [entryFrame, mkF, argsToLocals, Value.category]; done) | rfl
set_option maxRecDepth 65536 in
set_option maxHeartbeats 40000000 in
theorem c_cft4 {md : Md} {l : Launch} {Z : State} {n0 : Nat} {a0 : Array Value} (hw : HW a0 Z)  {h0 : Heap}  : G_cft4 md l Z n0  h0 0 0 [] h0 0 #[.val (.int (0 : Int32)), .val (.int (4 : Int32)), .val (.int (4 : Int32)), .val .null] [] := by
  refine Go.iloadN 1 d15_0 rfl rfl ?_
  refine Go.ifN 4 d15_1 rfl (flt (by decide)).1 ?_
  refine Go.iloadN 5 d15_4 rfl rfl ?_
  refine Go.iloadN 6 d15_5 rfl rfl ?_
  refine Go.icmpN 9 d15_6 rfl (flt (by decide)).2.2.1 ?_
  refine Go.iloadN 10 d15_9 rfl rfl ?_
  refine Go.iloadN 11 d15_10 rfl rfl ?_
  refine Go.icmpY 22 d15_11 (by decide) (by decide) (flt (by decide)).2.2.2 ?_
  refine Go.iloadN 23 d15_22 rfl rfl ?_
  exact Go.retI d15_23 rfl (sf' := []) (⟨rfl, rfl⟩) (fun _ q => nomatch q) (Nat.le_of_ble_eq_true rfl) (Nat.le_of_ble_eq_true rfl)
abbrev G_oft4 (md : Md) (l : Launch) (Z : State) (n0 : Nat)  (h0 : Heap) := Go md l Z n0 ({ frames := 1, cells := 0, slots := 0, locals := 15 } : Room) jdk_31_method_18_code 3 (some .int) "java/util/Objects" "checkFromToIndex" (fun v h' _ => h0 = h' ∧ v = some (.int 0))
theorem ef_oft4 (mid : MethodId)   : entryFrame mid #[(.int (0 : Int32)), (.int (4 : Int32)), (.int (4 : Int32))] 3 = mkF mid 0 #[.val (.int (0 : Int32)), .val (.int (4 : Int32)), .val (.int (4 : Int32))] [] := by first | (simp [entryFrame, mkF, argsToLocals, Value.category]; done) | rfl
set_option maxRecDepth 65536 in
set_option maxHeartbeats 40000000 in
theorem c_oft4 {md : Md} {l : Launch} {Z : State} {n0 : Nat} {a0 : Array Value} (hw : HW a0 Z)  {h0 : Heap}  : G_oft4 md l Z n0  h0 0 0 [] h0 0 #[.val (.int (0 : Int32)), .val (.int (4 : Int32)), .val (.int (4 : Int32))] [] := by
  refine Go.iloadN 1 d14_0 rfl rfl ?_
  refine Go.iloadN 2 d14_1 rfl rfl ?_
  refine Go.iloadN 3 d14_2 rfl rfl ?_
  refine Go.aconstNull 4 d14_3 rfl ?_
  refine Go.callS (S := []) 7 [(.int (0 : Int32)), (.int (4 : Int32)), (.int (4 : Int32)), .null] d14_4 rfl rfl (w73 hw) (w74 hw) (w75 hw) (w76 hw) (by decide) (call_of_go (R := _) (len := 3) (W := 0) (plainFor_of_name pn_2) (fun mid => ef_cft4 mid  ) (c_cft4 hw  ) (w76 hw) (w75 hw) (by decide) (by decide)) (lenOf pd_10 rfl) (Nat.le_of_ble_eq_true rfl) rfl (Nat.le_of_ble_eq_true rfl) (Nat.le_of_ble_eq_true rfl) (fun _ q => nomatch q) (fun v h_1 sf_2 hq => ?_)
  obtain ⟨rfl, rfl⟩ := hq
  refine Go.more (sf' := []) ?_ (Nat.le_refl _) (Nat.le_refl _) (fun _ q => List.mem_append_right _ q)
  show G_oft4 md l Z n0  h0 0 0 [] h0 7 #[.val (.int (0 : Int32)), .val (.int (4 : Int32)), .val (.int (4 : Int32))] [(.int (0 : Int32))]
  exact Go.retI d14_7 rfl (sf' := []) (⟨rfl, rfl⟩) (fun _ q => nomatch q) (Nat.le_of_ble_eq_true rfl) (Nat.le_of_ble_eq_true rfl)
abbrev G_cpp4_0 (md : Md) (l : Launch) (Z : State) (n0 : Nat) (x t : Addr) (z : Int32) (c0 c1 c2 c3 : Int32) (h0 : Heap) := Go md l Z n0 ({ frames := 2, cells := 0, slots := 0, locals := 29 } : Room) jdk_42_method_59_code 3 (some .int) "java/lang/String" "codePointCount" (fun v h' _ => h0 = h' ∧ v = some (.int (4 : Int32)))
theorem ef_cpp4_0 (mid : MethodId) (x t : Addr) (z : Int32) (c0 c1 c2 c3 : Int32)  : entryFrame mid #[(.ref x), (.int (0 : Int32)), (.int (4 : Int32))] 3 = mkF mid 0 #[.val (.ref x), .val (.int (0 : Int32)), .val (.int (4 : Int32))] [] := by first | (simp [entryFrame, mkF, argsToLocals, Value.category]; done) | rfl
set_option maxRecDepth 65536 in
set_option maxHeartbeats 40000000 in
theorem c_cpp4_0 {md : Md} {l : Launch} {Z : State} {n0 : Nat} {a0 : Array Value} (hw : HW a0 Z) (x t : Addr) (z : Int32) (c0 c1 c2 c3 : Int32) {h0 : Heap} (E : Exa Z h0 x "java/lang/String") (C : Fld Z h0 x "java/lang/String" "coder" "B" (.int 0)) (V : Fld Z h0 x "java/lang/String" "value" "[B" (.ref t)) (A : Ary Z h0 t .byte [(.int c0.toInt8.toInt32), (.int c1.toInt8.toInt32), (.int c2.toInt8.toInt32), (.int c3.toInt8.toInt32)]) (b_c0 : CHP c0) (b_c1 : CHP c1) (b_c2 : CHP c2) (b_c3 : CHP c3) (SC : Sta Z Z.heap "java/lang/String" "COMPACT_STRINGS" "Z" (.int z)) (hz : ¬ z = 0) (UA : Sta Z Z.heap "java/lang/StringUTF16" "$assertionsDisabled" "Z" (.int 1)) (UH : Sta Z Z.heap "java/lang/StringUTF16" "HI_BYTE_SHIFT" "I" (.int 0)) (UL : Sta Z Z.heap "java/lang/StringUTF16" "LO_BYTE_SHIFT" "I" (.int 8))  : G_cpp4_0 md l Z n0 x t z c0 c1 c2 c3 h0 0 0 [] h0 0 #[.val (.ref x), .val (.int (0 : Int32)), .val (.int (4 : Int32))] [] := by
  refine Go.iloadN 1 d13_0 rfl rfl ?_
  refine Go.iloadN 2 d13_1 rfl rfl ?_
  refine Go.aloadN 3 d13_2 rfl rfl rfl ?_
  refine Go.callV (S := [(.int (4 : Int32)), (.int (0 : Int32))]) (a := x) 6 [] d13_3 rfl rfl (w68 hw) (w54 hw) (w56 hw) (w55 hw) (fun _ q => notFace_of_selects (args := #[]) (mvT q (w56 hw))) (by decide) E (call_of_go (R := _) (len := 3) (W := 2) (plainFor_of_name pn_1) (fun mid => ef_glen mid x t z (0 : Int32) [(.int c0.toInt8.toInt32), (.int c1.toInt8.toInt32), (.int c2.toInt8.toInt32), (.int c3.toInt8.toInt32)] ) (c_glen hw x t z (0 : Int32) [(.int c0.toInt8.toInt32), (.int c1.toInt8.toInt32), (.int c2.toInt8.toInt32), (.int c3.toInt8.toInt32)] E C V A rfl SC hz) (w57 hw) (w14 hw) (by decide) (by decide)) (lenOf pd_11 rfl) (Nat.le_of_ble_eq_true rfl) rfl (Nat.le_of_ble_eq_true rfl) (Nat.le_of_ble_eq_true rfl) (fun _ q => nomatch q) (fun v h_1 sf_2 hq => ?_)
  obtain ⟨rfl, rfl⟩ := hq
  rw [show (Int32.ofNat (List.length (α := Value) [(.int c0.toInt8.toInt32), (.int c1.toInt8.toInt32), (.int c2.toInt8.toInt32), (.int c3.toInt8.toInt32)])) >>> ((0 : Int32) &&& 31) = (4 : Int32) from by show Int32.ofNat 4 >>> ((0 : Int32) &&& 31) = (4 : Int32); decide]
  refine Go.more (sf' := []) ?_ (Nat.le_refl _) (Nat.le_refl _) (fun _ q => List.mem_append_right _ q)
  show G_cpp4_0 md l Z n0 x t z c0 c1 c2 c3 h0 0 0 [] h0 6 #[.val (.ref x), .val (.int (0 : Int32)), .val (.int (4 : Int32))] [(.int (4 : Int32)), (.int (4 : Int32)), (.int (0 : Int32))]
  refine Go.callS (S := []) 9 [(.int (0 : Int32)), (.int (4 : Int32)), (.int (4 : Int32))] d13_6 rfl rfl (w69 hw) (w70 hw) (w71 hw) (w72 hw) (by decide) (call_of_go (R := _) (len := 3) (W := 0) (plainFor_of_name pn_3) (fun mid => ef_oft4 mid  ) (c_oft4 hw  ) (w72 hw) (w71 hw) (by decide) (by decide)) (lenOf pd_12 rfl) (Nat.le_of_ble_eq_true rfl) rfl (Nat.le_of_ble_eq_true rfl) (Nat.le_of_ble_eq_true rfl) (fun _ q => nomatch q) (fun v h_3 sf_4 hq => ?_)
  obtain ⟨rfl, rfl⟩ := hq
  refine Go.more (sf' := []) ?_ (Nat.le_refl _) (Nat.le_refl _) (fun _ q => List.mem_append_right _ q)
  show G_cpp4_0 md l Z n0 x t z c0 c1 c2 c3 h0 0 0 [] h0 9 #[.val (.ref x), .val (.int (0 : Int32)), .val (.int (4 : Int32))] [(.int (0 : Int32))]
  refine Go.pop 10 d13_9 rfl rfl ?_
  refine Go.aloadN 11 d13_10 rfl rfl rfl ?_
  refine Go.callV (S := []) (a := x) 14 [] d13_11 rfl rfl (w77 hw) (w78 hw) (w80 hw) (w79 hw) (fun _ q => notFace_of_selects (args := #[]) (mvT q (w80 hw))) (by decide) E (call_of_go (R := _) (len := 3) (W := 0) (plainFor_of_name pn_1) (fun mid => ef_isl0 mid x z ) (c_isl0 hw x z C SC hz) (w81 hw) (w14 hw) (by decide) (by decide)) (lenOf pd_13 rfl) (Nat.le_of_ble_eq_true rfl) rfl (Nat.le_of_ble_eq_true rfl) (Nat.le_of_ble_eq_true rfl) (fun _ q => nomatch q) (fun v h_5 sf_6 hq => ?_)
  obtain ⟨rfl, rfl⟩ := hq
  refine Go.more (sf' := []) ?_ (Nat.le_refl _) (Nat.le_refl _) (fun _ q => List.mem_append_right _ q)
  show G_cpp4_0 md l Z n0 x t z c0 c1 c2 c3 h0 0 0 [] h0 14 #[.val (.ref x), .val (.int (0 : Int32)), .val (.int (4 : Int32))] [(.int (1 : Int32))]
  refine Go.ifN 17 d13_14 rfl (feq (by decide)).1 ?_
  refine Go.iloadN 18 d13_17 rfl rfl ?_
  refine Go.iloadN 19 d13_18 rfl rfl ?_
  refine Go.isub 20 d13_19 rfl ?_
  rw [show ((4 : Int32) - (0 : Int32)) = (4 : Int32) from by decide]
  exact Go.retI d13_20 rfl (sf' := []) (⟨rfl, rfl⟩) (fun _ q => nomatch q) (Nat.le_of_ble_eq_true rfl) (Nat.le_of_ble_eq_true rfl)
abbrev G_cpp4_1 (md : Md) (l : Launch) (Z : State) (n0 : Nat) (x t : Addr) (z : Int32) (c0 c1 c2 c3 : Int32) (h0 : Heap) := Go md l Z n0 ({ frames := 3, cells := 0, slots := 0, locals := 44 } : Room) jdk_42_method_59_code 3 (some .int) "java/lang/String" "codePointCount" (fun v h' _ => h0 = h' ∧ v = some (.int (cpc (4 : Int32) [c0, c1, c2, c3])))
theorem ef_cpp4_1 (mid : MethodId) (x t : Addr) (z : Int32) (c0 c1 c2 c3 : Int32)  : entryFrame mid #[(.ref x), (.int (0 : Int32)), (.int (4 : Int32))] 3 = mkF mid 0 #[.val (.ref x), .val (.int (0 : Int32)), .val (.int (4 : Int32))] [] := by first | (simp [entryFrame, mkF, argsToLocals, Value.category]; done) | rfl
set_option maxRecDepth 65536 in
set_option maxHeartbeats 40000000 in
theorem c_cpp4_1 {md : Md} {l : Launch} {Z : State} {n0 : Nat} {a0 : Array Value} (hw : HW a0 Z) (x t : Addr) (z : Int32) (c0 c1 c2 c3 : Int32) {h0 : Heap} (E : Exa Z h0 x "java/lang/String") (C : Fld Z h0 x "java/lang/String" "coder" "B" (.int 1)) (V : Fld Z h0 x "java/lang/String" "value" "[B" (.ref t)) (A : Ary Z h0 t .byte [(.int (lo16 c0)), (.int (hi16 c0)), (.int (lo16 c1)), (.int (hi16 c1)), (.int (lo16 c2)), (.int (hi16 c2)), (.int (lo16 c3)), (.int (hi16 c3))]) (b_c0 : CHP c0) (b_c1 : CHP c1) (b_c2 : CHP c2) (b_c3 : CHP c3) (SC : Sta Z Z.heap "java/lang/String" "COMPACT_STRINGS" "Z" (.int z)) (hz : ¬ z = 0) (UA : Sta Z Z.heap "java/lang/StringUTF16" "$assertionsDisabled" "Z" (.int 1)) (UH : Sta Z Z.heap "java/lang/StringUTF16" "HI_BYTE_SHIFT" "I" (.int 0)) (UL : Sta Z Z.heap "java/lang/StringUTF16" "LO_BYTE_SHIFT" "I" (.int 8))  : G_cpp4_1 md l Z n0 x t z c0 c1 c2 c3 h0 0 0 [] h0 0 #[.val (.ref x), .val (.int (0 : Int32)), .val (.int (4 : Int32))] [] := by
  refine Go.iloadN 1 d13_0 rfl rfl ?_
  refine Go.iloadN 2 d13_1 rfl rfl ?_
  refine Go.aloadN 3 d13_2 rfl rfl rfl ?_
  refine Go.callV (S := [(.int (4 : Int32)), (.int (0 : Int32))]) (a := x) 6 [] d13_3 rfl rfl (w68 hw) (w54 hw) (w56 hw) (w55 hw) (fun _ q => notFace_of_selects (args := #[]) (mvT q (w56 hw))) (by decide) E (call_of_go (R := _) (len := 3) (W := 2) (plainFor_of_name pn_1) (fun mid => ef_glen mid x t z (1 : Int32) [(.int (lo16 c0)), (.int (hi16 c0)), (.int (lo16 c1)), (.int (hi16 c1)), (.int (lo16 c2)), (.int (hi16 c2)), (.int (lo16 c3)), (.int (hi16 c3))] ) (c_glen hw x t z (1 : Int32) [(.int (lo16 c0)), (.int (hi16 c0)), (.int (lo16 c1)), (.int (hi16 c1)), (.int (lo16 c2)), (.int (hi16 c2)), (.int (lo16 c3)), (.int (hi16 c3))] E C V A rfl SC hz) (w57 hw) (w14 hw) (by decide) (by decide)) (lenOf pd_11 rfl) (Nat.le_of_ble_eq_true rfl) rfl (Nat.le_of_ble_eq_true rfl) (Nat.le_of_ble_eq_true rfl) (fun _ q => nomatch q) (fun v h_1 sf_2 hq => ?_)
  obtain ⟨rfl, rfl⟩ := hq
  rw [show (Int32.ofNat (List.length (α := Value) [(.int (lo16 c0)), (.int (hi16 c0)), (.int (lo16 c1)), (.int (hi16 c1)), (.int (lo16 c2)), (.int (hi16 c2)), (.int (lo16 c3)), (.int (hi16 c3))])) >>> ((1 : Int32) &&& 31) = (4 : Int32) from by show Int32.ofNat 8 >>> ((1 : Int32) &&& 31) = (4 : Int32); decide]
  refine Go.more (sf' := []) ?_ (Nat.le_refl _) (Nat.le_refl _) (fun _ q => List.mem_append_right _ q)
  show G_cpp4_1 md l Z n0 x t z c0 c1 c2 c3 h0 0 0 [] h0 6 #[.val (.ref x), .val (.int (0 : Int32)), .val (.int (4 : Int32))] [(.int (4 : Int32)), (.int (4 : Int32)), (.int (0 : Int32))]
  refine Go.callS (S := []) 9 [(.int (0 : Int32)), (.int (4 : Int32)), (.int (4 : Int32))] d13_6 rfl rfl (w69 hw) (w70 hw) (w71 hw) (w72 hw) (by decide) (call_of_go (R := _) (len := 3) (W := 0) (plainFor_of_name pn_3) (fun mid => ef_oft4 mid  ) (c_oft4 hw  ) (w72 hw) (w71 hw) (by decide) (by decide)) (lenOf pd_12 rfl) (Nat.le_of_ble_eq_true rfl) rfl (Nat.le_of_ble_eq_true rfl) (Nat.le_of_ble_eq_true rfl) (fun _ q => nomatch q) (fun v h_3 sf_4 hq => ?_)
  obtain ⟨rfl, rfl⟩ := hq
  refine Go.more (sf' := []) ?_ (Nat.le_refl _) (Nat.le_refl _) (fun _ q => List.mem_append_right _ q)
  show G_cpp4_1 md l Z n0 x t z c0 c1 c2 c3 h0 0 0 [] h0 9 #[.val (.ref x), .val (.int (0 : Int32)), .val (.int (4 : Int32))] [(.int (0 : Int32))]
  refine Go.pop 10 d13_9 rfl rfl ?_
  refine Go.aloadN 11 d13_10 rfl rfl rfl ?_
  refine Go.callV (S := []) (a := x) 14 [] d13_11 rfl rfl (w77 hw) (w78 hw) (w80 hw) (w79 hw) (fun _ q => notFace_of_selects (args := #[]) (mvT q (w80 hw))) (by decide) E (call_of_go (R := _) (len := 3) (W := 0) (plainFor_of_name pn_1) (fun mid => ef_isl1 mid x z ) (c_isl1 hw x z C SC hz) (w81 hw) (w14 hw) (by decide) (by decide)) (lenOf pd_13 rfl) (Nat.le_of_ble_eq_true rfl) rfl (Nat.le_of_ble_eq_true rfl) (Nat.le_of_ble_eq_true rfl) (fun _ q => nomatch q) (fun v h_5 sf_6 hq => ?_)
  obtain ⟨rfl, rfl⟩ := hq
  refine Go.more (sf' := []) ?_ (Nat.le_refl _) (Nat.le_refl _) (fun _ q => List.mem_append_right _ q)
  show G_cpp4_1 md l Z n0 x t z c0 c1 c2 c3 h0 0 0 [] h0 14 #[.val (.ref x), .val (.int (0 : Int32)), .val (.int (4 : Int32))] [(.int (0 : Int32))]
  refine Go.ifY 21 d13_14 (by decide) (by decide) (teq (by decide)).1 ?_
  refine Go.aloadN 22 d13_21 rfl rfl rfl ?_
  refine Go.getF 25 d13_22 rfl (w39 hw) Via.refl V ?_
  refine Go.iloadN 26 d13_25 rfl rfl ?_
  refine Go.iloadN 27 d13_26 rfl rfl ?_
  refine Go.callS (S := []) 30 [(.ref t), (.int (0 : Int32)), (.int (4 : Int32))] d13_27 rfl rfl (w105 hw) (w106 hw) (w28 hw) (w107 hw) (by decide) (call_of_go (R := _) (len := 3) (W := 0) (plainFor_of_name pn_0) (fun mid => ef_cpc3_4 mid t c0 c1 c2 c3 ) (c_cpc3_4 hw t c0 c1 c2 c3 A b_c0 b_c1 b_c2 b_c3 UA UH UL) (w107 hw) (w28 hw) (by decide) (by decide)) (lenOf pd_14 rfl) (Nat.le_of_ble_eq_true rfl) rfl (Nat.le_of_ble_eq_true rfl) (Nat.le_of_ble_eq_true rfl) (fun _ q => nomatch q) (fun v h_7 sf_8 hq => ?_)
  obtain ⟨rfl, rfl⟩ := hq
  refine Go.more (sf' := []) ?_ (Nat.le_refl _) (Nat.le_refl _) (fun _ q => List.mem_append_right _ q)
  show G_cpp4_1 md l Z n0 x t z c0 c1 c2 c3 h0 0 0 [] h0 30 #[.val (.ref x), .val (.int (0 : Int32)), .val (.int (4 : Int32))] [(.int (cpc (4 : Int32) [c0, c1, c2, c3]))]
  exact Go.retI d13_30 rfl (sf' := []) (⟨rfl, rfl⟩) (fun _ q => nomatch q) (Nat.le_of_ble_eq_true rfl) (Nat.le_of_ble_eq_true rfl)
abbrev G_reqlen4 (md : Md) (l : Launch) (Z : State) (n0 : Nat) (f x : Addr) (mx z : Int32) (c0 c1 c2 c3 : Int32) (h0 : Heap) := Go md l Z n0 ({ frames := 4, cells := 0, slots := 0, locals := 58 } : Room) prog_15_method_2_code 3 (some (.object "java/lang/String")) "com/example/tugas/tugas/Text" "requireLength" (fun v h' _ => h0 = h' ∧ v = some (.ref x))
theorem ef_reqlen4 (mid : MethodId) (f x : Addr) (mx z : Int32) (c0 c1 c2 c3 : Int32)  : entryFrame mid #[(.ref f), (.ref x), (.int mx)] 3 = mkF mid 0 #[.val (.ref f), .val (.ref x), .val (.int mx)] [] := by first | (simp [entryFrame, mkF, argsToLocals, Value.category]; done) | rfl
set_option maxRecDepth 65536 in
set_option maxHeartbeats 40000000 in
theorem c_reqlen4 {md : Md} {l : Launch} {Z : State} {n0 : Nat} {a0 : Array Value} (hw : HW a0 Z) (f x : Addr) (mx z : Int32) (c0 c1 c2 c3 : Int32) {h0 : Heap} (G : Gst Z h0 x [c0, c1, c2, c3]) (hm : ¬ mx < cpc (4 : Int32) [c0, c1, c2, c3]) (b_c0 : CHP c0) (b_c1 : CHP c1) (b_c2 : CHP c2) (b_c3 : CHP c3) (SC : Sta Z Z.heap "java/lang/String" "COMPACT_STRINGS" "Z" (.int z)) (hz : ¬ z = 0) (UA : Sta Z Z.heap "java/lang/StringUTF16" "$assertionsDisabled" "Z" (.int 1)) (UH : Sta Z Z.heap "java/lang/StringUTF16" "HI_BYTE_SHIFT" "I" (.int 0)) (UL : Sta Z Z.heap "java/lang/StringUTF16" "LO_BYTE_SHIFT" "I" (.int 8))  : G_reqlen4 md l Z n0 f x mx z c0 c1 c2 c3 h0 0 0 [] h0 0 #[.val (.ref f), .val (.ref x), .val (.int mx)] [] := by
  obtain ⟨t, cd, vs, E, C, V, A, ⟨rfl, rfl, hb⟩ | ⟨rfl, rfl, hb⟩⟩ := G
  · skip
    have A' : Ary Z h0 t .byte [(.int c0.toInt8.toInt32), (.int c1.toInt8.toInt32), (.int c2.toInt8.toInt32), (.int c3.toInt8.toInt32)] := A
    refine Go.aloadN 1 d9_0 rfl rfl rfl ?_
    refine Go.nullN 4 d9_1 rfl ?_
    refine Go.aloadN 5 d9_4 rfl rfl rfl ?_
    refine Go.callV (S := []) (a := x) 8 [] d9_5 rfl rfl (w48 hw) (w49 hw) (w51 hw) (w50 hw) (fun _ q => notFace_of_selects (args := #[]) (mvT q (w51 hw))) (by decide) E (call_of_go (R := _) (len := 3) (W := 0) (plainFor_of_name pn_1) (fun mid => ef_isemp mid x t [(.int c0.toInt8.toInt32), (.int c1.toInt8.toInt32), (.int c2.toInt8.toInt32), (.int c3.toInt8.toInt32)] ) (c_isemp hw x t [(.int c0.toInt8.toInt32), (.int c1.toInt8.toInt32), (.int c2.toInt8.toInt32), (.int c3.toInt8.toInt32)] V A' (by show ¬ Int32.ofNat 4 = 0; decide)) (w52 hw) (w14 hw) (by decide) (by decide)) (lenOf pd_13 rfl) (Nat.le_of_ble_eq_true rfl) rfl (Nat.le_of_ble_eq_true rfl) (Nat.le_of_ble_eq_true rfl) (fun _ q => nomatch q) (fun v h_1 sf_2 hq => ?_)
    obtain ⟨rfl, rfl⟩ := hq
    refine Go.more (sf' := []) ?_ (Nat.le_refl _) (Nat.le_refl _) (fun _ q => List.mem_append_right _ q)
    show G_reqlen4 md l Z n0 f x mx z c0 c1 c2 c3 h0 0 0 [] h0 8 #[.val (.ref f), .val (.ref x), .val (.int mx)] [(.int (0 : Int32))]
    refine Go.ifN 11 d9_8 rfl (teq (by decide)).2 ?_
    refine Go.aloadN 12 d9_11 rfl rfl rfl ?_
    refine Go.iconst 13 (0 : Int32) d9_12 rfl rfl ?_
    refine Go.aloadN 14 d9_13 rfl rfl rfl ?_
    refine Go.callV (S := [(.int (0 : Int32)), (.ref x)]) (a := x) 17 [] d9_14 rfl rfl (w53 hw) (w54 hw) (w56 hw) (w55 hw) (fun _ q => notFace_of_selects (args := #[]) (mvT q (w56 hw))) (by decide) E (call_of_go (R := _) (len := 3) (W := 2) (plainFor_of_name pn_1) (fun mid => ef_glen mid x t z (0 : Int32) [(.int c0.toInt8.toInt32), (.int c1.toInt8.toInt32), (.int c2.toInt8.toInt32), (.int c3.toInt8.toInt32)] ) (c_glen hw x t z (0 : Int32) [(.int c0.toInt8.toInt32), (.int c1.toInt8.toInt32), (.int c2.toInt8.toInt32), (.int c3.toInt8.toInt32)] E C V A' rfl SC hz) (w57 hw) (w14 hw) (by decide) (by decide)) (lenOf pd_11 rfl) (Nat.le_of_ble_eq_true rfl) rfl (Nat.le_of_ble_eq_true rfl) (Nat.le_of_ble_eq_true rfl) (fun _ q => nomatch q) (fun v h_3 sf_4 hq => ?_)
    obtain ⟨rfl, rfl⟩ := hq
    rw [show (Int32.ofNat (List.length (α := Value) [(.int c0.toInt8.toInt32), (.int c1.toInt8.toInt32), (.int c2.toInt8.toInt32), (.int c3.toInt8.toInt32)])) >>> ((0 : Int32) &&& 31) = (4 : Int32) from by show Int32.ofNat 4 >>> ((0 : Int32) &&& 31) = (4 : Int32); decide]
    refine Go.more (sf' := []) ?_ (Nat.le_refl _) (Nat.le_refl _) (fun _ q => List.mem_append_right _ q)
    show G_reqlen4 md l Z n0 f x mx z c0 c1 c2 c3 h0 0 0 [] h0 17 #[.val (.ref f), .val (.ref x), .val (.int mx)] [(.int (4 : Int32)), (.int (0 : Int32)), (.ref x)]
    refine Go.callV (S := []) (a := x) 20 [(.int (0 : Int32)), (.int (4 : Int32))] d9_17 rfl rfl (w63 hw) (w64 hw) (w66 hw) (w65 hw) (fun _ q => notFace_of_selects (args := #[]) (mvT q (w66 hw))) (by decide) E (call_of_go (R := _) (len := 3) (W := 0) (plainFor_of_name pn_1) (fun mid => ef_cpp4_0 mid x t z c0 c1 c2 c3 ) (c_cpp4_0 hw x t z c0 c1 c2 c3 E C V A' b_c0 b_c1 b_c2 b_c3 SC hz UA UH UL) (w67 hw) (w14 hw) (by decide) (by decide)) (lenOf pd_15 rfl) (Nat.le_of_ble_eq_true rfl) rfl (Nat.le_of_ble_eq_true rfl) (Nat.le_of_ble_eq_true rfl) (fun _ q => nomatch q) (fun v h_5 sf_6 hq => ?_)
    obtain ⟨rfl, rfl⟩ := hq
    refine Go.more (sf' := []) ?_ (Nat.le_refl _) (Nat.le_refl _) (fun _ q => List.mem_append_right _ q)
    show G_reqlen4 md l Z n0 f x mx z c0 c1 c2 c3 h0 0 0 [] h0 20 #[.val (.ref f), .val (.ref x), .val (.int mx)] [(.int (4 : Int32))]
    refine Go.iloadN 21 d9_20 rfl rfl ?_
    refine Go.icmpY 39 d9_21 (by decide) (by decide) (flt (by rw [cpc_lat hb] at hm; exact hm)).2.2.2 ?_
    refine Go.aloadN 40 d9_39 rfl rfl rfl ?_
    exact Go.retA d9_40 rfl rfl rfl (sf' := []) (⟨rfl, rfl⟩) (fun _ q => nomatch q) (Nat.le_of_ble_eq_true rfl) (Nat.le_of_ble_eq_true rfl)
  · skip
    have A' : Ary Z h0 t .byte [(.int (lo16 c0)), (.int (hi16 c0)), (.int (lo16 c1)), (.int (hi16 c1)), (.int (lo16 c2)), (.int (hi16 c2)), (.int (lo16 c3)), (.int (hi16 c3))] := A
    refine Go.aloadN 1 d9_0 rfl rfl rfl ?_
    refine Go.nullN 4 d9_1 rfl ?_
    refine Go.aloadN 5 d9_4 rfl rfl rfl ?_
    refine Go.callV (S := []) (a := x) 8 [] d9_5 rfl rfl (w48 hw) (w49 hw) (w51 hw) (w50 hw) (fun _ q => notFace_of_selects (args := #[]) (mvT q (w51 hw))) (by decide) E (call_of_go (R := _) (len := 3) (W := 0) (plainFor_of_name pn_1) (fun mid => ef_isemp mid x t [(.int (lo16 c0)), (.int (hi16 c0)), (.int (lo16 c1)), (.int (hi16 c1)), (.int (lo16 c2)), (.int (hi16 c2)), (.int (lo16 c3)), (.int (hi16 c3))] ) (c_isemp hw x t [(.int (lo16 c0)), (.int (hi16 c0)), (.int (lo16 c1)), (.int (hi16 c1)), (.int (lo16 c2)), (.int (hi16 c2)), (.int (lo16 c3)), (.int (hi16 c3))] V A' (by show ¬ Int32.ofNat 8 = 0; decide)) (w52 hw) (w14 hw) (by decide) (by decide)) (lenOf pd_13 rfl) (Nat.le_of_ble_eq_true rfl) rfl (Nat.le_of_ble_eq_true rfl) (Nat.le_of_ble_eq_true rfl) (fun _ q => nomatch q) (fun v h_7 sf_8 hq => ?_)
    obtain ⟨rfl, rfl⟩ := hq
    refine Go.more (sf' := []) ?_ (Nat.le_refl _) (Nat.le_refl _) (fun _ q => List.mem_append_right _ q)
    show G_reqlen4 md l Z n0 f x mx z c0 c1 c2 c3 h0 0 0 [] h0 8 #[.val (.ref f), .val (.ref x), .val (.int mx)] [(.int (0 : Int32))]
    refine Go.ifN 11 d9_8 rfl (teq (by decide)).2 ?_
    refine Go.aloadN 12 d9_11 rfl rfl rfl ?_
    refine Go.iconst 13 (0 : Int32) d9_12 rfl rfl ?_
    refine Go.aloadN 14 d9_13 rfl rfl rfl ?_
    refine Go.callV (S := [(.int (0 : Int32)), (.ref x)]) (a := x) 17 [] d9_14 rfl rfl (w53 hw) (w54 hw) (w56 hw) (w55 hw) (fun _ q => notFace_of_selects (args := #[]) (mvT q (w56 hw))) (by decide) E (call_of_go (R := _) (len := 3) (W := 2) (plainFor_of_name pn_1) (fun mid => ef_glen mid x t z (1 : Int32) [(.int (lo16 c0)), (.int (hi16 c0)), (.int (lo16 c1)), (.int (hi16 c1)), (.int (lo16 c2)), (.int (hi16 c2)), (.int (lo16 c3)), (.int (hi16 c3))] ) (c_glen hw x t z (1 : Int32) [(.int (lo16 c0)), (.int (hi16 c0)), (.int (lo16 c1)), (.int (hi16 c1)), (.int (lo16 c2)), (.int (hi16 c2)), (.int (lo16 c3)), (.int (hi16 c3))] E C V A' rfl SC hz) (w57 hw) (w14 hw) (by decide) (by decide)) (lenOf pd_11 rfl) (Nat.le_of_ble_eq_true rfl) rfl (Nat.le_of_ble_eq_true rfl) (Nat.le_of_ble_eq_true rfl) (fun _ q => nomatch q) (fun v h_9 sf_10 hq => ?_)
    obtain ⟨rfl, rfl⟩ := hq
    rw [show (Int32.ofNat (List.length (α := Value) [(.int (lo16 c0)), (.int (hi16 c0)), (.int (lo16 c1)), (.int (hi16 c1)), (.int (lo16 c2)), (.int (hi16 c2)), (.int (lo16 c3)), (.int (hi16 c3))])) >>> ((1 : Int32) &&& 31) = (4 : Int32) from by show Int32.ofNat 8 >>> ((1 : Int32) &&& 31) = (4 : Int32); decide]
    refine Go.more (sf' := []) ?_ (Nat.le_refl _) (Nat.le_refl _) (fun _ q => List.mem_append_right _ q)
    show G_reqlen4 md l Z n0 f x mx z c0 c1 c2 c3 h0 0 0 [] h0 17 #[.val (.ref f), .val (.ref x), .val (.int mx)] [(.int (4 : Int32)), (.int (0 : Int32)), (.ref x)]
    refine Go.callV (S := []) (a := x) 20 [(.int (0 : Int32)), (.int (4 : Int32))] d9_17 rfl rfl (w63 hw) (w64 hw) (w66 hw) (w65 hw) (fun _ q => notFace_of_selects (args := #[]) (mvT q (w66 hw))) (by decide) E (call_of_go (R := _) (len := 3) (W := 0) (plainFor_of_name pn_1) (fun mid => ef_cpp4_1 mid x t z c0 c1 c2 c3 ) (c_cpp4_1 hw x t z c0 c1 c2 c3 E C V A' b_c0 b_c1 b_c2 b_c3 SC hz UA UH UL) (w67 hw) (w14 hw) (by decide) (by decide)) (lenOf pd_15 rfl) (Nat.le_of_ble_eq_true rfl) rfl (Nat.le_of_ble_eq_true rfl) (Nat.le_of_ble_eq_true rfl) (fun _ q => nomatch q) (fun v h_11 sf_12 hq => ?_)
    obtain ⟨rfl, rfl⟩ := hq
    refine Go.more (sf' := []) ?_ (Nat.le_refl _) (Nat.le_refl _) (fun _ q => List.mem_append_right _ q)
    show G_reqlen4 md l Z n0 f x mx z c0 c1 c2 c3 h0 0 0 [] h0 20 #[.val (.ref f), .val (.ref x), .val (.int mx)] [(.int (cpc (4 : Int32) [c0, c1, c2, c3]))]
    refine Go.iloadN 21 d9_20 rfl rfl ?_
    refine Go.icmpY 39 d9_21 (by decide) (by decide) (flt hm).2.2.2 ?_
    refine Go.aloadN 40 d9_39 rfl rfl rfl ?_
    exact Go.retA d9_40 rfl rfl rfl (sf' := []) (⟨rfl, rfl⟩) (fun _ q => nomatch q) (Nat.le_of_ble_eq_true rfl) (Nat.le_of_ble_eq_true rfl)
abbrev G_law (l : Launch) (Z : State) (n0 : Nat) := Go (some consts_1) l Z n0 room_1 code maxLocals ret "com/example/tugas/tugas/TextRequireLengthPinLaw" "law" (fun v _ _ => v = some (.int 1))
theorem ef_law (m : MethodId) (p0 : Int32) (p1 : Int32) (p2 : Int32) (p3 : Int32) (p4 : Int32) (p5 : Int32) : entryFrame m #[(.int p0), (.int p1), (.int p2), (.int p3), (.int p4), (.int p5)] maxLocals = mkF m 0 #[.val (.int p0), .val (.int p1), .val (.int p2), .val (.int p3), .val (.int p4), .val (.int p5), .unset, .unset, .unset, .unset, .unset, .unset, .unset, .unset, .unset, .unset, .unset, .unset] [] := by first | (simp [entryFrame, mkF, argsToLocals, Value.category, maxLocals]; done) | rfl
set_option maxRecDepth 65536 in
set_option maxHeartbeats 40000000 in
theorem law_go {l : Launch} {Z : State} {n0 : Nat} {a0 : Array Value} (hw : HW a0 Z) (p0 : Int32) (p1 : Int32) (p2 : Int32) (p3 : Int32) (p4 : Int32) (p5 : Int32) (z : Int32) (SC : Sta Z Z.heap "java/lang/String" "COMPACT_STRINGS" "Z" (.int z)) (hz : ¬ z = 0) (UA : Sta Z Z.heap "java/lang/StringUTF16" "$assertionsDisabled" "Z" (.int 1)) (UH : Sta Z Z.heap "java/lang/StringUTF16" "HI_BYTE_SHIFT" "I" (.int 0)) (UL : Sta Z Z.heap "java/lang/StringUTF16" "LO_BYTE_SHIFT" "I" (.int 8))  {h0 : Heap} : G_law l Z n0 0 0 [] h0 0 #[.val (.int p0), .val (.int p1), .val (.int p2), .val (.int p3), .val (.int p4), .val (.int p5), .unset, .unset, .unset, .unset, .unset, .unset, .unset, .unset, .unset, .unset, .unset, .unset] [] := by
  refine Go.iconst 1 (1 : Int32) at_0 rfl rfl ?_
  refine Go.iload 3 at_1 rfl rfl ?_
  refine Go.iconst 4 (3 : Int32) at_3 rfl rfl ?_
  refine Go.iand 5 at_4 rfl ?_
  refine Go.iadd 6 at_5 rfl ?_
  rcases and3 p4 with en | en | en | en
  · rw [en, show ((1 : Int32) + (0 : Int32)) = (1 : Int32) from rfl]
    show G_law l Z n0 0 0 [] h0 6 #[.val (.int p0), .val (.int p1), .val (.int p2), .val (.int p3), .val (.int p4), .val (.int p5), .unset, .unset, .unset, .unset, .unset, .unset, .unset, .unset, .unset, .unset, .unset, .unset] [(.int (1 : Int32))]
    refine Go.istore 8 #[.val (.int p0), .val (.int p1), .val (.int p2), .val (.int p3), .val (.int p4), .val (.int p5), .val (.int (1 : Int32)), .unset, .unset, .unset, .unset, .unset, .unset, .unset, .unset, .unset, .unset, .unset] at_6 rfl rfl ?_
    refine Go.iloadN 9 at_8 rfl rfl ?_
    refine Go.callS (S := []) 12 [(.int p0)] at_9 rfl rfl (w0 hw) (w1 hw) (w2 hw) (w3 hw) (by decide) (call_of_go (R := _) (len := 3) (W := 0) (plainFor_of_name pn_4) (fun mid => ef_draw mid p0 ) (c_draw hw p0 ) (w3 hw) (w2 hw) (by decide) (by decide)) (lenOf pd_17 rfl) (Nat.le_of_ble_eq_true rfl) rfl (Nat.le_of_ble_eq_true rfl) (Nat.le_of_ble_eq_true rfl) (fun _ q => nomatch q) (fun v h_1 sf_2 hq => ?_)
    obtain ⟨rfl, c0, rfl, b_c0⟩ := hq
    refine Go.more (sf' := []) ?_ (Nat.le_refl _) (Nat.le_refl _) (fun _ q => List.mem_append_right _ q)
    show G_law l Z n0 0 0 [] h0 12 #[.val (.int p0), .val (.int p1), .val (.int p2), .val (.int p3), .val (.int p4), .val (.int p5), .val (.int (1 : Int32)), .unset, .unset, .unset, .unset, .unset, .unset, .unset, .unset, .unset, .unset, .unset] [(.int c0)]
    refine Go.istore 14 #[.val (.int p0), .val (.int p1), .val (.int p2), .val (.int p3), .val (.int p4), .val (.int p5), .val (.int (1 : Int32)), .val (.int c0), .unset, .unset, .unset, .unset, .unset, .unset, .unset, .unset, .unset, .unset] at_12 rfl rfl ?_
    refine Go.iloadN 15 at_14 rfl rfl ?_
    refine Go.callS (S := []) 18 [(.int p1)] at_15 rfl rfl (w0 hw) (w1 hw) (w2 hw) (w3 hw) (by decide) (call_of_go (R := _) (len := 3) (W := 0) (plainFor_of_name pn_4) (fun mid => ef_draw mid p1 ) (c_draw hw p1 ) (w3 hw) (w2 hw) (by decide) (by decide)) (lenOf pd_17 rfl) (Nat.le_of_ble_eq_true rfl) rfl (Nat.le_of_ble_eq_true rfl) (Nat.le_of_ble_eq_true rfl) (fun _ q => nomatch q) (fun v h_3 sf_4 hq => ?_)
    obtain ⟨rfl, c1, rfl, b_c1⟩ := hq
    refine Go.more (sf' := []) ?_ (Nat.le_refl _) (Nat.le_refl _) (fun _ q => List.mem_append_right _ q)
    show G_law l Z n0 0 0 [] h0 18 #[.val (.int p0), .val (.int p1), .val (.int p2), .val (.int p3), .val (.int p4), .val (.int p5), .val (.int (1 : Int32)), .val (.int c0), .unset, .unset, .unset, .unset, .unset, .unset, .unset, .unset, .unset, .unset] [(.int c1)]
    refine Go.istore 20 #[.val (.int p0), .val (.int p1), .val (.int p2), .val (.int p3), .val (.int p4), .val (.int p5), .val (.int (1 : Int32)), .val (.int c0), .val (.int c1), .unset, .unset, .unset, .unset, .unset, .unset, .unset, .unset, .unset] at_18 rfl rfl ?_
    refine Go.iloadN 21 at_20 rfl rfl ?_
    refine Go.callS (S := []) 24 [(.int p2)] at_21 rfl rfl (w0 hw) (w1 hw) (w2 hw) (w3 hw) (by decide) (call_of_go (R := _) (len := 3) (W := 0) (plainFor_of_name pn_4) (fun mid => ef_draw mid p2 ) (c_draw hw p2 ) (w3 hw) (w2 hw) (by decide) (by decide)) (lenOf pd_17 rfl) (Nat.le_of_ble_eq_true rfl) rfl (Nat.le_of_ble_eq_true rfl) (Nat.le_of_ble_eq_true rfl) (fun _ q => nomatch q) (fun v h_5 sf_6 hq => ?_)
    obtain ⟨rfl, c2, rfl, b_c2⟩ := hq
    refine Go.more (sf' := []) ?_ (Nat.le_refl _) (Nat.le_refl _) (fun _ q => List.mem_append_right _ q)
    show G_law l Z n0 0 0 [] h0 24 #[.val (.int p0), .val (.int p1), .val (.int p2), .val (.int p3), .val (.int p4), .val (.int p5), .val (.int (1 : Int32)), .val (.int c0), .val (.int c1), .unset, .unset, .unset, .unset, .unset, .unset, .unset, .unset, .unset] [(.int c2)]
    refine Go.istore 26 #[.val (.int p0), .val (.int p1), .val (.int p2), .val (.int p3), .val (.int p4), .val (.int p5), .val (.int (1 : Int32)), .val (.int c0), .val (.int c1), .val (.int c2), .unset, .unset, .unset, .unset, .unset, .unset, .unset, .unset] at_24 rfl rfl ?_
    refine Go.iloadN 27 at_26 rfl rfl ?_
    refine Go.callS (S := []) 30 [(.int p3)] at_27 rfl rfl (w0 hw) (w1 hw) (w2 hw) (w3 hw) (by decide) (call_of_go (R := _) (len := 3) (W := 0) (plainFor_of_name pn_4) (fun mid => ef_draw mid p3 ) (c_draw hw p3 ) (w3 hw) (w2 hw) (by decide) (by decide)) (lenOf pd_17 rfl) (Nat.le_of_ble_eq_true rfl) rfl (Nat.le_of_ble_eq_true rfl) (Nat.le_of_ble_eq_true rfl) (fun _ q => nomatch q) (fun v h_7 sf_8 hq => ?_)
    obtain ⟨rfl, c3, rfl, b_c3⟩ := hq
    refine Go.more (sf' := []) ?_ (Nat.le_refl _) (Nat.le_refl _) (fun _ q => List.mem_append_right _ q)
    show G_law l Z n0 0 0 [] h0 30 #[.val (.int p0), .val (.int p1), .val (.int p2), .val (.int p3), .val (.int p4), .val (.int p5), .val (.int (1 : Int32)), .val (.int c0), .val (.int c1), .val (.int c2), .unset, .unset, .unset, .unset, .unset, .unset, .unset, .unset] [(.int c3)]
    refine Go.istore 32 #[.val (.int p0), .val (.int p1), .val (.int p2), .val (.int p3), .val (.int p4), .val (.int p5), .val (.int (1 : Int32)), .val (.int c0), .val (.int c1), .val (.int c2), .val (.int c3), .unset, .unset, .unset, .unset, .unset, .unset, .unset] at_30 rfl rfl ?_
    refine Go.iload 34 at_32 rfl rfl ?_
    refine Go.newA 1 36 at_34 rfl rfl (w6 hw) (by decide) 1 (Nat.le_refl _) (by decide) (Nat.le_of_ble_eq_true rfl) (Nat.le_of_ble_eq_true rfl) (fun h_9 x_10 g_11 q_12 E_13 lt_14 A_15 => ?_)
    have A_16 : Ary Z h_9 x_10 .char [(.int (0 : Int32))] := A_15
    show G_law l Z n0 1 1 [x_10] h_9 36 #[.val (.int p0), .val (.int p1), .val (.int p2), .val (.int p3), .val (.int p4), .val (.int p5), .val (.int (1 : Int32)), .val (.int c0), .val (.int c1), .val (.int c2), .val (.int c3), .unset, .unset, .unset, .unset, .unset, .unset, .unset] [(.ref x_10)]
    refine Go.astore 38 #[.val (.int p0), .val (.int p1), .val (.int p2), .val (.int p3), .val (.int p4), .val (.int p5), .val (.int (1 : Int32)), .val (.int c0), .val (.int c1), .val (.int c2), .val (.int c3), .val (.ref x_10), .unset, .unset, .unset, .unset, .unset, .unset] at_36 rfl rfl rfl ?_
    refine Go.aload 40 at_38 rfl rfl rfl ?_
    refine Go.iconst 41 (0 : Int32) at_40 rfl rfl ?_
    refine Go.iload 43 at_41 rfl rfl ?_
    refine Go.castore 0 44 at_43 rfl A_16 (by decide) (Nat.le_of_ble_eq_true rfl) (List.mem_of_getElem? (i := 0) rfl) q_12 (fun h_17 W_18 A_19 => ?_)
    have A_20 : Ary Z h_17 x_10 .char [(.int c0)] := by have := A_19; rw [nar_cc b_c0] at this; exact this
    refine Go.iload 46 at_44 rfl rfl ?_
    refine Go.iconst 47 (1 : Int32) at_46 rfl rfl ?_
    refine Go.icmpY 56 at_47 (by decide) (by decide) (flt (by decide)).2.2.2 ?_
    refine Go.iload 58 at_56 rfl rfl ?_
    refine Go.iconst 59 (2 : Int32) at_58 rfl rfl ?_
    refine Go.icmpY 68 at_59 (by decide) (by decide) (flt (by decide)).2.2.2 ?_
    refine Go.iload 70 at_68 rfl rfl ?_
    refine Go.iconst 71 (3 : Int32) at_70 rfl rfl ?_
    refine Go.icmpY 80 at_71 (by decide) (by decide) (flt (by decide)).2.2.2 ?_
    refine Go.iload 82 at_80 rfl rfl ?_
    refine Go.istore 84 #[.val (.int p0), .val (.int p1), .val (.int p2), .val (.int p3), .val (.int p4), .val (.int p5), .val (.int (1 : Int32)), .val (.int c0), .val (.int c1), .val (.int c2), .val (.int c3), .val (.ref x_10), .val (.int (1 : Int32)), .unset, .unset, .unset, .unset, .unset] at_82 rfl rfl ?_
    have cut141 : ∀ (K : Int32) (hK : cpc (1 : Int32) [c0] = K) (bK : 0 ≤ K.toInt ∧ K.toInt ≤ 4), G_law l Z n0 1 1 [x_10] h_17 141 #[.val (.int p0), .val (.int p1), .val (.int p2), .val (.int p3), .val (.int p4), .val (.int p5), .val (.int (1 : Int32)), .val (.int c0), .val (.int c1), .val (.int c2), .val (.int c3), .val (.ref x_10), .val (.int K), .unset, .unset, .unset, .unset, .unset] [] := by
      intro K hK bK
      refine Go.iload 143 at_141 rfl rfl ?_
      refine Go.iconst 144 (1 : Int32) at_143 rfl rfl ?_
      refine Go.iand 145 at_144 rfl ?_
      have cut157 : ∀ (sl : Int64) (bs : 0 ≤ sl.toInt ∧ sl.toInt ≤ 2147483647), G_law l Z n0 1 1 [x_10] h_17 157 #[.val (.int p0), .val (.int p1), .val (.int p2), .val (.int p3), .val (.int p4), .val (.int p5), .val (.int (1 : Int32)), .val (.int c0), .val (.int c1), .val (.int c2), .val (.int c3), .val (.ref x_10), .val (.int K), .unset, .unset, .unset, .unset, .unset] [(.long sl)] := by
        intro sl bs
        refine Go.lstore 159 #[.val (.int p0), .val (.int p1), .val (.int p2), .val (.int p3), .val (.int p4), .val (.int p5), .val (.int (1 : Int32)), .val (.int c0), .val (.int c1), .val (.int c2), .val (.int c3), .val (.ref x_10), .val (.int K), .val (.long sl), .second, .unset, .unset, .unset] at_157 rfl rfl ?_
        refine Go.iload 161 at_159 rfl rfl ?_
        refine Go.i2l 162 at_161 rfl ?_
        refine Go.lload 164 at_162 rfl rfl ?_
        refine Go.ladd 165 at_164 rfl ?_
        refine Go.ldc2J 168 at_165 rfl (w7 hw) ?_
        refine Go.callS (S := []) 171 [(.long ((K).toInt64 + sl)), (.long (2147483647 : Int64))] at_168 rfl rfl (w8 hw) (w9 hw) (w10 hw) (w11 hw) (by decide) (call_of_go (R := _) (len := 3) (W := 0) pf_2 (fun mid => ef_minj mid ((K).toInt64 + sl) (2147483647 : Int64) ) (c_minj hw ((K).toInt64 + sl) (2147483647 : Int64) ) (w11 hw) (w10 hw) (by decide) (by decide)) (lenOf pd_18 rfl) (Nat.le_of_ble_eq_true rfl) rfl (Nat.le_of_ble_eq_true rfl) (Nat.le_of_ble_eq_true rfl) (fun _ q => nomatch q) (fun v h_21 sf_22 hq => ?_)
        obtain ⟨rfl, rfl⟩ := hq
        refine Go.more (sf' := [x_10]) ?_ (Nat.le_refl _) (Nat.le_refl _) (fun _ q => List.mem_append_right _ q)
        show G_law l Z n0 1 1 [x_10] h_17 171 #[.val (.int p0), .val (.int p1), .val (.int p2), .val (.int p3), .val (.int p4), .val (.int p5), .val (.int (1 : Int32)), .val (.int c0), .val (.int c1), .val (.int c2), .val (.int c3), .val (.ref x_10), .val (.int K), .val (.long sl), .second, .unset, .unset, .unset] [(.long (if (0 : Int32) < (lcmpW ((K).toInt64 + sl) (2147483647 : Int64)) then (2147483647 : Int64) else ((K).toInt64 + sl)))]
        refine Go.l2i 172 at_171 rfl ?_
        obtain ⟨mx, e_mx⟩ : ∃ y_ : Int32, y_ = ((if (0 : Int32) < (lcmpW ((K).toInt64 + sl) (2147483647 : Int64)) then (2147483647 : Int64) else ((K).toInt64 + sl))).toInt32 := ⟨_, rfl⟩
        have b_mx : ¬ mx < K := by rw [e_mx]; exact mx_ok bs bK
        rw [← e_mx]
        show G_law l Z n0 1 1 [x_10] h_17 172 #[.val (.int p0), .val (.int p1), .val (.int p2), .val (.int p3), .val (.int p4), .val (.int p5), .val (.int (1 : Int32)), .val (.int c0), .val (.int c1), .val (.int c2), .val (.int c3), .val (.ref x_10), .val (.int K), .val (.long sl), .second, .unset, .unset, .unset] [(.int mx)]
        refine Go.istore 174 #[.val (.int p0), .val (.int p1), .val (.int p2), .val (.int p3), .val (.int p4), .val (.int p5), .val (.int (1 : Int32)), .val (.int c0), .val (.int c1), .val (.int c2), .val (.int c3), .val (.ref x_10), .val (.int K), .val (.long sl), .second, .val (.int mx), .unset, .unset] at_172 rfl rfl ?_
        refine Go.new 177 at_174 rfl (w12 hw) (w13 hw) (w14 hw) (Nat.le_of_ble_eq_true rfl) (Nat.le_of_ble_eq_true rfl) (fun h_23 x_24 g_25 q_26 E_27 lt_28 A_29 D_30 => ?_)
        show G_law l Z n0 2 5 [x_24, x_10] h_23 177 #[.val (.int p0), .val (.int p1), .val (.int p2), .val (.int p3), .val (.int p4), .val (.int p5), .val (.int (1 : Int32)), .val (.int c0), .val (.int c1), .val (.int c2), .val (.int c3), .val (.ref x_10), .val (.int K), .val (.long sl), .second, .val (.int mx), .unset, .unset] [(.ref x_24)]
        refine Go.dup 178 at_177 rfl rfl ?_
        refine Go.aload 180 at_178 rfl rfl rfl ?_
        have f_31 := A_20.ext E_27
        refine Go.callC (S := [(.ref x_24)]) (a := x_24) 183 [(.ref x_10)] at_180 rfl rfl rfl (w15 hw) (w16 hw) (w17 hw) (by decide) (call_of_go (R := _) (len := 3) (W := 1) (plainFor_of_name pn_1) (fun mid => ef_new1_1 mid x_24 x_10 z c0 ) (c_new1_1 hw x_24 x_10 z c0 A_29 q_26 (D_30 (Or.inr (w40 hw)) (ty := (.array .byte)) (by decide)) (D_30 (Or.inr (w38 hw)) (ty := .byte) (by decide)) f_31 b_c0 SC hz UA UH UL) (w17 hw) (w14 hw) (by decide) (by decide)) (lenOf pd_19 rfl) (Nat.le_of_ble_eq_true rfl) rfl (Nat.le_of_ble_eq_true rfl) (Nat.le_of_ble_eq_true rfl) (sub1 (List.mem_of_getElem? (i := 0) rfl)) (fun v h_34 sf_35 hq => ?_)
        obtain ⟨rfl, K_32, S_33⟩ := hq
        refine Go.more (sf' := [x_24, x_10]) ?_ (Nat.le_refl _) (Nat.le_refl _) (fun _ q => List.mem_append_right _ q)
        show G_law l Z n0 4 8 [x_24, x_10] h_34 183 #[.val (.int p0), .val (.int p1), .val (.int p2), .val (.int p3), .val (.int p4), .val (.int p5), .val (.int (1 : Int32)), .val (.int c0), .val (.int c1), .val (.int c2), .val (.int c3), .val (.ref x_10), .val (.int K), .val (.long sl), .second, .val (.int mx), .unset, .unset] [(.ref x_24)]
        refine Go.astore 185 #[.val (.int p0), .val (.int p1), .val (.int p2), .val (.int p3), .val (.int p4), .val (.int p5), .val (.int (1 : Int32)), .val (.int c0), .val (.int c1), .val (.int c2), .val (.int c3), .val (.ref x_10), .val (.int K), .val (.long sl), .second, .val (.int mx), .val (.ref x_24), .unset] at_183 rfl rfl rfl ?_
        refine Go.ldcO 20 187 at_185 rfl (w41 hw) (wS hw) (by decide) (by decide) (Nat.le_of_ble_eq_true rfl) (Nat.le_of_ble_eq_true rfl) (fun h_36 s_37 E_38 => ?_)
        show G_law l Z n0 6 32 [x_24, x_10] h_36 187 #[.val (.int p0), .val (.int p1), .val (.int p2), .val (.int p3), .val (.int p4), .val (.int p5), .val (.int (1 : Int32)), .val (.int c0), .val (.int c1), .val (.int c2), .val (.int c3), .val (.ref x_10), .val (.int K), .val (.long sl), .second, .val (.int mx), .val (.ref x_24), .unset] [(.ref s_37)]
        refine Go.aload 189 at_187 rfl rfl rfl ?_
        refine Go.iload 191 at_189 rfl rfl ?_
        have f_39 := S_33.ext E_38
        refine Go.callS (S := []) 194 [(.ref s_37), (.ref x_24), (.int mx)] at_191 rfl rfl (w44 hw) (w45 hw) (w46 hw) (w47 hw) (by decide) (call_of_go (R := _) (len := 3) (W := 0) (plainFor_of_name pn_5) (fun mid => ef_reqlen1 mid s_37 x_24 mx z c0 ) (c_reqlen1 hw s_37 x_24 mx z c0 f_39 (by rw [hK]; exact b_mx) b_c0 SC hz UA UH UL) (w47 hw) (w46 hw) (by decide) (by decide)) (lenOf pd_20 rfl) (Nat.le_of_ble_eq_true rfl) rfl (Nat.le_of_ble_eq_true rfl) (Nat.le_of_ble_eq_true rfl) (fun _ q => nomatch q) (fun v h_40 sf_41 hq => ?_)
        obtain ⟨rfl, rfl⟩ := hq
        refine Go.more (sf' := [x_24, x_10]) ?_ (Nat.le_refl _) (Nat.le_refl _) (fun _ q => List.mem_append_right _ q)
        show G_law l Z n0 6 32 [x_24, x_10] h_36 194 #[.val (.int p0), .val (.int p1), .val (.int p2), .val (.int p3), .val (.int p4), .val (.int p5), .val (.int (1 : Int32)), .val (.int c0), .val (.int c1), .val (.int c2), .val (.int c3), .val (.ref x_10), .val (.int K), .val (.long sl), .second, .val (.int mx), .val (.ref x_24), .unset] [(.ref x_24)]
        refine Go.astore 196 #[.val (.int p0), .val (.int p1), .val (.int p2), .val (.int p3), .val (.int p4), .val (.int p5), .val (.int (1 : Int32)), .val (.int c0), .val (.int c1), .val (.int c2), .val (.int c3), .val (.ref x_10), .val (.int K), .val (.long sl), .second, .val (.int mx), .val (.ref x_24), .val (.ref x_24)] at_194 rfl rfl rfl ?_
        refine Go.aload 198 at_196 rfl rfl rfl ?_
        refine Go.aload 200 at_198 rfl rfl rfl ?_
        refine Go.acmpN 203 at_200 (by decide) rfl rfl rfl (by rw [decide_eq_true rfl]; rfl) ?_
        refine Go.iconst 204 (1 : Int32) at_203 rfl rfl ?_
        refine Go.goto 208 at_204 (by decide) (by decide) ?_
        exact Go.retN (1 : Int32) at_208 rfl (t := .boolean) (by simp) rfl (sf' := []) (rfl) (fun _ q => nomatch q) (Nat.le_of_ble_eq_true rfl) (Nat.le_of_ble_eq_true rfl)
      by_cases hc145 : (p5 &&& (1 : Int32)) = (0 : Int32)
      · skip
        refine Go.ifN 148 at_145 rfl (teq hc145).2 ?_
        refine Go.lconst 149 (0 : Int64) at_148 rfl rfl ?_
        refine Go.goto 157 at_149 (by decide) (by decide) ?_
        exact cut157 _ (by decide)
      · skip
        refine Go.ifY 152 at_145 (by decide) (by decide) (feq hc145).2 ?_
        refine Go.iload 154 at_152 rfl rfl ?_
        refine Go.iconst 155 (1 : Int32) at_154 rfl rfl ?_
        refine Go.iushr 156 at_155 rfl ?_
        refine Go.i2l 157 at_156 rfl ?_
        exact cut157 _ (slack_ok p5)
    refine Go.iload 86 at_84 rfl rfl ?_
    refine Go.iconst 87 (1 : Int32) at_86 rfl rfl ?_
    refine Go.icmpY 103 at_87 (by decide) (by decide) (flt (by decide)).2.2.2 ?_
    refine Go.iload 105 at_103 rfl rfl ?_
    refine Go.iconst 106 (2 : Int32) at_105 rfl rfl ?_
    refine Go.icmpY 122 at_106 (by decide) (by decide) (flt (by decide)).2.2.2 ?_
    refine Go.iload 124 at_122 rfl rfl ?_
    refine Go.iconst 125 (3 : Int32) at_124 rfl rfl ?_
    refine Go.icmpY 141 at_125 (by decide) (by decide) (flt (by decide)).2.2.2 ?_
    exact cut141 _ rfl (by decide)
  · rw [en, show ((1 : Int32) + (1 : Int32)) = (2 : Int32) from rfl]
    show G_law l Z n0 0 0 [] h0 6 #[.val (.int p0), .val (.int p1), .val (.int p2), .val (.int p3), .val (.int p4), .val (.int p5), .unset, .unset, .unset, .unset, .unset, .unset, .unset, .unset, .unset, .unset, .unset, .unset] [(.int (2 : Int32))]
    refine Go.istore 8 #[.val (.int p0), .val (.int p1), .val (.int p2), .val (.int p3), .val (.int p4), .val (.int p5), .val (.int (2 : Int32)), .unset, .unset, .unset, .unset, .unset, .unset, .unset, .unset, .unset, .unset, .unset] at_6 rfl rfl ?_
    refine Go.iloadN 9 at_8 rfl rfl ?_
    refine Go.callS (S := []) 12 [(.int p0)] at_9 rfl rfl (w0 hw) (w1 hw) (w2 hw) (w3 hw) (by decide) (call_of_go (R := _) (len := 3) (W := 0) (plainFor_of_name pn_4) (fun mid => ef_draw mid p0 ) (c_draw hw p0 ) (w3 hw) (w2 hw) (by decide) (by decide)) (lenOf pd_17 rfl) (Nat.le_of_ble_eq_true rfl) rfl (Nat.le_of_ble_eq_true rfl) (Nat.le_of_ble_eq_true rfl) (fun _ q => nomatch q) (fun v h_42 sf_43 hq => ?_)
    obtain ⟨rfl, c0, rfl, b_c0⟩ := hq
    refine Go.more (sf' := []) ?_ (Nat.le_refl _) (Nat.le_refl _) (fun _ q => List.mem_append_right _ q)
    show G_law l Z n0 0 0 [] h0 12 #[.val (.int p0), .val (.int p1), .val (.int p2), .val (.int p3), .val (.int p4), .val (.int p5), .val (.int (2 : Int32)), .unset, .unset, .unset, .unset, .unset, .unset, .unset, .unset, .unset, .unset, .unset] [(.int c0)]
    refine Go.istore 14 #[.val (.int p0), .val (.int p1), .val (.int p2), .val (.int p3), .val (.int p4), .val (.int p5), .val (.int (2 : Int32)), .val (.int c0), .unset, .unset, .unset, .unset, .unset, .unset, .unset, .unset, .unset, .unset] at_12 rfl rfl ?_
    refine Go.iloadN 15 at_14 rfl rfl ?_
    refine Go.callS (S := []) 18 [(.int p1)] at_15 rfl rfl (w0 hw) (w1 hw) (w2 hw) (w3 hw) (by decide) (call_of_go (R := _) (len := 3) (W := 0) (plainFor_of_name pn_4) (fun mid => ef_draw mid p1 ) (c_draw hw p1 ) (w3 hw) (w2 hw) (by decide) (by decide)) (lenOf pd_17 rfl) (Nat.le_of_ble_eq_true rfl) rfl (Nat.le_of_ble_eq_true rfl) (Nat.le_of_ble_eq_true rfl) (fun _ q => nomatch q) (fun v h_44 sf_45 hq => ?_)
    obtain ⟨rfl, c1, rfl, b_c1⟩ := hq
    refine Go.more (sf' := []) ?_ (Nat.le_refl _) (Nat.le_refl _) (fun _ q => List.mem_append_right _ q)
    show G_law l Z n0 0 0 [] h0 18 #[.val (.int p0), .val (.int p1), .val (.int p2), .val (.int p3), .val (.int p4), .val (.int p5), .val (.int (2 : Int32)), .val (.int c0), .unset, .unset, .unset, .unset, .unset, .unset, .unset, .unset, .unset, .unset] [(.int c1)]
    refine Go.istore 20 #[.val (.int p0), .val (.int p1), .val (.int p2), .val (.int p3), .val (.int p4), .val (.int p5), .val (.int (2 : Int32)), .val (.int c0), .val (.int c1), .unset, .unset, .unset, .unset, .unset, .unset, .unset, .unset, .unset] at_18 rfl rfl ?_
    refine Go.iloadN 21 at_20 rfl rfl ?_
    refine Go.callS (S := []) 24 [(.int p2)] at_21 rfl rfl (w0 hw) (w1 hw) (w2 hw) (w3 hw) (by decide) (call_of_go (R := _) (len := 3) (W := 0) (plainFor_of_name pn_4) (fun mid => ef_draw mid p2 ) (c_draw hw p2 ) (w3 hw) (w2 hw) (by decide) (by decide)) (lenOf pd_17 rfl) (Nat.le_of_ble_eq_true rfl) rfl (Nat.le_of_ble_eq_true rfl) (Nat.le_of_ble_eq_true rfl) (fun _ q => nomatch q) (fun v h_46 sf_47 hq => ?_)
    obtain ⟨rfl, c2, rfl, b_c2⟩ := hq
    refine Go.more (sf' := []) ?_ (Nat.le_refl _) (Nat.le_refl _) (fun _ q => List.mem_append_right _ q)
    show G_law l Z n0 0 0 [] h0 24 #[.val (.int p0), .val (.int p1), .val (.int p2), .val (.int p3), .val (.int p4), .val (.int p5), .val (.int (2 : Int32)), .val (.int c0), .val (.int c1), .unset, .unset, .unset, .unset, .unset, .unset, .unset, .unset, .unset] [(.int c2)]
    refine Go.istore 26 #[.val (.int p0), .val (.int p1), .val (.int p2), .val (.int p3), .val (.int p4), .val (.int p5), .val (.int (2 : Int32)), .val (.int c0), .val (.int c1), .val (.int c2), .unset, .unset, .unset, .unset, .unset, .unset, .unset, .unset] at_24 rfl rfl ?_
    refine Go.iloadN 27 at_26 rfl rfl ?_
    refine Go.callS (S := []) 30 [(.int p3)] at_27 rfl rfl (w0 hw) (w1 hw) (w2 hw) (w3 hw) (by decide) (call_of_go (R := _) (len := 3) (W := 0) (plainFor_of_name pn_4) (fun mid => ef_draw mid p3 ) (c_draw hw p3 ) (w3 hw) (w2 hw) (by decide) (by decide)) (lenOf pd_17 rfl) (Nat.le_of_ble_eq_true rfl) rfl (Nat.le_of_ble_eq_true rfl) (Nat.le_of_ble_eq_true rfl) (fun _ q => nomatch q) (fun v h_48 sf_49 hq => ?_)
    obtain ⟨rfl, c3, rfl, b_c3⟩ := hq
    refine Go.more (sf' := []) ?_ (Nat.le_refl _) (Nat.le_refl _) (fun _ q => List.mem_append_right _ q)
    show G_law l Z n0 0 0 [] h0 30 #[.val (.int p0), .val (.int p1), .val (.int p2), .val (.int p3), .val (.int p4), .val (.int p5), .val (.int (2 : Int32)), .val (.int c0), .val (.int c1), .val (.int c2), .unset, .unset, .unset, .unset, .unset, .unset, .unset, .unset] [(.int c3)]
    refine Go.istore 32 #[.val (.int p0), .val (.int p1), .val (.int p2), .val (.int p3), .val (.int p4), .val (.int p5), .val (.int (2 : Int32)), .val (.int c0), .val (.int c1), .val (.int c2), .val (.int c3), .unset, .unset, .unset, .unset, .unset, .unset, .unset] at_30 rfl rfl ?_
    refine Go.iload 34 at_32 rfl rfl ?_
    refine Go.newA 2 36 at_34 rfl rfl (w6 hw) (by decide) 2 (Nat.le_refl _) (by decide) (Nat.le_of_ble_eq_true rfl) (Nat.le_of_ble_eq_true rfl) (fun h_50 x_51 g_52 q_53 E_54 lt_55 A_56 => ?_)
    have A_57 : Ary Z h_50 x_51 .char [(.int (0 : Int32)), (.int (0 : Int32))] := A_56
    show G_law l Z n0 1 2 [x_51] h_50 36 #[.val (.int p0), .val (.int p1), .val (.int p2), .val (.int p3), .val (.int p4), .val (.int p5), .val (.int (2 : Int32)), .val (.int c0), .val (.int c1), .val (.int c2), .val (.int c3), .unset, .unset, .unset, .unset, .unset, .unset, .unset] [(.ref x_51)]
    refine Go.astore 38 #[.val (.int p0), .val (.int p1), .val (.int p2), .val (.int p3), .val (.int p4), .val (.int p5), .val (.int (2 : Int32)), .val (.int c0), .val (.int c1), .val (.int c2), .val (.int c3), .val (.ref x_51), .unset, .unset, .unset, .unset, .unset, .unset] at_36 rfl rfl rfl ?_
    refine Go.aload 40 at_38 rfl rfl rfl ?_
    refine Go.iconst 41 (0 : Int32) at_40 rfl rfl ?_
    refine Go.iload 43 at_41 rfl rfl ?_
    refine Go.castore 0 44 at_43 rfl A_57 (by decide) (Nat.le_of_ble_eq_true rfl) (List.mem_of_getElem? (i := 0) rfl) q_53 (fun h_58 W_59 A_60 => ?_)
    have A_61 : Ary Z h_58 x_51 .char [(.int c0), (.int (0 : Int32))] := by have := A_60; rw [nar_cc b_c0] at this; exact this
    refine Go.iload 46 at_44 rfl rfl ?_
    refine Go.iconst 47 (1 : Int32) at_46 rfl rfl ?_
    refine Go.icmpN 50 at_47 rfl (tlt (by decide)).2.2.2 ?_
    refine Go.aload 52 at_50 rfl rfl rfl ?_
    refine Go.iconst 53 (1 : Int32) at_52 rfl rfl ?_
    refine Go.iload 55 at_53 rfl rfl ?_
    refine Go.castore 1 56 at_55 rfl A_61 (by decide) (Nat.le_of_ble_eq_true rfl) (List.mem_of_getElem? (i := 0) rfl) q_53 (fun h_62 W_63 A_64 => ?_)
    have A_65 : Ary Z h_62 x_51 .char [(.int c0), (.int c1)] := by have := A_64; rw [nar_cc b_c1] at this; exact this
    refine Go.iload 58 at_56 rfl rfl ?_
    refine Go.iconst 59 (2 : Int32) at_58 rfl rfl ?_
    refine Go.icmpY 68 at_59 (by decide) (by decide) (flt (by decide)).2.2.2 ?_
    refine Go.iload 70 at_68 rfl rfl ?_
    refine Go.iconst 71 (3 : Int32) at_70 rfl rfl ?_
    refine Go.icmpY 80 at_71 (by decide) (by decide) (flt (by decide)).2.2.2 ?_
    refine Go.iload 82 at_80 rfl rfl ?_
    refine Go.istore 84 #[.val (.int p0), .val (.int p1), .val (.int p2), .val (.int p3), .val (.int p4), .val (.int p5), .val (.int (2 : Int32)), .val (.int c0), .val (.int c1), .val (.int c2), .val (.int c3), .val (.ref x_51), .val (.int (2 : Int32)), .unset, .unset, .unset, .unset, .unset] at_82 rfl rfl ?_
    have cut141 : ∀ (K : Int32) (hK : cpc (2 : Int32) [c0, c1] = K) (bK : 0 ≤ K.toInt ∧ K.toInt ≤ 4), G_law l Z n0 1 2 [x_51] h_62 141 #[.val (.int p0), .val (.int p1), .val (.int p2), .val (.int p3), .val (.int p4), .val (.int p5), .val (.int (2 : Int32)), .val (.int c0), .val (.int c1), .val (.int c2), .val (.int c3), .val (.ref x_51), .val (.int K), .unset, .unset, .unset, .unset, .unset] [] := by
      intro K hK bK
      refine Go.iload 143 at_141 rfl rfl ?_
      refine Go.iconst 144 (1 : Int32) at_143 rfl rfl ?_
      refine Go.iand 145 at_144 rfl ?_
      have cut157 : ∀ (sl : Int64) (bs : 0 ≤ sl.toInt ∧ sl.toInt ≤ 2147483647), G_law l Z n0 1 2 [x_51] h_62 157 #[.val (.int p0), .val (.int p1), .val (.int p2), .val (.int p3), .val (.int p4), .val (.int p5), .val (.int (2 : Int32)), .val (.int c0), .val (.int c1), .val (.int c2), .val (.int c3), .val (.ref x_51), .val (.int K), .unset, .unset, .unset, .unset, .unset] [(.long sl)] := by
        intro sl bs
        refine Go.lstore 159 #[.val (.int p0), .val (.int p1), .val (.int p2), .val (.int p3), .val (.int p4), .val (.int p5), .val (.int (2 : Int32)), .val (.int c0), .val (.int c1), .val (.int c2), .val (.int c3), .val (.ref x_51), .val (.int K), .val (.long sl), .second, .unset, .unset, .unset] at_157 rfl rfl ?_
        refine Go.iload 161 at_159 rfl rfl ?_
        refine Go.i2l 162 at_161 rfl ?_
        refine Go.lload 164 at_162 rfl rfl ?_
        refine Go.ladd 165 at_164 rfl ?_
        refine Go.ldc2J 168 at_165 rfl (w7 hw) ?_
        refine Go.callS (S := []) 171 [(.long ((K).toInt64 + sl)), (.long (2147483647 : Int64))] at_168 rfl rfl (w8 hw) (w9 hw) (w10 hw) (w11 hw) (by decide) (call_of_go (R := _) (len := 3) (W := 0) pf_2 (fun mid => ef_minj mid ((K).toInt64 + sl) (2147483647 : Int64) ) (c_minj hw ((K).toInt64 + sl) (2147483647 : Int64) ) (w11 hw) (w10 hw) (by decide) (by decide)) (lenOf pd_18 rfl) (Nat.le_of_ble_eq_true rfl) rfl (Nat.le_of_ble_eq_true rfl) (Nat.le_of_ble_eq_true rfl) (fun _ q => nomatch q) (fun v h_66 sf_67 hq => ?_)
        obtain ⟨rfl, rfl⟩ := hq
        refine Go.more (sf' := [x_51]) ?_ (Nat.le_refl _) (Nat.le_refl _) (fun _ q => List.mem_append_right _ q)
        show G_law l Z n0 1 2 [x_51] h_62 171 #[.val (.int p0), .val (.int p1), .val (.int p2), .val (.int p3), .val (.int p4), .val (.int p5), .val (.int (2 : Int32)), .val (.int c0), .val (.int c1), .val (.int c2), .val (.int c3), .val (.ref x_51), .val (.int K), .val (.long sl), .second, .unset, .unset, .unset] [(.long (if (0 : Int32) < (lcmpW ((K).toInt64 + sl) (2147483647 : Int64)) then (2147483647 : Int64) else ((K).toInt64 + sl)))]
        refine Go.l2i 172 at_171 rfl ?_
        obtain ⟨mx, e_mx⟩ : ∃ y_ : Int32, y_ = ((if (0 : Int32) < (lcmpW ((K).toInt64 + sl) (2147483647 : Int64)) then (2147483647 : Int64) else ((K).toInt64 + sl))).toInt32 := ⟨_, rfl⟩
        have b_mx : ¬ mx < K := by rw [e_mx]; exact mx_ok bs bK
        rw [← e_mx]
        show G_law l Z n0 1 2 [x_51] h_62 172 #[.val (.int p0), .val (.int p1), .val (.int p2), .val (.int p3), .val (.int p4), .val (.int p5), .val (.int (2 : Int32)), .val (.int c0), .val (.int c1), .val (.int c2), .val (.int c3), .val (.ref x_51), .val (.int K), .val (.long sl), .second, .unset, .unset, .unset] [(.int mx)]
        refine Go.istore 174 #[.val (.int p0), .val (.int p1), .val (.int p2), .val (.int p3), .val (.int p4), .val (.int p5), .val (.int (2 : Int32)), .val (.int c0), .val (.int c1), .val (.int c2), .val (.int c3), .val (.ref x_51), .val (.int K), .val (.long sl), .second, .val (.int mx), .unset, .unset] at_172 rfl rfl ?_
        refine Go.new 177 at_174 rfl (w12 hw) (w13 hw) (w14 hw) (Nat.le_of_ble_eq_true rfl) (Nat.le_of_ble_eq_true rfl) (fun h_68 x_69 g_70 q_71 E_72 lt_73 A_74 D_75 => ?_)
        show G_law l Z n0 2 6 [x_69, x_51] h_68 177 #[.val (.int p0), .val (.int p1), .val (.int p2), .val (.int p3), .val (.int p4), .val (.int p5), .val (.int (2 : Int32)), .val (.int c0), .val (.int c1), .val (.int c2), .val (.int c3), .val (.ref x_51), .val (.int K), .val (.long sl), .second, .val (.int mx), .unset, .unset] [(.ref x_69)]
        refine Go.dup 178 at_177 rfl rfl ?_
        refine Go.aload 180 at_178 rfl rfl rfl ?_
        have f_76 := A_65.ext E_72
        refine Go.callC (S := [(.ref x_69)]) (a := x_69) 183 [(.ref x_51)] at_180 rfl rfl rfl (w15 hw) (w16 hw) (w17 hw) (by decide) (call_of_go (R := _) (len := 3) (W := 1) (plainFor_of_name pn_1) (fun mid => ef_new1_2 mid x_69 x_51 z c0 c1 ) (c_new1_2 hw x_69 x_51 z c0 c1 A_74 q_71 (D_75 (Or.inr (w40 hw)) (ty := (.array .byte)) (by decide)) (D_75 (Or.inr (w38 hw)) (ty := .byte) (by decide)) f_76 b_c0 b_c1 SC hz UA UH UL) (w17 hw) (w14 hw) (by decide) (by decide)) (lenOf pd_19 rfl) (Nat.le_of_ble_eq_true rfl) rfl (Nat.le_of_ble_eq_true rfl) (Nat.le_of_ble_eq_true rfl) (sub1 (List.mem_of_getElem? (i := 0) rfl)) (fun v h_79 sf_80 hq => ?_)
        obtain ⟨rfl, K_77, S_78⟩ := hq
        refine Go.more (sf' := [x_69, x_51]) ?_ (Nat.le_refl _) (Nat.le_refl _) (fun _ q => List.mem_append_right _ q)
        show G_law l Z n0 4 12 [x_69, x_51] h_79 183 #[.val (.int p0), .val (.int p1), .val (.int p2), .val (.int p3), .val (.int p4), .val (.int p5), .val (.int (2 : Int32)), .val (.int c0), .val (.int c1), .val (.int c2), .val (.int c3), .val (.ref x_51), .val (.int K), .val (.long sl), .second, .val (.int mx), .unset, .unset] [(.ref x_69)]
        refine Go.astore 185 #[.val (.int p0), .val (.int p1), .val (.int p2), .val (.int p3), .val (.int p4), .val (.int p5), .val (.int (2 : Int32)), .val (.int c0), .val (.int c1), .val (.int c2), .val (.int c3), .val (.ref x_51), .val (.int K), .val (.long sl), .second, .val (.int mx), .val (.ref x_69), .unset] at_183 rfl rfl rfl ?_
        refine Go.ldcO 20 187 at_185 rfl (w41 hw) (wS hw) (by decide) (by decide) (Nat.le_of_ble_eq_true rfl) (Nat.le_of_ble_eq_true rfl) (fun h_81 s_82 E_83 => ?_)
        show G_law l Z n0 6 36 [x_69, x_51] h_81 187 #[.val (.int p0), .val (.int p1), .val (.int p2), .val (.int p3), .val (.int p4), .val (.int p5), .val (.int (2 : Int32)), .val (.int c0), .val (.int c1), .val (.int c2), .val (.int c3), .val (.ref x_51), .val (.int K), .val (.long sl), .second, .val (.int mx), .val (.ref x_69), .unset] [(.ref s_82)]
        refine Go.aload 189 at_187 rfl rfl rfl ?_
        refine Go.iload 191 at_189 rfl rfl ?_
        have f_84 := S_78.ext E_83
        refine Go.callS (S := []) 194 [(.ref s_82), (.ref x_69), (.int mx)] at_191 rfl rfl (w44 hw) (w45 hw) (w46 hw) (w47 hw) (by decide) (call_of_go (R := _) (len := 3) (W := 0) (plainFor_of_name pn_5) (fun mid => ef_reqlen2 mid s_82 x_69 mx z c0 c1 ) (c_reqlen2 hw s_82 x_69 mx z c0 c1 f_84 (by rw [hK]; exact b_mx) b_c0 b_c1 SC hz UA UH UL) (w47 hw) (w46 hw) (by decide) (by decide)) (lenOf pd_20 rfl) (Nat.le_of_ble_eq_true rfl) rfl (Nat.le_of_ble_eq_true rfl) (Nat.le_of_ble_eq_true rfl) (fun _ q => nomatch q) (fun v h_85 sf_86 hq => ?_)
        obtain ⟨rfl, rfl⟩ := hq
        refine Go.more (sf' := [x_69, x_51]) ?_ (Nat.le_refl _) (Nat.le_refl _) (fun _ q => List.mem_append_right _ q)
        show G_law l Z n0 6 36 [x_69, x_51] h_81 194 #[.val (.int p0), .val (.int p1), .val (.int p2), .val (.int p3), .val (.int p4), .val (.int p5), .val (.int (2 : Int32)), .val (.int c0), .val (.int c1), .val (.int c2), .val (.int c3), .val (.ref x_51), .val (.int K), .val (.long sl), .second, .val (.int mx), .val (.ref x_69), .unset] [(.ref x_69)]
        refine Go.astore 196 #[.val (.int p0), .val (.int p1), .val (.int p2), .val (.int p3), .val (.int p4), .val (.int p5), .val (.int (2 : Int32)), .val (.int c0), .val (.int c1), .val (.int c2), .val (.int c3), .val (.ref x_51), .val (.int K), .val (.long sl), .second, .val (.int mx), .val (.ref x_69), .val (.ref x_69)] at_194 rfl rfl rfl ?_
        refine Go.aload 198 at_196 rfl rfl rfl ?_
        refine Go.aload 200 at_198 rfl rfl rfl ?_
        refine Go.acmpN 203 at_200 (by decide) rfl rfl rfl (by rw [decide_eq_true rfl]; rfl) ?_
        refine Go.iconst 204 (1 : Int32) at_203 rfl rfl ?_
        refine Go.goto 208 at_204 (by decide) (by decide) ?_
        exact Go.retN (1 : Int32) at_208 rfl (t := .boolean) (by simp) rfl (sf' := []) (rfl) (fun _ q => nomatch q) (Nat.le_of_ble_eq_true rfl) (Nat.le_of_ble_eq_true rfl)
      by_cases hc145 : (p5 &&& (1 : Int32)) = (0 : Int32)
      · skip
        refine Go.ifN 148 at_145 rfl (teq hc145).2 ?_
        refine Go.lconst 149 (0 : Int64) at_148 rfl rfl ?_
        refine Go.goto 157 at_149 (by decide) (by decide) ?_
        exact cut157 _ (by decide)
      · skip
        refine Go.ifY 152 at_145 (by decide) (by decide) (feq hc145).2 ?_
        refine Go.iload 154 at_152 rfl rfl ?_
        refine Go.iconst 155 (1 : Int32) at_154 rfl rfl ?_
        refine Go.iushr 156 at_155 rfl ?_
        refine Go.i2l 157 at_156 rfl ?_
        exact cut157 _ (slack_ok p5)
    refine Go.iload 86 at_84 rfl rfl ?_
    refine Go.iconst 87 (1 : Int32) at_86 rfl rfl ?_
    refine Go.icmpN 90 at_87 rfl (tlt (by decide)).2.2.2 ?_
    refine Go.iload 92 at_90 rfl rfl ?_
    refine Go.iload 94 at_92 rfl rfl ?_
    refine Go.callS (S := []) 97 [(.int c0), (.int c1)] at_94 rfl rfl (w82 hw) (w83 hw) (w2 hw) (w84 hw) (by decide) (call_of_go (R := _) (len := 3) (W := 0) (plainFor_of_name pn_4) (fun mid => ef_pair mid c0 c1 ) (c_pair hw c0 c1 ) (w84 hw) (w2 hw) (by decide) (by decide)) (lenOf pd_21 rfl) (Nat.le_of_ble_eq_true rfl) rfl (Nat.le_of_ble_eq_true rfl) (Nat.le_of_ble_eq_true rfl) (fun _ q => nomatch q) (fun v h_87 sf_88 hq => ?_)
    obtain ⟨rfl, r, rfl, ⟨rfl, hp_94⟩ | ⟨rfl, hp_94⟩⟩ := hq
    · skip
      refine Go.more (sf' := [x_51]) ?_ (Nat.le_refl _) (Nat.le_refl _) (fun _ q => List.mem_append_right _ q)
      show G_law l Z n0 1 2 [x_51] h_62 97 #[.val (.int p0), .val (.int p1), .val (.int p2), .val (.int p3), .val (.int p4), .val (.int p5), .val (.int (2 : Int32)), .val (.int c0), .val (.int c1), .val (.int c2), .val (.int c3), .val (.ref x_51), .val (.int (2 : Int32)), .unset, .unset, .unset, .unset, .unset] [(.int (1 : Int32))]
      refine Go.ifN 100 at_97 rfl (feq (by decide)).1 ?_
      refine Go.iinc 103 #[.val (.int p0), .val (.int p1), .val (.int p2), .val (.int p3), .val (.int p4), .val (.int p5), .val (.int (2 : Int32)), .val (.int c0), .val (.int c1), .val (.int c2), .val (.int c3), .val (.ref x_51), .val (.int ((2 : Int32) + (-1 : Int32))), .unset, .unset, .unset, .unset, .unset] (-1 : Int32) at_100 rfl rfl rfl rfl ?_
      rw [show ((2 : Int32) + (-1 : Int32)) = (1 : Int32) from by decide]
      refine Go.iload 105 at_103 rfl rfl ?_
      refine Go.iconst 106 (2 : Int32) at_105 rfl rfl ?_
      refine Go.icmpY 122 at_106 (by decide) (by decide) (flt (by decide)).2.2.2 ?_
      refine Go.iload 124 at_122 rfl rfl ?_
      refine Go.iconst 125 (3 : Int32) at_124 rfl rfl ?_
      refine Go.icmpY 141 at_125 (by decide) (by decide) (flt (by decide)).2.2.2 ?_
      exact cut141 _ (by rw [cpc_2]; simp [hp_94]) (by decide)
    · skip
      refine Go.more (sf' := [x_51]) ?_ (Nat.le_refl _) (Nat.le_refl _) (fun _ q => List.mem_append_right _ q)
      show G_law l Z n0 1 2 [x_51] h_62 97 #[.val (.int p0), .val (.int p1), .val (.int p2), .val (.int p3), .val (.int p4), .val (.int p5), .val (.int (2 : Int32)), .val (.int c0), .val (.int c1), .val (.int c2), .val (.int c3), .val (.ref x_51), .val (.int (2 : Int32)), .unset, .unset, .unset, .unset, .unset] [(.int (0 : Int32))]
      refine Go.ifY 103 at_97 (by decide) (by decide) (teq (by decide)).1 ?_
      refine Go.iload 105 at_103 rfl rfl ?_
      refine Go.iconst 106 (2 : Int32) at_105 rfl rfl ?_
      refine Go.icmpY 122 at_106 (by decide) (by decide) (flt (by decide)).2.2.2 ?_
      refine Go.iload 124 at_122 rfl rfl ?_
      refine Go.iconst 125 (3 : Int32) at_124 rfl rfl ?_
      refine Go.icmpY 141 at_125 (by decide) (by decide) (flt (by decide)).2.2.2 ?_
      exact cut141 _ (by rw [cpc_2]; simp [hp_94]) (by decide)
  · rw [en, show ((1 : Int32) + (2 : Int32)) = (3 : Int32) from rfl]
    show G_law l Z n0 0 0 [] h0 6 #[.val (.int p0), .val (.int p1), .val (.int p2), .val (.int p3), .val (.int p4), .val (.int p5), .unset, .unset, .unset, .unset, .unset, .unset, .unset, .unset, .unset, .unset, .unset, .unset] [(.int (3 : Int32))]
    refine Go.istore 8 #[.val (.int p0), .val (.int p1), .val (.int p2), .val (.int p3), .val (.int p4), .val (.int p5), .val (.int (3 : Int32)), .unset, .unset, .unset, .unset, .unset, .unset, .unset, .unset, .unset, .unset, .unset] at_6 rfl rfl ?_
    refine Go.iloadN 9 at_8 rfl rfl ?_
    refine Go.callS (S := []) 12 [(.int p0)] at_9 rfl rfl (w0 hw) (w1 hw) (w2 hw) (w3 hw) (by decide) (call_of_go (R := _) (len := 3) (W := 0) (plainFor_of_name pn_4) (fun mid => ef_draw mid p0 ) (c_draw hw p0 ) (w3 hw) (w2 hw) (by decide) (by decide)) (lenOf pd_17 rfl) (Nat.le_of_ble_eq_true rfl) rfl (Nat.le_of_ble_eq_true rfl) (Nat.le_of_ble_eq_true rfl) (fun _ q => nomatch q) (fun v h_89 sf_90 hq => ?_)
    obtain ⟨rfl, c0, rfl, b_c0⟩ := hq
    refine Go.more (sf' := []) ?_ (Nat.le_refl _) (Nat.le_refl _) (fun _ q => List.mem_append_right _ q)
    show G_law l Z n0 0 0 [] h0 12 #[.val (.int p0), .val (.int p1), .val (.int p2), .val (.int p3), .val (.int p4), .val (.int p5), .val (.int (3 : Int32)), .unset, .unset, .unset, .unset, .unset, .unset, .unset, .unset, .unset, .unset, .unset] [(.int c0)]
    refine Go.istore 14 #[.val (.int p0), .val (.int p1), .val (.int p2), .val (.int p3), .val (.int p4), .val (.int p5), .val (.int (3 : Int32)), .val (.int c0), .unset, .unset, .unset, .unset, .unset, .unset, .unset, .unset, .unset, .unset] at_12 rfl rfl ?_
    refine Go.iloadN 15 at_14 rfl rfl ?_
    refine Go.callS (S := []) 18 [(.int p1)] at_15 rfl rfl (w0 hw) (w1 hw) (w2 hw) (w3 hw) (by decide) (call_of_go (R := _) (len := 3) (W := 0) (plainFor_of_name pn_4) (fun mid => ef_draw mid p1 ) (c_draw hw p1 ) (w3 hw) (w2 hw) (by decide) (by decide)) (lenOf pd_17 rfl) (Nat.le_of_ble_eq_true rfl) rfl (Nat.le_of_ble_eq_true rfl) (Nat.le_of_ble_eq_true rfl) (fun _ q => nomatch q) (fun v h_91 sf_92 hq => ?_)
    obtain ⟨rfl, c1, rfl, b_c1⟩ := hq
    refine Go.more (sf' := []) ?_ (Nat.le_refl _) (Nat.le_refl _) (fun _ q => List.mem_append_right _ q)
    show G_law l Z n0 0 0 [] h0 18 #[.val (.int p0), .val (.int p1), .val (.int p2), .val (.int p3), .val (.int p4), .val (.int p5), .val (.int (3 : Int32)), .val (.int c0), .unset, .unset, .unset, .unset, .unset, .unset, .unset, .unset, .unset, .unset] [(.int c1)]
    refine Go.istore 20 #[.val (.int p0), .val (.int p1), .val (.int p2), .val (.int p3), .val (.int p4), .val (.int p5), .val (.int (3 : Int32)), .val (.int c0), .val (.int c1), .unset, .unset, .unset, .unset, .unset, .unset, .unset, .unset, .unset] at_18 rfl rfl ?_
    refine Go.iloadN 21 at_20 rfl rfl ?_
    refine Go.callS (S := []) 24 [(.int p2)] at_21 rfl rfl (w0 hw) (w1 hw) (w2 hw) (w3 hw) (by decide) (call_of_go (R := _) (len := 3) (W := 0) (plainFor_of_name pn_4) (fun mid => ef_draw mid p2 ) (c_draw hw p2 ) (w3 hw) (w2 hw) (by decide) (by decide)) (lenOf pd_17 rfl) (Nat.le_of_ble_eq_true rfl) rfl (Nat.le_of_ble_eq_true rfl) (Nat.le_of_ble_eq_true rfl) (fun _ q => nomatch q) (fun v h_93 sf_94 hq => ?_)
    obtain ⟨rfl, c2, rfl, b_c2⟩ := hq
    refine Go.more (sf' := []) ?_ (Nat.le_refl _) (Nat.le_refl _) (fun _ q => List.mem_append_right _ q)
    show G_law l Z n0 0 0 [] h0 24 #[.val (.int p0), .val (.int p1), .val (.int p2), .val (.int p3), .val (.int p4), .val (.int p5), .val (.int (3 : Int32)), .val (.int c0), .val (.int c1), .unset, .unset, .unset, .unset, .unset, .unset, .unset, .unset, .unset] [(.int c2)]
    refine Go.istore 26 #[.val (.int p0), .val (.int p1), .val (.int p2), .val (.int p3), .val (.int p4), .val (.int p5), .val (.int (3 : Int32)), .val (.int c0), .val (.int c1), .val (.int c2), .unset, .unset, .unset, .unset, .unset, .unset, .unset, .unset] at_24 rfl rfl ?_
    refine Go.iloadN 27 at_26 rfl rfl ?_
    refine Go.callS (S := []) 30 [(.int p3)] at_27 rfl rfl (w0 hw) (w1 hw) (w2 hw) (w3 hw) (by decide) (call_of_go (R := _) (len := 3) (W := 0) (plainFor_of_name pn_4) (fun mid => ef_draw mid p3 ) (c_draw hw p3 ) (w3 hw) (w2 hw) (by decide) (by decide)) (lenOf pd_17 rfl) (Nat.le_of_ble_eq_true rfl) rfl (Nat.le_of_ble_eq_true rfl) (Nat.le_of_ble_eq_true rfl) (fun _ q => nomatch q) (fun v h_95 sf_96 hq => ?_)
    obtain ⟨rfl, c3, rfl, b_c3⟩ := hq
    refine Go.more (sf' := []) ?_ (Nat.le_refl _) (Nat.le_refl _) (fun _ q => List.mem_append_right _ q)
    show G_law l Z n0 0 0 [] h0 30 #[.val (.int p0), .val (.int p1), .val (.int p2), .val (.int p3), .val (.int p4), .val (.int p5), .val (.int (3 : Int32)), .val (.int c0), .val (.int c1), .val (.int c2), .unset, .unset, .unset, .unset, .unset, .unset, .unset, .unset] [(.int c3)]
    refine Go.istore 32 #[.val (.int p0), .val (.int p1), .val (.int p2), .val (.int p3), .val (.int p4), .val (.int p5), .val (.int (3 : Int32)), .val (.int c0), .val (.int c1), .val (.int c2), .val (.int c3), .unset, .unset, .unset, .unset, .unset, .unset, .unset] at_30 rfl rfl ?_
    refine Go.iload 34 at_32 rfl rfl ?_
    refine Go.newA 3 36 at_34 rfl rfl (w6 hw) (by decide) 3 (Nat.le_refl _) (by decide) (Nat.le_of_ble_eq_true rfl) (Nat.le_of_ble_eq_true rfl) (fun h_97 x_98 g_99 q_100 E_101 lt_102 A_103 => ?_)
    have A_104 : Ary Z h_97 x_98 .char [(.int (0 : Int32)), (.int (0 : Int32)), (.int (0 : Int32))] := A_103
    show G_law l Z n0 1 3 [x_98] h_97 36 #[.val (.int p0), .val (.int p1), .val (.int p2), .val (.int p3), .val (.int p4), .val (.int p5), .val (.int (3 : Int32)), .val (.int c0), .val (.int c1), .val (.int c2), .val (.int c3), .unset, .unset, .unset, .unset, .unset, .unset, .unset] [(.ref x_98)]
    refine Go.astore 38 #[.val (.int p0), .val (.int p1), .val (.int p2), .val (.int p3), .val (.int p4), .val (.int p5), .val (.int (3 : Int32)), .val (.int c0), .val (.int c1), .val (.int c2), .val (.int c3), .val (.ref x_98), .unset, .unset, .unset, .unset, .unset, .unset] at_36 rfl rfl rfl ?_
    refine Go.aload 40 at_38 rfl rfl rfl ?_
    refine Go.iconst 41 (0 : Int32) at_40 rfl rfl ?_
    refine Go.iload 43 at_41 rfl rfl ?_
    refine Go.castore 0 44 at_43 rfl A_104 (by decide) (Nat.le_of_ble_eq_true rfl) (List.mem_of_getElem? (i := 0) rfl) q_100 (fun h_105 W_106 A_107 => ?_)
    have A_108 : Ary Z h_105 x_98 .char [(.int c0), (.int (0 : Int32)), (.int (0 : Int32))] := by have := A_107; rw [nar_cc b_c0] at this; exact this
    refine Go.iload 46 at_44 rfl rfl ?_
    refine Go.iconst 47 (1 : Int32) at_46 rfl rfl ?_
    refine Go.icmpN 50 at_47 rfl (tlt (by decide)).2.2.2 ?_
    refine Go.aload 52 at_50 rfl rfl rfl ?_
    refine Go.iconst 53 (1 : Int32) at_52 rfl rfl ?_
    refine Go.iload 55 at_53 rfl rfl ?_
    refine Go.castore 1 56 at_55 rfl A_108 (by decide) (Nat.le_of_ble_eq_true rfl) (List.mem_of_getElem? (i := 0) rfl) q_100 (fun h_109 W_110 A_111 => ?_)
    have A_112 : Ary Z h_109 x_98 .char [(.int c0), (.int c1), (.int (0 : Int32))] := by have := A_111; rw [nar_cc b_c1] at this; exact this
    refine Go.iload 58 at_56 rfl rfl ?_
    refine Go.iconst 59 (2 : Int32) at_58 rfl rfl ?_
    refine Go.icmpN 62 at_59 rfl (tlt (by decide)).2.2.2 ?_
    refine Go.aload 64 at_62 rfl rfl rfl ?_
    refine Go.iconst 65 (2 : Int32) at_64 rfl rfl ?_
    refine Go.iload 67 at_65 rfl rfl ?_
    refine Go.castore 2 68 at_67 rfl A_112 (by decide) (Nat.le_of_ble_eq_true rfl) (List.mem_of_getElem? (i := 0) rfl) q_100 (fun h_113 W_114 A_115 => ?_)
    have A_116 : Ary Z h_113 x_98 .char [(.int c0), (.int c1), (.int c2)] := by have := A_115; rw [nar_cc b_c2] at this; exact this
    refine Go.iload 70 at_68 rfl rfl ?_
    refine Go.iconst 71 (3 : Int32) at_70 rfl rfl ?_
    refine Go.icmpY 80 at_71 (by decide) (by decide) (flt (by decide)).2.2.2 ?_
    refine Go.iload 82 at_80 rfl rfl ?_
    refine Go.istore 84 #[.val (.int p0), .val (.int p1), .val (.int p2), .val (.int p3), .val (.int p4), .val (.int p5), .val (.int (3 : Int32)), .val (.int c0), .val (.int c1), .val (.int c2), .val (.int c3), .val (.ref x_98), .val (.int (3 : Int32)), .unset, .unset, .unset, .unset, .unset] at_82 rfl rfl ?_
    have cut141 : ∀ (K : Int32) (hK : cpc (3 : Int32) [c0, c1, c2] = K) (bK : 0 ≤ K.toInt ∧ K.toInt ≤ 4), G_law l Z n0 1 3 [x_98] h_113 141 #[.val (.int p0), .val (.int p1), .val (.int p2), .val (.int p3), .val (.int p4), .val (.int p5), .val (.int (3 : Int32)), .val (.int c0), .val (.int c1), .val (.int c2), .val (.int c3), .val (.ref x_98), .val (.int K), .unset, .unset, .unset, .unset, .unset] [] := by
      intro K hK bK
      refine Go.iload 143 at_141 rfl rfl ?_
      refine Go.iconst 144 (1 : Int32) at_143 rfl rfl ?_
      refine Go.iand 145 at_144 rfl ?_
      have cut157 : ∀ (sl : Int64) (bs : 0 ≤ sl.toInt ∧ sl.toInt ≤ 2147483647), G_law l Z n0 1 3 [x_98] h_113 157 #[.val (.int p0), .val (.int p1), .val (.int p2), .val (.int p3), .val (.int p4), .val (.int p5), .val (.int (3 : Int32)), .val (.int c0), .val (.int c1), .val (.int c2), .val (.int c3), .val (.ref x_98), .val (.int K), .unset, .unset, .unset, .unset, .unset] [(.long sl)] := by
        intro sl bs
        refine Go.lstore 159 #[.val (.int p0), .val (.int p1), .val (.int p2), .val (.int p3), .val (.int p4), .val (.int p5), .val (.int (3 : Int32)), .val (.int c0), .val (.int c1), .val (.int c2), .val (.int c3), .val (.ref x_98), .val (.int K), .val (.long sl), .second, .unset, .unset, .unset] at_157 rfl rfl ?_
        refine Go.iload 161 at_159 rfl rfl ?_
        refine Go.i2l 162 at_161 rfl ?_
        refine Go.lload 164 at_162 rfl rfl ?_
        refine Go.ladd 165 at_164 rfl ?_
        refine Go.ldc2J 168 at_165 rfl (w7 hw) ?_
        refine Go.callS (S := []) 171 [(.long ((K).toInt64 + sl)), (.long (2147483647 : Int64))] at_168 rfl rfl (w8 hw) (w9 hw) (w10 hw) (w11 hw) (by decide) (call_of_go (R := _) (len := 3) (W := 0) pf_2 (fun mid => ef_minj mid ((K).toInt64 + sl) (2147483647 : Int64) ) (c_minj hw ((K).toInt64 + sl) (2147483647 : Int64) ) (w11 hw) (w10 hw) (by decide) (by decide)) (lenOf pd_18 rfl) (Nat.le_of_ble_eq_true rfl) rfl (Nat.le_of_ble_eq_true rfl) (Nat.le_of_ble_eq_true rfl) (fun _ q => nomatch q) (fun v h_117 sf_118 hq => ?_)
        obtain ⟨rfl, rfl⟩ := hq
        refine Go.more (sf' := [x_98]) ?_ (Nat.le_refl _) (Nat.le_refl _) (fun _ q => List.mem_append_right _ q)
        show G_law l Z n0 1 3 [x_98] h_113 171 #[.val (.int p0), .val (.int p1), .val (.int p2), .val (.int p3), .val (.int p4), .val (.int p5), .val (.int (3 : Int32)), .val (.int c0), .val (.int c1), .val (.int c2), .val (.int c3), .val (.ref x_98), .val (.int K), .val (.long sl), .second, .unset, .unset, .unset] [(.long (if (0 : Int32) < (lcmpW ((K).toInt64 + sl) (2147483647 : Int64)) then (2147483647 : Int64) else ((K).toInt64 + sl)))]
        refine Go.l2i 172 at_171 rfl ?_
        obtain ⟨mx, e_mx⟩ : ∃ y_ : Int32, y_ = ((if (0 : Int32) < (lcmpW ((K).toInt64 + sl) (2147483647 : Int64)) then (2147483647 : Int64) else ((K).toInt64 + sl))).toInt32 := ⟨_, rfl⟩
        have b_mx : ¬ mx < K := by rw [e_mx]; exact mx_ok bs bK
        rw [← e_mx]
        show G_law l Z n0 1 3 [x_98] h_113 172 #[.val (.int p0), .val (.int p1), .val (.int p2), .val (.int p3), .val (.int p4), .val (.int p5), .val (.int (3 : Int32)), .val (.int c0), .val (.int c1), .val (.int c2), .val (.int c3), .val (.ref x_98), .val (.int K), .val (.long sl), .second, .unset, .unset, .unset] [(.int mx)]
        refine Go.istore 174 #[.val (.int p0), .val (.int p1), .val (.int p2), .val (.int p3), .val (.int p4), .val (.int p5), .val (.int (3 : Int32)), .val (.int c0), .val (.int c1), .val (.int c2), .val (.int c3), .val (.ref x_98), .val (.int K), .val (.long sl), .second, .val (.int mx), .unset, .unset] at_172 rfl rfl ?_
        refine Go.new 177 at_174 rfl (w12 hw) (w13 hw) (w14 hw) (Nat.le_of_ble_eq_true rfl) (Nat.le_of_ble_eq_true rfl) (fun h_119 x_120 g_121 q_122 E_123 lt_124 A_125 D_126 => ?_)
        show G_law l Z n0 2 7 [x_120, x_98] h_119 177 #[.val (.int p0), .val (.int p1), .val (.int p2), .val (.int p3), .val (.int p4), .val (.int p5), .val (.int (3 : Int32)), .val (.int c0), .val (.int c1), .val (.int c2), .val (.int c3), .val (.ref x_98), .val (.int K), .val (.long sl), .second, .val (.int mx), .unset, .unset] [(.ref x_120)]
        refine Go.dup 178 at_177 rfl rfl ?_
        refine Go.aload 180 at_178 rfl rfl rfl ?_
        have f_127 := A_116.ext E_123
        refine Go.callC (S := [(.ref x_120)]) (a := x_120) 183 [(.ref x_98)] at_180 rfl rfl rfl (w15 hw) (w16 hw) (w17 hw) (by decide) (call_of_go (R := _) (len := 3) (W := 1) (plainFor_of_name pn_1) (fun mid => ef_new1_3 mid x_120 x_98 z c0 c1 c2 ) (c_new1_3 hw x_120 x_98 z c0 c1 c2 A_125 q_122 (D_126 (Or.inr (w40 hw)) (ty := (.array .byte)) (by decide)) (D_126 (Or.inr (w38 hw)) (ty := .byte) (by decide)) f_127 b_c0 b_c1 b_c2 SC hz UA UH UL) (w17 hw) (w14 hw) (by decide) (by decide)) (lenOf pd_19 rfl) (Nat.le_of_ble_eq_true rfl) rfl (Nat.le_of_ble_eq_true rfl) (Nat.le_of_ble_eq_true rfl) (sub1 (List.mem_of_getElem? (i := 0) rfl)) (fun v h_130 sf_131 hq => ?_)
        obtain ⟨rfl, K_128, S_129⟩ := hq
        refine Go.more (sf' := [x_120, x_98]) ?_ (Nat.le_refl _) (Nat.le_refl _) (fun _ q => List.mem_append_right _ q)
        show G_law l Z n0 4 16 [x_120, x_98] h_130 183 #[.val (.int p0), .val (.int p1), .val (.int p2), .val (.int p3), .val (.int p4), .val (.int p5), .val (.int (3 : Int32)), .val (.int c0), .val (.int c1), .val (.int c2), .val (.int c3), .val (.ref x_98), .val (.int K), .val (.long sl), .second, .val (.int mx), .unset, .unset] [(.ref x_120)]
        refine Go.astore 185 #[.val (.int p0), .val (.int p1), .val (.int p2), .val (.int p3), .val (.int p4), .val (.int p5), .val (.int (3 : Int32)), .val (.int c0), .val (.int c1), .val (.int c2), .val (.int c3), .val (.ref x_98), .val (.int K), .val (.long sl), .second, .val (.int mx), .val (.ref x_120), .unset] at_183 rfl rfl rfl ?_
        refine Go.ldcO 20 187 at_185 rfl (w41 hw) (wS hw) (by decide) (by decide) (Nat.le_of_ble_eq_true rfl) (Nat.le_of_ble_eq_true rfl) (fun h_132 s_133 E_134 => ?_)
        show G_law l Z n0 6 40 [x_120, x_98] h_132 187 #[.val (.int p0), .val (.int p1), .val (.int p2), .val (.int p3), .val (.int p4), .val (.int p5), .val (.int (3 : Int32)), .val (.int c0), .val (.int c1), .val (.int c2), .val (.int c3), .val (.ref x_98), .val (.int K), .val (.long sl), .second, .val (.int mx), .val (.ref x_120), .unset] [(.ref s_133)]
        refine Go.aload 189 at_187 rfl rfl rfl ?_
        refine Go.iload 191 at_189 rfl rfl ?_
        have f_135 := S_129.ext E_134
        refine Go.callS (S := []) 194 [(.ref s_133), (.ref x_120), (.int mx)] at_191 rfl rfl (w44 hw) (w45 hw) (w46 hw) (w47 hw) (by decide) (call_of_go (R := _) (len := 3) (W := 0) (plainFor_of_name pn_5) (fun mid => ef_reqlen3 mid s_133 x_120 mx z c0 c1 c2 ) (c_reqlen3 hw s_133 x_120 mx z c0 c1 c2 f_135 (by rw [hK]; exact b_mx) b_c0 b_c1 b_c2 SC hz UA UH UL) (w47 hw) (w46 hw) (by decide) (by decide)) (lenOf pd_20 rfl) (Nat.le_of_ble_eq_true rfl) rfl (Nat.le_of_ble_eq_true rfl) (Nat.le_of_ble_eq_true rfl) (fun _ q => nomatch q) (fun v h_136 sf_137 hq => ?_)
        obtain ⟨rfl, rfl⟩ := hq
        refine Go.more (sf' := [x_120, x_98]) ?_ (Nat.le_refl _) (Nat.le_refl _) (fun _ q => List.mem_append_right _ q)
        show G_law l Z n0 6 40 [x_120, x_98] h_132 194 #[.val (.int p0), .val (.int p1), .val (.int p2), .val (.int p3), .val (.int p4), .val (.int p5), .val (.int (3 : Int32)), .val (.int c0), .val (.int c1), .val (.int c2), .val (.int c3), .val (.ref x_98), .val (.int K), .val (.long sl), .second, .val (.int mx), .val (.ref x_120), .unset] [(.ref x_120)]
        refine Go.astore 196 #[.val (.int p0), .val (.int p1), .val (.int p2), .val (.int p3), .val (.int p4), .val (.int p5), .val (.int (3 : Int32)), .val (.int c0), .val (.int c1), .val (.int c2), .val (.int c3), .val (.ref x_98), .val (.int K), .val (.long sl), .second, .val (.int mx), .val (.ref x_120), .val (.ref x_120)] at_194 rfl rfl rfl ?_
        refine Go.aload 198 at_196 rfl rfl rfl ?_
        refine Go.aload 200 at_198 rfl rfl rfl ?_
        refine Go.acmpN 203 at_200 (by decide) rfl rfl rfl (by rw [decide_eq_true rfl]; rfl) ?_
        refine Go.iconst 204 (1 : Int32) at_203 rfl rfl ?_
        refine Go.goto 208 at_204 (by decide) (by decide) ?_
        exact Go.retN (1 : Int32) at_208 rfl (t := .boolean) (by simp) rfl (sf' := []) (rfl) (fun _ q => nomatch q) (Nat.le_of_ble_eq_true rfl) (Nat.le_of_ble_eq_true rfl)
      by_cases hc145 : (p5 &&& (1 : Int32)) = (0 : Int32)
      · skip
        refine Go.ifN 148 at_145 rfl (teq hc145).2 ?_
        refine Go.lconst 149 (0 : Int64) at_148 rfl rfl ?_
        refine Go.goto 157 at_149 (by decide) (by decide) ?_
        exact cut157 _ (by decide)
      · skip
        refine Go.ifY 152 at_145 (by decide) (by decide) (feq hc145).2 ?_
        refine Go.iload 154 at_152 rfl rfl ?_
        refine Go.iconst 155 (1 : Int32) at_154 rfl rfl ?_
        refine Go.iushr 156 at_155 rfl ?_
        refine Go.i2l 157 at_156 rfl ?_
        exact cut157 _ (slack_ok p5)
    refine Go.iload 86 at_84 rfl rfl ?_
    refine Go.iconst 87 (1 : Int32) at_86 rfl rfl ?_
    refine Go.icmpN 90 at_87 rfl (tlt (by decide)).2.2.2 ?_
    refine Go.iload 92 at_90 rfl rfl ?_
    refine Go.iload 94 at_92 rfl rfl ?_
    refine Go.callS (S := []) 97 [(.int c0), (.int c1)] at_94 rfl rfl (w82 hw) (w83 hw) (w2 hw) (w84 hw) (by decide) (call_of_go (R := _) (len := 3) (W := 0) (plainFor_of_name pn_4) (fun mid => ef_pair mid c0 c1 ) (c_pair hw c0 c1 ) (w84 hw) (w2 hw) (by decide) (by decide)) (lenOf pd_21 rfl) (Nat.le_of_ble_eq_true rfl) rfl (Nat.le_of_ble_eq_true rfl) (Nat.le_of_ble_eq_true rfl) (fun _ q => nomatch q) (fun v h_138 sf_139 hq => ?_)
    obtain ⟨rfl, r, rfl, ⟨rfl, hp_94⟩ | ⟨rfl, hp_94⟩⟩ := hq
    · skip
      refine Go.more (sf' := [x_98]) ?_ (Nat.le_refl _) (Nat.le_refl _) (fun _ q => List.mem_append_right _ q)
      show G_law l Z n0 1 3 [x_98] h_113 97 #[.val (.int p0), .val (.int p1), .val (.int p2), .val (.int p3), .val (.int p4), .val (.int p5), .val (.int (3 : Int32)), .val (.int c0), .val (.int c1), .val (.int c2), .val (.int c3), .val (.ref x_98), .val (.int (3 : Int32)), .unset, .unset, .unset, .unset, .unset] [(.int (1 : Int32))]
      refine Go.ifN 100 at_97 rfl (feq (by decide)).1 ?_
      refine Go.iinc 103 #[.val (.int p0), .val (.int p1), .val (.int p2), .val (.int p3), .val (.int p4), .val (.int p5), .val (.int (3 : Int32)), .val (.int c0), .val (.int c1), .val (.int c2), .val (.int c3), .val (.ref x_98), .val (.int ((3 : Int32) + (-1 : Int32))), .unset, .unset, .unset, .unset, .unset] (-1 : Int32) at_100 rfl rfl rfl rfl ?_
      rw [show ((3 : Int32) + (-1 : Int32)) = (2 : Int32) from by decide]
      refine Go.iload 105 at_103 rfl rfl ?_
      refine Go.iconst 106 (2 : Int32) at_105 rfl rfl ?_
      refine Go.icmpN 109 at_106 rfl (tlt (by decide)).2.2.2 ?_
      refine Go.iload 111 at_109 rfl rfl ?_
      refine Go.iload 113 at_111 rfl rfl ?_
      refine Go.callS (S := []) 116 [(.int c1), (.int c2)] at_113 rfl rfl (w82 hw) (w83 hw) (w2 hw) (w84 hw) (by decide) (call_of_go (R := _) (len := 3) (W := 0) (plainFor_of_name pn_4) (fun mid => ef_pair mid c1 c2 ) (c_pair hw c1 c2 ) (w84 hw) (w2 hw) (by decide) (by decide)) (lenOf pd_21 rfl) (Nat.le_of_ble_eq_true rfl) rfl (Nat.le_of_ble_eq_true rfl) (Nat.le_of_ble_eq_true rfl) (fun _ q => nomatch q) (fun v h_140 sf_141 hq => ?_)
      obtain ⟨rfl, r, rfl, ⟨rfl, hp_113⟩ | ⟨rfl, hp_113⟩⟩ := hq
      · skip
        refine Go.more (sf' := [x_98]) ?_ (Nat.le_refl _) (Nat.le_refl _) (fun _ q => List.mem_append_right _ q)
        show G_law l Z n0 1 3 [x_98] h_113 116 #[.val (.int p0), .val (.int p1), .val (.int p2), .val (.int p3), .val (.int p4), .val (.int p5), .val (.int (3 : Int32)), .val (.int c0), .val (.int c1), .val (.int c2), .val (.int c3), .val (.ref x_98), .val (.int (2 : Int32)), .unset, .unset, .unset, .unset, .unset] [(.int (1 : Int32))]
        refine Go.ifN 119 at_116 rfl (feq (by decide)).1 ?_
        refine Go.iinc 122 #[.val (.int p0), .val (.int p1), .val (.int p2), .val (.int p3), .val (.int p4), .val (.int p5), .val (.int (3 : Int32)), .val (.int c0), .val (.int c1), .val (.int c2), .val (.int c3), .val (.ref x_98), .val (.int ((2 : Int32) + (-1 : Int32))), .unset, .unset, .unset, .unset, .unset] (-1 : Int32) at_119 rfl rfl rfl rfl ?_
        rw [show ((2 : Int32) + (-1 : Int32)) = (1 : Int32) from by decide]
        refine Go.iload 124 at_122 rfl rfl ?_
        refine Go.iconst 125 (3 : Int32) at_124 rfl rfl ?_
        refine Go.icmpY 141 at_125 (by decide) (by decide) (flt (by decide)).2.2.2 ?_
        exact cut141 _ (by rw [cpc_3]; simp [hp_94, hp_113]) (by decide)
      · skip
        refine Go.more (sf' := [x_98]) ?_ (Nat.le_refl _) (Nat.le_refl _) (fun _ q => List.mem_append_right _ q)
        show G_law l Z n0 1 3 [x_98] h_113 116 #[.val (.int p0), .val (.int p1), .val (.int p2), .val (.int p3), .val (.int p4), .val (.int p5), .val (.int (3 : Int32)), .val (.int c0), .val (.int c1), .val (.int c2), .val (.int c3), .val (.ref x_98), .val (.int (2 : Int32)), .unset, .unset, .unset, .unset, .unset] [(.int (0 : Int32))]
        refine Go.ifY 122 at_116 (by decide) (by decide) (teq (by decide)).1 ?_
        refine Go.iload 124 at_122 rfl rfl ?_
        refine Go.iconst 125 (3 : Int32) at_124 rfl rfl ?_
        refine Go.icmpY 141 at_125 (by decide) (by decide) (flt (by decide)).2.2.2 ?_
        exact cut141 _ (by rw [cpc_3]; simp [hp_94, hp_113]) (by decide)
    · skip
      refine Go.more (sf' := [x_98]) ?_ (Nat.le_refl _) (Nat.le_refl _) (fun _ q => List.mem_append_right _ q)
      show G_law l Z n0 1 3 [x_98] h_113 97 #[.val (.int p0), .val (.int p1), .val (.int p2), .val (.int p3), .val (.int p4), .val (.int p5), .val (.int (3 : Int32)), .val (.int c0), .val (.int c1), .val (.int c2), .val (.int c3), .val (.ref x_98), .val (.int (3 : Int32)), .unset, .unset, .unset, .unset, .unset] [(.int (0 : Int32))]
      refine Go.ifY 103 at_97 (by decide) (by decide) (teq (by decide)).1 ?_
      refine Go.iload 105 at_103 rfl rfl ?_
      refine Go.iconst 106 (2 : Int32) at_105 rfl rfl ?_
      refine Go.icmpN 109 at_106 rfl (tlt (by decide)).2.2.2 ?_
      refine Go.iload 111 at_109 rfl rfl ?_
      refine Go.iload 113 at_111 rfl rfl ?_
      refine Go.callS (S := []) 116 [(.int c1), (.int c2)] at_113 rfl rfl (w82 hw) (w83 hw) (w2 hw) (w84 hw) (by decide) (call_of_go (R := _) (len := 3) (W := 0) (plainFor_of_name pn_4) (fun mid => ef_pair mid c1 c2 ) (c_pair hw c1 c2 ) (w84 hw) (w2 hw) (by decide) (by decide)) (lenOf pd_21 rfl) (Nat.le_of_ble_eq_true rfl) rfl (Nat.le_of_ble_eq_true rfl) (Nat.le_of_ble_eq_true rfl) (fun _ q => nomatch q) (fun v h_142 sf_143 hq => ?_)
      obtain ⟨rfl, r, rfl, ⟨rfl, hp_113⟩ | ⟨rfl, hp_113⟩⟩ := hq
      · skip
        refine Go.more (sf' := [x_98]) ?_ (Nat.le_refl _) (Nat.le_refl _) (fun _ q => List.mem_append_right _ q)
        show G_law l Z n0 1 3 [x_98] h_113 116 #[.val (.int p0), .val (.int p1), .val (.int p2), .val (.int p3), .val (.int p4), .val (.int p5), .val (.int (3 : Int32)), .val (.int c0), .val (.int c1), .val (.int c2), .val (.int c3), .val (.ref x_98), .val (.int (3 : Int32)), .unset, .unset, .unset, .unset, .unset] [(.int (1 : Int32))]
        refine Go.ifN 119 at_116 rfl (feq (by decide)).1 ?_
        refine Go.iinc 122 #[.val (.int p0), .val (.int p1), .val (.int p2), .val (.int p3), .val (.int p4), .val (.int p5), .val (.int (3 : Int32)), .val (.int c0), .val (.int c1), .val (.int c2), .val (.int c3), .val (.ref x_98), .val (.int ((3 : Int32) + (-1 : Int32))), .unset, .unset, .unset, .unset, .unset] (-1 : Int32) at_119 rfl rfl rfl rfl ?_
        rw [show ((3 : Int32) + (-1 : Int32)) = (2 : Int32) from by decide]
        refine Go.iload 124 at_122 rfl rfl ?_
        refine Go.iconst 125 (3 : Int32) at_124 rfl rfl ?_
        refine Go.icmpY 141 at_125 (by decide) (by decide) (flt (by decide)).2.2.2 ?_
        exact cut141 _ (by rw [cpc_3]; simp [hp_94, hp_113]) (by decide)
      · skip
        refine Go.more (sf' := [x_98]) ?_ (Nat.le_refl _) (Nat.le_refl _) (fun _ q => List.mem_append_right _ q)
        show G_law l Z n0 1 3 [x_98] h_113 116 #[.val (.int p0), .val (.int p1), .val (.int p2), .val (.int p3), .val (.int p4), .val (.int p5), .val (.int (3 : Int32)), .val (.int c0), .val (.int c1), .val (.int c2), .val (.int c3), .val (.ref x_98), .val (.int (3 : Int32)), .unset, .unset, .unset, .unset, .unset] [(.int (0 : Int32))]
        refine Go.ifY 122 at_116 (by decide) (by decide) (teq (by decide)).1 ?_
        refine Go.iload 124 at_122 rfl rfl ?_
        refine Go.iconst 125 (3 : Int32) at_124 rfl rfl ?_
        refine Go.icmpY 141 at_125 (by decide) (by decide) (flt (by decide)).2.2.2 ?_
        exact cut141 _ (by rw [cpc_3]; simp [hp_94, hp_113]) (by decide)
  · rw [en, show ((1 : Int32) + (3 : Int32)) = (4 : Int32) from rfl]
    show G_law l Z n0 0 0 [] h0 6 #[.val (.int p0), .val (.int p1), .val (.int p2), .val (.int p3), .val (.int p4), .val (.int p5), .unset, .unset, .unset, .unset, .unset, .unset, .unset, .unset, .unset, .unset, .unset, .unset] [(.int (4 : Int32))]
    refine Go.istore 8 #[.val (.int p0), .val (.int p1), .val (.int p2), .val (.int p3), .val (.int p4), .val (.int p5), .val (.int (4 : Int32)), .unset, .unset, .unset, .unset, .unset, .unset, .unset, .unset, .unset, .unset, .unset] at_6 rfl rfl ?_
    refine Go.iloadN 9 at_8 rfl rfl ?_
    refine Go.callS (S := []) 12 [(.int p0)] at_9 rfl rfl (w0 hw) (w1 hw) (w2 hw) (w3 hw) (by decide) (call_of_go (R := _) (len := 3) (W := 0) (plainFor_of_name pn_4) (fun mid => ef_draw mid p0 ) (c_draw hw p0 ) (w3 hw) (w2 hw) (by decide) (by decide)) (lenOf pd_17 rfl) (Nat.le_of_ble_eq_true rfl) rfl (Nat.le_of_ble_eq_true rfl) (Nat.le_of_ble_eq_true rfl) (fun _ q => nomatch q) (fun v h_144 sf_145 hq => ?_)
    obtain ⟨rfl, c0, rfl, b_c0⟩ := hq
    refine Go.more (sf' := []) ?_ (Nat.le_refl _) (Nat.le_refl _) (fun _ q => List.mem_append_right _ q)
    show G_law l Z n0 0 0 [] h0 12 #[.val (.int p0), .val (.int p1), .val (.int p2), .val (.int p3), .val (.int p4), .val (.int p5), .val (.int (4 : Int32)), .unset, .unset, .unset, .unset, .unset, .unset, .unset, .unset, .unset, .unset, .unset] [(.int c0)]
    refine Go.istore 14 #[.val (.int p0), .val (.int p1), .val (.int p2), .val (.int p3), .val (.int p4), .val (.int p5), .val (.int (4 : Int32)), .val (.int c0), .unset, .unset, .unset, .unset, .unset, .unset, .unset, .unset, .unset, .unset] at_12 rfl rfl ?_
    refine Go.iloadN 15 at_14 rfl rfl ?_
    refine Go.callS (S := []) 18 [(.int p1)] at_15 rfl rfl (w0 hw) (w1 hw) (w2 hw) (w3 hw) (by decide) (call_of_go (R := _) (len := 3) (W := 0) (plainFor_of_name pn_4) (fun mid => ef_draw mid p1 ) (c_draw hw p1 ) (w3 hw) (w2 hw) (by decide) (by decide)) (lenOf pd_17 rfl) (Nat.le_of_ble_eq_true rfl) rfl (Nat.le_of_ble_eq_true rfl) (Nat.le_of_ble_eq_true rfl) (fun _ q => nomatch q) (fun v h_146 sf_147 hq => ?_)
    obtain ⟨rfl, c1, rfl, b_c1⟩ := hq
    refine Go.more (sf' := []) ?_ (Nat.le_refl _) (Nat.le_refl _) (fun _ q => List.mem_append_right _ q)
    show G_law l Z n0 0 0 [] h0 18 #[.val (.int p0), .val (.int p1), .val (.int p2), .val (.int p3), .val (.int p4), .val (.int p5), .val (.int (4 : Int32)), .val (.int c0), .unset, .unset, .unset, .unset, .unset, .unset, .unset, .unset, .unset, .unset] [(.int c1)]
    refine Go.istore 20 #[.val (.int p0), .val (.int p1), .val (.int p2), .val (.int p3), .val (.int p4), .val (.int p5), .val (.int (4 : Int32)), .val (.int c0), .val (.int c1), .unset, .unset, .unset, .unset, .unset, .unset, .unset, .unset, .unset] at_18 rfl rfl ?_
    refine Go.iloadN 21 at_20 rfl rfl ?_
    refine Go.callS (S := []) 24 [(.int p2)] at_21 rfl rfl (w0 hw) (w1 hw) (w2 hw) (w3 hw) (by decide) (call_of_go (R := _) (len := 3) (W := 0) (plainFor_of_name pn_4) (fun mid => ef_draw mid p2 ) (c_draw hw p2 ) (w3 hw) (w2 hw) (by decide) (by decide)) (lenOf pd_17 rfl) (Nat.le_of_ble_eq_true rfl) rfl (Nat.le_of_ble_eq_true rfl) (Nat.le_of_ble_eq_true rfl) (fun _ q => nomatch q) (fun v h_148 sf_149 hq => ?_)
    obtain ⟨rfl, c2, rfl, b_c2⟩ := hq
    refine Go.more (sf' := []) ?_ (Nat.le_refl _) (Nat.le_refl _) (fun _ q => List.mem_append_right _ q)
    show G_law l Z n0 0 0 [] h0 24 #[.val (.int p0), .val (.int p1), .val (.int p2), .val (.int p3), .val (.int p4), .val (.int p5), .val (.int (4 : Int32)), .val (.int c0), .val (.int c1), .unset, .unset, .unset, .unset, .unset, .unset, .unset, .unset, .unset] [(.int c2)]
    refine Go.istore 26 #[.val (.int p0), .val (.int p1), .val (.int p2), .val (.int p3), .val (.int p4), .val (.int p5), .val (.int (4 : Int32)), .val (.int c0), .val (.int c1), .val (.int c2), .unset, .unset, .unset, .unset, .unset, .unset, .unset, .unset] at_24 rfl rfl ?_
    refine Go.iloadN 27 at_26 rfl rfl ?_
    refine Go.callS (S := []) 30 [(.int p3)] at_27 rfl rfl (w0 hw) (w1 hw) (w2 hw) (w3 hw) (by decide) (call_of_go (R := _) (len := 3) (W := 0) (plainFor_of_name pn_4) (fun mid => ef_draw mid p3 ) (c_draw hw p3 ) (w3 hw) (w2 hw) (by decide) (by decide)) (lenOf pd_17 rfl) (Nat.le_of_ble_eq_true rfl) rfl (Nat.le_of_ble_eq_true rfl) (Nat.le_of_ble_eq_true rfl) (fun _ q => nomatch q) (fun v h_150 sf_151 hq => ?_)
    obtain ⟨rfl, c3, rfl, b_c3⟩ := hq
    refine Go.more (sf' := []) ?_ (Nat.le_refl _) (Nat.le_refl _) (fun _ q => List.mem_append_right _ q)
    show G_law l Z n0 0 0 [] h0 30 #[.val (.int p0), .val (.int p1), .val (.int p2), .val (.int p3), .val (.int p4), .val (.int p5), .val (.int (4 : Int32)), .val (.int c0), .val (.int c1), .val (.int c2), .unset, .unset, .unset, .unset, .unset, .unset, .unset, .unset] [(.int c3)]
    refine Go.istore 32 #[.val (.int p0), .val (.int p1), .val (.int p2), .val (.int p3), .val (.int p4), .val (.int p5), .val (.int (4 : Int32)), .val (.int c0), .val (.int c1), .val (.int c2), .val (.int c3), .unset, .unset, .unset, .unset, .unset, .unset, .unset] at_30 rfl rfl ?_
    refine Go.iload 34 at_32 rfl rfl ?_
    refine Go.newA 4 36 at_34 rfl rfl (w6 hw) (by decide) 4 (Nat.le_refl _) (by decide) (Nat.le_of_ble_eq_true rfl) (Nat.le_of_ble_eq_true rfl) (fun h_152 x_153 g_154 q_155 E_156 lt_157 A_158 => ?_)
    have A_159 : Ary Z h_152 x_153 .char [(.int (0 : Int32)), (.int (0 : Int32)), (.int (0 : Int32)), (.int (0 : Int32))] := A_158
    show G_law l Z n0 1 4 [x_153] h_152 36 #[.val (.int p0), .val (.int p1), .val (.int p2), .val (.int p3), .val (.int p4), .val (.int p5), .val (.int (4 : Int32)), .val (.int c0), .val (.int c1), .val (.int c2), .val (.int c3), .unset, .unset, .unset, .unset, .unset, .unset, .unset] [(.ref x_153)]
    refine Go.astore 38 #[.val (.int p0), .val (.int p1), .val (.int p2), .val (.int p3), .val (.int p4), .val (.int p5), .val (.int (4 : Int32)), .val (.int c0), .val (.int c1), .val (.int c2), .val (.int c3), .val (.ref x_153), .unset, .unset, .unset, .unset, .unset, .unset] at_36 rfl rfl rfl ?_
    refine Go.aload 40 at_38 rfl rfl rfl ?_
    refine Go.iconst 41 (0 : Int32) at_40 rfl rfl ?_
    refine Go.iload 43 at_41 rfl rfl ?_
    refine Go.castore 0 44 at_43 rfl A_159 (by decide) (Nat.le_of_ble_eq_true rfl) (List.mem_of_getElem? (i := 0) rfl) q_155 (fun h_160 W_161 A_162 => ?_)
    have A_163 : Ary Z h_160 x_153 .char [(.int c0), (.int (0 : Int32)), (.int (0 : Int32)), (.int (0 : Int32))] := by have := A_162; rw [nar_cc b_c0] at this; exact this
    refine Go.iload 46 at_44 rfl rfl ?_
    refine Go.iconst 47 (1 : Int32) at_46 rfl rfl ?_
    refine Go.icmpN 50 at_47 rfl (tlt (by decide)).2.2.2 ?_
    refine Go.aload 52 at_50 rfl rfl rfl ?_
    refine Go.iconst 53 (1 : Int32) at_52 rfl rfl ?_
    refine Go.iload 55 at_53 rfl rfl ?_
    refine Go.castore 1 56 at_55 rfl A_163 (by decide) (Nat.le_of_ble_eq_true rfl) (List.mem_of_getElem? (i := 0) rfl) q_155 (fun h_164 W_165 A_166 => ?_)
    have A_167 : Ary Z h_164 x_153 .char [(.int c0), (.int c1), (.int (0 : Int32)), (.int (0 : Int32))] := by have := A_166; rw [nar_cc b_c1] at this; exact this
    refine Go.iload 58 at_56 rfl rfl ?_
    refine Go.iconst 59 (2 : Int32) at_58 rfl rfl ?_
    refine Go.icmpN 62 at_59 rfl (tlt (by decide)).2.2.2 ?_
    refine Go.aload 64 at_62 rfl rfl rfl ?_
    refine Go.iconst 65 (2 : Int32) at_64 rfl rfl ?_
    refine Go.iload 67 at_65 rfl rfl ?_
    refine Go.castore 2 68 at_67 rfl A_167 (by decide) (Nat.le_of_ble_eq_true rfl) (List.mem_of_getElem? (i := 0) rfl) q_155 (fun h_168 W_169 A_170 => ?_)
    have A_171 : Ary Z h_168 x_153 .char [(.int c0), (.int c1), (.int c2), (.int (0 : Int32))] := by have := A_170; rw [nar_cc b_c2] at this; exact this
    refine Go.iload 70 at_68 rfl rfl ?_
    refine Go.iconst 71 (3 : Int32) at_70 rfl rfl ?_
    refine Go.icmpN 74 at_71 rfl (tlt (by decide)).2.2.2 ?_
    refine Go.aload 76 at_74 rfl rfl rfl ?_
    refine Go.iconst 77 (3 : Int32) at_76 rfl rfl ?_
    refine Go.iload 79 at_77 rfl rfl ?_
    refine Go.castore 3 80 at_79 rfl A_171 (by decide) (Nat.le_of_ble_eq_true rfl) (List.mem_of_getElem? (i := 0) rfl) q_155 (fun h_172 W_173 A_174 => ?_)
    have A_175 : Ary Z h_172 x_153 .char [(.int c0), (.int c1), (.int c2), (.int c3)] := by have := A_174; rw [nar_cc b_c3] at this; exact this
    refine Go.iload 82 at_80 rfl rfl ?_
    refine Go.istore 84 #[.val (.int p0), .val (.int p1), .val (.int p2), .val (.int p3), .val (.int p4), .val (.int p5), .val (.int (4 : Int32)), .val (.int c0), .val (.int c1), .val (.int c2), .val (.int c3), .val (.ref x_153), .val (.int (4 : Int32)), .unset, .unset, .unset, .unset, .unset] at_82 rfl rfl ?_
    have cut141 : ∀ (K : Int32) (hK : cpc (4 : Int32) [c0, c1, c2, c3] = K) (bK : 0 ≤ K.toInt ∧ K.toInt ≤ 4), G_law l Z n0 1 4 [x_153] h_172 141 #[.val (.int p0), .val (.int p1), .val (.int p2), .val (.int p3), .val (.int p4), .val (.int p5), .val (.int (4 : Int32)), .val (.int c0), .val (.int c1), .val (.int c2), .val (.int c3), .val (.ref x_153), .val (.int K), .unset, .unset, .unset, .unset, .unset] [] := by
      intro K hK bK
      refine Go.iload 143 at_141 rfl rfl ?_
      refine Go.iconst 144 (1 : Int32) at_143 rfl rfl ?_
      refine Go.iand 145 at_144 rfl ?_
      have cut157 : ∀ (sl : Int64) (bs : 0 ≤ sl.toInt ∧ sl.toInt ≤ 2147483647), G_law l Z n0 1 4 [x_153] h_172 157 #[.val (.int p0), .val (.int p1), .val (.int p2), .val (.int p3), .val (.int p4), .val (.int p5), .val (.int (4 : Int32)), .val (.int c0), .val (.int c1), .val (.int c2), .val (.int c3), .val (.ref x_153), .val (.int K), .unset, .unset, .unset, .unset, .unset] [(.long sl)] := by
        intro sl bs
        refine Go.lstore 159 #[.val (.int p0), .val (.int p1), .val (.int p2), .val (.int p3), .val (.int p4), .val (.int p5), .val (.int (4 : Int32)), .val (.int c0), .val (.int c1), .val (.int c2), .val (.int c3), .val (.ref x_153), .val (.int K), .val (.long sl), .second, .unset, .unset, .unset] at_157 rfl rfl ?_
        refine Go.iload 161 at_159 rfl rfl ?_
        refine Go.i2l 162 at_161 rfl ?_
        refine Go.lload 164 at_162 rfl rfl ?_
        refine Go.ladd 165 at_164 rfl ?_
        refine Go.ldc2J 168 at_165 rfl (w7 hw) ?_
        refine Go.callS (S := []) 171 [(.long ((K).toInt64 + sl)), (.long (2147483647 : Int64))] at_168 rfl rfl (w8 hw) (w9 hw) (w10 hw) (w11 hw) (by decide) (call_of_go (R := _) (len := 3) (W := 0) pf_2 (fun mid => ef_minj mid ((K).toInt64 + sl) (2147483647 : Int64) ) (c_minj hw ((K).toInt64 + sl) (2147483647 : Int64) ) (w11 hw) (w10 hw) (by decide) (by decide)) (lenOf pd_18 rfl) (Nat.le_of_ble_eq_true rfl) rfl (Nat.le_of_ble_eq_true rfl) (Nat.le_of_ble_eq_true rfl) (fun _ q => nomatch q) (fun v h_176 sf_177 hq => ?_)
        obtain ⟨rfl, rfl⟩ := hq
        refine Go.more (sf' := [x_153]) ?_ (Nat.le_refl _) (Nat.le_refl _) (fun _ q => List.mem_append_right _ q)
        show G_law l Z n0 1 4 [x_153] h_172 171 #[.val (.int p0), .val (.int p1), .val (.int p2), .val (.int p3), .val (.int p4), .val (.int p5), .val (.int (4 : Int32)), .val (.int c0), .val (.int c1), .val (.int c2), .val (.int c3), .val (.ref x_153), .val (.int K), .val (.long sl), .second, .unset, .unset, .unset] [(.long (if (0 : Int32) < (lcmpW ((K).toInt64 + sl) (2147483647 : Int64)) then (2147483647 : Int64) else ((K).toInt64 + sl)))]
        refine Go.l2i 172 at_171 rfl ?_
        obtain ⟨mx, e_mx⟩ : ∃ y_ : Int32, y_ = ((if (0 : Int32) < (lcmpW ((K).toInt64 + sl) (2147483647 : Int64)) then (2147483647 : Int64) else ((K).toInt64 + sl))).toInt32 := ⟨_, rfl⟩
        have b_mx : ¬ mx < K := by rw [e_mx]; exact mx_ok bs bK
        rw [← e_mx]
        show G_law l Z n0 1 4 [x_153] h_172 172 #[.val (.int p0), .val (.int p1), .val (.int p2), .val (.int p3), .val (.int p4), .val (.int p5), .val (.int (4 : Int32)), .val (.int c0), .val (.int c1), .val (.int c2), .val (.int c3), .val (.ref x_153), .val (.int K), .val (.long sl), .second, .unset, .unset, .unset] [(.int mx)]
        refine Go.istore 174 #[.val (.int p0), .val (.int p1), .val (.int p2), .val (.int p3), .val (.int p4), .val (.int p5), .val (.int (4 : Int32)), .val (.int c0), .val (.int c1), .val (.int c2), .val (.int c3), .val (.ref x_153), .val (.int K), .val (.long sl), .second, .val (.int mx), .unset, .unset] at_172 rfl rfl ?_
        refine Go.new 177 at_174 rfl (w12 hw) (w13 hw) (w14 hw) (Nat.le_of_ble_eq_true rfl) (Nat.le_of_ble_eq_true rfl) (fun h_178 x_179 g_180 q_181 E_182 lt_183 A_184 D_185 => ?_)
        show G_law l Z n0 2 8 [x_179, x_153] h_178 177 #[.val (.int p0), .val (.int p1), .val (.int p2), .val (.int p3), .val (.int p4), .val (.int p5), .val (.int (4 : Int32)), .val (.int c0), .val (.int c1), .val (.int c2), .val (.int c3), .val (.ref x_153), .val (.int K), .val (.long sl), .second, .val (.int mx), .unset, .unset] [(.ref x_179)]
        refine Go.dup 178 at_177 rfl rfl ?_
        refine Go.aload 180 at_178 rfl rfl rfl ?_
        have f_186 := A_175.ext E_182
        refine Go.callC (S := [(.ref x_179)]) (a := x_179) 183 [(.ref x_153)] at_180 rfl rfl rfl (w15 hw) (w16 hw) (w17 hw) (by decide) (call_of_go (R := _) (len := 3) (W := 1) (plainFor_of_name pn_1) (fun mid => ef_new1_4 mid x_179 x_153 z c0 c1 c2 c3 ) (c_new1_4 hw x_179 x_153 z c0 c1 c2 c3 A_184 q_181 (D_185 (Or.inr (w40 hw)) (ty := (.array .byte)) (by decide)) (D_185 (Or.inr (w38 hw)) (ty := .byte) (by decide)) f_186 b_c0 b_c1 b_c2 b_c3 SC hz UA UH UL) (w17 hw) (w14 hw) (by decide) (by decide)) (lenOf pd_19 rfl) (Nat.le_of_ble_eq_true rfl) rfl (Nat.le_of_ble_eq_true rfl) (Nat.le_of_ble_eq_true rfl) (sub1 (List.mem_of_getElem? (i := 0) rfl)) (fun v h_189 sf_190 hq => ?_)
        obtain ⟨rfl, K_187, S_188⟩ := hq
        refine Go.more (sf' := [x_179, x_153]) ?_ (Nat.le_refl _) (Nat.le_refl _) (fun _ q => List.mem_append_right _ q)
        show G_law l Z n0 4 20 [x_179, x_153] h_189 183 #[.val (.int p0), .val (.int p1), .val (.int p2), .val (.int p3), .val (.int p4), .val (.int p5), .val (.int (4 : Int32)), .val (.int c0), .val (.int c1), .val (.int c2), .val (.int c3), .val (.ref x_153), .val (.int K), .val (.long sl), .second, .val (.int mx), .unset, .unset] [(.ref x_179)]
        refine Go.astore 185 #[.val (.int p0), .val (.int p1), .val (.int p2), .val (.int p3), .val (.int p4), .val (.int p5), .val (.int (4 : Int32)), .val (.int c0), .val (.int c1), .val (.int c2), .val (.int c3), .val (.ref x_153), .val (.int K), .val (.long sl), .second, .val (.int mx), .val (.ref x_179), .unset] at_183 rfl rfl rfl ?_
        refine Go.ldcO 20 187 at_185 rfl (w41 hw) (wS hw) (by decide) (by decide) (Nat.le_of_ble_eq_true rfl) (Nat.le_of_ble_eq_true rfl) (fun h_191 s_192 E_193 => ?_)
        show G_law l Z n0 6 44 [x_179, x_153] h_191 187 #[.val (.int p0), .val (.int p1), .val (.int p2), .val (.int p3), .val (.int p4), .val (.int p5), .val (.int (4 : Int32)), .val (.int c0), .val (.int c1), .val (.int c2), .val (.int c3), .val (.ref x_153), .val (.int K), .val (.long sl), .second, .val (.int mx), .val (.ref x_179), .unset] [(.ref s_192)]
        refine Go.aload 189 at_187 rfl rfl rfl ?_
        refine Go.iload 191 at_189 rfl rfl ?_
        have f_194 := S_188.ext E_193
        refine Go.callS (S := []) 194 [(.ref s_192), (.ref x_179), (.int mx)] at_191 rfl rfl (w44 hw) (w45 hw) (w46 hw) (w47 hw) (by decide) (call_of_go (R := _) (len := 3) (W := 0) (plainFor_of_name pn_5) (fun mid => ef_reqlen4 mid s_192 x_179 mx z c0 c1 c2 c3 ) (c_reqlen4 hw s_192 x_179 mx z c0 c1 c2 c3 f_194 (by rw [hK]; exact b_mx) b_c0 b_c1 b_c2 b_c3 SC hz UA UH UL) (w47 hw) (w46 hw) (by decide) (by decide)) (lenOf pd_20 rfl) (Nat.le_of_ble_eq_true rfl) rfl (Nat.le_of_ble_eq_true rfl) (Nat.le_of_ble_eq_true rfl) (fun _ q => nomatch q) (fun v h_195 sf_196 hq => ?_)
        obtain ⟨rfl, rfl⟩ := hq
        refine Go.more (sf' := [x_179, x_153]) ?_ (Nat.le_refl _) (Nat.le_refl _) (fun _ q => List.mem_append_right _ q)
        show G_law l Z n0 6 44 [x_179, x_153] h_191 194 #[.val (.int p0), .val (.int p1), .val (.int p2), .val (.int p3), .val (.int p4), .val (.int p5), .val (.int (4 : Int32)), .val (.int c0), .val (.int c1), .val (.int c2), .val (.int c3), .val (.ref x_153), .val (.int K), .val (.long sl), .second, .val (.int mx), .val (.ref x_179), .unset] [(.ref x_179)]
        refine Go.astore 196 #[.val (.int p0), .val (.int p1), .val (.int p2), .val (.int p3), .val (.int p4), .val (.int p5), .val (.int (4 : Int32)), .val (.int c0), .val (.int c1), .val (.int c2), .val (.int c3), .val (.ref x_153), .val (.int K), .val (.long sl), .second, .val (.int mx), .val (.ref x_179), .val (.ref x_179)] at_194 rfl rfl rfl ?_
        refine Go.aload 198 at_196 rfl rfl rfl ?_
        refine Go.aload 200 at_198 rfl rfl rfl ?_
        refine Go.acmpN 203 at_200 (by decide) rfl rfl rfl (by rw [decide_eq_true rfl]; rfl) ?_
        refine Go.iconst 204 (1 : Int32) at_203 rfl rfl ?_
        refine Go.goto 208 at_204 (by decide) (by decide) ?_
        exact Go.retN (1 : Int32) at_208 rfl (t := .boolean) (by simp) rfl (sf' := []) (rfl) (fun _ q => nomatch q) (Nat.le_of_ble_eq_true rfl) (Nat.le_of_ble_eq_true rfl)
      by_cases hc145 : (p5 &&& (1 : Int32)) = (0 : Int32)
      · skip
        refine Go.ifN 148 at_145 rfl (teq hc145).2 ?_
        refine Go.lconst 149 (0 : Int64) at_148 rfl rfl ?_
        refine Go.goto 157 at_149 (by decide) (by decide) ?_
        exact cut157 _ (by decide)
      · skip
        refine Go.ifY 152 at_145 (by decide) (by decide) (feq hc145).2 ?_
        refine Go.iload 154 at_152 rfl rfl ?_
        refine Go.iconst 155 (1 : Int32) at_154 rfl rfl ?_
        refine Go.iushr 156 at_155 rfl ?_
        refine Go.i2l 157 at_156 rfl ?_
        exact cut157 _ (slack_ok p5)
    refine Go.iload 86 at_84 rfl rfl ?_
    refine Go.iconst 87 (1 : Int32) at_86 rfl rfl ?_
    refine Go.icmpN 90 at_87 rfl (tlt (by decide)).2.2.2 ?_
    refine Go.iload 92 at_90 rfl rfl ?_
    refine Go.iload 94 at_92 rfl rfl ?_
    refine Go.callS (S := []) 97 [(.int c0), (.int c1)] at_94 rfl rfl (w82 hw) (w83 hw) (w2 hw) (w84 hw) (by decide) (call_of_go (R := _) (len := 3) (W := 0) (plainFor_of_name pn_4) (fun mid => ef_pair mid c0 c1 ) (c_pair hw c0 c1 ) (w84 hw) (w2 hw) (by decide) (by decide)) (lenOf pd_21 rfl) (Nat.le_of_ble_eq_true rfl) rfl (Nat.le_of_ble_eq_true rfl) (Nat.le_of_ble_eq_true rfl) (fun _ q => nomatch q) (fun v h_197 sf_198 hq => ?_)
    obtain ⟨rfl, r, rfl, ⟨rfl, hp_94⟩ | ⟨rfl, hp_94⟩⟩ := hq
    · skip
      refine Go.more (sf' := [x_153]) ?_ (Nat.le_refl _) (Nat.le_refl _) (fun _ q => List.mem_append_right _ q)
      show G_law l Z n0 1 4 [x_153] h_172 97 #[.val (.int p0), .val (.int p1), .val (.int p2), .val (.int p3), .val (.int p4), .val (.int p5), .val (.int (4 : Int32)), .val (.int c0), .val (.int c1), .val (.int c2), .val (.int c3), .val (.ref x_153), .val (.int (4 : Int32)), .unset, .unset, .unset, .unset, .unset] [(.int (1 : Int32))]
      refine Go.ifN 100 at_97 rfl (feq (by decide)).1 ?_
      refine Go.iinc 103 #[.val (.int p0), .val (.int p1), .val (.int p2), .val (.int p3), .val (.int p4), .val (.int p5), .val (.int (4 : Int32)), .val (.int c0), .val (.int c1), .val (.int c2), .val (.int c3), .val (.ref x_153), .val (.int ((4 : Int32) + (-1 : Int32))), .unset, .unset, .unset, .unset, .unset] (-1 : Int32) at_100 rfl rfl rfl rfl ?_
      rw [show ((4 : Int32) + (-1 : Int32)) = (3 : Int32) from by decide]
      refine Go.iload 105 at_103 rfl rfl ?_
      refine Go.iconst 106 (2 : Int32) at_105 rfl rfl ?_
      refine Go.icmpN 109 at_106 rfl (tlt (by decide)).2.2.2 ?_
      refine Go.iload 111 at_109 rfl rfl ?_
      refine Go.iload 113 at_111 rfl rfl ?_
      refine Go.callS (S := []) 116 [(.int c1), (.int c2)] at_113 rfl rfl (w82 hw) (w83 hw) (w2 hw) (w84 hw) (by decide) (call_of_go (R := _) (len := 3) (W := 0) (plainFor_of_name pn_4) (fun mid => ef_pair mid c1 c2 ) (c_pair hw c1 c2 ) (w84 hw) (w2 hw) (by decide) (by decide)) (lenOf pd_21 rfl) (Nat.le_of_ble_eq_true rfl) rfl (Nat.le_of_ble_eq_true rfl) (Nat.le_of_ble_eq_true rfl) (fun _ q => nomatch q) (fun v h_199 sf_200 hq => ?_)
      obtain ⟨rfl, r, rfl, ⟨rfl, hp_113⟩ | ⟨rfl, hp_113⟩⟩ := hq
      · skip
        refine Go.more (sf' := [x_153]) ?_ (Nat.le_refl _) (Nat.le_refl _) (fun _ q => List.mem_append_right _ q)
        show G_law l Z n0 1 4 [x_153] h_172 116 #[.val (.int p0), .val (.int p1), .val (.int p2), .val (.int p3), .val (.int p4), .val (.int p5), .val (.int (4 : Int32)), .val (.int c0), .val (.int c1), .val (.int c2), .val (.int c3), .val (.ref x_153), .val (.int (3 : Int32)), .unset, .unset, .unset, .unset, .unset] [(.int (1 : Int32))]
        refine Go.ifN 119 at_116 rfl (feq (by decide)).1 ?_
        refine Go.iinc 122 #[.val (.int p0), .val (.int p1), .val (.int p2), .val (.int p3), .val (.int p4), .val (.int p5), .val (.int (4 : Int32)), .val (.int c0), .val (.int c1), .val (.int c2), .val (.int c3), .val (.ref x_153), .val (.int ((3 : Int32) + (-1 : Int32))), .unset, .unset, .unset, .unset, .unset] (-1 : Int32) at_119 rfl rfl rfl rfl ?_
        rw [show ((3 : Int32) + (-1 : Int32)) = (2 : Int32) from by decide]
        refine Go.iload 124 at_122 rfl rfl ?_
        refine Go.iconst 125 (3 : Int32) at_124 rfl rfl ?_
        refine Go.icmpN 128 at_125 rfl (tlt (by decide)).2.2.2 ?_
        refine Go.iload 130 at_128 rfl rfl ?_
        refine Go.iload 132 at_130 rfl rfl ?_
        refine Go.callS (S := []) 135 [(.int c2), (.int c3)] at_132 rfl rfl (w82 hw) (w83 hw) (w2 hw) (w84 hw) (by decide) (call_of_go (R := _) (len := 3) (W := 0) (plainFor_of_name pn_4) (fun mid => ef_pair mid c2 c3 ) (c_pair hw c2 c3 ) (w84 hw) (w2 hw) (by decide) (by decide)) (lenOf pd_21 rfl) (Nat.le_of_ble_eq_true rfl) rfl (Nat.le_of_ble_eq_true rfl) (Nat.le_of_ble_eq_true rfl) (fun _ q => nomatch q) (fun v h_201 sf_202 hq => ?_)
        obtain ⟨rfl, r, rfl, ⟨rfl, hp_132⟩ | ⟨rfl, hp_132⟩⟩ := hq
        · skip
          refine Go.more (sf' := [x_153]) ?_ (Nat.le_refl _) (Nat.le_refl _) (fun _ q => List.mem_append_right _ q)
          show G_law l Z n0 1 4 [x_153] h_172 135 #[.val (.int p0), .val (.int p1), .val (.int p2), .val (.int p3), .val (.int p4), .val (.int p5), .val (.int (4 : Int32)), .val (.int c0), .val (.int c1), .val (.int c2), .val (.int c3), .val (.ref x_153), .val (.int (2 : Int32)), .unset, .unset, .unset, .unset, .unset] [(.int (1 : Int32))]
          refine Go.ifN 138 at_135 rfl (feq (by decide)).1 ?_
          refine Go.iinc 141 #[.val (.int p0), .val (.int p1), .val (.int p2), .val (.int p3), .val (.int p4), .val (.int p5), .val (.int (4 : Int32)), .val (.int c0), .val (.int c1), .val (.int c2), .val (.int c3), .val (.ref x_153), .val (.int ((2 : Int32) + (-1 : Int32))), .unset, .unset, .unset, .unset, .unset] (-1 : Int32) at_138 rfl rfl rfl rfl ?_
          rw [show ((2 : Int32) + (-1 : Int32)) = (1 : Int32) from by decide]
          exact cut141 _ (by rw [cpc_4]; simp [hp_94, hp_113, hp_132]) (by decide)
        · skip
          refine Go.more (sf' := [x_153]) ?_ (Nat.le_refl _) (Nat.le_refl _) (fun _ q => List.mem_append_right _ q)
          show G_law l Z n0 1 4 [x_153] h_172 135 #[.val (.int p0), .val (.int p1), .val (.int p2), .val (.int p3), .val (.int p4), .val (.int p5), .val (.int (4 : Int32)), .val (.int c0), .val (.int c1), .val (.int c2), .val (.int c3), .val (.ref x_153), .val (.int (2 : Int32)), .unset, .unset, .unset, .unset, .unset] [(.int (0 : Int32))]
          refine Go.ifY 141 at_135 (by decide) (by decide) (teq (by decide)).1 ?_
          exact cut141 _ (by rw [cpc_4]; simp [hp_94, hp_113, hp_132]) (by decide)
      · skip
        refine Go.more (sf' := [x_153]) ?_ (Nat.le_refl _) (Nat.le_refl _) (fun _ q => List.mem_append_right _ q)
        show G_law l Z n0 1 4 [x_153] h_172 116 #[.val (.int p0), .val (.int p1), .val (.int p2), .val (.int p3), .val (.int p4), .val (.int p5), .val (.int (4 : Int32)), .val (.int c0), .val (.int c1), .val (.int c2), .val (.int c3), .val (.ref x_153), .val (.int (3 : Int32)), .unset, .unset, .unset, .unset, .unset] [(.int (0 : Int32))]
        refine Go.ifY 122 at_116 (by decide) (by decide) (teq (by decide)).1 ?_
        refine Go.iload 124 at_122 rfl rfl ?_
        refine Go.iconst 125 (3 : Int32) at_124 rfl rfl ?_
        refine Go.icmpN 128 at_125 rfl (tlt (by decide)).2.2.2 ?_
        refine Go.iload 130 at_128 rfl rfl ?_
        refine Go.iload 132 at_130 rfl rfl ?_
        refine Go.callS (S := []) 135 [(.int c2), (.int c3)] at_132 rfl rfl (w82 hw) (w83 hw) (w2 hw) (w84 hw) (by decide) (call_of_go (R := _) (len := 3) (W := 0) (plainFor_of_name pn_4) (fun mid => ef_pair mid c2 c3 ) (c_pair hw c2 c3 ) (w84 hw) (w2 hw) (by decide) (by decide)) (lenOf pd_21 rfl) (Nat.le_of_ble_eq_true rfl) rfl (Nat.le_of_ble_eq_true rfl) (Nat.le_of_ble_eq_true rfl) (fun _ q => nomatch q) (fun v h_203 sf_204 hq => ?_)
        obtain ⟨rfl, r, rfl, ⟨rfl, hp_132⟩ | ⟨rfl, hp_132⟩⟩ := hq
        · skip
          refine Go.more (sf' := [x_153]) ?_ (Nat.le_refl _) (Nat.le_refl _) (fun _ q => List.mem_append_right _ q)
          show G_law l Z n0 1 4 [x_153] h_172 135 #[.val (.int p0), .val (.int p1), .val (.int p2), .val (.int p3), .val (.int p4), .val (.int p5), .val (.int (4 : Int32)), .val (.int c0), .val (.int c1), .val (.int c2), .val (.int c3), .val (.ref x_153), .val (.int (3 : Int32)), .unset, .unset, .unset, .unset, .unset] [(.int (1 : Int32))]
          refine Go.ifN 138 at_135 rfl (feq (by decide)).1 ?_
          refine Go.iinc 141 #[.val (.int p0), .val (.int p1), .val (.int p2), .val (.int p3), .val (.int p4), .val (.int p5), .val (.int (4 : Int32)), .val (.int c0), .val (.int c1), .val (.int c2), .val (.int c3), .val (.ref x_153), .val (.int ((3 : Int32) + (-1 : Int32))), .unset, .unset, .unset, .unset, .unset] (-1 : Int32) at_138 rfl rfl rfl rfl ?_
          rw [show ((3 : Int32) + (-1 : Int32)) = (2 : Int32) from by decide]
          exact cut141 _ (by rw [cpc_4]; simp [hp_94, hp_113, hp_132]) (by decide)
        · skip
          refine Go.more (sf' := [x_153]) ?_ (Nat.le_refl _) (Nat.le_refl _) (fun _ q => List.mem_append_right _ q)
          show G_law l Z n0 1 4 [x_153] h_172 135 #[.val (.int p0), .val (.int p1), .val (.int p2), .val (.int p3), .val (.int p4), .val (.int p5), .val (.int (4 : Int32)), .val (.int c0), .val (.int c1), .val (.int c2), .val (.int c3), .val (.ref x_153), .val (.int (3 : Int32)), .unset, .unset, .unset, .unset, .unset] [(.int (0 : Int32))]
          refine Go.ifY 141 at_135 (by decide) (by decide) (teq (by decide)).1 ?_
          exact cut141 _ (by rw [cpc_4]; simp [hp_94, hp_113, hp_132]) (by decide)
    · skip
      refine Go.more (sf' := [x_153]) ?_ (Nat.le_refl _) (Nat.le_refl _) (fun _ q => List.mem_append_right _ q)
      show G_law l Z n0 1 4 [x_153] h_172 97 #[.val (.int p0), .val (.int p1), .val (.int p2), .val (.int p3), .val (.int p4), .val (.int p5), .val (.int (4 : Int32)), .val (.int c0), .val (.int c1), .val (.int c2), .val (.int c3), .val (.ref x_153), .val (.int (4 : Int32)), .unset, .unset, .unset, .unset, .unset] [(.int (0 : Int32))]
      refine Go.ifY 103 at_97 (by decide) (by decide) (teq (by decide)).1 ?_
      refine Go.iload 105 at_103 rfl rfl ?_
      refine Go.iconst 106 (2 : Int32) at_105 rfl rfl ?_
      refine Go.icmpN 109 at_106 rfl (tlt (by decide)).2.2.2 ?_
      refine Go.iload 111 at_109 rfl rfl ?_
      refine Go.iload 113 at_111 rfl rfl ?_
      refine Go.callS (S := []) 116 [(.int c1), (.int c2)] at_113 rfl rfl (w82 hw) (w83 hw) (w2 hw) (w84 hw) (by decide) (call_of_go (R := _) (len := 3) (W := 0) (plainFor_of_name pn_4) (fun mid => ef_pair mid c1 c2 ) (c_pair hw c1 c2 ) (w84 hw) (w2 hw) (by decide) (by decide)) (lenOf pd_21 rfl) (Nat.le_of_ble_eq_true rfl) rfl (Nat.le_of_ble_eq_true rfl) (Nat.le_of_ble_eq_true rfl) (fun _ q => nomatch q) (fun v h_205 sf_206 hq => ?_)
      obtain ⟨rfl, r, rfl, ⟨rfl, hp_113⟩ | ⟨rfl, hp_113⟩⟩ := hq
      · skip
        refine Go.more (sf' := [x_153]) ?_ (Nat.le_refl _) (Nat.le_refl _) (fun _ q => List.mem_append_right _ q)
        show G_law l Z n0 1 4 [x_153] h_172 116 #[.val (.int p0), .val (.int p1), .val (.int p2), .val (.int p3), .val (.int p4), .val (.int p5), .val (.int (4 : Int32)), .val (.int c0), .val (.int c1), .val (.int c2), .val (.int c3), .val (.ref x_153), .val (.int (4 : Int32)), .unset, .unset, .unset, .unset, .unset] [(.int (1 : Int32))]
        refine Go.ifN 119 at_116 rfl (feq (by decide)).1 ?_
        refine Go.iinc 122 #[.val (.int p0), .val (.int p1), .val (.int p2), .val (.int p3), .val (.int p4), .val (.int p5), .val (.int (4 : Int32)), .val (.int c0), .val (.int c1), .val (.int c2), .val (.int c3), .val (.ref x_153), .val (.int ((4 : Int32) + (-1 : Int32))), .unset, .unset, .unset, .unset, .unset] (-1 : Int32) at_119 rfl rfl rfl rfl ?_
        rw [show ((4 : Int32) + (-1 : Int32)) = (3 : Int32) from by decide]
        refine Go.iload 124 at_122 rfl rfl ?_
        refine Go.iconst 125 (3 : Int32) at_124 rfl rfl ?_
        refine Go.icmpN 128 at_125 rfl (tlt (by decide)).2.2.2 ?_
        refine Go.iload 130 at_128 rfl rfl ?_
        refine Go.iload 132 at_130 rfl rfl ?_
        refine Go.callS (S := []) 135 [(.int c2), (.int c3)] at_132 rfl rfl (w82 hw) (w83 hw) (w2 hw) (w84 hw) (by decide) (call_of_go (R := _) (len := 3) (W := 0) (plainFor_of_name pn_4) (fun mid => ef_pair mid c2 c3 ) (c_pair hw c2 c3 ) (w84 hw) (w2 hw) (by decide) (by decide)) (lenOf pd_21 rfl) (Nat.le_of_ble_eq_true rfl) rfl (Nat.le_of_ble_eq_true rfl) (Nat.le_of_ble_eq_true rfl) (fun _ q => nomatch q) (fun v h_207 sf_208 hq => ?_)
        obtain ⟨rfl, r, rfl, ⟨rfl, hp_132⟩ | ⟨rfl, hp_132⟩⟩ := hq
        · skip
          refine Go.more (sf' := [x_153]) ?_ (Nat.le_refl _) (Nat.le_refl _) (fun _ q => List.mem_append_right _ q)
          show G_law l Z n0 1 4 [x_153] h_172 135 #[.val (.int p0), .val (.int p1), .val (.int p2), .val (.int p3), .val (.int p4), .val (.int p5), .val (.int (4 : Int32)), .val (.int c0), .val (.int c1), .val (.int c2), .val (.int c3), .val (.ref x_153), .val (.int (3 : Int32)), .unset, .unset, .unset, .unset, .unset] [(.int (1 : Int32))]
          refine Go.ifN 138 at_135 rfl (feq (by decide)).1 ?_
          refine Go.iinc 141 #[.val (.int p0), .val (.int p1), .val (.int p2), .val (.int p3), .val (.int p4), .val (.int p5), .val (.int (4 : Int32)), .val (.int c0), .val (.int c1), .val (.int c2), .val (.int c3), .val (.ref x_153), .val (.int ((3 : Int32) + (-1 : Int32))), .unset, .unset, .unset, .unset, .unset] (-1 : Int32) at_138 rfl rfl rfl rfl ?_
          rw [show ((3 : Int32) + (-1 : Int32)) = (2 : Int32) from by decide]
          exact cut141 _ (by rw [cpc_4]; simp [hp_94, hp_113, hp_132]) (by decide)
        · skip
          refine Go.more (sf' := [x_153]) ?_ (Nat.le_refl _) (Nat.le_refl _) (fun _ q => List.mem_append_right _ q)
          show G_law l Z n0 1 4 [x_153] h_172 135 #[.val (.int p0), .val (.int p1), .val (.int p2), .val (.int p3), .val (.int p4), .val (.int p5), .val (.int (4 : Int32)), .val (.int c0), .val (.int c1), .val (.int c2), .val (.int c3), .val (.ref x_153), .val (.int (3 : Int32)), .unset, .unset, .unset, .unset, .unset] [(.int (0 : Int32))]
          refine Go.ifY 141 at_135 (by decide) (by decide) (teq (by decide)).1 ?_
          exact cut141 _ (by rw [cpc_4]; simp [hp_94, hp_113, hp_132]) (by decide)
      · skip
        refine Go.more (sf' := [x_153]) ?_ (Nat.le_refl _) (Nat.le_refl _) (fun _ q => List.mem_append_right _ q)
        show G_law l Z n0 1 4 [x_153] h_172 116 #[.val (.int p0), .val (.int p1), .val (.int p2), .val (.int p3), .val (.int p4), .val (.int p5), .val (.int (4 : Int32)), .val (.int c0), .val (.int c1), .val (.int c2), .val (.int c3), .val (.ref x_153), .val (.int (4 : Int32)), .unset, .unset, .unset, .unset, .unset] [(.int (0 : Int32))]
        refine Go.ifY 122 at_116 (by decide) (by decide) (teq (by decide)).1 ?_
        refine Go.iload 124 at_122 rfl rfl ?_
        refine Go.iconst 125 (3 : Int32) at_124 rfl rfl ?_
        refine Go.icmpN 128 at_125 rfl (tlt (by decide)).2.2.2 ?_
        refine Go.iload 130 at_128 rfl rfl ?_
        refine Go.iload 132 at_130 rfl rfl ?_
        refine Go.callS (S := []) 135 [(.int c2), (.int c3)] at_132 rfl rfl (w82 hw) (w83 hw) (w2 hw) (w84 hw) (by decide) (call_of_go (R := _) (len := 3) (W := 0) (plainFor_of_name pn_4) (fun mid => ef_pair mid c2 c3 ) (c_pair hw c2 c3 ) (w84 hw) (w2 hw) (by decide) (by decide)) (lenOf pd_21 rfl) (Nat.le_of_ble_eq_true rfl) rfl (Nat.le_of_ble_eq_true rfl) (Nat.le_of_ble_eq_true rfl) (fun _ q => nomatch q) (fun v h_209 sf_210 hq => ?_)
        obtain ⟨rfl, r, rfl, ⟨rfl, hp_132⟩ | ⟨rfl, hp_132⟩⟩ := hq
        · skip
          refine Go.more (sf' := [x_153]) ?_ (Nat.le_refl _) (Nat.le_refl _) (fun _ q => List.mem_append_right _ q)
          show G_law l Z n0 1 4 [x_153] h_172 135 #[.val (.int p0), .val (.int p1), .val (.int p2), .val (.int p3), .val (.int p4), .val (.int p5), .val (.int (4 : Int32)), .val (.int c0), .val (.int c1), .val (.int c2), .val (.int c3), .val (.ref x_153), .val (.int (4 : Int32)), .unset, .unset, .unset, .unset, .unset] [(.int (1 : Int32))]
          refine Go.ifN 138 at_135 rfl (feq (by decide)).1 ?_
          refine Go.iinc 141 #[.val (.int p0), .val (.int p1), .val (.int p2), .val (.int p3), .val (.int p4), .val (.int p5), .val (.int (4 : Int32)), .val (.int c0), .val (.int c1), .val (.int c2), .val (.int c3), .val (.ref x_153), .val (.int ((4 : Int32) + (-1 : Int32))), .unset, .unset, .unset, .unset, .unset] (-1 : Int32) at_138 rfl rfl rfl rfl ?_
          rw [show ((4 : Int32) + (-1 : Int32)) = (3 : Int32) from by decide]
          exact cut141 _ (by rw [cpc_4]; simp [hp_94, hp_113, hp_132]) (by decide)
        · skip
          refine Go.more (sf' := [x_153]) ?_ (Nat.le_refl _) (Nat.le_refl _) (fun _ q => List.mem_append_right _ q)
          show G_law l Z n0 1 4 [x_153] h_172 135 #[.val (.int p0), .val (.int p1), .val (.int p2), .val (.int p3), .val (.int p4), .val (.int p5), .val (.int (4 : Int32)), .val (.int c0), .val (.int c1), .val (.int c2), .val (.int c3), .val (.ref x_153), .val (.int (4 : Int32)), .unset, .unset, .unset, .unset, .unset] [(.int (0 : Int32))]
          refine Go.ifY 141 at_135 (by decide) (by decide) (teq (by decide)).1 ?_
          exact cut141 _ (by rw [cpc_4]; simp [hp_94, hp_113, hp_132]) (by decide)
set_option maxRecDepth 65536 in
set_option maxHeartbeats 40000000 in
theorem comes_1 {Post : Tables → Env → Array Value → State → Outcome → State → Prop} (hpost : ∀ tb e args s v u, (limb_1_1.after args s (.returned v) u = true ∧ limb_1_2.after args s (.returned v) u = true ∧ True) → ReturnedEndW s (.returned v) u (Jvm.fieldLocs frame_1_writes args s ++ Jvm.arrayLocs frame_1_arrays args s ++ Jvm.staticLocs frame_1_statics s) 24 1152 → Post tb e args s (.returned v) u) :
    ArmFor flags0 classFile x code maxLocals ret World_1 tables_1 room_1 Calls_1 rest_1 Pre_1 Post := by
  intro l hfl _ _ p e ha hc hk s m args below hf hA hF happ hP
  obtain ⟨hcalls, hrest, hpre⟩ := hP
  obtain ⟨-, -, -, hnamed, -, -, -, hat⟩ := (Spec.applies_iff hf).mp happ
  obtain ⟨hg, hn⟩ := and_e (Cond.before_iff.mp (show (Jvm.Cond.and given_1 narrow_1).before args s = true from hpre))
  obtain ⟨g0, k1⟩ := and_e hg
  obtain ⟨g1, k2⟩ := and_e k1
  obtain ⟨g2, k3⟩ := and_e k2
  obtain ⟨g3, k4⟩ := and_e k3
  obtain ⟨g4, k5⟩ := and_e k4
  obtain ⟨g5, k6⟩ := and_e k5
  have g6 := k6
  obtain ⟨w0, w1, w2, w3, w4, w5, rfl⟩ : ∃ w0 w1 w2 w3 w4 w5 : Value, args = #[w0, w1, w2, w3, w4, w5] := by
    have hs : args.size = 6 := by simpa [Cond.value, given_1] using g0
    obtain ⟨L⟩ := args
    match L, hs with
    | [w0, w1, w2, w3, w4, w5], _ => exact ⟨w0, w1, w2, w3, w4, w5, rfl⟩
  have hw : HW _ s := fun d (hd : d ∈ tables_1) => atoms_spec (ws := Jvm.Cond.code x code maxLocals ret :: tables_1) hat d (List.mem_cons_of_mem _ hd)
  obtain ⟨hsets, hown0⟩ := atoms_of _ (rest_1_c_eq ▸ (show rest_1_c.before _ s = true from hrest))
  obtain ⟨p0, ea0⟩ := is_v g1
  obtain rfl : w0 = (.int p0) := Option.some.inj ea0
  obtain ⟨p1, ea1⟩ := is_v g2
  obtain rfl : w1 = (.int p1) := Option.some.inj ea1
  obtain ⟨p2, ea2⟩ := is_v g3
  obtain rfl : w2 = (.int p2) := Option.some.inj ea2
  obtain ⟨p3, ea3⟩ := is_v g4
  obtain rfl : w3 = (.int p3) := Option.some.inj ea3
  obtain ⟨p4, ea4⟩ := is_v g5
  obtain rfl : w4 = (.int p4) := Option.some.inj ea4
  obtain ⟨p5, ea5⟩ := is_v g6
  obtain rfl : w5 = (.int p5) := Option.some.inj ea5
  obtain ⟨z, ez⟩ := is_v (Cond.before_iff.mp (hsets _ (List.mem_of_getElem? (i := 1) rfl)))
  have SC : Sta s s.heap "java/lang/String" "COMPACT_STRINGS" "Z" (.int z) := Sta.start ez (Or.inl (hsets _ (List.mem_of_getElem? (i := 0) rfl)))
  have hz : ¬ (z = (0 : Int32)) := gotF (Cond.eq_ints ez (Term.int_eval (0))) (not_v (Cond.before_iff.mp (hsets _ (List.mem_of_getElem? (i := 2) rfl))))
  have UA := sta_int (Cond.before_iff.mp (hsets _ (List.mem_of_getElem? (i := 12) rfl))) (hsets _ (List.mem_of_getElem? (i := 11) rfl))
  have UH := sta_int (Cond.before_iff.mp (hsets _ (List.mem_of_getElem? (i := 15) rfl))) (hsets _ (List.mem_of_getElem? (i := 14) rfl))
  have UL := sta_int (Cond.before_iff.mp (hsets _ (List.mem_of_getElem? (i := 18) rfl))) (hsets _ (List.mem_of_getElem? (i := 17) rfl))
  have hCH : CHv s consts_1 s.vm s.heap := fun p hp => nomatch hp

  obtain ⟨n, o, h1, h2, h3, _, L, _, rfl, rfl, -, N, -, -, hq⟩ := met_of_go (md := some consts_1) (desc := "(IIIIII)Z") (ws := tables_1) (plainFor_of_name pn_4) (fun m => ef_law m p0 p1 p2 p3 p4 p5) (law_go (l := l) (Z := s) (n0 := s.heap.size) (h0 := s.heap) hw p0 p1 p2 p3 p4 p5 z SC hz UA UH UL) p e ha hc hk s m _ below hf ((Spec.applies_iff_loose hf).mp happ).1 ⟨rfl, State.Warmed39.refl s, rfl, Old.start s, ⟨_, (State.WarmedH.refl s).since _, Nat.le_refl _⟩, ⟨_, ew hw⟩, CHr.refl hCH, fun x hx => nomatch hx⟩ trivial
  refine ⟨n, _, h1, h2, h3, hpost _ _ _ _ _ _ ⟨Cond.after_iff.mpr rfl, Cond.after_iff.mpr (eq_i res_at (Term.int_eval (1)) rfl), trivial⟩ ⟨hq.1, hq.2.1, hq.2.2.1, (hq.2.2.2.sift fun y hy => Or.inr (N y hy)).mono (by decide) (by decide)⟩⟩
theorem main_1_1 : Claimed_1_1 := comes_1 fun _ _ _ _ _ _ h hF => ⟨h.1, hF⟩
theorem main_1_2 : Claimed_1_2 := comes_1 fun _ _ _ _ _ _ h hF => ⟨h.2.1, hF⟩
end Jvm.Pilot.@@N@@
namespace Jvm.Pilot.@@N@@
open Jvm Jvm.ClassFile Sem Op Lib Jvm.Free Jvm.Stand Jvm.Pilot.@@N@@.Jvm.D
/-! MADE BY PROGRAM (witnessworld.py) out of the Statement's table words and the real class files: 21 classes; the members and pool entries that the words name. The judged class is class 1, her method 3. -/
namespace start1
open Jvm.ClassFile
def u (s : String) : CpInfo := .utf8 (stringToUtf16 s)
/-- a pool by its gaps: so many unusable entries, then the entry; so many at the end -/
def gap : Nat → List CpInfo → List CpInfo
  | 0, r => r
  | n + 1, r => .unusable :: gap n r
def poolList (es : List (Nat × CpInfo)) (last : Nat) : List CpInfo := es.foldr (fun e r => gap e.1 (e.2 :: r)) (gap last [])
def pool (es : List (Nat × CpInfo)) (last : Nat) : Array CpInfo := ⟨poolList es last⟩
def fileOf (pool : Array CpInfo) (this : Nat) (attrs : Array Attribute := #[]) (ms : Array MethodInfo := #[]) (fl : Nat := 33) (sup : Nat := 0) (ifs : Array Nat := #[]) (fds : Array FieldInfo := #[]) : ClassFile where
  minorVersion := 0
  majorVersion := 65
  constantPool := pool
  accessFlags := fl
  thisClass := this
  superClass := sup
  interfaces := ifs
  fields := fds
  methods := ms
  attributes := attrs
def plain (name : String) (sup : Option ClassId) : Class where
  name := name
  kind := .ordinary
  loader := none
  accessFlags := 33
  super := sup
  interfaces := #[]
  cf := none
  fields := #[]
  methods := #[]
  instanceTypes := #[]
  staticTypes := #[]
  resolved := #[]
  callSites := []
  init := .initialized
  statics := none
  mirror := none

def pool0 : Array CpInfo := pool [(5, u "<init>"), (0, u "()V"), (1, .class_ 10), (1, u "java/lang/Object")] 113

def k0c0 : Code := { maxStack := 0, maxLocals := 1, code := object_method_1_code, exceptionTable := #[], attributes := #[] }
def k0m0 : Method := { name := "<init>", desc := "()V", sig := { parameters := [], returnType := none }, accessFlags := 1, code := some k0c0 }
/-- java/lang/Object -/
def k0 : Class := { plain "java/lang/Object" none with
  accessFlags := 33
  interfaces := #[]
  cf := some (fileOf pool0 8 #[] #[{ accessFlags := 1, nameIndex := 5, descriptorIndex := 6, attributes := #[] }] 33 0 #[] #[])
  fields := #[]
  methods := #[k0m0]
  instanceTypes := #[]
  staticTypes := #[]
  resolved := Array.replicate 124 none
  statics := none }

def pool1 : Array CpInfo := pool [(2, .class_ 4), (1, u "java/lang/Object"), (0, u "<init>"), (0, u "()V"), (0, .integer 55296), (0, .integer 56320), (0, .integer 56319), (0, .integer 57343), (0, .methodref 12 13), (0, .class_ 14), (0, .nameAndType 15 16), (0, u "com/example/tugas/tugas/TextRequireLengthPinLaw"), (0, u "draw"), (0, u "(I)C"), (0, .methodref 12 18), (0, .nameAndType 19 20), (0, u "pair"), (0, u "(CC)Z"), (2, .long 2147483647), (1, .methodref 26 27), (0, .class_ 28), (0, .nameAndType 29 30), (0, u "java/lang/Math"), (0, u "min"), (0, u "(JJ)J"), (0, .class_ 32), (0, u "java/lang/String"), (0, .methodref 31 34), (0, .nameAndType 5 35), (0, u "([C)V"), (0, .string 37), (0, u "title"), (0, .methodref 39 40), (0, .class_ 41), (0, .nameAndType 42 43), (0, u "com/example/tugas/tugas/Text"), (0, u "requireLength"), (0, u "(Ljava/lang/String;Ljava/lang/String;I)Ljava/lang/String;"), (3, u "law"), (0, u "(IIIIII)Z")] 4

def k1m0 : Method := { name := "<init>", desc := "()V", sig := { parameters := [], returnType := none }, accessFlags := 2, code := none }
def k1c1 : Code := { maxStack := 3, maxLocals := 3, code := method_2_code, exceptionTable := #[], attributes := #[] }
def k1m1 : Method := { name := "draw", desc := "(I)C", sig := { parameters := [.int], returnType := some .char }, accessFlags := 10, code := some k1c1 }
def k1c2 : Code := { maxStack := 2, maxLocals := 2, code := method_3_code, exceptionTable := #[], attributes := #[] }
def k1m2 : Method := { name := "pair", desc := "(CC)Z", sig := { parameters := [.char, .char], returnType := some .boolean }, accessFlags := 10, code := some k1c2 }
def k1c3 : Code := { maxStack := 4, maxLocals := 18, code := code, exceptionTable := #[], attributes := #[] }
def k1m3 : Method := { name := "law", desc := "(IIIIII)Z", sig := { parameters := [.int, .int, .int, .int, .int, .int], returnType := some .boolean }, accessFlags := 9, code := some k1c3 }
/-- com/example/tugas/tugas/TextRequireLengthPinLaw -/
def k1 : Class := { plain "com/example/tugas/tugas/TextRequireLengthPinLaw" (some 0) with
  accessFlags := 49
  interfaces := #[]
  cf := some (fileOf pool1 12 #[] #[{ accessFlags := 2, nameIndex := 5, descriptorIndex := 6, attributes := #[] }, { accessFlags := 10, nameIndex := 15, descriptorIndex := 16, attributes := #[] }, { accessFlags := 10, nameIndex := 19, descriptorIndex := 20, attributes := #[] }, { accessFlags := 9, nameIndex := 47, descriptorIndex := 48, attributes := #[] }] 49 2 #[] #[])
  fields := #[]
  methods := #[k1m0, k1m1, k1m2, k1m3]
  instanceTypes := #[]
  staticTypes := #[]
  resolved := Array.replicate 53 none
  statics := none }

def pool2 : Array CpInfo := pool [(1, .class_ 2), (0, u "java/lang/Math"), (1, .class_ 6), (1, u "java/lang/Object"), (0, u "<init>"), (0, u "()V"), (89, .class_ 100), (1, u "java/lang/Math$RandomNumberGeneratorHolder"), (20, u "(JJ)J"), (50, u "negativeZeroFloatBits"), (0, u "J"), (2, u "negativeZeroDoubleBits"), (24, u "min"), (43, u "$assertionsDisabled"), (0, u "Z"), (91, u "twoToTheDoubleScaleDown"), (0, u "D"), (4, u "twoToTheDoubleScaleUp"), (9, u "E"), (3, u "PI"), (2, u "TAU"), (2, u "DEGREES_TO_RADIANS"), (0, u "RADIANS_TO_DEGREES")] 94

def k2m0 : Method := { name := "<init>", desc := "()V", sig := { parameters := [], returnType := none }, accessFlags := 2, code := none }
def k2c1 : Code := { maxStack := 4, maxLocals := 4, code := jdk_29_method_70_code, exceptionTable := #[], attributes := #[] }
def k2m1 : Method := { name := "min", desc := "(JJ)J", sig := { parameters := [.long, .long], returnType := some .long }, accessFlags := 9, code := some k2c1 }
/-- java/lang/Math -/
def k2 : Class := { plain "java/lang/Math" (some 0) with
  accessFlags := 49
  interfaces := #[]
  cf := some (fileOf pool2 1 #[.nestMembers #[98]] #[{ accessFlags := 2, nameIndex := 7, descriptorIndex := 8, attributes := #[] }, { accessFlags := 9, nameIndex := 201, descriptorIndex := 121, attributes := #[] }] 49 4 #[] #[{ accessFlags := 25, nameIndex := 354, descriptorIndex := 339, attributes := #[] }, { accessFlags := 25, nameIndex := 358, descriptorIndex := 339, attributes := #[] }, { accessFlags := 25, nameIndex := 361, descriptorIndex := 339, attributes := #[] }, { accessFlags := 26, nameIndex := 364, descriptorIndex := 339, attributes := #[] }, { accessFlags := 26, nameIndex := 365, descriptorIndex := 339, attributes := #[] }, { accessFlags := 26, nameIndex := 172, descriptorIndex := 173, attributes := #[] }, { accessFlags := 26, nameIndex := 176, descriptorIndex := 173, attributes := #[] }, { accessFlags := 8, nameIndex := 344, descriptorIndex := 339, attributes := #[] }, { accessFlags := 8, nameIndex := 338, descriptorIndex := 339, attributes := #[] }, { accessFlags := 4120, nameIndex := 245, descriptorIndex := 246, attributes := #[] }])
  fields := #[{ name := "E", type := .double, accessFlags := 25, slot := 0, constantValue := 0 }, { name := "PI", type := .double, accessFlags := 25, slot := 1, constantValue := 0 }, { name := "TAU", type := .double, accessFlags := 25, slot := 2, constantValue := 0 }, { name := "DEGREES_TO_RADIANS", type := .double, accessFlags := 26, slot := 3, constantValue := 0 }, { name := "RADIANS_TO_DEGREES", type := .double, accessFlags := 26, slot := 4, constantValue := 0 }, { name := "negativeZeroFloatBits", type := .long, accessFlags := 26, slot := 5, constantValue := 0 }, { name := "negativeZeroDoubleBits", type := .long, accessFlags := 26, slot := 6, constantValue := 0 }, { name := "twoToTheDoubleScaleUp", type := .double, accessFlags := 8, slot := 7, constantValue := 0 }, { name := "twoToTheDoubleScaleDown", type := .double, accessFlags := 8, slot := 8, constantValue := 0 }, { name := "$assertionsDisabled", type := .boolean, accessFlags := 4120, slot := 9, constantValue := 0 }]
  methods := #[k2m0, k2m1]
  instanceTypes := #[]
  staticTypes := #[.double, .double, .double, .double, .double, .long, .long, .double, .double, .boolean]
  resolved := Array.replicate 460 none
  statics := none }

def pool3 : Array CpInfo := pool [(1, .class_ 2), (0, u "java/io/Serializable"), (0, .class_ 4), (0, u "java/lang/Object")] 2

/-- java/io/Serializable -/
def k3 : Class := { plain "java/io/Serializable" (some 0) with
  accessFlags := 1537
  interfaces := #[]
  cf := some (fileOf pool3 1 #[] #[] 1537 3 #[] #[])
  fields := #[]
  methods := #[]
  instanceTypes := #[]
  staticTypes := #[]
  resolved := Array.replicate 7 none
  statics := none }

def pool4 : Array CpInfo := pool [(1, .class_ 2), (0, u "java/lang/Comparable"), (0, .class_ 4), (0, u "java/lang/Object")] 7

/-- java/lang/Comparable -/
def k4 : Class := { plain "java/lang/Comparable" (some 0) with
  accessFlags := 1537
  interfaces := #[]
  cf := some (fileOf pool4 1 #[] #[] 1537 3 #[] #[])
  fields := #[]
  methods := #[]
  instanceTypes := #[]
  staticTypes := #[]
  resolved := Array.replicate 12 none
  statics := none }

def pool5 : Array CpInfo := pool [(2, .class_ 4), (1, u "java/lang/CharSequence"), (42, .class_ 48), (0, u "java/lang/CharSequence$1CodePointIterator"), (10, .class_ 60), (0, u "java/lang/CharSequence$1CharIterator"), (5, .class_ 67), (0, u "java/lang/Object")] 63

/-- java/lang/CharSequence -/
def k5 : Class := { plain "java/lang/CharSequence" (some 0) with
  accessFlags := 1537
  interfaces := #[]
  cf := some (fileOf pool5 2 #[.nestMembers #[47, 59]] #[] 1537 66 #[] #[])
  fields := #[]
  methods := #[]
  instanceTypes := #[]
  staticTypes := #[]
  resolved := Array.replicate 131 none
  statics := none }

def pool6 : Array CpInfo := pool [(1, .class_ 2), (0, u "java/lang/constant/Constable"), (0, .class_ 4), (0, u "java/lang/Object")] 6

/-- java/lang/constant/Constable -/
def k6 : Class := { plain "java/lang/constant/Constable" (some 0) with
  accessFlags := 1537
  interfaces := #[]
  cf := some (fileOf pool6 1 #[] #[] 1537 3 #[] #[])
  fields := #[]
  methods := #[]
  instanceTypes := #[]
  staticTypes := #[]
  resolved := Array.replicate 11 none
  statics := none }

def pool7 : Array CpInfo := pool [(1, .class_ 2), (0, u "java/lang/constant/ConstantDesc"), (0, .class_ 4), (0, u "java/lang/Object")] 32

/-- java/lang/constant/ConstantDesc -/
def k7 : Class := { plain "java/lang/constant/ConstantDesc" (some 0) with
  accessFlags := 1537
  interfaces := #[]
  cf := some (fileOf pool7 1 #[] #[] 1537 3 #[] #[])
  fields := #[]
  methods := #[]
  instanceTypes := #[]
  staticTypes := #[]
  resolved := Array.replicate 37 none
  statics := none }

def pool8 : Array CpInfo := pool [(1, .methodref 2 3), (0, .class_ 4), (0, .nameAndType 5 6), (0, u "java/lang/Object"), (0, u "<init>"), (0, u "()V"), (2, .fieldref 10 11), (0, .class_ 12), (0, .nameAndType 13 14), (0, u "java/lang/String"), (0, u "value"), (0, u "[B"), (0, .fieldref 10 16), (0, .nameAndType 17 18), (0, u "coder"), (0, u "B"), (2, u "hash"), (0, u "I"), (2, u "hashIsZero"), (0, u "Z"), (0, .methodref 10 28), (0, .nameAndType 5 29), (0, u "([CIILjava/lang/Void;)V"), (7, u "(III)I"), (0, .fieldref 10 39), (0, .nameAndType 40 26), (0, u "COMPACT_STRINGS"), (1, .class_ 44), (1, u "java/lang/StringUTF16"), (0, u "compress"), (1, .methodref 42 48), (0, .nameAndType 49 50), (0, u "coderFromArrayLen"), (0, u "([BI)B"), (28, .class_ 81), (1, u "java/util/Objects"), (15, u "([BII)I"), (44, u "()Z"), (34, .methodref 42 178), (0, .nameAndType 45 179), (0, u "([CII)[B"), (154, u "()I"), (0, .methodref 10 336), (0, .nameAndType 17 337), (0, u "()B"), (154, .methodref 10 493), (0, .nameAndType 494 142), (0, u "isLatin1"), (10, .methodref 10 506), (0, .nameAndType 507 334), (0, u "length"), (3, .methodref 79 512), (0, .nameAndType 513 37), (0, u "checkFromToIndex"), (0, .methodref 42 515), (0, .nameAndType 516 97), (0, u "codePointCount"), (58, .class_ 576), (0, u "java/lang/CharSequence"), (22, u "CASE_INSENSITIVE_ORDER"), (0, u "Ljava/util/Comparator;"), (35, u "(II)I"), (55, u "isEmpty"), (317, u "([C)V"), (90, u "serialPersistentFields"), (0, u "[Ljava/io/ObjectStreamField;"), (0, .class_ 1104), (0, u "java/lang/String$CaseInsensitiveComparator"), (1, .class_ 1107), (0, u "java/io/Serializable"), (0, .class_ 1109), (0, u "java/lang/Comparable"), (0, .class_ 1111), (0, u "java/lang/constant/Constable"), (0, .class_ 1113), (0, u "java/lang/constant/ConstantDesc"), (2, u "serialVersionUID"), (0, u "J"), (3, u "REPL"), (0, u "C"), (2, u "LATIN1"), (1, u "UTF16")] 323

def k8m0 : Method := { name := "<init>", desc := "()V", sig := { parameters := [], returnType := none }, accessFlags := 1, code := none }
def k8c1 : Code := { maxStack := 5, maxLocals := 2, code := jdk_42_method_3_code, exceptionTable := #[], attributes := #[] }
def k8m1 : Method := { name := "<init>", desc := "([C)V", sig := { parameters := [(.array .char)], returnType := none }, accessFlags := 1, code := some k8c1 }
def k8c2 : Code := { maxStack := 2, maxLocals := 1, code := jdk_42_method_54_code, exceptionTable := #[], attributes := #[] }
def k8m2 : Method := { name := "length", desc := "()I", sig := { parameters := [], returnType := some .int }, accessFlags := 1, code := some k8c2 }
def k8c3 : Code := { maxStack := 1, maxLocals := 1, code := jdk_42_method_55_code, exceptionTable := #[], attributes := #[] }
def k8m3 : Method := { name := "isEmpty", desc := "()Z", sig := { parameters := [], returnType := some .boolean }, accessFlags := 1, code := some k8c3 }
def k8c4 : Code := { maxStack := 3, maxLocals := 3, code := jdk_42_method_59_code, exceptionTable := #[], attributes := #[] }
def k8m4 : Method := { name := "codePointCount", desc := "(II)I", sig := { parameters := [.int, .int], returnType := some .int }, accessFlags := 1, code := some k8c4 }
def k8c5 : Code := { maxStack := 4, maxLocals := 6, code := jdk_42_method_149_code, exceptionTable := #[], attributes := #[] }
def k8m5 : Method := { name := "<init>", desc := "([CIILjava/lang/Void;)V", sig := { parameters := [(.array .char), .int, .int, (.object "java/lang/Void")], returnType := none }, accessFlags := 2, code := some k8c5 }
def k8c6 : Code := { maxStack := 1, maxLocals := 1, code := jdk_42_method_152_code, exceptionTable := #[], attributes := #[] }
def k8m6 : Method := { name := "coder", desc := "()B", sig := { parameters := [], returnType := some .byte }, accessFlags := 0, code := some k8c6 }
def k8c7 : Code := { maxStack := 1, maxLocals := 1, code := jdk_42_method_154_code, exceptionTable := #[], attributes := #[] }
def k8m7 : Method := { name := "isLatin1", desc := "()Z", sig := { parameters := [], returnType := some .boolean }, accessFlags := 0, code := some k8c7 }
/-- java/lang/String -/
def k8 : Class := { plain "java/lang/String" (some 0) with
  accessFlags := 49
  interfaces := #[3, 4, 5, 6, 7]
  cf := some (fileOf pool8 10 #[.nestMembers #[1103]] #[{ accessFlags := 1, nameIndex := 5, descriptorIndex := 6, attributes := #[] }, { accessFlags := 1, nameIndex := 5, descriptorIndex := 1010, attributes := #[] }, { accessFlags := 1, nameIndex := 507, descriptorIndex := 334, attributes := #[] }, { accessFlags := 1, nameIndex := 692, descriptorIndex := 142, attributes := #[] }, { accessFlags := 1, nameIndex := 516, descriptorIndex := 636, attributes := #[] }, { accessFlags := 2, nameIndex := 5, descriptorIndex := 29, attributes := #[] }, { accessFlags := 0, nameIndex := 17, descriptorIndex := 337, attributes := #[] }, { accessFlags := 0, nameIndex := 494, descriptorIndex := 142, attributes := #[] }] 49 2 #[1106, 1108, 575, 1110, 1112] #[{ accessFlags := 18, nameIndex := 13, descriptorIndex := 14, attributes := #[] }, { accessFlags := 18, nameIndex := 17, descriptorIndex := 18, attributes := #[] }, { accessFlags := 2, nameIndex := 21, descriptorIndex := 22, attributes := #[] }, { accessFlags := 2, nameIndex := 25, descriptorIndex := 26, attributes := #[] }, { accessFlags := 26, nameIndex := 1116, descriptorIndex := 1117, attributes := #[] }, { accessFlags := 24, nameIndex := 40, descriptorIndex := 26, attributes := #[] }, { accessFlags := 26, nameIndex := 1101, descriptorIndex := 1102, attributes := #[] }, { accessFlags := 26, nameIndex := 1121, descriptorIndex := 1122, attributes := #[] }, { accessFlags := 25, nameIndex := 599, descriptorIndex := 600, attributes := #[] }, { accessFlags := 24, nameIndex := 1125, descriptorIndex := 18, attributes := #[] }, { accessFlags := 24, nameIndex := 1127, descriptorIndex := 18, attributes := #[] }])
  fields := #[{ name := "value", type := (.array .byte), accessFlags := 18, slot := 0, constantValue := 0 }, { name := "coder", type := .byte, accessFlags := 18, slot := 1, constantValue := 0 }, { name := "hash", type := .int, accessFlags := 2, slot := 2, constantValue := 0 }, { name := "hashIsZero", type := .boolean, accessFlags := 2, slot := 3, constantValue := 0 }, { name := "serialVersionUID", type := .long, accessFlags := 26, slot := 0, constantValue := 0 }, { name := "COMPACT_STRINGS", type := .boolean, accessFlags := 24, slot := 1, constantValue := 0 }, { name := "serialPersistentFields", type := (.array (.object "java/io/ObjectStreamField")), accessFlags := 26, slot := 2, constantValue := 0 }, { name := "REPL", type := .char, accessFlags := 26, slot := 3, constantValue := 0 }, { name := "CASE_INSENSITIVE_ORDER", type := (.object "java/util/Comparator"), accessFlags := 25, slot := 4, constantValue := 0 }, { name := "LATIN1", type := .byte, accessFlags := 24, slot := 5, constantValue := 0 }, { name := "UTF16", type := .byte, accessFlags := 24, slot := 6, constantValue := 0 }]
  methods := #[k8m0, k8m1, k8m2, k8m3, k8m4, k8m5, k8m6, k8m7]
  instanceTypes := #[(.array .byte), .byte, .int, .boolean]
  staticTypes := #[.long, .boolean, (.array (.object "java/io/ObjectStreamField")), .char, (.object "java/util/Comparator"), .byte, .byte]
  resolved := Array.replicate 1451 none
  statics := some 0 }

def pool9 : Array CpInfo := pool [(6, .class_ 8), (1, u "java/lang/Object"), (0, u "<init>"), (0, u "()V"), (0, .methodref 12 13), (0, .class_ 14), (0, .nameAndType 15 16), (0, u "java/lang/StringUTF16"), (0, u "newBytesLength"), (0, u "(I)I"), (3, .integer 1073741823), (23, .fieldref 12 45), (0, .nameAndType 46 47), (0, u "$assertionsDisabled"), (0, u "Z"), (11, .fieldref 12 60), (0, .nameAndType 61 62), (0, u "HI_BYTE_SHIFT"), (0, u "I"), (0, .fieldref 12 64), (0, .nameAndType 65 62), (0, u "LO_BYTE_SHIFT"), (5, .methodref 12 72), (0, .nameAndType 73 74), (0, u "getChar"), (0, u "([BI)C"), (0, .methodref 76 77), (0, .class_ 78), (0, .nameAndType 79 80), (0, u "java/lang/Character"), (0, u "isHighSurrogate"), (0, u "(C)Z"), (0, .methodref 76 82), (0, .nameAndType 83 80), (0, u "isLowSurrogate"), (7, u "([BIIZ)I"), (8, .methodref 12 101), (0, .nameAndType 102 91), (0, u "codePointCount"), (4, .methodref 12 108), (0, .nameAndType 109 110), (0, u "newBytesFor"), (0, u "(I)[B"), (0, .methodref 12 112), (0, .nameAndType 113 114), (0, u "putChar"), (0, u "([BII)V"), (0, .methodref 12 116), (0, .nameAndType 117 118), (0, u "compress"), (0, u "([CI[BII)I"), (0, .methodref 12 120), (0, .nameAndType 121 122), (0, u "toBytes"), (0, u "([CII)[B"), (127, u "([BII)I"), (10, u "coderFromArrayLen"), (0, u "([BI)B"), (106, .class_ 371), (1, u "java/lang/StringUTF16$LinesSpliterator"), (58, u "MAX_LENGTH"), (196, .class_ 628), (0, u "java/lang/StringUTF16$CodePointsSpliterator"), (0, .class_ 630), (0, u "java/lang/StringUTF16$CharsSpliterator")] 4

def k9m0 : Method := { name := "<init>", desc := "()V", sig := { parameters := [], returnType := none }, accessFlags := 0, code := none }
def k9c1 : Code := { maxStack := 1, maxLocals := 1, code := jdk_52_method_2_code, exceptionTable := #[], attributes := #[] }
def k9m1 : Method := { name := "newBytesFor", desc := "(I)[B", sig := { parameters := [.int], returnType := some (.array .byte) }, accessFlags := 9, code := some k9c1 }
def k9c2 : Code := { maxStack := 4, maxLocals := 1, code := jdk_52_method_3_code, exceptionTable := #[], attributes := #[] }
def k9m2 : Method := { name := "newBytesLength", desc := "(I)I", sig := { parameters := [.int], returnType := some .int }, accessFlags := 9, code := some k9c2 }
def k9c3 : Code := { maxStack := 4, maxLocals := 3, code := jdk_52_method_4_code, exceptionTable := #[], attributes := #[] }
def k9m3 : Method := { name := "putChar", desc := "([BII)V", sig := { parameters := [(.array .byte), .int, .int], returnType := none }, accessFlags := 8, code := some k9c3 }
def k9c4 : Code := { maxStack := 3, maxLocals := 2, code := jdk_52_method_5_code, exceptionTable := #[], attributes := #[] }
def k9m4 : Method := { name := "getChar", desc := "([BI)C", sig := { parameters := [(.array .byte), .int], returnType := some .char }, accessFlags := 8, code := some k9c4 }
def k9c5 : Code := { maxStack := 3, maxLocals := 6, code := jdk_52_method_11_code, exceptionTable := #[], attributes := #[] }
def k9m5 : Method := { name := "codePointCount", desc := "([BIIZ)I", sig := { parameters := [(.array .byte), .int, .int, .boolean], returnType := some .int }, accessFlags := 10, code := some k9c5 }
def k9c6 : Code := { maxStack := 4, maxLocals := 3, code := jdk_52_method_12_code, exceptionTable := #[], attributes := #[] }
def k9m6 : Method := { name := "codePointCount", desc := "([BII)I", sig := { parameters := [(.array .byte), .int, .int], returnType := some .int }, accessFlags := 9, code := some k9c6 }
def k9c7 : Code := { maxStack := 4, maxLocals := 5, code := jdk_52_method_14_code, exceptionTable := #[], attributes := #[] }
def k9m7 : Method := { name := "toBytes", desc := "([CII)[B", sig := { parameters := [(.array .char), .int, .int], returnType := some (.array .byte) }, accessFlags := 9, code := some k9c7 }
def k9c8 : Code := { maxStack := 2, maxLocals := 2, code := jdk_52_method_15_code, exceptionTable := #[], attributes := #[] }
def k9m8 : Method := { name := "coderFromArrayLen", desc := "([BI)B", sig := { parameters := [(.array .byte), .int], returnType := some .byte }, accessFlags := 8, code := some k9c8 }
def k9c9 : Code := { maxStack := 5, maxLocals := 6, code := jdk_52_method_16_code, exceptionTable := #[], attributes := #[] }
def k9m9 : Method := { name := "compress", desc := "([CII)[B", sig := { parameters := [(.array .char), .int, .int], returnType := some (.array .byte) }, accessFlags := 9, code := some k9c9 }
def k9c10 : Code := { maxStack := 3, maxLocals := 7, code := jdk_52_method_21_code, exceptionTable := #[], attributes := #[] }
def k9m10 : Method := { name := "compress", desc := "([CI[BII)I", sig := { parameters := [(.array .char), .int, (.array .byte), .int, .int], returnType := some .int }, accessFlags := 9, code := some k9c10 }
/-- java/lang/StringUTF16 -/
def k9 : Class := { plain "java/lang/StringUTF16" (some 0) with
  accessFlags := 48
  interfaces := #[]
  cf := some (fileOf pool9 12 #[.nestMembers #[627, 629, 369]] #[{ accessFlags := 0, nameIndex := 9, descriptorIndex := 10, attributes := #[] }, { accessFlags := 9, nameIndex := 109, descriptorIndex := 110, attributes := #[] }, { accessFlags := 9, nameIndex := 15, descriptorIndex := 16, attributes := #[] }, { accessFlags := 8, nameIndex := 113, descriptorIndex := 114, attributes := #[] }, { accessFlags := 8, nameIndex := 73, descriptorIndex := 74, attributes := #[] }, { accessFlags := 10, nameIndex := 102, descriptorIndex := 91, attributes := #[] }, { accessFlags := 9, nameIndex := 102, descriptorIndex := 250, attributes := #[] }, { accessFlags := 9, nameIndex := 121, descriptorIndex := 122, attributes := #[] }, { accessFlags := 8, nameIndex := 261, descriptorIndex := 262, attributes := #[] }, { accessFlags := 9, nameIndex := 117, descriptorIndex := 122, attributes := #[] }, { accessFlags := 9, nameIndex := 117, descriptorIndex := 118, attributes := #[] }] 48 6 #[] #[{ accessFlags := 26, nameIndex := 61, descriptorIndex := 62, attributes := #[] }, { accessFlags := 26, nameIndex := 65, descriptorIndex := 62, attributes := #[] }, { accessFlags := 24, nameIndex := 430, descriptorIndex := 62, attributes := #[] }, { accessFlags := 4120, nameIndex := 46, descriptorIndex := 47, attributes := #[] }])
  fields := #[{ name := "HI_BYTE_SHIFT", type := .int, accessFlags := 26, slot := 0, constantValue := 0 }, { name := "LO_BYTE_SHIFT", type := .int, accessFlags := 26, slot := 1, constantValue := 0 }, { name := "MAX_LENGTH", type := .int, accessFlags := 24, slot := 2, constantValue := 0 }, { name := "$assertionsDisabled", type := .boolean, accessFlags := 4120, slot := 3, constantValue := 0 }]
  methods := #[k9m0, k9m1, k9m2, k9m3, k9m4, k9m5, k9m6, k9m7, k9m8, k9m9, k9m10]
  instanceTypes := #[]
  staticTypes := #[.int, .int, .int, .boolean]
  resolved := Array.replicate 635 none
  statics := some 1 }

def pool10 : Array CpInfo := pool [(2, .class_ 4), (1, u "java/lang/Object"), (0, u "<init>"), (0, u "()V"), (0, .methodref 8 9), (0, .class_ 10), (0, .nameAndType 11 12), (0, u "java/lang/String"), (0, u "isEmpty"), (0, u "()Z"), (0, .methodref 8 14), (0, .nameAndType 15 16), (0, u "length"), (0, u "()I"), (0, .methodref 8 18), (0, .nameAndType 19 20), (0, u "codePointCount"), (0, u "(II)I"), (9, .class_ 31), (0, u "com/example/tugas/tugas/Text"), (2, u "requireLength"), (0, u "(Ljava/lang/String;Ljava/lang/String;I)Ljava/lang/String;")] 18

def k10m0 : Method := { name := "<init>", desc := "()V", sig := { parameters := [], returnType := none }, accessFlags := 2, code := none }
def k10c1 : Code := { maxStack := 4, maxLocals := 3, code := prog_15_method_2_code, exceptionTable := #[], attributes := #[] }
def k10m1 : Method := { name := "requireLength", desc := "(Ljava/lang/String;Ljava/lang/String;I)Ljava/lang/String;", sig := { parameters := [(.object "java/lang/String"), (.object "java/lang/String"), .int], returnType := some (.object "java/lang/String") }, accessFlags := 8, code := some k10c1 }
/-- com/example/tugas/tugas/Text -/
def k10 : Class := { plain "com/example/tugas/tugas/Text" (some 0) with
  accessFlags := 48
  interfaces := #[]
  cf := some (fileOf pool10 30 #[] #[{ accessFlags := 2, nameIndex := 5, descriptorIndex := 6, attributes := #[] }, { accessFlags := 8, nameIndex := 34, descriptorIndex := 35, attributes := #[] }] 48 2 #[] #[])
  fields := #[]
  methods := #[k10m0, k10m1]
  instanceTypes := #[]
  staticTypes := #[]
  resolved := Array.replicate 54 none
  statics := none }

def pool11 : Array CpInfo := pool [(2, .class_ 4), (1, u "java/lang/Object"), (0, u "<init>"), (0, u "()V"), (35, .class_ 44), (1, u "java/util/Objects"), (61, .class_ 108), (1, u "jdk/internal/util/Preconditions"), (2, .methodref 106 112), (0, .nameAndType 113 114), (0, u "checkFromToIndex"), (0, u "(IIILjava/util/function/BiFunction;)I"), (60, u "(III)I")] 8

def k11m0 : Method := { name := "<init>", desc := "()V", sig := { parameters := [], returnType := none }, accessFlags := 2, code := none }
def k11c1 : Code := { maxStack := 4, maxLocals := 3, code := jdk_31_method_18_code, exceptionTable := #[], attributes := #[] }
def k11m1 : Method := { name := "checkFromToIndex", desc := "(III)I", sig := { parameters := [.int, .int, .int], returnType := some .int }, accessFlags := 9, code := some k11c1 }
/-- java/util/Objects -/
def k11 : Class := { plain "java/util/Objects" (some 0) with
  accessFlags := 49
  interfaces := #[]
  cf := some (fileOf pool11 42 #[] #[{ accessFlags := 2, nameIndex := 5, descriptorIndex := 6, attributes := #[] }, { accessFlags := 9, nameIndex := 113, descriptorIndex := 175, attributes := #[] }] 49 2 #[] #[])
  fields := #[]
  methods := #[k11m0, k11m1]
  instanceTypes := #[]
  staticTypes := #[]
  resolved := Array.replicate 184 none
  statics := none }

def pool12 : Array CpInfo := pool [(2, .class_ 4), (1, u "java/lang/Object"), (0, u "<init>"), (0, u "()V"), (17, .class_ 26), (1, u "jdk/internal/util/Preconditions"), (20, u "checkFromToIndex"), (7, .class_ 56), (0, u "jdk/internal/util/Preconditions$4"), (57, .class_ 115), (0, u "jdk/internal/util/Preconditions$1"), (7, u "SIOOBE_FORMATTER"), (0, u "Ljava/util/function/BiFunction;"), (0, .class_ 126), (0, u "jdk/internal/util/Preconditions$2"), (3, u "AIOOBE_FORMATTER"), (0, .class_ 132), (0, u "jdk/internal/util/Preconditions$3"), (3, u "IOOBE_FORMATTER"), (46, u "(IIILjava/util/function/BiFunction;)I")] 10

def k12m0 : Method := { name := "<init>", desc := "()V", sig := { parameters := [], returnType := none }, accessFlags := 1, code := none }
def k12c1 : Code := { maxStack := 4, maxLocals := 4, code := jdk_41_method_12_code, exceptionTable := #[], attributes := #[] }
def k12m1 : Method := { name := "checkFromToIndex", desc := "(IIILjava/util/function/BiFunction;)I", sig := { parameters := [.int, .int, .int, (.object "java/util/function/BiFunction")], returnType := some .int }, accessFlags := 9, code := some k12c1 }
/-- jdk/internal/util/Preconditions -/
def k12 : Class := { plain "jdk/internal/util/Preconditions" (some 0) with
  accessFlags := 33
  interfaces := #[]
  cf := some (fileOf pool12 24 #[.nestMembers #[55, 131, 125, 114]] #[{ accessFlags := 1, nameIndex := 5, descriptorIndex := 6, attributes := #[] }, { accessFlags := 9, nameIndex := 47, descriptorIndex := 183, attributes := #[] }] 33 2 #[] #[{ accessFlags := 25, nameIndex := 123, descriptorIndex := 124, attributes := #[] }, { accessFlags := 25, nameIndex := 130, descriptorIndex := 124, attributes := #[] }, { accessFlags := 25, nameIndex := 136, descriptorIndex := 124, attributes := #[] }])
  fields := #[{ name := "SIOOBE_FORMATTER", type := (.object "java/util/function/BiFunction"), accessFlags := 25, slot := 0, constantValue := 0 }, { name := "AIOOBE_FORMATTER", type := (.object "java/util/function/BiFunction"), accessFlags := 25, slot := 1, constantValue := 0 }, { name := "IOOBE_FORMATTER", type := (.object "java/util/function/BiFunction"), accessFlags := 25, slot := 2, constantValue := 0 }]
  methods := #[k12m0, k12m1]
  instanceTypes := #[]
  staticTypes := #[(.object "java/util/function/BiFunction"), (.object "java/util/function/BiFunction"), (.object "java/util/function/BiFunction")]
  resolved := Array.replicate 194 none
  statics := some 2 }

def pool13 : Array CpInfo := pool [(1, .class_ 2), (0, u "java/lang/Character"), (18, u "value"), (0, u "C"), (19, .class_ 44), (1, u "java/lang/Object"), (3, .class_ 50), (1, u "java/lang/Character$CharacterCache"), (24, .integer 55296), (0, .integer 56320), (0, .integer 57344), (2, u "isHighSurrogate"), (0, u "(C)Z"), (2, u "isLowSurrogate"), (199, u "$assertionsDisabled"), (0, u "Z"), (21, .class_ 309), (1, u "java/lang/Character$UnicodeBlock"), (73, u "TYPE"), (0, u "Ljava/lang/Class;"), (0, .class_ 386), (0, u "java/io/Serializable"), (0, .class_ 388), (0, u "java/lang/Comparable"), (0, .class_ 390), (0, u "java/lang/constant/Constable"), (0, u "MIN_RADIX"), (0, u "I"), (2, u "MAX_RADIX"), (1, u "MIN_VALUE"), (1, u "MAX_VALUE"), (3, u "UNASSIGNED"), (0, u "B"), (0, u "UPPERCASE_LETTER"), (1, u "LOWERCASE_LETTER"), (0, u "TITLECASE_LETTER"), (1, u "MODIFIER_LETTER"), (1, u "OTHER_LETTER"), (1, u "NON_SPACING_MARK"), (1, u "ENCLOSING_MARK"), (1, u "COMBINING_SPACING_MARK"), (1, u "DECIMAL_DIGIT_NUMBER"), (1, u "LETTER_NUMBER"), (1, u "OTHER_NUMBER"), (1, u "SPACE_SEPARATOR"), (1, u "LINE_SEPARATOR"), (1, u "PARAGRAPH_SEPARATOR"), (1, u "CONTROL"), (1, u "FORMAT"), (1, u "PRIVATE_USE"), (1, u "SURROGATE"), (1, u "DASH_PUNCTUATION"), (1, u "START_PUNCTUATION"), (1, u "END_PUNCTUATION"), (1, u "CONNECTOR_PUNCTUATION"), (1, u "OTHER_PUNCTUATION"), (1, u "MATH_SYMBOL"), (1, u "CURRENCY_SYMBOL"), (1, u "MODIFIER_SYMBOL"), (1, u "OTHER_SYMBOL"), (1, u "INITIAL_QUOTE_PUNCTUATION"), (1, u "FINAL_QUOTE_PUNCTUATION"), (1, u "ERROR"), (1, u "DIRECTIONALITY_UNDEFINED"), (0, u "DIRECTIONALITY_LEFT_TO_RIGHT"), (0, u "DIRECTIONALITY_RIGHT_TO_LEFT"), (0, u "DIRECTIONALITY_RIGHT_TO_LEFT_ARABIC"), (0, u "DIRECTIONALITY_EUROPEAN_NUMBER"), (0, u "DIRECTIONALITY_EUROPEAN_NUMBER_SEPARATOR"), (0, u "DIRECTIONALITY_EUROPEAN_NUMBER_TERMINATOR"), (0, u "DIRECTIONALITY_ARABIC_NUMBER"), (0, u "DIRECTIONALITY_COMMON_NUMBER_SEPARATOR"), (0, u "DIRECTIONALITY_NONSPACING_MARK"), (0, u "DIRECTIONALITY_BOUNDARY_NEUTRAL"), (0, u "DIRECTIONALITY_PARAGRAPH_SEPARATOR"), (0, u "DIRECTIONALITY_SEGMENT_SEPARATOR"), (0, u "DIRECTIONALITY_WHITESPACE"), (0, u "DIRECTIONALITY_OTHER_NEUTRALS"), (0, u "DIRECTIONALITY_LEFT_TO_RIGHT_EMBEDDING"), (0, u "DIRECTIONALITY_LEFT_TO_RIGHT_OVERRIDE"), (0, u "DIRECTIONALITY_RIGHT_TO_LEFT_EMBEDDING"), (0, u "DIRECTIONALITY_RIGHT_TO_LEFT_OVERRIDE"), (1, u "DIRECTIONALITY_POP_DIRECTIONAL_FORMAT"), (0, u "DIRECTIONALITY_LEFT_TO_RIGHT_ISOLATE"), (0, u "DIRECTIONALITY_RIGHT_TO_LEFT_ISOLATE"), (0, u "DIRECTIONALITY_FIRST_STRONG_ISOLATE"), (0, u "DIRECTIONALITY_POP_DIRECTIONAL_ISOLATE"), (0, u "MIN_HIGH_SURROGATE"), (0, u "MAX_HIGH_SURROGATE"), (1, u "MIN_LOW_SURROGATE"), (0, u "MAX_LOW_SURROGATE"), (1, u "MIN_SURROGATE"), (0, u "MAX_SURROGATE"), (0, u "MIN_SUPPLEMENTARY_CODE_POINT"), (0, u "MIN_CODE_POINT"), (0, u "MAX_CODE_POINT"), (1, u "serialVersionUID"), (0, u "J"), (2, u "SIZE"), (0, u "BYTES"), (88, .class_ 596), (0, u "java/lang/Character$UnicodeScript"), (0, .class_ 598), (0, u "java/lang/Character$Subset")] 5

def k13c0 : Code := { maxStack := 2, maxLocals := 1, code := jdk_89_method_14_code, exceptionTable := #[], attributes := #[] }
def k13m0 : Method := { name := "isHighSurrogate", desc := "(C)Z", sig := { parameters := [.char], returnType := some .boolean }, accessFlags := 9, code := some k13c0 }
def k13c1 : Code := { maxStack := 2, maxLocals := 1, code := jdk_89_method_15_code, exceptionTable := #[], attributes := #[] }
def k13m1 : Method := { name := "isLowSurrogate", desc := "(C)Z", sig := { parameters := [.char], returnType := some .boolean }, accessFlags := 9, code := some k13c1 }
/-- java/lang/Character -/
def k13 : Class := { plain "java/lang/Character" (some 0) with
  accessFlags := 49
  interfaces := #[3, 4, 6]
  cf := some (fileOf pool13 1 #[.nestMembers #[48, 595, 307, 597]] #[{ accessFlags := 9, nameIndex := 80, descriptorIndex := 81, attributes := #[] }, { accessFlags := 9, nameIndex := 84, descriptorIndex := 81, attributes := #[] }] 49 42 #[385, 387, 389] #[{ accessFlags := 25, nameIndex := 391, descriptorIndex := 392, attributes := #[] }, { accessFlags := 25, nameIndex := 395, descriptorIndex := 392, attributes := #[] }, { accessFlags := 25, nameIndex := 397, descriptorIndex := 22, attributes := #[] }, { accessFlags := 25, nameIndex := 399, descriptorIndex := 22, attributes := #[] }, { accessFlags := 25, nameIndex := 383, descriptorIndex := 384, attributes := #[] }, { accessFlags := 25, nameIndex := 403, descriptorIndex := 404, attributes := #[] }, { accessFlags := 25, nameIndex := 405, descriptorIndex := 404, attributes := #[] }, { accessFlags := 25, nameIndex := 407, descriptorIndex := 404, attributes := #[] }, { accessFlags := 25, nameIndex := 408, descriptorIndex := 404, attributes := #[] }, { accessFlags := 25, nameIndex := 410, descriptorIndex := 404, attributes := #[] }, { accessFlags := 25, nameIndex := 412, descriptorIndex := 404, attributes := #[] }, { accessFlags := 25, nameIndex := 414, descriptorIndex := 404, attributes := #[] }, { accessFlags := 25, nameIndex := 416, descriptorIndex := 404, attributes := #[] }, { accessFlags := 25, nameIndex := 418, descriptorIndex := 404, attributes := #[] }, { accessFlags := 25, nameIndex := 420, descriptorIndex := 404, attributes := #[] }, { accessFlags := 25, nameIndex := 422, descriptorIndex := 404, attributes := #[] }, { accessFlags := 25, nameIndex := 424, descriptorIndex := 404, attributes := #[] }, { accessFlags := 25, nameIndex := 426, descriptorIndex := 404, attributes := #[] }, { accessFlags := 25, nameIndex := 428, descriptorIndex := 404, attributes := #[] }, { accessFlags := 25, nameIndex := 430, descriptorIndex := 404, attributes := #[] }, { accessFlags := 25, nameIndex := 432, descriptorIndex := 404, attributes := #[] }, { accessFlags := 25, nameIndex := 434, descriptorIndex := 404, attributes := #[] }, { accessFlags := 25, nameIndex := 436, descriptorIndex := 404, attributes := #[] }, { accessFlags := 25, nameIndex := 438, descriptorIndex := 404, attributes := #[] }, { accessFlags := 25, nameIndex := 440, descriptorIndex := 404, attributes := #[] }, { accessFlags := 25, nameIndex := 442, descriptorIndex := 404, attributes := #[] }, { accessFlags := 25, nameIndex := 444, descriptorIndex := 404, attributes := #[] }, { accessFlags := 25, nameIndex := 446, descriptorIndex := 404, attributes := #[] }, { accessFlags := 25, nameIndex := 448, descriptorIndex := 404, attributes := #[] }, { accessFlags := 25, nameIndex := 450, descriptorIndex := 404, attributes := #[] }, { accessFlags := 25, nameIndex := 452, descriptorIndex := 404, attributes := #[] }, { accessFlags := 25, nameIndex := 454, descriptorIndex := 404, attributes := #[] }, { accessFlags := 25, nameIndex := 456, descriptorIndex := 404, attributes := #[] }, { accessFlags := 25, nameIndex := 458, descriptorIndex := 404, attributes := #[] }, { accessFlags := 25, nameIndex := 460, descriptorIndex := 404, attributes := #[] }, { accessFlags := 24, nameIndex := 462, descriptorIndex := 392, attributes := #[] }, { accessFlags := 25, nameIndex := 464, descriptorIndex := 404, attributes := #[] }, { accessFlags := 25, nameIndex := 465, descriptorIndex := 404, attributes := #[] }, { accessFlags := 25, nameIndex := 466, descriptorIndex := 404, attributes := #[] }, { accessFlags := 25, nameIndex := 467, descriptorIndex := 404, attributes := #[] }, { accessFlags := 25, nameIndex := 468, descriptorIndex := 404, attributes := #[] }, { accessFlags := 25, nameIndex := 469, descriptorIndex := 404, attributes := #[] }, { accessFlags := 25, nameIndex := 470, descriptorIndex := 404, attributes := #[] }, { accessFlags := 25, nameIndex := 471, descriptorIndex := 404, attributes := #[] }, { accessFlags := 25, nameIndex := 472, descriptorIndex := 404, attributes := #[] }, { accessFlags := 25, nameIndex := 473, descriptorIndex := 404, attributes := #[] }, { accessFlags := 25, nameIndex := 474, descriptorIndex := 404, attributes := #[] }, { accessFlags := 25, nameIndex := 475, descriptorIndex := 404, attributes := #[] }, { accessFlags := 25, nameIndex := 476, descriptorIndex := 404, attributes := #[] }, { accessFlags := 25, nameIndex := 477, descriptorIndex := 404, attributes := #[] }, { accessFlags := 25, nameIndex := 478, descriptorIndex := 404, attributes := #[] }, { accessFlags := 25, nameIndex := 479, descriptorIndex := 404, attributes := #[] }, { accessFlags := 25, nameIndex := 480, descriptorIndex := 404, attributes := #[] }, { accessFlags := 25, nameIndex := 481, descriptorIndex := 404, attributes := #[] }, { accessFlags := 25, nameIndex := 482, descriptorIndex := 404, attributes := #[] }, { accessFlags := 25, nameIndex := 484, descriptorIndex := 404, attributes := #[] }, { accessFlags := 25, nameIndex := 485, descriptorIndex := 404, attributes := #[] }, { accessFlags := 25, nameIndex := 486, descriptorIndex := 404, attributes := #[] }, { accessFlags := 25, nameIndex := 487, descriptorIndex := 404, attributes := #[] }, { accessFlags := 25, nameIndex := 488, descriptorIndex := 404, attributes := #[] }, { accessFlags := 25, nameIndex := 489, descriptorIndex := 22, attributes := #[] }, { accessFlags := 25, nameIndex := 490, descriptorIndex := 22, attributes := #[] }, { accessFlags := 25, nameIndex := 492, descriptorIndex := 22, attributes := #[] }, { accessFlags := 25, nameIndex := 493, descriptorIndex := 22, attributes := #[] }, { accessFlags := 25, nameIndex := 495, descriptorIndex := 22, attributes := #[] }, { accessFlags := 25, nameIndex := 496, descriptorIndex := 22, attributes := #[] }, { accessFlags := 25, nameIndex := 497, descriptorIndex := 392, attributes := #[] }, { accessFlags := 25, nameIndex := 498, descriptorIndex := 392, attributes := #[] }, { accessFlags := 25, nameIndex := 499, descriptorIndex := 392, attributes := #[] }, { accessFlags := 18, nameIndex := 21, descriptorIndex := 22, attributes := #[] }, { accessFlags := 26, nameIndex := 501, descriptorIndex := 502, attributes := #[] }, { accessFlags := 25, nameIndex := 505, descriptorIndex := 392, attributes := #[] }, { accessFlags := 25, nameIndex := 506, descriptorIndex := 392, attributes := #[] }, { accessFlags := 4120, nameIndex := 284, descriptorIndex := 285, attributes := #[] }])
  fields := #[{ name := "MIN_RADIX", type := .int, accessFlags := 25, slot := 0, constantValue := 0 }, { name := "MAX_RADIX", type := .int, accessFlags := 25, slot := 1, constantValue := 0 }, { name := "MIN_VALUE", type := .char, accessFlags := 25, slot := 2, constantValue := 0 }, { name := "MAX_VALUE", type := .char, accessFlags := 25, slot := 3, constantValue := 0 }, { name := "TYPE", type := (.object "java/lang/Class"), accessFlags := 25, slot := 4, constantValue := 0 }, { name := "UNASSIGNED", type := .byte, accessFlags := 25, slot := 5, constantValue := 0 }, { name := "UPPERCASE_LETTER", type := .byte, accessFlags := 25, slot := 6, constantValue := 0 }, { name := "LOWERCASE_LETTER", type := .byte, accessFlags := 25, slot := 7, constantValue := 0 }, { name := "TITLECASE_LETTER", type := .byte, accessFlags := 25, slot := 8, constantValue := 0 }, { name := "MODIFIER_LETTER", type := .byte, accessFlags := 25, slot := 9, constantValue := 0 }, { name := "OTHER_LETTER", type := .byte, accessFlags := 25, slot := 10, constantValue := 0 }, { name := "NON_SPACING_MARK", type := .byte, accessFlags := 25, slot := 11, constantValue := 0 }, { name := "ENCLOSING_MARK", type := .byte, accessFlags := 25, slot := 12, constantValue := 0 }, { name := "COMBINING_SPACING_MARK", type := .byte, accessFlags := 25, slot := 13, constantValue := 0 }, { name := "DECIMAL_DIGIT_NUMBER", type := .byte, accessFlags := 25, slot := 14, constantValue := 0 }, { name := "LETTER_NUMBER", type := .byte, accessFlags := 25, slot := 15, constantValue := 0 }, { name := "OTHER_NUMBER", type := .byte, accessFlags := 25, slot := 16, constantValue := 0 }, { name := "SPACE_SEPARATOR", type := .byte, accessFlags := 25, slot := 17, constantValue := 0 }, { name := "LINE_SEPARATOR", type := .byte, accessFlags := 25, slot := 18, constantValue := 0 }, { name := "PARAGRAPH_SEPARATOR", type := .byte, accessFlags := 25, slot := 19, constantValue := 0 }, { name := "CONTROL", type := .byte, accessFlags := 25, slot := 20, constantValue := 0 }, { name := "FORMAT", type := .byte, accessFlags := 25, slot := 21, constantValue := 0 }, { name := "PRIVATE_USE", type := .byte, accessFlags := 25, slot := 22, constantValue := 0 }, { name := "SURROGATE", type := .byte, accessFlags := 25, slot := 23, constantValue := 0 }, { name := "DASH_PUNCTUATION", type := .byte, accessFlags := 25, slot := 24, constantValue := 0 }, { name := "START_PUNCTUATION", type := .byte, accessFlags := 25, slot := 25, constantValue := 0 }, { name := "END_PUNCTUATION", type := .byte, accessFlags := 25, slot := 26, constantValue := 0 }, { name := "CONNECTOR_PUNCTUATION", type := .byte, accessFlags := 25, slot := 27, constantValue := 0 }, { name := "OTHER_PUNCTUATION", type := .byte, accessFlags := 25, slot := 28, constantValue := 0 }, { name := "MATH_SYMBOL", type := .byte, accessFlags := 25, slot := 29, constantValue := 0 }, { name := "CURRENCY_SYMBOL", type := .byte, accessFlags := 25, slot := 30, constantValue := 0 }, { name := "MODIFIER_SYMBOL", type := .byte, accessFlags := 25, slot := 31, constantValue := 0 }, { name := "OTHER_SYMBOL", type := .byte, accessFlags := 25, slot := 32, constantValue := 0 }, { name := "INITIAL_QUOTE_PUNCTUATION", type := .byte, accessFlags := 25, slot := 33, constantValue := 0 }, { name := "FINAL_QUOTE_PUNCTUATION", type := .byte, accessFlags := 25, slot := 34, constantValue := 0 }, { name := "ERROR", type := .int, accessFlags := 24, slot := 35, constantValue := 0 }, { name := "DIRECTIONALITY_UNDEFINED", type := .byte, accessFlags := 25, slot := 36, constantValue := 0 }, { name := "DIRECTIONALITY_LEFT_TO_RIGHT", type := .byte, accessFlags := 25, slot := 37, constantValue := 0 }, { name := "DIRECTIONALITY_RIGHT_TO_LEFT", type := .byte, accessFlags := 25, slot := 38, constantValue := 0 }, { name := "DIRECTIONALITY_RIGHT_TO_LEFT_ARABIC", type := .byte, accessFlags := 25, slot := 39, constantValue := 0 }, { name := "DIRECTIONALITY_EUROPEAN_NUMBER", type := .byte, accessFlags := 25, slot := 40, constantValue := 0 }, { name := "DIRECTIONALITY_EUROPEAN_NUMBER_SEPARATOR", type := .byte, accessFlags := 25, slot := 41, constantValue := 0 }, { name := "DIRECTIONALITY_EUROPEAN_NUMBER_TERMINATOR", type := .byte, accessFlags := 25, slot := 42, constantValue := 0 }, { name := "DIRECTIONALITY_ARABIC_NUMBER", type := .byte, accessFlags := 25, slot := 43, constantValue := 0 }, { name := "DIRECTIONALITY_COMMON_NUMBER_SEPARATOR", type := .byte, accessFlags := 25, slot := 44, constantValue := 0 }, { name := "DIRECTIONALITY_NONSPACING_MARK", type := .byte, accessFlags := 25, slot := 45, constantValue := 0 }, { name := "DIRECTIONALITY_BOUNDARY_NEUTRAL", type := .byte, accessFlags := 25, slot := 46, constantValue := 0 }, { name := "DIRECTIONALITY_PARAGRAPH_SEPARATOR", type := .byte, accessFlags := 25, slot := 47, constantValue := 0 }, { name := "DIRECTIONALITY_SEGMENT_SEPARATOR", type := .byte, accessFlags := 25, slot := 48, constantValue := 0 }, { name := "DIRECTIONALITY_WHITESPACE", type := .byte, accessFlags := 25, slot := 49, constantValue := 0 }, { name := "DIRECTIONALITY_OTHER_NEUTRALS", type := .byte, accessFlags := 25, slot := 50, constantValue := 0 }, { name := "DIRECTIONALITY_LEFT_TO_RIGHT_EMBEDDING", type := .byte, accessFlags := 25, slot := 51, constantValue := 0 }, { name := "DIRECTIONALITY_LEFT_TO_RIGHT_OVERRIDE", type := .byte, accessFlags := 25, slot := 52, constantValue := 0 }, { name := "DIRECTIONALITY_RIGHT_TO_LEFT_EMBEDDING", type := .byte, accessFlags := 25, slot := 53, constantValue := 0 }, { name := "DIRECTIONALITY_RIGHT_TO_LEFT_OVERRIDE", type := .byte, accessFlags := 25, slot := 54, constantValue := 0 }, { name := "DIRECTIONALITY_POP_DIRECTIONAL_FORMAT", type := .byte, accessFlags := 25, slot := 55, constantValue := 0 }, { name := "DIRECTIONALITY_LEFT_TO_RIGHT_ISOLATE", type := .byte, accessFlags := 25, slot := 56, constantValue := 0 }, { name := "DIRECTIONALITY_RIGHT_TO_LEFT_ISOLATE", type := .byte, accessFlags := 25, slot := 57, constantValue := 0 }, { name := "DIRECTIONALITY_FIRST_STRONG_ISOLATE", type := .byte, accessFlags := 25, slot := 58, constantValue := 0 }, { name := "DIRECTIONALITY_POP_DIRECTIONAL_ISOLATE", type := .byte, accessFlags := 25, slot := 59, constantValue := 0 }, { name := "MIN_HIGH_SURROGATE", type := .char, accessFlags := 25, slot := 60, constantValue := 0 }, { name := "MAX_HIGH_SURROGATE", type := .char, accessFlags := 25, slot := 61, constantValue := 0 }, { name := "MIN_LOW_SURROGATE", type := .char, accessFlags := 25, slot := 62, constantValue := 0 }, { name := "MAX_LOW_SURROGATE", type := .char, accessFlags := 25, slot := 63, constantValue := 0 }, { name := "MIN_SURROGATE", type := .char, accessFlags := 25, slot := 64, constantValue := 0 }, { name := "MAX_SURROGATE", type := .char, accessFlags := 25, slot := 65, constantValue := 0 }, { name := "MIN_SUPPLEMENTARY_CODE_POINT", type := .int, accessFlags := 25, slot := 66, constantValue := 0 }, { name := "MIN_CODE_POINT", type := .int, accessFlags := 25, slot := 67, constantValue := 0 }, { name := "MAX_CODE_POINT", type := .int, accessFlags := 25, slot := 68, constantValue := 0 }, { name := "value", type := .char, accessFlags := 18, slot := 0, constantValue := 0 }, { name := "serialVersionUID", type := .long, accessFlags := 26, slot := 69, constantValue := 0 }, { name := "SIZE", type := .int, accessFlags := 25, slot := 70, constantValue := 0 }, { name := "BYTES", type := .int, accessFlags := 25, slot := 71, constantValue := 0 }, { name := "$assertionsDisabled", type := .boolean, accessFlags := 4120, slot := 72, constantValue := 0 }]
  methods := #[k13m0, k13m1]
  instanceTypes := #[.char]
  staticTypes := #[.int, .int, .char, .char, (.object "java/lang/Class"), .byte, .byte, .byte, .byte, .byte, .byte, .byte, .byte, .byte, .byte, .byte, .byte, .byte, .byte, .byte, .byte, .byte, .byte, .byte, .byte, .byte, .byte, .byte, .byte, .byte, .byte, .byte, .byte, .byte, .byte, .int, .byte, .byte, .byte, .byte, .byte, .byte, .byte, .byte, .byte, .byte, .byte, .byte, .byte, .byte, .byte, .byte, .byte, .byte, .byte, .byte, .byte, .byte, .byte, .byte, .char, .char, .char, .char, .char, .char, .int, .int, .int, .long, .int, .int, .boolean]
  resolved := Array.replicate 604 none
  statics := none }

def pool14 : Array CpInfo := pool [(4, .class_ 6), (1, u "java/lang/Object"), (0, u "<init>"), (0, u "()V"), (5, .class_ 16), (1, u "java/lang/StringLatin1"), (104, u "$assertionsDisabled"), (0, u "Z"), (98, .class_ 223), (1, u "java/lang/StringLatin1$LinesSpliterator"), (166, .class_ 391), (0, u "java/lang/StringLatin1$CharsSpliterator")] 3

def k14m0 : Method := { name := "<init>", desc := "()V", sig := { parameters := [], returnType := none }, accessFlags := 0, code := none }
/-- java/lang/StringLatin1 -/
def k14 : Class := { plain "java/lang/StringLatin1" (some 0) with
  accessFlags := 48
  interfaces := #[]
  cf := some (fileOf pool14 14 #[.nestMembers #[390, 221]] #[{ accessFlags := 0, nameIndex := 7, descriptorIndex := 8, attributes := #[] }] 48 4 #[] #[{ accessFlags := 4120, nameIndex := 121, descriptorIndex := 122, attributes := #[] }])
  fields := #[{ name := "$assertionsDisabled", type := .boolean, accessFlags := 4120, slot := 0, constantValue := 0 }]
  methods := #[k14m0]
  instanceTypes := #[]
  staticTypes := #[.boolean]
  resolved := Array.replicate 395 none
  statics := none }

def pool15 : Array CpInfo := pool [(9, u "<init>"), (6, .class_ 18), (1, u "java/lang/Object"), (0, u "()V"), (1, .class_ 23), (1, u "jdk/internal/util/ArraysSupport"), (0, u "LOG2_ARRAY_LONG_INDEX_SCALE"), (0, u "I"), (2, u "U"), (0, u "Ljdk/internal/misc/Unsafe;"), (8, u "BIG_ENDIAN"), (0, u "Z"), (8, u "LOG2_BYTE_BIT_SIZE"), (4, u "LOG2_ARRAY_INT_INDEX_SCALE"), (54, u "JLA"), (0, u "Ljdk/internal/access/JavaLangAccess;"), (11, u "LOG2_ARRAY_BOOLEAN_INDEX_SCALE"), (9, u "LOG2_ARRAY_BYTE_INDEX_SCALE"), (5, u "LOG2_ARRAY_CHAR_INDEX_SCALE"), (5, u "LOG2_ARRAY_SHORT_INDEX_SCALE"), (18, u "LOG2_ARRAY_FLOAT_INDEX_SCALE"), (24, u "LOG2_ARRAY_DOUBLE_INDEX_SCALE"), (89, u "T_BOOLEAN"), (2, u "T_CHAR"), (1, u "T_FLOAT"), (1, u "T_DOUBLE"), (1, u "T_BYTE"), (1, u "T_SHORT"), (1, u "T_INT"), (1, u "T_LONG"), (1, u "SOFT_MAX_ARRAY_LENGTH")] 83

def k15m0 : Method := { name := "<init>", desc := "()V", sig := { parameters := [], returnType := none }, accessFlags := 2, code := none }
/-- jdk/internal/util/ArraysSupport -/
def k15 : Class := { plain "jdk/internal/util/ArraysSupport" (some 0) with
  accessFlags := 33
  interfaces := #[]
  cf := some (fileOf pool15 21 #[] #[{ accessFlags := 2, nameIndex := 9, descriptorIndex := 19, attributes := #[] }] 33 16 #[] #[{ accessFlags := 24, nameIndex := 28, descriptorIndex := 29, attributes := #[] }, { accessFlags := 26, nameIndex := 38, descriptorIndex := 39, attributes := #[] }, { accessFlags := 25, nameIndex := 121, descriptorIndex := 25, attributes := #[] }, { accessFlags := 25, nameIndex := 131, descriptorIndex := 25, attributes := #[] }, { accessFlags := 25, nameIndex := 137, descriptorIndex := 25, attributes := #[] }, { accessFlags := 25, nameIndex := 143, descriptorIndex := 25, attributes := #[] }, { accessFlags := 25, nameIndex := 53, descriptorIndex := 25, attributes := #[] }, { accessFlags := 25, nameIndex := 24, descriptorIndex := 25, attributes := #[] }, { accessFlags := 25, nameIndex := 162, descriptorIndex := 25, attributes := #[] }, { accessFlags := 25, nameIndex := 187, descriptorIndex := 25, attributes := #[] }, { accessFlags := 26, nameIndex := 48, descriptorIndex := 25, attributes := #[] }, { accessFlags := 25, nameIndex := 277, descriptorIndex := 25, attributes := #[] }, { accessFlags := 25, nameIndex := 280, descriptorIndex := 25, attributes := #[] }, { accessFlags := 25, nameIndex := 282, descriptorIndex := 25, attributes := #[] }, { accessFlags := 25, nameIndex := 284, descriptorIndex := 25, attributes := #[] }, { accessFlags := 25, nameIndex := 286, descriptorIndex := 25, attributes := #[] }, { accessFlags := 25, nameIndex := 288, descriptorIndex := 25, attributes := #[] }, { accessFlags := 25, nameIndex := 290, descriptorIndex := 25, attributes := #[] }, { accessFlags := 25, nameIndex := 292, descriptorIndex := 25, attributes := #[] }, { accessFlags := 26, nameIndex := 108, descriptorIndex := 109, attributes := #[] }, { accessFlags := 25, nameIndex := 294, descriptorIndex := 25, attributes := #[] }])
  fields := #[{ name := "U", type := (.object "jdk/internal/misc/Unsafe"), accessFlags := 24, slot := 0, constantValue := 0 }, { name := "BIG_ENDIAN", type := .boolean, accessFlags := 26, slot := 1, constantValue := 0 }, { name := "LOG2_ARRAY_BOOLEAN_INDEX_SCALE", type := .int, accessFlags := 25, slot := 2, constantValue := 0 }, { name := "LOG2_ARRAY_BYTE_INDEX_SCALE", type := .int, accessFlags := 25, slot := 3, constantValue := 0 }, { name := "LOG2_ARRAY_CHAR_INDEX_SCALE", type := .int, accessFlags := 25, slot := 4, constantValue := 0 }, { name := "LOG2_ARRAY_SHORT_INDEX_SCALE", type := .int, accessFlags := 25, slot := 5, constantValue := 0 }, { name := "LOG2_ARRAY_INT_INDEX_SCALE", type := .int, accessFlags := 25, slot := 6, constantValue := 0 }, { name := "LOG2_ARRAY_LONG_INDEX_SCALE", type := .int, accessFlags := 25, slot := 7, constantValue := 0 }, { name := "LOG2_ARRAY_FLOAT_INDEX_SCALE", type := .int, accessFlags := 25, slot := 8, constantValue := 0 }, { name := "LOG2_ARRAY_DOUBLE_INDEX_SCALE", type := .int, accessFlags := 25, slot := 9, constantValue := 0 }, { name := "LOG2_BYTE_BIT_SIZE", type := .int, accessFlags := 26, slot := 10, constantValue := 0 }, { name := "T_BOOLEAN", type := .int, accessFlags := 25, slot := 11, constantValue := 0 }, { name := "T_CHAR", type := .int, accessFlags := 25, slot := 12, constantValue := 0 }, { name := "T_FLOAT", type := .int, accessFlags := 25, slot := 13, constantValue := 0 }, { name := "T_DOUBLE", type := .int, accessFlags := 25, slot := 14, constantValue := 0 }, { name := "T_BYTE", type := .int, accessFlags := 25, slot := 15, constantValue := 0 }, { name := "T_SHORT", type := .int, accessFlags := 25, slot := 16, constantValue := 0 }, { name := "T_INT", type := .int, accessFlags := 25, slot := 17, constantValue := 0 }, { name := "T_LONG", type := .int, accessFlags := 25, slot := 18, constantValue := 0 }, { name := "JLA", type := (.object "jdk/internal/access/JavaLangAccess"), accessFlags := 26, slot := 19, constantValue := 0 }, { name := "SOFT_MAX_ARRAY_LENGTH", type := .int, accessFlags := 25, slot := 20, constantValue := 0 }]
  methods := #[k15m0]
  instanceTypes := #[]
  staticTypes := #[(.object "jdk/internal/misc/Unsafe"), .boolean, .int, .int, .int, .int, .int, .int, .int, .int, .int, .int, .int, .int, .int, .int, .int, .int, .int, (.object "jdk/internal/access/JavaLangAccess"), .int]
  resolved := Array.replicate 378 none
  statics := none }

def pool16 : Array CpInfo := pool [(1, u "java/lang/Cloneable"), (0, .class_ 1), (0, u "java/lang/Object"), (0, .class_ 3)] 3

/-- java/lang/Cloneable -/
def k16 : Class := { plain "java/lang/Cloneable" (some 0) with
  accessFlags := 1537
  interfaces := #[]
  cf := some (fileOf pool16 2 #[] #[] 1537 4 #[] #[])
  fields := #[]
  methods := #[]
  instanceTypes := #[]
  staticTypes := #[]
  resolved := Array.replicate 8 none
  statics := none }

/-- the primitive byte -/
def k17 : Class := { plain "byte" none with kind := .primitive 'B', accessFlags := 0x411 }
/-- [B -/
def k18 : Class := { plain "[B" (some 0) with kind := .array 17 .byte, interfaces := #[16, 3], accessFlags := 1041 }

/-- the primitive char -/
def k19 : Class := { plain "char" none with kind := .primitive 'C', accessFlags := 0x411 }
/-- [C -/
def k20 : Class := { plain "[C" (some 0) with kind := .array 19 .char, interfaces := #[16, 3], accessFlags := 1041 }

def heap : Heap := #[{ cls := 8, slots := #[.long 0, .int 1, .null, .int 0, .null, .int 0, .int 0], vm := .statics 8 },
  { cls := 9, slots := #[.int 0, .int 8, .int 0, .int 1], vm := .statics 9 },
  { cls := 12, slots := #[.null, .null, .null], vm := .statics 12 }]
def classes : Array Class := #[k0, k1, k2, k3, k4, k5, k6, k7, k8, k9, k10, k11, k12, k13, k14, k15, k16, k17, k18, k19, k20]
def interned : List (Array UInt16 × Addr) := []
def slotsUsed : Nat := 14
def theMethod : MethodId := ⟨1, 3⟩
def args0 : Array Value := #[.int 1, .int 2, .int 3, .int 4, .int 5, .int 6]
def aboutOver (below : List Frame) : State where
  vm := { classes := classes, interned := interned.toArray }
  heap := heap
  slotsUsed := slotsUsed
  threads := #[{ frames := .invoking theMethod args0 :: below }]
def below0 : List Frame := [.native { method := ⟨0, 0⟩, args := #[] }]
def about1 : State := aboutOver below0
def p0 : Program := .bare "" "" ""
def e0 : Env := launch0.env 0 0 0
theorem w_frames : about1.frames = Frame.invoking theMethod args0 :: below0 := rfl
set_option maxRecDepth 65536 in
theorem w_args : argsFit about1.vm theMethod args0 = true := by decide +kernel
set_option maxRecDepth 65536 in
theorem w_heap : heapFits about1 = true := by decide +kernel
set_option maxRecDepth 65536 in
theorem w_runnable : about1.curStatus? = some .runnable := by decide +kernel
set_option maxRecDepth 65536 in
theorem w_alone : about1.alone = true := by decide +kernel
set_option maxRecDepth 65536 in
theorem w_named : about1.methodNamed? x = some theMethod := by decide +kernel
set_option maxRecDepth 65536 in
theorem w_hears : about1.hears theMethod below0 = true := by decide +kernel
set_option maxRecDepth 65536 in
theorem w_ripe : about1.ripe theMethod args0 below0 = true := by decide +kernel
theorem w_running : about1.status = .running := rfl
set_option maxRecDepth 65536 in
theorem w_room : about1.hasRoom e0.platform room_1 = true :=
  launch0.hasRoom_least _ room_1 (by decide +kernel) (by decide +kernel) (by decide +kernel) (by decide +kernel) (by decide +kernel) (by decide +kernel)
theorem allAtoms_all (ts : List Jvm.Cond) (a : Array Jvm.Value) (st : Jvm.State) : (allAtoms ts).before a st = ts.all (fun c => c.before a st) := by
  induction ts with
  | nil => rfl
  | cons c t ih =>
    show (Jvm.Cond.and c (allAtoms t)).before a st = _
    rw [Jvm.Cond.before_and, ih, List.all_cons]
def words1 : List Jvm.Cond := Jvm.Cond.code x code maxLocals ret :: tables_1
/-- a 'code' word, met by the world's own term for the bytes: nothing is compared byte by byte -/
theorem code_word {y : MethodName} {bytes : ByteArray} {mx : Nat} {rt : Option FieldType} {a : Array Value} {s : State} {m : MethodId} {meth : Method} {c : Code} (h1 : s.methodNamed? y = some m) (h2 : s.vm.method? m = some meth) (h3 : meth.code = some c) (h4 : c.code = bytes)
    (h5 : (c.maxLocals == mx && c.exceptionTable.isEmpty && decide (c.maxStack ≤ mostOperands) && decide (meth.sig.returnType = rt) && !meth.locks && decide (parseMethodDescriptor y.desc = some meth.sig)) = true) : (Jvm.Cond.code y bytes mx rt).before a s = true := by
  simp only [Bool.and_eq_true, beq_iff_eq, Bool.not_eq_true', decide_eq_true_eq] at h5
  obtain ⟨⟨⟨⟨⟨g1, g2⟩, g3⟩, g4⟩, g5⟩, g6⟩ := h5
  simp [Cond.before, Cond.holds, Cond.value, h1, h2, h3, h4, g1, g2, g3, g4, g5, g6]
def isCode : Jvm.Cond → Bool
  | .code _ _ _ _ => true
  | _ => false
theorem all_split {L : List Jvm.Cond} {P : Jvm.Cond → Bool} (h1 : L.all (fun c => isCode c || P c) = true) (h2 : ∀ c ∈ L.filter isCode, P c = true) : L.all P = true := by
  refine List.all_eq_true.mpr fun c hc => ?_
  have h := List.all_eq_true.mp h1 c hc
  rcases Bool.eq_false_or_eq_true (isCode c) with hi | hi
  · exact h2 c (List.mem_filter.mpr ⟨hc, hi⟩)
  · simpa [hi] using h
set_option maxRecDepth 65536 in
theorem w_c0 : (Jvm.Cond.code x code maxLocals ret).before args0 about1 = true := code_word (m := ⟨1, 3⟩) (meth := k1m3) (c := k1c3) (by decide +kernel) rfl rfl rfl (by decide +kernel)
set_option maxRecDepth 65536 in
theorem w_c1 : (Jvm.Cond.code ({ cls := "com/example/tugas/tugas/TextRequireLengthPinLaw", name := "draw", desc := "(I)C" } : Jvm.MethodName) method_2_code (3 : Nat) (Option.some Jvm.ClassFile.FieldType.char)).before args0 about1 = true := code_word (m := ⟨1, 1⟩) (meth := k1m1) (c := k1c1) (by decide +kernel) rfl rfl rfl (by decide +kernel)
set_option maxRecDepth 65536 in
theorem w_c2 : (Jvm.Cond.code ({ cls := "java/lang/Math", name := "min", desc := "(JJ)J" } : Jvm.MethodName) jdk_29_method_70_code (4 : Nat) (Option.some Jvm.ClassFile.FieldType.long)).before args0 about1 = true := code_word (m := ⟨2, 1⟩) (meth := k2m1) (c := k2c1) (by decide +kernel) rfl rfl rfl (by decide +kernel)
set_option maxRecDepth 65536 in
theorem w_c3 : (Jvm.Cond.code ({ cls := "java/lang/String", name := "<init>", desc := "([C)V" } : Jvm.MethodName) jdk_42_method_3_code (2 : Nat) (Option.none : Option Jvm.ClassFile.FieldType)).before args0 about1 = true := code_word (m := ⟨8, 1⟩) (meth := k8m1) (c := k8c1) (by decide +kernel) rfl rfl rfl (by decide +kernel)
set_option maxRecDepth 65536 in
theorem w_c4 : (Jvm.Cond.code ({ cls := "java/lang/String", name := "<init>", desc := "([CIILjava/lang/Void;)V" } : Jvm.MethodName) jdk_42_method_149_code (6 : Nat) (Option.none : Option Jvm.ClassFile.FieldType)).before args0 about1 = true := code_word (m := ⟨8, 5⟩) (meth := k8m5) (c := k8c5) (by decide +kernel) rfl rfl rfl (by decide +kernel)
set_option maxRecDepth 65536 in
theorem w_c5 : (Jvm.Cond.code ({ cls := "java/lang/Object", name := "<init>", desc := "()V" } : Jvm.MethodName) object_method_1_code (1 : Nat) (Option.none : Option Jvm.ClassFile.FieldType)).before args0 about1 = true := code_word (m := ⟨0, 0⟩) (meth := k0m0) (c := k0c0) (by decide +kernel) rfl rfl rfl (by decide +kernel)
set_option maxRecDepth 65536 in
theorem w_c6 : (Jvm.Cond.code ({ cls := "java/lang/StringUTF16", name := "compress", desc := "([CII)[B" } : Jvm.MethodName) jdk_52_method_16_code (6 : Nat) (Option.some (Jvm.ClassFile.FieldType.array Jvm.ClassFile.FieldType.byte))).before args0 about1 = true := code_word (m := ⟨9, 9⟩) (meth := k9m9) (c := k9c9) (by decide +kernel) rfl rfl rfl (by decide +kernel)
set_option maxRecDepth 65536 in
theorem w_c7 : (Jvm.Cond.code ({ cls := "java/lang/StringUTF16", name := "compress", desc := "([CI[BII)I" } : Jvm.MethodName) jdk_52_method_21_code (7 : Nat) (Option.some Jvm.ClassFile.FieldType.int)).before args0 about1 = true := code_word (m := ⟨9, 10⟩) (meth := k9m10) (c := k9c10) (by decide +kernel) rfl rfl rfl (by decide +kernel)
set_option maxRecDepth 65536 in
theorem w_c8 : (Jvm.Cond.code ({ cls := "java/lang/StringUTF16", name := "coderFromArrayLen", desc := "([BI)B" } : Jvm.MethodName) jdk_52_method_15_code (2 : Nat) (Option.some Jvm.ClassFile.FieldType.byte)).before args0 about1 = true := code_word (m := ⟨9, 8⟩) (meth := k9m8) (c := k9c8) (by decide +kernel) rfl rfl rfl (by decide +kernel)
set_option maxRecDepth 65536 in
theorem w_c9 : (Jvm.Cond.code ({ cls := "com/example/tugas/tugas/Text", name := "requireLength", desc := "(Ljava/lang/String;Ljava/lang/String;I)Ljava/lang/String;" } : Jvm.MethodName) prog_15_method_2_code (3 : Nat) (Option.some (Jvm.ClassFile.FieldType.object "java/lang/String"))).before args0 about1 = true := code_word (m := ⟨10, 1⟩) (meth := k10m1) (c := k10c1) (by decide +kernel) rfl rfl rfl (by decide +kernel)
set_option maxRecDepth 65536 in
theorem w_c10 : (Jvm.Cond.code ({ cls := "java/lang/String", name := "isEmpty", desc := "()Z" } : Jvm.MethodName) jdk_42_method_55_code (1 : Nat) (Option.some Jvm.ClassFile.FieldType.boolean)).before args0 about1 = true := code_word (m := ⟨8, 3⟩) (meth := k8m3) (c := k8c3) (by decide +kernel) rfl rfl rfl (by decide +kernel)
set_option maxRecDepth 65536 in
theorem w_c11 : (Jvm.Cond.code ({ cls := "java/lang/String", name := "length", desc := "()I" } : Jvm.MethodName) jdk_42_method_54_code (1 : Nat) (Option.some Jvm.ClassFile.FieldType.int)).before args0 about1 = true := code_word (m := ⟨8, 2⟩) (meth := k8m2) (c := k8c2) (by decide +kernel) rfl rfl rfl (by decide +kernel)
set_option maxRecDepth 65536 in
theorem w_c12 : (Jvm.Cond.code ({ cls := "java/lang/String", name := "coder", desc := "()B" } : Jvm.MethodName) jdk_42_method_152_code (1 : Nat) (Option.some Jvm.ClassFile.FieldType.byte)).before args0 about1 = true := code_word (m := ⟨8, 6⟩) (meth := k8m6) (c := k8c6) (by decide +kernel) rfl rfl rfl (by decide +kernel)
set_option maxRecDepth 65536 in
theorem w_c13 : (Jvm.Cond.code ({ cls := "java/lang/String", name := "codePointCount", desc := "(II)I" } : Jvm.MethodName) jdk_42_method_59_code (3 : Nat) (Option.some Jvm.ClassFile.FieldType.int)).before args0 about1 = true := code_word (m := ⟨8, 4⟩) (meth := k8m4) (c := k8c4) (by decide +kernel) rfl rfl rfl (by decide +kernel)
set_option maxRecDepth 65536 in
theorem w_c14 : (Jvm.Cond.code ({ cls := "java/util/Objects", name := "checkFromToIndex", desc := "(III)I" } : Jvm.MethodName) jdk_31_method_18_code (3 : Nat) (Option.some Jvm.ClassFile.FieldType.int)).before args0 about1 = true := code_word (m := ⟨11, 1⟩) (meth := k11m1) (c := k11c1) (by decide +kernel) rfl rfl rfl (by decide +kernel)
set_option maxRecDepth 65536 in
theorem w_c15 : (Jvm.Cond.code ({ cls := "jdk/internal/util/Preconditions", name := "checkFromToIndex", desc := "(IIILjava/util/function/BiFunction;)I" } : Jvm.MethodName) jdk_41_method_12_code (4 : Nat) (Option.some Jvm.ClassFile.FieldType.int)).before args0 about1 = true := code_word (m := ⟨12, 1⟩) (meth := k12m1) (c := k12c1) (by decide +kernel) rfl rfl rfl (by decide +kernel)
set_option maxRecDepth 65536 in
theorem w_c16 : (Jvm.Cond.code ({ cls := "java/lang/String", name := "isLatin1", desc := "()Z" } : Jvm.MethodName) jdk_42_method_154_code (1 : Nat) (Option.some Jvm.ClassFile.FieldType.boolean)).before args0 about1 = true := code_word (m := ⟨8, 7⟩) (meth := k8m7) (c := k8c7) (by decide +kernel) rfl rfl rfl (by decide +kernel)
set_option maxRecDepth 65536 in
theorem w_c17 : (Jvm.Cond.code ({ cls := "com/example/tugas/tugas/TextRequireLengthPinLaw", name := "pair", desc := "(CC)Z" } : Jvm.MethodName) method_3_code (2 : Nat) (Option.some Jvm.ClassFile.FieldType.boolean)).before args0 about1 = true := code_word (m := ⟨1, 2⟩) (meth := k1m2) (c := k1c2) (by decide +kernel) rfl rfl rfl (by decide +kernel)
set_option maxRecDepth 65536 in
theorem w_c18 : (Jvm.Cond.code ({ cls := "java/lang/StringUTF16", name := "toBytes", desc := "([CII)[B" } : Jvm.MethodName) jdk_52_method_14_code (5 : Nat) (Option.some (Jvm.ClassFile.FieldType.array Jvm.ClassFile.FieldType.byte))).before args0 about1 = true := code_word (m := ⟨9, 7⟩) (meth := k9m7) (c := k9c7) (by decide +kernel) rfl rfl rfl (by decide +kernel)
set_option maxRecDepth 65536 in
theorem w_c19 : (Jvm.Cond.code ({ cls := "java/lang/StringUTF16", name := "newBytesFor", desc := "(I)[B" } : Jvm.MethodName) jdk_52_method_2_code (1 : Nat) (Option.some (Jvm.ClassFile.FieldType.array Jvm.ClassFile.FieldType.byte))).before args0 about1 = true := code_word (m := ⟨9, 1⟩) (meth := k9m1) (c := k9c1) (by decide +kernel) rfl rfl rfl (by decide +kernel)
set_option maxRecDepth 65536 in
theorem w_c20 : (Jvm.Cond.code ({ cls := "java/lang/StringUTF16", name := "newBytesLength", desc := "(I)I" } : Jvm.MethodName) jdk_52_method_3_code (1 : Nat) (Option.some Jvm.ClassFile.FieldType.int)).before args0 about1 = true := code_word (m := ⟨9, 2⟩) (meth := k9m2) (c := k9c2) (by decide +kernel) rfl rfl rfl (by decide +kernel)
set_option maxRecDepth 65536 in
theorem w_c21 : (Jvm.Cond.code ({ cls := "java/lang/StringUTF16", name := "putChar", desc := "([BII)V" } : Jvm.MethodName) jdk_52_method_4_code (3 : Nat) (Option.none : Option Jvm.ClassFile.FieldType)).before args0 about1 = true := code_word (m := ⟨9, 3⟩) (meth := k9m3) (c := k9c3) (by decide +kernel) rfl rfl rfl (by decide +kernel)
set_option maxRecDepth 65536 in
theorem w_c22 : (Jvm.Cond.code ({ cls := "java/lang/StringUTF16", name := "getChar", desc := "([BI)C" } : Jvm.MethodName) jdk_52_method_5_code (2 : Nat) (Option.some Jvm.ClassFile.FieldType.char)).before args0 about1 = true := code_word (m := ⟨9, 4⟩) (meth := k9m4) (c := k9c4) (by decide +kernel) rfl rfl rfl (by decide +kernel)
set_option maxRecDepth 65536 in
theorem w_c23 : (Jvm.Cond.code ({ cls := "java/lang/StringUTF16", name := "codePointCount", desc := "([BII)I" } : Jvm.MethodName) jdk_52_method_12_code (3 : Nat) (Option.some Jvm.ClassFile.FieldType.int)).before args0 about1 = true := code_word (m := ⟨9, 6⟩) (meth := k9m6) (c := k9c6) (by decide +kernel) rfl rfl rfl (by decide +kernel)
set_option maxRecDepth 65536 in
theorem w_c24 : (Jvm.Cond.code ({ cls := "java/lang/StringUTF16", name := "codePointCount", desc := "([BIIZ)I" } : Jvm.MethodName) jdk_52_method_11_code (6 : Nat) (Option.some Jvm.ClassFile.FieldType.int)).before args0 about1 = true := code_word (m := ⟨9, 5⟩) (meth := k9m5) (c := k9c5) (by decide +kernel) rfl rfl rfl (by decide +kernel)
set_option maxRecDepth 65536 in
theorem w_c25 : (Jvm.Cond.code ({ cls := "java/lang/Character", name := "isHighSurrogate", desc := "(C)Z" } : Jvm.MethodName) jdk_89_method_14_code (1 : Nat) (Option.some Jvm.ClassFile.FieldType.boolean)).before args0 about1 = true := code_word (m := ⟨13, 0⟩) (meth := k13m0) (c := k13c0) (by decide +kernel) rfl rfl rfl (by decide +kernel)
set_option maxRecDepth 65536 in
theorem w_c26 : (Jvm.Cond.code ({ cls := "java/lang/Character", name := "isLowSurrogate", desc := "(C)Z" } : Jvm.MethodName) jdk_89_method_15_code (1 : Nat) (Option.some Jvm.ClassFile.FieldType.boolean)).before args0 about1 = true := code_word (m := ⟨13, 1⟩) (meth := k13m1) (c := k13c1) (by decide +kernel) rfl rfl rfl (by decide +kernel)
def codes1 : List Jvm.Cond := [Jvm.Cond.code x code maxLocals ret, Jvm.Cond.code ({ cls := "com/example/tugas/tugas/TextRequireLengthPinLaw", name := "draw", desc := "(I)C" } : Jvm.MethodName) method_2_code (3 : Nat) (Option.some Jvm.ClassFile.FieldType.char), Jvm.Cond.code ({ cls := "java/lang/Math", name := "min", desc := "(JJ)J" } : Jvm.MethodName) jdk_29_method_70_code (4 : Nat) (Option.some Jvm.ClassFile.FieldType.long), Jvm.Cond.code ({ cls := "java/lang/String", name := "<init>", desc := "([C)V" } : Jvm.MethodName) jdk_42_method_3_code (2 : Nat) (Option.none : Option Jvm.ClassFile.FieldType), Jvm.Cond.code ({ cls := "java/lang/String", name := "<init>", desc := "([CIILjava/lang/Void;)V" } : Jvm.MethodName) jdk_42_method_149_code (6 : Nat) (Option.none : Option Jvm.ClassFile.FieldType), Jvm.Cond.code ({ cls := "java/lang/Object", name := "<init>", desc := "()V" } : Jvm.MethodName) object_method_1_code (1 : Nat) (Option.none : Option Jvm.ClassFile.FieldType), Jvm.Cond.code ({ cls := "java/lang/StringUTF16", name := "compress", desc := "([CII)[B" } : Jvm.MethodName) jdk_52_method_16_code (6 : Nat) (Option.some (Jvm.ClassFile.FieldType.array Jvm.ClassFile.FieldType.byte)), Jvm.Cond.code ({ cls := "java/lang/StringUTF16", name := "compress", desc := "([CI[BII)I" } : Jvm.MethodName) jdk_52_method_21_code (7 : Nat) (Option.some Jvm.ClassFile.FieldType.int), Jvm.Cond.code ({ cls := "java/lang/StringUTF16", name := "coderFromArrayLen", desc := "([BI)B" } : Jvm.MethodName) jdk_52_method_15_code (2 : Nat) (Option.some Jvm.ClassFile.FieldType.byte), Jvm.Cond.code ({ cls := "com/example/tugas/tugas/Text", name := "requireLength", desc := "(Ljava/lang/String;Ljava/lang/String;I)Ljava/lang/String;" } : Jvm.MethodName) prog_15_method_2_code (3 : Nat) (Option.some (Jvm.ClassFile.FieldType.object "java/lang/String")), Jvm.Cond.code ({ cls := "java/lang/String", name := "isEmpty", desc := "()Z" } : Jvm.MethodName) jdk_42_method_55_code (1 : Nat) (Option.some Jvm.ClassFile.FieldType.boolean), Jvm.Cond.code ({ cls := "java/lang/String", name := "length", desc := "()I" } : Jvm.MethodName) jdk_42_method_54_code (1 : Nat) (Option.some Jvm.ClassFile.FieldType.int), Jvm.Cond.code ({ cls := "java/lang/String", name := "coder", desc := "()B" } : Jvm.MethodName) jdk_42_method_152_code (1 : Nat) (Option.some Jvm.ClassFile.FieldType.byte), Jvm.Cond.code ({ cls := "java/lang/String", name := "codePointCount", desc := "(II)I" } : Jvm.MethodName) jdk_42_method_59_code (3 : Nat) (Option.some Jvm.ClassFile.FieldType.int), Jvm.Cond.code ({ cls := "java/util/Objects", name := "checkFromToIndex", desc := "(III)I" } : Jvm.MethodName) jdk_31_method_18_code (3 : Nat) (Option.some Jvm.ClassFile.FieldType.int), Jvm.Cond.code ({ cls := "jdk/internal/util/Preconditions", name := "checkFromToIndex", desc := "(IIILjava/util/function/BiFunction;)I" } : Jvm.MethodName) jdk_41_method_12_code (4 : Nat) (Option.some Jvm.ClassFile.FieldType.int), Jvm.Cond.code ({ cls := "java/lang/String", name := "isLatin1", desc := "()Z" } : Jvm.MethodName) jdk_42_method_154_code (1 : Nat) (Option.some Jvm.ClassFile.FieldType.boolean), Jvm.Cond.code ({ cls := "com/example/tugas/tugas/TextRequireLengthPinLaw", name := "pair", desc := "(CC)Z" } : Jvm.MethodName) method_3_code (2 : Nat) (Option.some Jvm.ClassFile.FieldType.boolean), Jvm.Cond.code ({ cls := "java/lang/StringUTF16", name := "toBytes", desc := "([CII)[B" } : Jvm.MethodName) jdk_52_method_14_code (5 : Nat) (Option.some (Jvm.ClassFile.FieldType.array Jvm.ClassFile.FieldType.byte)), Jvm.Cond.code ({ cls := "java/lang/StringUTF16", name := "newBytesFor", desc := "(I)[B" } : Jvm.MethodName) jdk_52_method_2_code (1 : Nat) (Option.some (Jvm.ClassFile.FieldType.array Jvm.ClassFile.FieldType.byte)), Jvm.Cond.code ({ cls := "java/lang/StringUTF16", name := "newBytesLength", desc := "(I)I" } : Jvm.MethodName) jdk_52_method_3_code (1 : Nat) (Option.some Jvm.ClassFile.FieldType.int), Jvm.Cond.code ({ cls := "java/lang/StringUTF16", name := "putChar", desc := "([BII)V" } : Jvm.MethodName) jdk_52_method_4_code (3 : Nat) (Option.none : Option Jvm.ClassFile.FieldType), Jvm.Cond.code ({ cls := "java/lang/StringUTF16", name := "getChar", desc := "([BI)C" } : Jvm.MethodName) jdk_52_method_5_code (2 : Nat) (Option.some Jvm.ClassFile.FieldType.char), Jvm.Cond.code ({ cls := "java/lang/StringUTF16", name := "codePointCount", desc := "([BII)I" } : Jvm.MethodName) jdk_52_method_12_code (3 : Nat) (Option.some Jvm.ClassFile.FieldType.int), Jvm.Cond.code ({ cls := "java/lang/StringUTF16", name := "codePointCount", desc := "([BIIZ)I" } : Jvm.MethodName) jdk_52_method_11_code (6 : Nat) (Option.some Jvm.ClassFile.FieldType.int), Jvm.Cond.code ({ cls := "java/lang/Character", name := "isHighSurrogate", desc := "(C)Z" } : Jvm.MethodName) jdk_89_method_14_code (1 : Nat) (Option.some Jvm.ClassFile.FieldType.boolean), Jvm.Cond.code ({ cls := "java/lang/Character", name := "isLowSurrogate", desc := "(C)Z" } : Jvm.MethodName) jdk_89_method_15_code (1 : Nat) (Option.some Jvm.ClassFile.FieldType.boolean)]
set_option maxRecDepth 65536 in
theorem codes_eq : words1.filter isCode = codes1 := rfl
theorem w_codes : ∀ c ∈ words1.filter isCode, c.before args0 about1 = true := by
  rw [codes_eq]
  intro c hc
  simp only [codes1, List.mem_cons, List.not_mem_nil, or_false] at hc
  rcases hc with rfl | rfl | rfl | rfl | rfl | rfl | rfl | rfl | rfl | rfl | rfl | rfl | rfl | rfl | rfl | rfl | rfl | rfl | rfl | rfl | rfl | rfl | rfl | rfl | rfl | rfl | rfl
  · exact w_c0
  · exact w_c1
  · exact w_c2
  · exact w_c3
  · exact w_c4
  · exact w_c5
  · exact w_c6
  · exact w_c7
  · exact w_c8
  · exact w_c9
  · exact w_c10
  · exact w_c11
  · exact w_c12
  · exact w_c13
  · exact w_c14
  · exact w_c15
  · exact w_c16
  · exact w_c17
  · exact w_c18
  · exact w_c19
  · exact w_c20
  · exact w_c21
  · exact w_c22
  · exact w_c23
  · exact w_c24
  · exact w_c25
  · exact w_c26
set_option maxRecDepth 65536 in
theorem w_t1 : (words1.take 24).all (fun c => isCode c || c.before args0 about1) = true := by decide +kernel
set_option maxRecDepth 65536 in
theorem w_t2 : ((words1.drop 24).take 24).all (fun c => isCode c || c.before args0 about1) = true := by decide +kernel
set_option maxRecDepth 65536 in
theorem w_t3 : (((words1.drop 24).drop 24).take 24).all (fun c => isCode c || c.before args0 about1) = true := by decide +kernel
set_option maxRecDepth 65536 in
theorem w_t4 : ((((words1.drop 24).drop 24).drop 24).take 24).all (fun c => isCode c || c.before args0 about1) = true := by decide +kernel
set_option maxRecDepth 65536 in
theorem w_t5 : (((((words1.drop 24).drop 24).drop 24).drop 24).take 24).all (fun c => isCode c || c.before args0 about1) = true := by decide +kernel
set_option maxRecDepth 65536 in
theorem w_t6 : (((((words1.drop 24).drop 24).drop 24).drop 24).drop 24).all (fun c => isCode c || c.before args0 about1) = true := by decide +kernel
theorem w_tables : (allAtoms (Jvm.Cond.code x code maxLocals ret :: tables_1)).before args0 about1 = true := by
  rw [allAtoms_all]
  show words1.all (fun c => c.before args0 about1) = true
  refine all_split ?_ w_codes
  rw [← List.take_append_drop 24 words1, List.all_append, w_t1, ← List.take_append_drop 24 (words1.drop 24), List.all_append, w_t2, ← List.take_append_drop 24 ((words1.drop 24).drop 24), List.all_append, w_t3, ← List.take_append_drop 24 (((words1.drop 24).drop 24).drop 24), List.all_append, w_t4, ← List.take_append_drop 24 ((((words1.drop 24).drop 24).drop 24).drop 24), List.all_append, w_t5, w_t6]
  rfl
set_option maxRecDepth 65536 in
theorem w_rest : rest_1_c.before args0 about1 = true := by decide +kernel
set_option maxRecDepth 65536 in
theorem w_case : (Jvm.Cond.and given_1 narrow_1).before args0 about1 = true := by decide +kernel
theorem w_applies : (headSpec (Jvm.Cond.code x code maxLocals ret :: tables_1) room_1).applies x e0.platform about1 = true :=
  (Spec.applies_iff w_frames).mpr ⟨w_running, w_runnable, w_alone, w_named, w_hears, w_ripe, w_room, w_tables⟩
theorem atStart : AtStart classFile x code maxLocals ret World_1 tables_1 room_1 Calls_1 rest_1 Pre_1 launch0 p0 e0 about1 theMethod args0 below0 :=
  ⟨lists_1, trivial, launch0.admits_env _ _ _, launch0.least_env, fairChoices_fair.cas, fairChoices_fair.clock, w_frames, w_args, w_heap, w_applies, trivial, w_rest, w_case⟩
end start1
theorem witness_1 : WitnessClaimed_1 := ⟨start1.p0, start1.e0, start1.about1, start1.theMethod, start1.args0, start1.below0, start1.atStart⟩
end Jvm.Pilot.@@N@@
