import JvmDerived
import JvmDerived.Pilot.@@N@@Statement
import JvmDerived.Pilot.@@N@@Code
set_option linter.unusedVariables false
set_option linter.unusedSimpArgs false
namespace Jvm.Pilot.@@N@@
namespace GK
open Jvm Jvm.ClassFile Sem Op Lib Jvm.Free Jvm.Stand Jvm.LawKit Jvm.RoadKit Bundle
/-! A small program logic over the library's walks: 'Go' says that from a frame at pc the body runs to its return, and what holds there. -/
abbrev Md := Option (List (String × Nat))
def Bk0 (md : Md) (Z s : State) (sf : List Addr) (vm0 : Vm) (h : Heap) : Prop :=
  match md with
  | none => vm0 = s.vm
  | some EL => (∃ k, s.Since vm0 k ∧ k ≤ h.size) ∧ (∃ a0, EW Z a0 EL) ∧ CHr Z EL s.vm s.heap vm0 h ∧ ∀ x ∈ sf, x < h.size ∧ Safe Z EL vm0 h x
/-- what is kept along a walk: the start's cells stand; the tables' book -/
def Bok (md : Md) (Z : State) (n0 : Nat) (s : State) (sf : List Addr) (vm0 : Vm) (h : Heap) : Prop := Old Z n0 h ∧ Bk0 md Z s sf vm0 h
def SafeAll (md : Md) (Z : State) (sf : List Addr) (vm : Vm) (h : Heap) : Prop :=
  match md with
  | none => True
  | some EL => ∀ x ∈ sf, x < h.size ∧ Safe Z EL vm h x
def FinE (md : Md) (Z s : State) (o : Outcome) (t : State) (L : List Loc) (k n : Nat) : Prop :=
  match md with
  | none => FrameEnd s o t L k n
  | some EL => CHr Z EL s.vm s.heap t.vm t.heap ∧ ReturnedEndW s o t L k n
section B
variable {md : Md} {EL : List (String × Nat)} {Z s : State} {n0 : Nat} {sf sf' ws : List Addr} {vm0 vm1 : Vm} {h h' h2 : Heap} {x a : Addr} {sl : Nat} {v : Value}
theorem extR (h : Heap) : Ext h h := ⟨Nat.le_refl _, fun _ _ q => q⟩
theorem extT (E : Ext h h') (E' : Ext h' h2) : Ext h h2 := ⟨Nat.le_trans E.1 E'.1, fun a c q => E'.2 a c (E.2 a c q)⟩
/-- a write beyond h -/
theorem extW (E : Ext h h') (W : Wr h' h2 a sl v) (q : h.size ≤ a) : Ext h h2 := by
  obtain ⟨c, -, -, -, rfl⟩ := W
  refine ⟨by simpa using E.1, fun b cb hb => ?_⟩
  have hlt := (Array.getElem?_eq_some_iff.mp hb).1
  rw [Array.getElem?_setIfInBounds_ne (by omega)]
  exact E.2 b cb hb
theorem extK (E : Ext h h') (K : Keep h' h2 ws) (q : ∀ x ∈ ws, h.size ≤ x) : Ext h h2 :=
  ⟨Nat.le_trans E.1 K.1, fun b cb hb => K.2.1 b cb (E.2 b cb hb) fun z => by
    have hlt := (Array.getElem?_eq_some_iff.mp hb).1
    have := q b z; omega⟩
theorem keepE (E : Ext h h') (ws : List Addr) : Keep h h' ws := (Keep.refl h ws).ext E
theorem Bok.n0le (B : Bok md Z n0 s sf vm0 h) : n0 ≤ h.size := B.1.1 ▸ B.1.2.1
theorem Bok.sub (B : Bok md Z n0 s sf vm0 h) (q : ∀ x ∈ sf', x ∈ sf) : Bok md Z n0 s sf' vm0 h := by
  cases md with
  | none => exact B
  | some EL => exact ⟨B.1, B.2.1, B.2.2.1, B.2.2.2.1, fun x hx => B.2.2.2.2 x (q x hx)⟩
theorem Bok.keep (B : Bok md Z n0 s sf vm0 h) (K : Keep h h' ws) (q : ∀ x ∈ ws, x ∈ sf) (q0 : ∀ x ∈ ws, n0 ≤ x) : Bok md Z n0 s sf vm0 h' := by
  refine ⟨B.1.keep K q0, ?_⟩
  cases md with
  | none => exact B.2
  | some EL =>
    obtain ⟨-, ⟨k, h1, h2⟩, h3, h4, h5⟩ := B
    have C := CHr.keep K (fun x hx => (h5 x (q x hx)).2) h4.1
    exact ⟨⟨k, h1, Nat.le_trans h2 K.1⟩, h3, h4.trans C, fun x hx => ⟨Nat.lt_of_lt_of_le (h5 x hx).1 K.1, C.safe (h5 x hx).1 (h5 x hx).2⟩⟩
theorem Bok.wr (B : Bok md Z n0 s sf vm0 h) (W : Wr h h' a sl v) (q : a ∈ sf) (q0 : n0 ≤ a) : Bok md Z n0 s sf vm0 h' :=
  B.keep (Keep.of_wr W) (fun x hx => by cases List.mem_singleton.mp hx; exact q) (fun x hx => by cases List.mem_singleton.mp hx; exact q0)
theorem Bok.ext (B : Bok md Z n0 s sf vm0 h) (E : Ext h h') : Bok md Z n0 s sf vm0 h' :=
  B.keep (keepE E []) (fun x hx => nomatch hx) (fun x hx => nomatch hx)
theorem Bok.new (B : Bok md Z n0 s sf vm0 h) (E : Ext h h') (q : x < h'.size) (r : h.size ≤ x) : Bok md Z n0 s (x :: sf) vm0 h' := by
  have B' := B.ext E
  cases md with
  | none => exact B'
  | some EL =>
    refine ⟨B'.1, B'.2.1, B'.2.2.1, B'.2.2.2.1, fun y hy => ?_⟩
    rcases List.mem_cons.mp hy with rfl | hy
    · exact ⟨q, fun b => Safe.new r ((B.2.2.2.1.1.step fun _ _ _ q => E.2 _ _ q).2 _ b)⟩
    · exact B'.2.2.2.2 y hy
end B
/-- Java's x >>> y -/
def ushr (x y : Int32) : Int32 := (x.toUInt32 >>> (y &&& 31).toUInt32).toInt32
def ushrL (x : Int64) (y : Int32) : Int64 := (x.toUInt64 >>> (y &&& 0x3f).toInt64.toUInt64).toInt64
/-- (char) x -/
def chr (x : Int32) : Int32 := x.toUInt32.toUInt16.toUInt32.toInt32
def Go (md : Md) (l : Launch) (Z : State) (n0 : Nat) (R : Room) (bytes : ByteArray) (ml : Nat) (ret : Option FieldType) (own mn : String) (Ψ : Option Value → Heap → List Addr → Prop)
    (cells slots : Nat) (sf : List Addr) (h : Heap) (pc : Nat) (L : Array Slot) (S : List Value) : Prop :=
  ∀ (p : Program) (e : Env) (s : State) (m : MethodId) (args : Array Value) (below : List Frame) (meth : Method) (c : Code) (vm0 : Vm) (T : State) (locs : List Loc),
    p.tables.exec = Jvm.exec → c.code = bytes → c.maxLocals = ml → meth.sig.returnType = ret → meth.locks = false → meth.name = mn → Z.vm.findClass own = some m.cls →
    Stand p l e R (s.setVm vm0) m args below meth c T locs cells slots → T.heap = h → Z.Warmed39 vm0 → Bok md Z n0 s sf vm0 h → Fr n0 locs →
    ∃ (s₂ : State) (o : Outcome), Steps p.tables e below (T.setTop (mkF m pc L S)) s₂ ∧ s₂.status = .running ∧ Ended s₂ below o ∧
      ∃ (v : Option Value) (L' : List Loc) (sf' : List Addr), o = .returned v ∧ Ψ v s₂.heap sf' ∧ Old Z n0 s₂.heap ∧ Fr n0 L' ∧ SafeAll md Z sf' s₂.vm s₂.heap ∧ FinE md Z s o s₂ L' R.cells R.slots
section G
variable {md : Md} {EL : List (String × Nat)} {l : Launch} {Z : State} {n0 : Nat} {R : Room} {bytes : ByteArray} {ml : Nat} {ret : Option FieldType} {own mn : String} {Ψ : Option Value → Heap → List Addr → Prop}
  {cells slots : Nat} {sf : List Addr} {h h' : Heap} {pc : Nat} {L : Array Slot} {S : List Value} {a0 : Array Value}
theorem Go.more {cells' slots' : Nat} {sf' : List Addr} (G : Go md l Z n0 R bytes ml ret own mn Ψ cells' slots' sf' h pc L S) (hc : cells ≤ cells') (hs : slots ≤ slots') (q : ∀ x ∈ sf', x ∈ sf) : Go md l Z n0 R bytes ml ret own mn Ψ cells slots sf h pc L S := by
  intro p e s m args below meth c vm0 T locs hx hby hml hr hlk hn ho X eT hZ B N
  exact G p e s m args below meth c vm0 T locs hx hby hml hr hlk hn ho (X.more hc hs) eT hZ (B.sub q) N
theorem Go.old (G : Old Z n0 h → n0 ≤ h.size → Go md l Z n0 R bytes ml ret own mn Ψ cells slots sf h pc L S) : Go md l Z n0 R bytes ml ret own mn Ψ cells slots sf h pc L S := by
  intro p e s m args below meth c vm0 T locs hx hby hml hr hlk hn ho X eT hZ B N
  exact G B.1 B.n0le p e s m args below meth c vm0 T locs hx hby hml hr hlk hn ho X eT hZ B N
theorem Go.pure {L' : Array Slot} {S' : List Value} (pc' : Nat) (k : ∀ (p : Program) (e : Env) (below : List Frame) (T target : State) (m : MethodId) (c : Code), At T m c below → p.tables.exec = Jvm.exec → c.code = bytes → Steps p.tables e below (T.setTop (mkF m pc' L' S')) target → Steps p.tables e below (T.setTop (mkF m pc L S)) target)
    (G : Go md l Z n0 R bytes ml ret own mn Ψ cells slots sf h pc' L' S') : Go md l Z n0 R bytes ml ret own mn Ψ cells slots sf h pc L S := by
  intro p e s m args below meth c vm0 T locs hx hby hml hr hlk hn ho X eT hZ B N
  obtain ⟨s₂, o, h1, r⟩ := G p e s m args below meth c vm0 T locs hx hby hml hr hlk hn ho X eT hZ B N
  exact ⟨s₂, o, k _ _ _ _ _ _ _ X.here hx hby h1, r⟩
/-- a step that may warm the tables and leaves the heap as it was -/
theorem Go.warm {L' : Array Slot} {S' : List Value} (pc' : Nat) (k : ∀ (p : Program) (e : Env) (s : State) (m : MethodId) (args : Array Value) (below : List Frame) (meth : Method) (c : Code) (T : State) (locs : List Loc), p.tables.exec = Jvm.exec → c.code = bytes → c.maxLocals = ml → Z.Warmed39 s.vm → s.vm.findClass own = some m.cls →
      Stand p l e R s m args below meth c T locs cells slots → T.heap = h → ∃ T', Stand p l e R s m args below meth c T' locs cells slots ∧ T'.heap = h ∧ ∀ target, Steps p.tables e below (T'.setTop (mkF m pc' L' S')) target → Steps p.tables e below (T.setTop (mkF m pc L S)) target)
    (G : Go md l Z n0 R bytes ml ret own mn Ψ cells slots sf h pc' L' S') : Go md l Z n0 R bytes ml ret own mn Ψ cells slots sf h pc L S := by
  intro p e s m args below meth c vm0 T locs hx hby hml hr hlk hn ho X eT hZ B N
  obtain ⟨T', X', e', st⟩ := k p e (s.setVm vm0) m args below meth c T locs hx hby hml hZ (by rw [show (s.setVm vm0).vm = vm0 from rfl, hZ.alike.findClass]; exact ho) X eT
  obtain ⟨s₂, o, h1, r⟩ := G p e s m args below meth c vm0 T' locs hx hby hml hr hlk hn ho X' e' hZ B N
  exact ⟨s₂, o, st _ h1, r⟩
/-- a write at a place of the object a -/
theorem Go.write {L' : Array Slot} {S' : List Value} {a : Addr} {sl : Nat} {v : Value} (pc' : Nat) (ha : a ∈ sf) (hn0 : n0 ≤ a) (k : ∀ (p : Program) (e : Env) (s : State) (m : MethodId) (args : Array Value) (below : List Frame) (meth : Method) (c : Code) (T : State) (locs : List Loc), p.tables.exec = Jvm.exec → c.code = bytes → c.maxLocals = ml → meth.name = mn → Z.Warmed39 s.vm → s.vm.findClass own = some m.cls →
      Stand p l e R s m args below meth c T locs cells slots → T.heap = h → ∃ T' h', Stand p l e R s m args below meth c T' (locs ++ [⟨a, sl⟩]) cells slots ∧ T'.heap = h' ∧ Wr h h' a sl v ∧ ∀ target, Steps p.tables e below (T'.setTop (mkF m pc' L' S')) target → Steps p.tables e below (T.setTop (mkF m pc L S)) target)
    (G : ∀ h', Wr h h' a sl v → Go md l Z n0 R bytes ml ret own mn Ψ cells slots sf h' pc' L' S') : Go md l Z n0 R bytes ml ret own mn Ψ cells slots sf h pc L S := by
  intro p e s m args below meth c vm0 T locs hx hby hml hr hlk hn ho X eT hZ B N
  obtain ⟨T', h', X', e', W, st⟩ := k p e (s.setVm vm0) m args below meth c T locs hx hby hml hn hZ (by rw [show (s.setVm vm0).vm = vm0 from rfl, hZ.alike.findClass]; exact ho) X eT
  obtain ⟨s₂, o, h1, r⟩ := G h' W p e s m args below meth c vm0 T' _ hx hby hml hr hlk hn ho X' e' hZ (B.wr W ha hn0) (Fr.snoc X' N hn0)
  exact ⟨s₂, o, st _ h1, r⟩
/-! the ends -/
theorem fin_ret {p : Program} {e : Env} {s : State} {m : MethodId} {args : Array Value} {below : List Frame} {meth : Method} {c : Code} {vm0 : Vm} {T : State} {locs : List Loc} {sf' : List Addr} {g : JFrame}
    (X : Stand p l e R (s.setVm vm0) m args below meth c T locs cells slots) (eT : T.heap = h) (hZ : Z.Warmed39 vm0) (B : Bok md Z n0 s sf vm0 h) (N : Fr n0 locs) {v : Option Value} (hv : meth.sig.returnType = none → v = none) (hlk : meth.locks = false) (hc : cells ≤ R.cells) (hs : slots ≤ R.slots)
    (Q : Ψ v h sf') (hsub : ∀ x ∈ sf', x ∈ sf)
    (st : ∀ fs, (∀ (f : JFrame) (acts : List Action), f.method = m → f.locked = none → f.entered = [] → (doReturn e (T.setTop f) acts v).1 = T.setFrames fs) → Steps p.tables e below (T.setTop g) (T.setFrames fs)) :
    ∃ (s₂ : State) (o : Outcome), Steps p.tables e below (T.setTop g) s₂ ∧ s₂.status = .running ∧ Ended s₂ below o ∧
      ∃ (v : Option Value) (L' : List Loc) (sf' : List Addr), o = .returned v ∧ Ψ v s₂.heap sf' ∧ Old Z n0 s₂.heap ∧ Fr n0 L' ∧ SafeAll md Z sf' s₂.vm s₂.heap ∧ FinE md Z s o s₂ L' R.cells R.slots := by
  have eh : ∀ fs, (T.setFrames fs).heap = h := fun fs => eT
  cases md with
  | none =>
    obtain rfl : vm0 = s.vm := B.2
    obtain ⟨fs, hr, hrun, hended, hW, hsame⟩ := X.leave hv hlk
    exact ⟨_, _, st fs hr, hrun, hended, v, locs, sf', rfl, by rw [eh]; exact Q, by rw [eh]; exact B.1, N, trivial, ⟨_, rfl⟩, hW, hsame.mono hc hs⟩
  | some EL =>
    obtain ⟨h0, ⟨k, h1, h2⟩, ⟨a0, h3⟩, h4, h5⟩ := B
    obtain ⟨fs, hr, hrun, hended, hW⟩ := X.leaveW h1 (by rw [eT]; exact h2) hv hlk
    have C : CHr Z EL vm0 h T.vm h := CHv.at X hZ h3 h4.1
    refine ⟨_, _, st fs hr, hrun, hended, v, locs, sf', rfl, by rw [eh]; exact Q, by rw [eh]; exact h0, N, fun x hx => ?_, ?_, hW.1, hW.2.1, hW.2.2.1, hW.2.2.2.mono hc hs⟩
    · rw [eh]; exact ⟨(h5 x (hsub x hx)).1, C.safe (h5 x (hsub x hx)).1 (h5 x (hsub x hx)).2⟩
    · rw [eh]; exact h4.trans C
theorem Go.ret0 (hd : decode bytes pc = .ok (.return_, 1)) (hret : ret = none) {sf' : List Addr} (Q : Ψ none h sf') (hsub : ∀ x ∈ sf', x ∈ sf) (hc : cells ≤ R.cells) (hs : slots ≤ R.slots) : Go md l Z n0 R bytes ml ret own mn Ψ cells slots sf h pc L [] := by
  intro p e s m args below meth c vm0 T locs hx hby hml hr hlk hn ho X eT hZ B N
  exact fin_ret X eT hZ B N (fun _ => rfl) hlk hc hs Q hsub fun fs hl => X.returnOut hx (hr.trans hret) (hb hby hd) hl
theorem Go.retW {t : FieldType} {w : Value} {i : Instr} (hd : decode bytes pc = .ok (i, 1)) (hret : ret = some t) (hn' : narrow t w = w)
    (hi : (i = .ireturn ∧ (t = .int ∨ t = .boolean ∨ t = .byte ∨ t = .char ∨ t = .short) ∧ ∃ z, w = .int z) ∨ (i = .lreturn ∧ t = .long ∧ ∃ z, w = .long z) ∨ (i = .dreturn ∧ t = .double ∧ ∃ z, w = .double z) ∨ (i = .freturn ∧ t = .float ∧ ∃ z, w = .float z) ∨ (i = .areturn ∧ t.isReference = true ∧ w.isRef = true))
    {sf' : List Addr} (Q : Ψ (some w) h sf') (hsub : ∀ x ∈ sf', x ∈ sf) (hc : cells ≤ R.cells) (hs : slots ≤ R.slots) : Go md l Z n0 R bytes ml ret own mn Ψ cells slots sf h pc L (w :: S) := by
  intro p e s m args below meth c vm0 T locs hx hby hml hr hlk hn ho X eT hZ B N
  exact fin_ret X eT hZ B N (fun q => by rw [hr, hret] at q; cases q) hlk hc hs Q hsub fun fs hl => retOut X hx (hr.trans hret) hn' hi (hb hby hd) hl
theorem Go.retI {z : Int32} (hd : decode bytes pc = .ok (.ireturn, 1)) (hret : ret = some .int) {sf' : List Addr} (Q : Ψ (some (.int z)) h sf') (hsub : ∀ x ∈ sf', x ∈ sf) (hc : cells ≤ R.cells) (hs : slots ≤ R.slots) : Go md l Z n0 R bytes ml ret own mn Ψ cells slots sf h pc L (.int z :: S) :=
  Go.retW hd hret rfl (Or.inl ⟨rfl, Or.inl rfl, _, rfl⟩) Q hsub hc hs
theorem Go.retJ {z : Int64} (hd : decode bytes pc = .ok (.lreturn, 1)) (hret : ret = some .long) {sf' : List Addr} (Q : Ψ (some (.long z)) h sf') (hsub : ∀ x ∈ sf', x ∈ sf) (hc : cells ≤ R.cells) (hs : slots ≤ R.slots) : Go md l Z n0 R bytes ml ret own mn Ψ cells slots sf h pc L (.long z :: S) :=
  Go.retW hd hret rfl (Or.inr (Or.inl ⟨rfl, rfl, _, rfl⟩)) Q hsub hc hs
theorem Go.retA {t : FieldType} {w : Value} (hd : decode bytes pc = .ok (.areturn, 1)) (hret : ret = some t) (ht : t.isReference = true) (hw : w.isRef = true) {sf' : List Addr} (Q : Ψ (some w) h sf') (hsub : ∀ x ∈ sf', x ∈ sf) (hc : cells ≤ R.cells) (hs : slots ≤ R.slots) : Go md l Z n0 R bytes ml ret own mn Ψ cells slots sf h pc L (w :: S) :=
  Go.retW hd hret (by cases t <;> cases w <;> first | rfl | cases ht | cases hw) (Or.inr (Or.inr (Or.inr (Or.inr ⟨rfl, ht, hw⟩)))) Q hsub hc hs
theorem Go.retN {t : FieldType} {z : Int32} (v : Int32) (hd : decode bytes pc = .ok (.ireturn, 1)) (hret : ret = some t) (ht : t = .boolean ∨ t = .byte ∨ t = .char ∨ t = .short) (hv : nar t z = v) {sf' : List Addr} (Q : Ψ (some (.int v)) h sf') (hsub : ∀ x ∈ sf', x ∈ sf) (hc : cells ≤ R.cells) (hs : slots ≤ R.slots) :
    Go md l Z n0 R bytes ml ret own mn Ψ cells slots sf h pc L (.int z :: S) := by
  subst hv
  intro p e s m args below meth c vm0 T locs hx hby hml hr hlk hn ho X eT hZ B N
  exact fin_ret X eT hZ B N (fun q => by rw [hr, hret] at q; cases q) hlk hc hs Q hsub fun fs hl => Jvm.RoadKit.retN X hx (hr.trans hret) ht (hb hby hd) hl
/-! plain steps -/
theorem Go.aload {k : Nat} {v : Value} (pc' : Nat) (hd : decode bytes pc = .ok (.aload k, 2)) (hp : pc + 2 = pc') (hl : L[k]? = some (.val v)) (hv : v.isRef = true) (G : Go md l Z n0 R bytes ml ret own mn Ψ cells slots sf h pc' L (v :: S)) : Go md l Z n0 R bytes ml ret own mn Ψ cells slots sf h pc L S := by
  subst hp; exact Go.pure _ (fun p e below T target m c A hx hby k => XS.aload A hx rfl (hb hby hd) hl hv k) G
theorem Go.aloadN {k : Fin 4} {v : Value} (pc' : Nat) (hd : decode bytes pc = .ok (.aload_n k, 1)) (hp : pc + 1 = pc') (hl : L[k.val]? = some (.val v)) (hv : v.isRef = true) (G : Go md l Z n0 R bytes ml ret own mn Ψ cells slots sf h pc' L (v :: S)) : Go md l Z n0 R bytes ml ret own mn Ψ cells slots sf h pc L S := by
  subst hp; exact Go.pure _ (fun p e below T target m c A hx hby k => XS.aloadN A hx rfl (hb hby hd) hl hv k) G
theorem Go.iload {k : Nat} {v : Int32} (pc' : Nat) (hd : decode bytes pc = .ok (.iload k, 2)) (hp : pc + 2 = pc') (hl : L[k]? = some (.val (.int v))) (G : Go md l Z n0 R bytes ml ret own mn Ψ cells slots sf h pc' L (.int v :: S)) : Go md l Z n0 R bytes ml ret own mn Ψ cells slots sf h pc L S := by
  subst hp; exact Go.pure _ (fun p e below T target m c A hx hby k => XS.iload A hx rfl (hb hby hd) hl k) G
theorem Go.iloadN {k : Fin 4} {v : Int32} (pc' : Nat) (hd : decode bytes pc = .ok (.iload_n k, 1)) (hp : pc + 1 = pc') (hl : L[k.val]? = some (.val (.int v))) (G : Go md l Z n0 R bytes ml ret own mn Ψ cells slots sf h pc' L (.int v :: S)) : Go md l Z n0 R bytes ml ret own mn Ψ cells slots sf h pc L S := by
  subst hp; exact Go.pure _ (fun p e below T target m c A hx hby k => XS.iloadN A hx rfl (hb hby hd) hl k) G
theorem Go.lload {k : Nat} {v : Int64} (pc' : Nat) (hd : decode bytes pc = .ok (.lload k, 2)) (hp : pc + 2 = pc') (hl : L[k]? = some (.val (.long v))) (G : Go md l Z n0 R bytes ml ret own mn Ψ cells slots sf h pc' L (.long v :: S)) : Go md l Z n0 R bytes ml ret own mn Ψ cells slots sf h pc L S := by
  subst hp; exact Go.pure _ (fun p e below T target m c A hx hby k => XS.lload A hx rfl (hb hby hd) hl k) G
theorem Go.lloadN {k : Fin 4} {v : Int64} (pc' : Nat) (hd : decode bytes pc = .ok (.lload_n k, 1)) (hp : pc + 1 = pc') (hl : L[k.val]? = some (.val (.long v))) (G : Go md l Z n0 R bytes ml ret own mn Ψ cells slots sf h pc' L (.long v :: S)) : Go md l Z n0 R bytes ml ret own mn Ψ cells slots sf h pc L S := by
  subst hp; exact Go.pure _ (fun p e below T target m c A hx hby k => XS.lloadN A hx rfl (hb hby hd) hl k) G
theorem Go.astore {k : Nat} {v : Value} (pc' : Nat) (L' : Array Slot) (hd : decode bytes pc = .ok (.astore k, 2)) (hp : pc + 2 = pc') (hv : v.isRef = true) (hl : storeLocals L k v = some L') (G : Go md l Z n0 R bytes ml ret own mn Ψ cells slots sf h pc' L' S) : Go md l Z n0 R bytes ml ret own mn Ψ cells slots sf h pc L (v :: S) := by
  subst hp; exact Go.pure _ (fun p e below T target m c A hx hby k => XS.astore A hx rfl (hb hby hd) rfl hv hl k) G
theorem Go.astoreN {k : Fin 4} {v : Value} (pc' : Nat) (L' : Array Slot) (hd : decode bytes pc = .ok (.astore_n k, 1)) (hp : pc + 1 = pc') (hv : v.isRef = true) (hl : storeLocals L k.val v = some L') (G : Go md l Z n0 R bytes ml ret own mn Ψ cells slots sf h pc' L' S) : Go md l Z n0 R bytes ml ret own mn Ψ cells slots sf h pc L (v :: S) := by
  subst hp; exact Go.pure _ (fun p e below T target m c A hx hby k => XS.astoreN A hx rfl (hb hby hd) rfl hv hl k) G
theorem Go.istore {k : Nat} {x : Int32} (pc' : Nat) (L' : Array Slot) (hd : decode bytes pc = .ok (.istore k, 2)) (hp : pc + 2 = pc') (hl : storeLocals L k (.int x) = some L') (G : Go md l Z n0 R bytes ml ret own mn Ψ cells slots sf h pc' L' S) : Go md l Z n0 R bytes ml ret own mn Ψ cells slots sf h pc L (.int x :: S) := by
  subst hp; exact Go.pure _ (fun p e below T target m c A hx hby k => XS.istore A hx rfl (hb hby hd) rfl hl k) G
theorem Go.istoreN {k : Fin 4} {x : Int32} (pc' : Nat) (L' : Array Slot) (hd : decode bytes pc = .ok (.istore_n k, 1)) (hp : pc + 1 = pc') (hl : storeLocals L k.val (.int x) = some L') (G : Go md l Z n0 R bytes ml ret own mn Ψ cells slots sf h pc' L' S) : Go md l Z n0 R bytes ml ret own mn Ψ cells slots sf h pc L (.int x :: S) := by
  subst hp; exact Go.pure _ (fun p e below T target m c A hx hby k => XS.istoreN A hx rfl (hb hby hd) rfl hl k) G
theorem Go.lstore {k : Nat} {x : Int64} (pc' : Nat) (L' : Array Slot) (hd : decode bytes pc = .ok (.lstore k, 2)) (hp : pc + 2 = pc') (hl : storeLocals L k (.long x) = some L') (G : Go md l Z n0 R bytes ml ret own mn Ψ cells slots sf h pc' L' S) : Go md l Z n0 R bytes ml ret own mn Ψ cells slots sf h pc L (.long x :: S) := by
  subst hp; exact Go.pure _ (fun p e below T target m c A hx hby k => XS.lstore A hx rfl (hb hby hd) rfl hl k) G
theorem Go.lstoreN {k : Fin 4} {x : Int64} (pc' : Nat) (L' : Array Slot) (hd : decode bytes pc = .ok (.lstore_n k, 1)) (hp : pc + 1 = pc') (hl : storeLocals L k.val (.long x) = some L') (G : Go md l Z n0 R bytes ml ret own mn Ψ cells slots sf h pc' L' S) : Go md l Z n0 R bytes ml ret own mn Ψ cells slots sf h pc L (.long x :: S) := by
  subst hp; exact Go.pure _ (fun p e below T target m c A hx hby k => XS.lstoreN A hx rfl (hb hby hd) rfl hl k) G
theorem Go.iinc {k : Nat} {cst : Int} {x : Int32} (pc' : Nat) (L' : Array Slot) (v : Int32) (hd : decode bytes pc = .ok (.iinc k cst, 3)) (hp : pc + 3 = pc') (hl : L[k]? = some (.val (.int x))) (hv : Int32.ofInt cst = v) (hl' : storeLocals L k (.int (x + v)) = some L') (G : Go md l Z n0 R bytes ml ret own mn Ψ cells slots sf h pc' L' S) : Go md l Z n0 R bytes ml ret own mn Ψ cells slots sf h pc L S := by
  subst hp; subst hv; exact Go.pure _ (fun p e below T target m c A hx hby k => XS.iinc A hx rfl (hb hby hd) hl hl' k) G
theorem Go.iconst {i : Int} (pc' : Nat) (v : Int32) (hd : decode bytes pc = .ok (.iconst i, 1)) (hp : pc + 1 = pc') (hv : Int32.ofInt i = v) (G : Go md l Z n0 R bytes ml ret own mn Ψ cells slots sf h pc' L (.int v :: S)) : Go md l Z n0 R bytes ml ret own mn Ψ cells slots sf h pc L S := by
  subst hp; subst hv; exact Go.pure _ (fun p e below T target m c A hx hby k => XS.iconst A hx rfl (hb hby hd) k) G
theorem Go.bipush {i : Int} (pc' : Nat) (v : Int32) (hd : decode bytes pc = .ok (.bipush i, 2)) (hp : pc + 2 = pc') (hv : (Int8.ofInt i).toInt32 = v) (G : Go md l Z n0 R bytes ml ret own mn Ψ cells slots sf h pc' L (.int v :: S)) : Go md l Z n0 R bytes ml ret own mn Ψ cells slots sf h pc L S := by
  subst hp; subst hv; exact Go.pure _ (fun p e below T target m c A hx hby k => XS.bipush A hx rfl (hb hby hd) k) G
theorem Go.sipush {i : Int} (pc' : Nat) (v : Int32) (hd : decode bytes pc = .ok (.sipush i, 3)) (hp : pc + 3 = pc') (hv : (Int16.ofInt i).toInt32 = v) (G : Go md l Z n0 R bytes ml ret own mn Ψ cells slots sf h pc' L (.int v :: S)) : Go md l Z n0 R bytes ml ret own mn Ψ cells slots sf h pc L S := by
  subst hp; subst hv; exact Go.pure _ (fun p e below T target m c A hx hby k => XS.sipush A hx rfl (hb hby hd) k) G
theorem Go.lconst {i : Fin 2} (pc' : Nat) (v : Int64) (hd : decode bytes pc = .ok (.lconst i, 1)) (hp : pc + 1 = pc') (hv : Int64.ofNat i = v) (G : Go md l Z n0 R bytes ml ret own mn Ψ cells slots sf h pc' L (.long v :: S)) : Go md l Z n0 R bytes ml ret own mn Ψ cells slots sf h pc L S := by
  subst hp; subst hv; exact Go.pure _ (fun p e below T target m c A hx hby k => XS.lconst A hx rfl (hb hby hd) k) G
theorem Go.aconstNull (pc' : Nat) (hd : decode bytes pc = .ok (.aconst_null, 1)) (hp : pc + 1 = pc') (G : Go md l Z n0 R bytes ml ret own mn Ψ cells slots sf h pc' L (.null :: S)) : Go md l Z n0 R bytes ml ret own mn Ψ cells slots sf h pc L S := by
  subst hp; exact Go.pure _ (fun p e below T target m c A hx hby k => XS.aconstNull A hx rfl (hb hby hd) k) G
theorem Go.dup {v : Value} (pc' : Nat) (hd : decode bytes pc = .ok (.dup, 1)) (hp : pc + 1 = pc') (hv : v.category = 1) (G : Go md l Z n0 R bytes ml ret own mn Ψ cells slots sf h pc' L (v :: v :: S)) : Go md l Z n0 R bytes ml ret own mn Ψ cells slots sf h pc L (v :: S) := by
  subst hp; exact Go.pure _ (fun p e below T target m c A hx hby k => XS.dup A hx rfl (hb hby hd) rfl hv k) G
theorem Go.pop {v : Value} (pc' : Nat) (hd : decode bytes pc = .ok (.pop, 1)) (hp : pc + 1 = pc') (hv : v.category = 1) (G : Go md l Z n0 R bytes ml ret own mn Ψ cells slots sf h pc' L S) : Go md l Z n0 R bytes ml ret own mn Ψ cells slots sf h pc L (v :: S) := by
  subst hp; exact Go.pure _ (fun p e below T target m c A hx hby k => XS.pop A hx rfl (hb hby hd) rfl hv k) G
theorem Go.goto {o : Int} (pc' : Nat) (hd : decode bytes pc = .ok (.goto o, 3)) (ho' : 0 ≤ (pc : Int) + o) (hp : ((pc : Int) + o).toNat = pc') (G : Go md l Z n0 R bytes ml ret own mn Ψ cells slots sf h pc' L S) : Go md l Z n0 R bytes ml ret own mn Ψ cells slots sf h pc L S :=
  Go.pure pc' (fun p e below T target m c A hx hby k => XS.goto A hx rfl (pc0 := pc) (pc' := pc') rfl (hb hby hd) ho' hp k) G
theorem Go.ifY {cd : ClassFile.Cond} {x : Int32} {o : Int} (pc' : Nat) (hd : decode bytes pc = .ok (.ifCond cd o, 3)) (ho' : 0 ≤ (pc : Int) + o) (hp : ((pc : Int) + o).toNat = pc') (hc : if_icmp.holds cd x 0 = true) (G : Go md l Z n0 R bytes ml ret own mn Ψ cells slots sf h pc' L S) : Go md l Z n0 R bytes ml ret own mn Ψ cells slots sf h pc L (.int x :: S) :=
  Go.pure pc' (fun p e below T target m c A hx hby k => XS.ifYes A hx rfl (pc0 := pc) (pc' := pc') rfl (hb hby hd) rfl ((if0 _ _).trans hc) ho' hp k) G
theorem Go.ifN {cd : ClassFile.Cond} {x : Int32} {o : Int} (pc' : Nat) (hd : decode bytes pc = .ok (.ifCond cd o, 3)) (hp : pc + 3 = pc') (hc : if_icmp.holds cd x 0 = false) (G : Go md l Z n0 R bytes ml ret own mn Ψ cells slots sf h pc' L S) : Go md l Z n0 R bytes ml ret own mn Ψ cells slots sf h pc L (.int x :: S) := by
  subst hp; exact Go.pure _ (fun p e below T target m c A hx hby k => XS.ifNo A hx rfl (hb hby hd) rfl ((if0 _ _).trans hc) k) G
theorem Go.icmpY {cd : ClassFile.Cond} {x y : Int32} {o : Int} (pc' : Nat) (hd : decode bytes pc = .ok (.if_icmp cd o, 3)) (ho' : 0 ≤ (pc : Int) + o) (hp : ((pc : Int) + o).toNat = pc') (hc : if_icmp.holds cd x y = true) (G : Go md l Z n0 R bytes ml ret own mn Ψ cells slots sf h pc' L S) : Go md l Z n0 R bytes ml ret own mn Ψ cells slots sf h pc L (.int y :: .int x :: S) :=
  Go.pure pc' (fun p e below T target m c A hx hby k => XS.icmpYes A hx rfl (pc0 := pc) (pc' := pc') rfl (hb hby hd) rfl hc ho' hp k) G
theorem Go.icmpN {cd : ClassFile.Cond} {x y : Int32} {o : Int} (pc' : Nat) (hd : decode bytes pc = .ok (.if_icmp cd o, 3)) (hp : pc + 3 = pc') (hc : if_icmp.holds cd x y = false) (G : Go md l Z n0 R bytes ml ret own mn Ψ cells slots sf h pc' L S) : Go md l Z n0 R bytes ml ret own mn Ψ cells slots sf h pc L (.int y :: .int x :: S) := by
  subst hp; exact Go.pure _ (fun p e below T target m c A hx hby k => XS.icmpNo A hx rfl (hb hby hd) rfl hc k) G
theorem Go.acmpY {cd : ClassFile.ACond} {x y : Value} {o : Int} (pc' : Nat) (hd : decode bytes pc = .ok (.if_acmp cd o, 3)) (ho' : 0 ≤ (pc : Int) + o) (hp : ((pc : Int) + o).toNat = pc') (hx' : x.isRef = true) (hy' : y.isRef = true) (hc : acV cd (decide (x = y)) = true) (G : Go md l Z n0 R bytes ml ret own mn Ψ cells slots sf h pc' L S) : Go md l Z n0 R bytes ml ret own mn Ψ cells slots sf h pc L (y :: x :: S) :=
  Go.warm pc' (fun p e s m args below meth c T locs hx hby hml hZ hown X eT => ⟨T, X, eT, fun target k => Jvm.RoadKit.acmp (g := mkF m pc L (y :: x :: S)) X hx rfl hx' hy' (pc0 := pc) rfl (hb hby hd) rfl rfl ho' (by rw [if_pos hc]; exact hp.symm) k⟩) G
theorem Go.acmpN {cd : ClassFile.ACond} {x y : Value} {o : Int} (pc' : Nat) (hd : decode bytes pc = .ok (.if_acmp cd o, 3)) (ho' : 0 ≤ (pc : Int) + o) (hp : pc + 3 = pc') (hx' : x.isRef = true) (hy' : y.isRef = true) (hc : acV cd (decide (x = y)) = false) (G : Go md l Z n0 R bytes ml ret own mn Ψ cells slots sf h pc' L S) : Go md l Z n0 R bytes ml ret own mn Ψ cells slots sf h pc L (y :: x :: S) :=
  Go.warm pc' (fun p e s m args below meth c T locs hx hby hml hZ hown X eT => ⟨T, X, eT, fun target k => Jvm.RoadKit.acmp (g := mkF m pc L (y :: x :: S)) X hx rfl hx' hy' (pc0 := pc) rfl (hb hby hd) rfl rfl ho' (by rw [if_neg (by rw [hc]; exact Bool.false_ne_true)]; exact hp.symm) k⟩) G
theorem Go.nullY {o : Int} (pc' : Nat) (hd : decode bytes pc = .ok (.ifnull o, 3)) (ho' : 0 ≤ (pc : Int) + o) (hp : ((pc : Int) + o).toNat = pc') (G : Go md l Z n0 R bytes ml ret own mn Ψ cells slots sf h pc' L S) : Go md l Z n0 R bytes ml ret own mn Ψ cells slots sf h pc L (.null :: S) :=
  Go.pure pc' (fun p e below T target m c A hx hby k => XS.ifnullYes A hx rfl (pc0 := pc) (pc' := pc') rfl (hb hby hd) rfl ho' hp k) G
theorem Go.nullN {o : Int} {a : Addr} (pc' : Nat) (hd : decode bytes pc = .ok (.ifnull o, 3)) (hp : pc + 3 = pc') (G : Go md l Z n0 R bytes ml ret own mn Ψ cells slots sf h pc' L S) : Go md l Z n0 R bytes ml ret own mn Ψ cells slots sf h pc L (.ref a :: S) := by
  subst hp; exact Go.pure _ (fun p e below T target m c A hx hby k => XS.ifnullNo A hx rfl (hb hby hd) rfl k) G
theorem Go.nonnullY {o : Int} {a : Addr} (pc' : Nat) (hd : decode bytes pc = .ok (.ifnonnull o, 3)) (ho' : 0 ≤ (pc : Int) + o) (hp : ((pc : Int) + o).toNat = pc') (G : Go md l Z n0 R bytes ml ret own mn Ψ cells slots sf h pc' L S) : Go md l Z n0 R bytes ml ret own mn Ψ cells slots sf h pc L (.ref a :: S) :=
  Go.pure pc' (fun p e below T target m c A hx hby k => XS.ifnonnullYes A hx rfl (pc0 := pc) (pc' := pc') rfl (hb hby hd) rfl ho' hp k) G
theorem Go.nonnullN {o : Int} (pc' : Nat) (hd : decode bytes pc = .ok (.ifnonnull o, 3)) (hp : pc + 3 = pc') (G : Go md l Z n0 R bytes ml ret own mn Ψ cells slots sf h pc' L S) : Go md l Z n0 R bytes ml ret own mn Ψ cells slots sf h pc L (.null :: S) := by
  subst hp; exact Go.pure _ (fun p e below T target m c A hx hby k => XS.ifnonnullNo A hx rfl (hb hby hd) rfl k) G
theorem Go.iadd {x y : Int32} (pc' : Nat) (hd : decode bytes pc = .ok (.iadd, 1)) (hp : pc + 1 = pc') (G : Go md l Z n0 R bytes ml ret own mn Ψ cells slots sf h pc' L (.int (x + y) :: S)) : Go md l Z n0 R bytes ml ret own mn Ψ cells slots sf h pc L (.int y :: .int x :: S) := by
  subst hp; exact Go.pure _ (fun p e below T target m c A hx hby k => XS.iadd A hx rfl (hb hby hd) rfl k) G
theorem Go.isub {x y : Int32} (pc' : Nat) (hd : decode bytes pc = .ok (.isub, 1)) (hp : pc + 1 = pc') (G : Go md l Z n0 R bytes ml ret own mn Ψ cells slots sf h pc' L (.int (x - y) :: S)) : Go md l Z n0 R bytes ml ret own mn Ψ cells slots sf h pc L (.int y :: .int x :: S) := by
  subst hp; exact Go.pure _ (fun p e below T target m c A hx hby k => XS.isub A hx rfl (hb hby hd) rfl k) G
theorem Go.imul {x y : Int32} (pc' : Nat) (hd : decode bytes pc = .ok (.imul, 1)) (hp : pc + 1 = pc') (G : Go md l Z n0 R bytes ml ret own mn Ψ cells slots sf h pc' L (.int (x * y) :: S)) : Go md l Z n0 R bytes ml ret own mn Ψ cells slots sf h pc L (.int y :: .int x :: S) := by
  subst hp; exact Go.pure _ (fun p e below T target m c A hx hby k => XS.imul A hx rfl (hb hby hd) rfl k) G
theorem Go.iand {x y : Int32} (pc' : Nat) (hd : decode bytes pc = .ok (.iand, 1)) (hp : pc + 1 = pc') (G : Go md l Z n0 R bytes ml ret own mn Ψ cells slots sf h pc' L (.int (x &&& y) :: S)) : Go md l Z n0 R bytes ml ret own mn Ψ cells slots sf h pc L (.int y :: .int x :: S) := by
  subst hp; exact Go.pure _ (fun p e below T target m c A hx hby k => XS.iand A hx rfl (hb hby hd) rfl k) G
theorem Go.ior {x y : Int32} (pc' : Nat) (hd : decode bytes pc = .ok (.ior, 1)) (hp : pc + 1 = pc') (G : Go md l Z n0 R bytes ml ret own mn Ψ cells slots sf h pc' L (.int (x ||| y) :: S)) : Go md l Z n0 R bytes ml ret own mn Ψ cells slots sf h pc L (.int y :: .int x :: S) := by
  subst hp; exact Go.pure _ (fun p e below T target m c A hx hby k => XS.ior A hx rfl (hb hby hd) rfl k) G
theorem Go.ixor {x y : Int32} (pc' : Nat) (hd : decode bytes pc = .ok (.ixor, 1)) (hp : pc + 1 = pc') (G : Go md l Z n0 R bytes ml ret own mn Ψ cells slots sf h pc' L (.int (x ^^^ y) :: S)) : Go md l Z n0 R bytes ml ret own mn Ψ cells slots sf h pc L (.int y :: .int x :: S) := by
  subst hp; exact Go.pure _ (fun p e below T target m c A hx hby k => XS.ixor A hx rfl (hb hby hd) rfl k) G
theorem Go.ishl {x y : Int32} (pc' : Nat) (hd : decode bytes pc = .ok (.ishl, 1)) (hp : pc + 1 = pc') (G : Go md l Z n0 R bytes ml ret own mn Ψ cells slots sf h pc' L (.int (x <<< (y &&& 31)) :: S)) : Go md l Z n0 R bytes ml ret own mn Ψ cells slots sf h pc L (.int y :: .int x :: S) := by
  subst hp; exact Go.pure _ (fun p e below T target m c A hx hby k => XS.ishl A hx rfl (hb hby hd) rfl k) G
theorem Go.ishr {x y : Int32} (pc' : Nat) (hd : decode bytes pc = .ok (.ishr, 1)) (hp : pc + 1 = pc') (G : Go md l Z n0 R bytes ml ret own mn Ψ cells slots sf h pc' L (.int (x >>> (y &&& 31)) :: S)) : Go md l Z n0 R bytes ml ret own mn Ψ cells slots sf h pc L (.int y :: .int x :: S) := by
  subst hp; exact Go.pure _ (fun p e below T target m c A hx hby k => XS.ishr A hx rfl (hb hby hd) rfl k) G
theorem Go.iushr {x y : Int32} (pc' : Nat) (hd : decode bytes pc = .ok (.iushr, 1)) (hp : pc + 1 = pc') (G : Go md l Z n0 R bytes ml ret own mn Ψ cells slots sf h pc' L (.int (ushr x y) :: S)) : Go md l Z n0 R bytes ml ret own mn Ψ cells slots sf h pc L (.int y :: .int x :: S) := by
  subst hp; exact Go.pure _ (fun p e below T target m c A hx hby k => XS.iushr A hx rfl (hb hby hd) rfl k) G
theorem Go.idiv {x y : Int32} (pc' : Nat) (hd : decode bytes pc = .ok (.idiv, 1)) (hp : pc + 1 = pc') (hy : y ≠ 0) (G : Go md l Z n0 R bytes ml ret own mn Ψ cells slots sf h pc' L (.int (x / y) :: S)) : Go md l Z n0 R bytes ml ret own mn Ψ cells slots sf h pc L (.int y :: .int x :: S) := by
  subst hp; exact Go.pure _ (fun p e below T target m c A hx hby k => XS.idiv A hx rfl (hb hby hd) rfl hy k) G
theorem Go.ineg {x : Int32} (pc' : Nat) (hd : decode bytes pc = .ok (.ineg, 1)) (hp : pc + 1 = pc') (G : Go md l Z n0 R bytes ml ret own mn Ψ cells slots sf h pc' L (.int (-x) :: S)) : Go md l Z n0 R bytes ml ret own mn Ψ cells slots sf h pc L (.int x :: S) := by
  subst hp; exact Go.pure _ (fun p e below T target m c A hx hby k => XS.ineg A hx rfl (hb hby hd) rfl k) G
theorem Go.ladd {x y : Int64} (pc' : Nat) (hd : decode bytes pc = .ok (.ladd, 1)) (hp : pc + 1 = pc') (G : Go md l Z n0 R bytes ml ret own mn Ψ cells slots sf h pc' L (.long (x + y) :: S)) : Go md l Z n0 R bytes ml ret own mn Ψ cells slots sf h pc L (.long y :: .long x :: S) := by
  subst hp; exact Go.pure _ (fun p e below T target m c A hx hby k => XS.ladd A hx rfl (hb hby hd) rfl k) G
theorem Go.lsub {x y : Int64} (pc' : Nat) (hd : decode bytes pc = .ok (.lsub, 1)) (hp : pc + 1 = pc') (G : Go md l Z n0 R bytes ml ret own mn Ψ cells slots sf h pc' L (.long (x - y) :: S)) : Go md l Z n0 R bytes ml ret own mn Ψ cells slots sf h pc L (.long y :: .long x :: S) := by
  subst hp; exact Go.pure _ (fun p e below T target m c A hx hby k => XS.lsub A hx rfl (hb hby hd) rfl k) G
theorem Go.lmul {x y : Int64} (pc' : Nat) (hd : decode bytes pc = .ok (.lmul, 1)) (hp : pc + 1 = pc') (G : Go md l Z n0 R bytes ml ret own mn Ψ cells slots sf h pc' L (.long (x * y) :: S)) : Go md l Z n0 R bytes ml ret own mn Ψ cells slots sf h pc L (.long y :: .long x :: S) := by
  subst hp; exact Go.pure _ (fun p e below T target m c A hx hby k => XS.lmul A hx rfl (hb hby hd) rfl k) G
theorem Go.land {x y : Int64} (pc' : Nat) (hd : decode bytes pc = .ok (.land, 1)) (hp : pc + 1 = pc') (G : Go md l Z n0 R bytes ml ret own mn Ψ cells slots sf h pc' L (.long (x &&& y) :: S)) : Go md l Z n0 R bytes ml ret own mn Ψ cells slots sf h pc L (.long y :: .long x :: S) := by
  subst hp; exact Go.pure _ (fun p e below T target m c A hx hby k => XS.land A hx rfl (hb hby hd) rfl k) G
theorem Go.lor {x y : Int64} (pc' : Nat) (hd : decode bytes pc = .ok (.lor, 1)) (hp : pc + 1 = pc') (G : Go md l Z n0 R bytes ml ret own mn Ψ cells slots sf h pc' L (.long (x ||| y) :: S)) : Go md l Z n0 R bytes ml ret own mn Ψ cells slots sf h pc L (.long y :: .long x :: S) := by
  subst hp; exact Go.pure _ (fun p e below T target m c A hx hby k => XS.lor A hx rfl (hb hby hd) rfl k) G
theorem Go.lxor {x y : Int64} (pc' : Nat) (hd : decode bytes pc = .ok (.lxor, 1)) (hp : pc + 1 = pc') (G : Go md l Z n0 R bytes ml ret own mn Ψ cells slots sf h pc' L (.long (x ^^^ y) :: S)) : Go md l Z n0 R bytes ml ret own mn Ψ cells slots sf h pc L (.long y :: .long x :: S) := by
  subst hp; exact Go.pure _ (fun p e below T target m c A hx hby k => XS.lxor A hx rfl (hb hby hd) rfl k) G
theorem Go.lneg {x : Int64} (pc' : Nat) (hd : decode bytes pc = .ok (.lneg, 1)) (hp : pc + 1 = pc') (G : Go md l Z n0 R bytes ml ret own mn Ψ cells slots sf h pc' L (.long (-x) :: S)) : Go md l Z n0 R bytes ml ret own mn Ψ cells slots sf h pc L (.long x :: S) := by
  subst hp; exact Go.pure _ (fun p e below T target m c A hx hby k => XS.lneg A hx rfl (hb hby hd) rfl k) G
theorem Go.lcmp {x y : Int64} (pc' : Nat) (hd : decode bytes pc = .ok (.lcmp, 1)) (hp : pc + 1 = pc') (G : Go md l Z n0 R bytes ml ret own mn Ψ cells slots sf h pc' L (.int (lcmpW x y) :: S)) : Go md l Z n0 R bytes ml ret own mn Ψ cells slots sf h pc L (.long y :: .long x :: S) := by
  subst hp; exact Go.pure _ (fun p e below T target m c A hx hby k => XS.lcmp A hx rfl (hb hby hd) rfl k) G
theorem Go.lushr {x : Int64} {y : Int32} (pc' : Nat) (hd : decode bytes pc = .ok (.lushr, 1)) (hp : pc + 1 = pc') (G : Go md l Z n0 R bytes ml ret own mn Ψ cells slots sf h pc' L (.long (ushrL x y) :: S)) : Go md l Z n0 R bytes ml ret own mn Ψ cells slots sf h pc L (.int y :: .long x :: S) := by
  subst hp; exact Go.pure _ (fun p e below T target m c A hx hby k => XS.lushr A hx rfl (hb hby hd) rfl k) G
theorem Go.lshl {x : Int64} {y : Int32} (pc' : Nat) (hd : decode bytes pc = .ok (.lshl, 1)) (hp : pc + 1 = pc') (G : Go md l Z n0 R bytes ml ret own mn Ψ cells slots sf h pc' L (.long (x <<< (y &&& 0x3f).toInt64) :: S)) : Go md l Z n0 R bytes ml ret own mn Ψ cells slots sf h pc L (.int y :: .long x :: S) := by
  subst hp; exact Go.pure _ (fun p e below T target m c A hx hby k => XS.lshl A hx rfl (hb hby hd) rfl k) G
theorem Go.lrem {x y : Int64} (pc' : Nat) (hd : decode bytes pc = .ok (.lrem, 1)) (hp : pc + 1 = pc') (hy : y ≠ 0) (G : Go md l Z n0 R bytes ml ret own mn Ψ cells slots sf h pc' L (.long (x - (x / y) * y) :: S)) : Go md l Z n0 R bytes ml ret own mn Ψ cells slots sf h pc L (.long y :: .long x :: S) := by
  subst hp; exact Go.pure _ (fun p e below T target m c A hx hby k => XS.lrem A hx rfl (hb hby hd) rfl hy k) G
theorem Go.i2l {x : Int32} (pc' : Nat) (hd : decode bytes pc = .ok (.i2l, 1)) (hp : pc + 1 = pc') (G : Go md l Z n0 R bytes ml ret own mn Ψ cells slots sf h pc' L (.long x.toInt64 :: S)) : Go md l Z n0 R bytes ml ret own mn Ψ cells slots sf h pc L (.int x :: S) := by
  subst hp; exact Go.pure _ (fun p e below T target m c A hx hby k => XS.i2l A hx rfl (hb hby hd) rfl k) G
theorem Go.l2i {x : Int64} (pc' : Nat) (hd : decode bytes pc = .ok (.l2i, 1)) (hp : pc + 1 = pc') (G : Go md l Z n0 R bytes ml ret own mn Ψ cells slots sf h pc' L (.int x.toInt32 :: S)) : Go md l Z n0 R bytes ml ret own mn Ψ cells slots sf h pc L (.long x :: S) := by
  subst hp; exact Go.pure _ (fun p e below T target m c A hx hby k => XS.l2i A hx rfl (hb hby hd) rfl k) G
theorem Go.i2b {x : Int32} (pc' : Nat) (hd : decode bytes pc = .ok (.i2b, 1)) (hp : pc + 1 = pc') (G : Go md l Z n0 R bytes ml ret own mn Ψ cells slots sf h pc' L (.int x.toInt8.toInt32 :: S)) : Go md l Z n0 R bytes ml ret own mn Ψ cells slots sf h pc L (.int x :: S) := by
  subst hp; exact Go.pure _ (fun p e below T target m c A hx hby k => XS.i2b A hx rfl (hb hby hd) rfl k) G
theorem Go.i2c {x : Int32} (pc' : Nat) (hd : decode bytes pc = .ok (.i2c, 1)) (hp : pc + 1 = pc') (G : Go md l Z n0 R bytes ml ret own mn Ψ cells slots sf h pc' L (.int (chr x) :: S)) : Go md l Z n0 R bytes ml ret own mn Ψ cells slots sf h pc L (.int x :: S) := by
  subst hp; exact Go.pure _ (fun p e below T target m c A hx hby k => XS.i2c A hx rfl (hb hby hd) rfl k) G
theorem Go.dupX1 {v w : Value} (pc' : Nat) (hd : decode bytes pc = .ok (.dup_x1, 1)) (hp : pc + 1 = pc') (hv : v.category = 1) (hw : w.category = 1) (G : Go md l Z n0 R bytes ml ret own mn Ψ cells slots sf h pc' L (v :: w :: v :: S)) : Go md l Z n0 R bytes ml ret own mn Ψ cells slots sf h pc L (v :: w :: S) := by
  subst hp; exact Go.pure _ (fun p e below T target m c A hx hby k => XS.dupX1 A hx rfl (hb hby hd) rfl hv hw k) G
theorem sub1 {x : Addr} (q : x ∈ sf) : ∀ y ∈ [x], y ∈ sf := fun y hy => by cases List.mem_singleton.mp hy; exact q
/-- one field of an ordinary object known, each laid one holds something -/
theorem Fld.any {a : Addr} {C O n d O' n' d' : String} {v : Value} {k : Nat} (F : Fld Z h a O' n' d' v) (E : Exa Z h a C) (wi : (Jvm.Cond.instantiable C k).before a0 Z = true) (Lw : Laid Z a0 C O n d) : ∃ w, Fld Z h a O n d w := by
  obtain ⟨cell, cf, kk, i, f, h1, -, -, h4, h5, -, -⟩ := F
  obtain ⟨c2, k2, g1, g2, g3, g4, g5⟩ := E
  cases h1.symm.trans g1
  obtain ⟨c3, k3, i1, i2, i3, -⟩ := Cond.instantiable_spec wi
  cases g2.symm.trans i1
  cases g3.symm.trans i2
  obtain ⟨c, kc, cf', kf, j, f', a1, a2, a3, a4, a5, a6, -⟩ := Lw.spec
  cases g2.symm.trans a1
  cases g3.symm.trans a2
  have hs := g5 i3
  have hlt : f'.slot < cell.slots.size := by rw [hs]; exact (Array.getElem?_eq_some_iff.mp a6).1
  exact ⟨cell.slots[f'.slot], cell, cf', kf, j, f', h1, a3, a4, h4, h5, a5, Array.getElem?_eq_getElem hlt⟩
theorem Go.irem {x y : Int32} (pc' : Nat) (hd : decode bytes pc = .ok (.irem, 1)) (hp : pc + 1 = pc') (hy : y ≠ 0) (G : Go md l Z n0 R bytes ml ret own mn Ψ cells slots sf h pc' L (.int (x % y) :: S)) : Go md l Z n0 R bytes ml ret own mn Ψ cells slots sf h pc L (.int y :: .int x :: S) := by
  subst hp; exact Go.warm _ (fun p e s m args below meth c T locs hx hby hml hZ hown X eT => ⟨T, X, eT, fun target k => iremM (g := mkF m pc L (.int y :: .int x :: S)) X hx rfl (hb hby hd) rfl hy k⟩) G
theorem Go.ldcI {index : Nat} {v : Int32} (pc' : Nat) (hd : decode bytes pc = .ok (.ldc index, 2)) (hp : pc + 2 = pc') (w : (Jvm.Cond.constant own index v).before a0 Z = true) (G : Go md l Z n0 R bytes ml ret own mn Ψ cells slots sf h pc' L (.int v :: S)) : Go md l Z n0 R bytes ml ret own mn Ψ cells slots sf h pc L S := by
  subst hp; exact Go.warm _ (fun p e s m args below meth c T locs hx hby hml hZ hown X eT => ⟨T, X, eT, fun target k => X.ldcI (g := mkF m pc L S) hx hown (mvT hZ w) rfl (hb hby hd) k⟩) G
theorem Go.ldc2J {index : Nat} {v : Int64} (pc' : Nat) (hd : decode bytes pc = .ok (.ldc2_w index, 3)) (hp : pc + 3 = pc') (w : (Jvm.Cond.constantLong own index v).before a0 Z = true) (G : Go md l Z n0 R bytes ml ret own mn Ψ cells slots sf h pc' L (.long v :: S)) : Go md l Z n0 R bytes ml ret own mn Ψ cells slots sf h pc L S := by
  subst hp; exact Go.warm _ (fun p e s m args below meth c T locs hx hby hml hZ hown X eT => ⟨T, X, eT, fun target k => X.ldc2J (g := mkF m pc L S) hx hown (mvT hZ w) rfl (hb hby hd) k⟩) G
/-! fields -/
theorem Go.getF {R0 O n d : String} {index : Nat} {a : Addr} {v : Value} (pc' : Nat) (hd : decode bytes pc = .ok (.getfield index, 3)) (hp : pc + 3 = pc') (w : (Jvm.Cond.fieldLink own index R0 n d).before a0 Z = true) (via : Via Z R0 O n d) (F : Fld Z h a O n d v) (G : Go md l Z n0 R bytes ml ret own mn Ψ cells slots sf h pc' L (v :: S)) :
    Go md l Z n0 R bytes ml ret own mn Ψ cells slots sf h pc L (.ref a :: S) := by
  subst hp; exact Go.warm _ (fun p e s m args below meth c T locs hx hby hml hZ hown X eT => Jvm.RoadKit.getF X hx hZ hown (host := "") (Or.inl w) via eT F (g := mkF m pc L (.ref a :: S)) rfl rfl (hb hby hd)) G
theorem Go.getS {R0 O n d : String} {index : Nat} {v : Value} (pc' : Nat) (hd : decode bytes pc = .ok (.getstatic index, 3)) (hp : pc + 3 = pc') (w : (Jvm.Cond.fieldLink own index R0 n d).before a0 Z = true) (via : Via Z R0 O n d) (F : Sta Z Z.heap O n d v) (G : Go md l Z n0 R bytes ml ret own mn Ψ cells slots sf h pc' L (v :: S)) :
    Go md l Z n0 R bytes ml ret own mn Ψ cells slots sf h pc L S := by
  subst hp; exact Go.old fun o _ => Go.warm _ (fun p e s m args below meth c T locs hx hby hml hZ hown X eT => Jvm.RoadKit.getS (host := "") X hx hZ hown w via eT (F.ext o.2) (g := mkF m pc L S) rfl (hb hby hd)) G
theorem Go.putF {R0 O n d C : String} {index kk : Nat} {ty : FieldType} {a : Addr} {v old : Value} (pc' : Nat) (v' : Value) (hd : decode bytes pc = .ok (.putfield index, 3)) (hp : pc + 3 = pc') (w : (Jvm.Cond.fieldLink own index R0 n d).before a0 Z = true) (via : Via Z R0 O n d) (F : Fld Z h a O n d old) (E : Exa Z h a C)
    (Lw : (Jvm.Cond.lays C O n d).before a0 Z = true ∨ ((Jvm.Cond.laysFinal C O n d).before a0 Z = true ∧ own = O ∧ mn = "<init>")) (wi : (Jvm.Cond.instantiable C kk).before a0 Z = true) (hty : parseFieldDescriptor d = some ty) (hnw : narrow ty v = v') (hf : fits ty v' = true) (ha : a ∈ sf) (hn0 : n0 ≤ a)
    (G : ∀ h', Wr h h' a (Jvm.RoadKit.slotOf Z O n d) v' → Go md l Z n0 R bytes ml ret own mn Ψ cells slots sf h' pc' L S) : Go md l Z n0 R bytes ml ret own mn Ψ cells slots sf h pc L (v :: .ref a :: S) := by
  subst hp; exact Go.write _ ha hn0 (fun p e s m args below meth c T locs hx hby hml hnm hZ hown X eT => putFN X hx hZ hown w via eT F E (Lw.imp id fun q => ⟨q.1, q.2.1, hnm.trans q.2.2⟩) wi hty hnw hf (g := mkF m pc L (v :: .ref a :: S)) rfl rfl (hb hby hd)) G
/-! classes -/
theorem Go.castY {K : String} {index : Nat} {a : Addr} (pc' : Nat) (hd : decode bytes pc = .ok (.checkcast index, 3)) (hp : pc + 3 = pc') (w : (Jvm.Cond.classLink own index K).before a0 Z = true) (F : Ins Z h a K true) (G : Go md l Z n0 R bytes ml ret own mn Ψ cells slots sf h pc' L (.ref a :: S)) :
    Go md l Z n0 R bytes ml ret own mn Ψ cells slots sf h pc L (.ref a :: S) := by
  subst hp; exact Go.warm _ (fun p e s m args below meth c T locs hx hby hml hZ hown X eT => Jvm.RoadKit.castY X hx hZ hown w eT F (g := mkF m pc L (.ref a :: S)) rfl rfl (hb hby hd)) G
theorem Go.instY {K : String} {index : Nat} {a : Addr} (pc' : Nat) (hd : decode bytes pc = .ok (.instanceof index, 3)) (hp : pc + 3 = pc') (w : (Jvm.Cond.classLink own index K).before a0 Z = true) (F : Ins Z h a K true) (G : Go md l Z n0 R bytes ml ret own mn Ψ cells slots sf h pc' L (.int 1 :: S)) :
    Go md l Z n0 R bytes ml ret own mn Ψ cells slots sf h pc L (.ref a :: S) := by
  subst hp; exact Go.warm _ (fun p e s m args below meth c T locs hx hby hml hZ hown X eT => Jvm.RoadKit.instY X hx hZ hown w eT F (g := mkF m pc L (.ref a :: S)) rfl rfl (hb hby hd)) G
theorem Go.instNo {K C : String} {index : Nat} {a : Addr} (pc' : Nat) (hd : decode bytes pc = .ok (.instanceof index, 3)) (hp : pc + 3 = pc') (w : (Jvm.Cond.classLink own index K).before a0 Z = true) (E : Exa Z h a C) (F : ∃ c t, Z.vm.findClass C = some c ∧ Z.vm.findClass K = some t ∧ Z.vm.assignable c t = false) (G : Go md l Z n0 R bytes ml ret own mn Ψ cells slots sf h pc' L (.int 0 :: S)) :
    Go md l Z n0 R bytes ml ret own mn Ψ cells slots sf h pc L (.ref a :: S) := by
  subst hp; exact Go.warm _ (fun p e s m args below meth c T locs hx hby hml hZ hown X eT => Jvm.RoadKit.instNo X hx hZ hown w eT E F (g := mkF m pc L (.ref a :: S)) rfl rfl (hb hby hd)) G
theorem Go.instNull {index : Nat} (pc' : Nat) (hd : decode bytes pc = .ok (.instanceof index, 3)) (hp : pc + 3 = pc') (G : Go md l Z n0 R bytes ml ret own mn Ψ cells slots sf h pc' L (.int 0 :: S)) : Go md l Z n0 R bytes ml ret own mn Ψ cells slots sf h pc L (.null :: S) := by
  subst hp; exact Go.warm _ (fun p e s m args below meth c T locs hx hby hml hZ hown X eT => ⟨T, X, eT, fun target k => X.instanceofNull (g := mkF m pc L (.null :: S)) hx rfl rfl (hb hby hd) target k⟩) G
theorem Go.castNull {index : Nat} (pc' : Nat) (hd : decode bytes pc = .ok (.checkcast index, 3)) (hp : pc + 3 = pc') (G : Go md l Z n0 R bytes ml ret own mn Ψ cells slots sf h pc' L (.null :: S)) : Go md l Z n0 R bytes ml ret own mn Ψ cells slots sf h pc L (.null :: S) := by
  subst hp; exact Go.warm _ (fun p e s m args below meth c T locs hx hby hml hZ hown X eT => ⟨T, X, eT, fun target k => X.checkcastNull (g := mkF m pc L (.null :: S)) hx rfl rfl (hb hby hd) target k⟩) G
/-- Object's constructor -/
theorem Go.initO {idx : Nat} {a : Addr} {W : Nat} (pc' : Nat) (hd : decode bytes pc = .ok (.invokespecial idx, 3)) (hp : pc + 3 = pc') (w1 : (Jvm.Cond.methodLink own idx Lib.objectInit).before a0 Z = true) (w2 : (Jvm.Cond.instanceMethod Lib.objectInit).before a0 Z = true) (w3 : (Jvm.Cond.code Lib.objectInit ⟨#[0xb1]⟩ 1 none).before a0 Z = true)
    (hsz : L.size = ml) (hf : 1 ≤ R.frames) (hW : (S.map fun v => v.category).sum ≤ W) (hl : W + 12 ≤ R.locals) (G : Go md l Z n0 R bytes ml ret own mn Ψ cells slots sf h pc' L S) : Go md l Z n0 R bytes ml ret own mn Ψ cells slots sf h pc L (.ref a :: S) := by
  subst hp; exact Go.warm _ (fun p e s m args below meth c T locs hx hby hml hZ hown X eT => Jvm.RoadKit.initO X hx hZ hown w1 w2 w3 eT (g := mkF m pc L (.ref a :: S)) rfl (hsz.trans hml.symm) rfl (hb hby hd) hf (W := W) (by simpa using hW) hl) G
/-! what is made -/
theorem Go.new {C : String} {index n : Nat} (pc' : Nat) (hd : decode bytes pc = .ok (.new index, 3)) (hp : pc + 3 = pc') (w : (Jvm.Cond.classLink own index C).before a0 Z = true) (wi : (Jvm.Cond.instantiable C n).before a0 Z = true) (wz : (Jvm.Cond.initialized C).before a0 Z = true) (hc : cells + 1 ≤ R.cells) (hl : slots + n ≤ R.slots)
    (G : ∀ h' x, h.size = x → n0 ≤ x → Ext h h' → x < h'.size → Exa Z h' x C → (∀ {O nm d : String} {ty : FieldType}, Laid Z a0 C O nm d → parseFieldDescriptor d = some ty → Fld Z h' x O nm d (defaultValue ty)) → Go md l Z n0 R bytes ml ret own mn Ψ (cells + 1) (slots + n) (x :: sf) h' pc' L (.ref x :: S)) :
    Go md l Z n0 R bytes ml ret own mn Ψ cells slots sf h pc L S := by
  subst hp
  intro p e s m args below meth c vm0 T locs hx hby hml hr hlk hn ho X eT hZ B N
  obtain ⟨T', h', X', e', E, A, D, -, st⟩ := newO X hx hZ (by rw [show (s.setVm vm0).vm = vm0 from rfl, hZ.alike.findClass]; exact ho) w wi wz eT (g := mkF m pc L S) rfl (hb hby hd) hc hl
  obtain ⟨s₂, o, h1, r⟩ := G h' _ rfl B.n0le E A.lt A D p e s m args below meth c vm0 T' locs hx hby hml hr hlk hn ho X' e' hZ (B.new E A.lt (Nat.le_refl _)) N
  exact ⟨s₂, o, st _ h1, r⟩
/-- the array at a holds just these -/
def Ary (Z : State) (h : Heap) (a : Addr) (ty : FieldType) (vs : List Value) : Prop := ∃ c : Cell, Arr Z h a c ty ∧ c.slots.toList = vs ∧ vs.length < 2147483648 ∧ ∀ v ∈ vs, fits ty v = true
theorem Ary.lt {a : Addr} {ty : FieldType} {vs : List Value} (A : Ary Z h a ty vs) : a < h.size := by obtain ⟨c, A, -⟩ := A; exact A.lt
theorem Ary.ext {a : Addr} {ty : FieldType} {vs : List Value} (E : Ext h h') (A : Ary Z h a ty vs) : Ary Z h' a ty vs := by obtain ⟨c, A, r⟩ := A; exact ⟨c, A.ext E, r⟩
theorem Ary.other {a b : Addr} {ty : FieldType} {vs : List Value} {sl : Nat} {v : Value} (W : Wr h h' a sl v) (A : Ary Z h b ty vs) (q : b ≠ a) : Ary Z h' b ty vs := by obtain ⟨c, A, r⟩ := A; exact ⟨c, A.other W q, r⟩
theorem Ary.keep {a : Addr} {ty : FieldType} {vs : List Value} {ws : List Addr} (K : Keep h h' ws) (A : Ary Z h a ty vs) (q : a ∉ ws) : Ary Z h' a ty vs := by obtain ⟨c, A, r⟩ := A; exact ⟨c, ⟨K.2.1 a c A.1 q, A.2⟩, r⟩
theorem Ary.set {a : Addr} {ty : FieldType} {vs : List Value} {i : Nat} {v : Value} (W : Wr h h' a i v) (A : Ary Z h a ty vs) (hf : fits ty v = true) : Ary Z h' a ty (vs.set i v) := by
  obtain ⟨c, A, e1, e2, e3⟩ := A
  refine ⟨_, A.same W, by rw [← e1]; simp [Cell.setSlot, Array.toList_setIfInBounds], by simpa using e2, fun w hw => ?_⟩
  rcases List.mem_or_eq_of_mem_set hw with q | rfl
  · exact e3 w q
  · exact hf
theorem clamp_of {j : Int32} {i : Nat} (q : j.toInt = (i : Int)) : ¬ j < 0 ∧ j.toNatClampNeg = i := by
  refine ⟨fun z => ?_, ?_⟩
  · rw [Int32.lt_iff_toInt_lt] at z; rw [q] at z; have : (0 : Int32).toInt = 0 := rfl; omega
  · show j.toInt.toNat = i; rw [q]; rfl
theorem Ary.inb {a : Addr} {ty : FieldType} {vs : List Value} {c : Cell} {j : Int32} {i : Nat} (e1 : c.slots.toList = vs) (q : j.toInt = (i : Int)) (hi : i < vs.length) : ¬ (j < 0 ∨ c.slots.size ≤ j.toNatClampNeg) := by
  obtain ⟨q1, q2⟩ := clamp_of q
  rintro (z | z)
  · exact q1 z
  · rw [q2] at z; subst e1; simp at hi; omega
theorem Ary.at {c : Cell} {vs : List Value} {j : Int32} {i : Nat} {v : Value} (e1 : c.slots.toList = vs) (q : j.toInt = (i : Int)) (hv : vs[i]? = some v) : c.slots[j.toNatClampNeg]? = some v := by
  rw [(clamp_of q).2]; subst e1; rw [← hv]; simp
theorem Go.newA {aty : ArrayType} {n : Int32} {ty : FieldType} (k : Nat) (pc' : Nat) (hd : decode bytes pc = .ok (.newarray aty, 2)) (hp : pc + 2 = pc') (hty : newarray.typeOf aty = ty) (w : (Jvm.Cond.arrayClass ty).before a0 Z = true) (hk : n.toInt = (k : Int)) (cap : Nat) (hcap : k ≤ cap) (hb8 : cap * 8 ≤ 536870912) (hc : cells + 1 ≤ R.cells) (hl : slots + cap ≤ R.slots)
    (G : ∀ h' x, h.size = x → n0 ≤ x → Ext h h' → x < h'.size → Ary Z h' x ty (List.replicate k (defaultValue ty)) → Go md l Z n0 R bytes ml ret own mn Ψ (cells + 1) (slots + cap) (x :: sf) h' pc' L (.ref x :: S)) :
    Go md l Z n0 R bytes ml ret own mn Ψ cells slots sf h pc L (.int n :: S) := by
  subst hp; subst hty
  obtain ⟨q1, q2⟩ := clamp_of hk
  intro p e s m args below meth c vm0 T locs hx hby hml hr hlk hn ho X eT hZ B N
  obtain ⟨T', h', cA, X', e', E, A, st⟩ := newP X hx hZ w eT (g := mkF m pc L (.int n :: S)) rfl (hb hby hd) rfl q1 (cap := cap) (by rw [q2]; exact hcap) hb8 hc hl
  have A' : Ary Z h' h.size (newarray.typeOf aty) (List.replicate k (defaultValue (newarray.typeOf aty))) := ⟨_, A, by simp [Jvm.RoadKit.newA, q2], by simp; omega, fun v hv => by
    rw [(List.mem_replicate.mp hv).2]; cases aty <;> rfl⟩
  obtain ⟨s₂, o, h1, r⟩ := G h' _ rfl B.n0le E A'.lt A' p e s m args below meth c vm0 T' locs hx hby hml hr hlk hn ho X' e' hZ (B.new E A'.lt (Nat.le_refl _)) N
  exact ⟨s₂, o, st _ h1, r⟩
theorem Go.alen {a : Addr} {ty : FieldType} {vs : List Value} (pc' : Nat) (n : Int32) (hd : decode bytes pc = .ok (.arraylength, 1)) (hp : pc + 1 = pc') (A : Ary Z h a ty vs) (hn : Int32.ofNat vs.length = n) (G : Go md l Z n0 R bytes ml ret own mn Ψ cells slots sf h pc' L (.int n :: S)) :
    Go md l Z n0 R bytes ml ret own mn Ψ cells slots sf h pc L (.ref a :: S) := by
  subst hp; subst hn
  obtain ⟨c0, A, e1, e2, e3⟩ := A
  refine Go.warm _ (fun p e s m args below meth c T locs hx hby hml hZ hown X eT => ⟨T, X, eT, fun target k => X.arraylength hx (by rw [eT]; exact A.1) (State.isArrayOf_alike hZ.alike A.2.1) (g := mkF m pc L (.ref a :: S)) rfl rfl (hb hby hd) target ?_⟩) G
  subst e1; simpa using k
theorem Go.caload {a : Addr} {vs : List Value} {j : Int32} (i : Nat) {v : Value} (pc' : Nat) (hd : decode bytes pc = .ok (.caload, 1)) (hp : pc + 1 = pc') (A : Ary Z h a .char vs) (hj : j.toInt = (i : Int)) (hv : vs[i]? = some v) (G : Go md l Z n0 R bytes ml ret own mn Ψ cells slots sf h pc' L (v :: S)) :
    Go md l Z n0 R bytes ml ret own mn Ψ cells slots sf h pc L (.int j :: .ref a :: S) := by
  subst hp
  obtain ⟨c0, A, e1, e2, e3⟩ := A
  have hi := (List.getElem?_eq_some_iff.mp hv).1
  exact Go.warm _ (fun p e s m args below meth c T locs hx hby hml hZ hown X eT => ⟨T, X, eT, fun target k => X.caload hx (by rw [eT]; exact A.1) (State.isArrayOf_alike hZ.alike A.2.1) A.2.2 (Ary.inb (a := a) (ty := .char) e1 hj hi) (Ary.at e1 hj hv) (g := mkF m pc L (.int j :: .ref a :: S)) rfl rfl (hb hby hd) target k⟩) G
theorem Go.baload {a : Addr} {vs : List Value} {j : Int32} (i : Nat) {v : Value} (pc' : Nat) (hd : decode bytes pc = .ok (.baload, 1)) (hp : pc + 1 = pc') (A : Ary Z h a .byte vs) (hj : j.toInt = (i : Int)) (hv : vs[i]? = some v) (G : Go md l Z n0 R bytes ml ret own mn Ψ cells slots sf h pc' L (v :: S)) :
    Go md l Z n0 R bytes ml ret own mn Ψ cells slots sf h pc L (.int j :: .ref a :: S) := by
  subst hp
  obtain ⟨c0, A, e1, e2, e3⟩ := A
  have hi := (List.getElem?_eq_some_iff.mp hv).1
  exact Go.warm _ (fun p e s m args below meth c T locs hx hby hml hZ hown X eT => ⟨T, X, eT, fun target k => X.baloadBytes hx (by rw [eT]; exact A.1) (State.isArrayOf_alike hZ.alike A.2.1) A.2.2 (Ary.inb (a := a) (ty := .byte) e1 hj hi) (Ary.at e1 hj hv) (g := mkF m pc L (.int j :: .ref a :: S)) rfl rfl (hb hby hd) target k⟩) G
theorem Go.laload {a : Addr} {vs : List Value} {j : Int32} (i : Nat) {v : Value} (pc' : Nat) (hd : decode bytes pc = .ok (.laload, 1)) (hp : pc + 1 = pc') (A : Ary Z h a .long vs) (hj : j.toInt = (i : Int)) (hv : vs[i]? = some v) (G : Go md l Z n0 R bytes ml ret own mn Ψ cells slots sf h pc' L (v :: S)) :
    Go md l Z n0 R bytes ml ret own mn Ψ cells slots sf h pc L (.int j :: .ref a :: S) := by
  subst hp
  obtain ⟨c0, A, e1, e2, e3⟩ := A
  have hi := (List.getElem?_eq_some_iff.mp hv).1
  exact Go.warm _ (fun p e s m args below meth c T locs hx hby hml hZ hown X eT => ⟨T, X, eT, fun target k => X.laload hx (by rw [eT]; exact A.1) (State.isArrayOf_alike hZ.alike A.2.1) A.2.2 (Ary.inb (a := a) (ty := .long) e1 hj hi) (Ary.at e1 hj hv) (g := mkF m pc L (.int j :: .ref a :: S)) rfl rfl (hb hby hd) target k⟩) G
theorem Go.aaload {a : Addr} {vs : List Value} {j : Int32} {ty : FieldType} (i : Nat) {v : Value} (pc' : Nat) (hd : decode bytes pc = .ok (.aaload, 1)) (hp : pc + 1 = pc') (hty : ty.isReference = true) (A : Ary Z h a ty vs) (hj : j.toInt = (i : Int)) (hv : vs[i]? = some v) (G : Go md l Z n0 R bytes ml ret own mn Ψ cells slots sf h pc' L (v :: S)) :
    Go md l Z n0 R bytes ml ret own mn Ψ cells slots sf h pc L (.int j :: .ref a :: S) := by
  subst hp
  obtain ⟨c0, A, e1, e2, e3⟩ := A
  have hi := (List.getElem?_eq_some_iff.mp hv).1
  exact Go.warm _ (fun p e s m args below meth c T locs hx hby hml hZ hown X eT => ⟨T, X, eT, fun target k => X.aaload hx (by rw [eT]; exact A.1) (State.isArrayOf_alike hZ.alike A.2.1) hty A.2.2 (Ary.inb (a := a) (ty := ty) e1 hj hi) (Ary.at e1 hj hv) (g := mkF m pc L (.int j :: .ref a :: S)) rfl rfl (hb hby hd) target k⟩) G
theorem Go.castore {a : Addr} {vs : List Value} {j x : Int32} (i : Nat) (pc' : Nat) (hd : decode bytes pc = .ok (.castore, 1)) (hp : pc + 1 = pc') (A : Ary Z h a .char vs) (hj : j.toInt = (i : Int)) (hi : i < vs.length) (ha : a ∈ sf) (hn0 : n0 ≤ a)
    (G : ∀ h', Wr h h' a i (.int (nar .char x)) → Ary Z h' a .char (vs.set i (.int (nar .char x))) → Go md l Z n0 R bytes ml ret own mn Ψ cells slots sf h' pc' L S) : Go md l Z n0 R bytes ml ret own mn Ψ cells slots sf h pc L (.int x :: .int j :: .ref a :: S) := by
  subst hp
  obtain ⟨c0, A0, e1, e2, e3⟩ := A
  obtain ⟨-, q2⟩ := clamp_of hj
  exact Go.write _ ha hn0 (sl := i) (fun p e s m args below meth c T locs hx hby hml hnm hZ hown X eT => by rw [← q2]; exact stC X hx hZ eT A0 (Ary.inb (a := a) (ty := .char) e1 hj hi) (g := mkF m pc L (.int x :: .int j :: .ref a :: S)) rfl rfl (hb hby hd)) (fun h' W => G h' W (Ary.set W ⟨c0, A0, e1, e2, e3⟩ (fits_nar_char _)))
theorem Go.bastore {a : Addr} {vs : List Value} {j x : Int32} (i : Nat) (pc' : Nat) (hd : decode bytes pc = .ok (.bastore, 1)) (hp : pc + 1 = pc') (A : Ary Z h a .byte vs) (hj : j.toInt = (i : Int)) (hi : i < vs.length) (ha : a ∈ sf) (hn0 : n0 ≤ a)
    (G : ∀ h', Wr h h' a i (.int x.toInt8.toInt32) → Ary Z h' a .byte (vs.set i (.int x.toInt8.toInt32)) → Go md l Z n0 R bytes ml ret own mn Ψ cells slots sf h' pc' L S) : Go md l Z n0 R bytes ml ret own mn Ψ cells slots sf h pc L (.int x :: .int j :: .ref a :: S) := by
  subst hp
  obtain ⟨c0, A0, e1, e2, e3⟩ := A
  obtain ⟨-, q2⟩ := clamp_of hj
  exact Go.write _ ha hn0 (sl := i) (fun p e s m args below meth c T locs hx hby hml hnm hZ hown X eT => by rw [← q2]; exact stB X hx hZ eT A0 (Ary.inb (a := a) (ty := .byte) e1 hj hi) (g := mkF m pc L (.int x :: .int j :: .ref a :: S)) rfl rfl (hb hby hd)) (fun h' W => G h' W (Ary.set W ⟨c0, A0, e1, e2, e3⟩ (fits_nar_byte _)))
/-! calls -/
abbrev CPre (R : Room) (as : Array Value) (h : Heap) (kc ks : Nat) : Pt → Array Value → Prop := fun A a => a = as ∧ A.U.heap = h ∧ A.cells + kc ≤ R.cells ∧ A.slots + ks ≤ R.slots
abbrev CPost (Z : State) (n0 : Nat) (Q : Option Value → Heap → List Addr → Prop) (kc ks : Nat) : Pt → Array Value → Option Value → Pt → Prop := fun A _ v B => ∃ (L : List Loc) (sf' : List Addr), Q v B.U.heap sf' ∧ Old Z n0 B.U.heap ∧ Fr n0 L ∧ B.locs = A.locs ++ L ∧ B.cells = A.cells + kc ∧ B.slots = A.slots + ks
abbrev CPostW (Z : State) (EL : List (String × Nat)) (vm0 : Vm) (h : Heap) (n0 : Nat) (Q : Option Value → Heap → List Addr → Prop) (kc ks : Nat) : Pt → Array Value → Option Value → Pt → Prop := fun A _ v B => ∃ (L : List Loc) (sf' : List Addr), Q v B.U.heap sf' ∧ Old Z n0 B.U.heap ∧ Fr n0 L ∧ B.locs = A.locs ++ L ∧ B.cells = A.cells + kc ∧ B.slots = A.slots + ks ∧ CHr Z EL vm0 h B.U.vm B.U.heap ∧ ∀ x ∈ sf', x < B.U.heap.size ∧ Safe Z EL B.U.vm B.U.heap x
def Call (md : Md) (l : Launch) (Z : State) (n0 : Nat) (R : Room) (y : MethodName) (len W : Nat) (as : Array Value) (h : Heap) (sf : List Addr) (kc ks : Nat) (Q : Option Value → Heap → List Addr → Prop) : Prop :=
  ∀ (p : Program) (e : Env) (below : List Frame) (s : State) (vm0 : Vm) (sargs : Array Value), Z.Warmed39 vm0 → Bok md Z n0 s sf vm0 h →
    match md with
    | none => Back l R p e below (s.setVm vm0) sargs y len W (CPre R as h kc ks) (CPost Z n0 Q kc ks)
    | some EL => BackS l R p e below (s.setVm vm0) sargs y len W (CPre R as h kc ks) (CPostW Z EL vm0 h n0 Q kc ks)
theorem Bok.called {s U : State} {vm0 : Vm} {sf' : List Addr} (B : Bok (some EL) Z n0 s sf vm0 h) (h2 : (s.setVm vm0).Since U.vm U.heap.size) (o : Old Z n0 U.heap) (C : CHr Z EL vm0 h U.vm U.heap) (q : ∀ x ∈ sf', x < U.heap.size ∧ Safe Z EL U.vm U.heap x) : Bok (some EL) Z n0 s (sf' ++ sf) U.vm U.heap := by
  obtain ⟨-, ⟨k, b1, b2⟩, b3, b4, b5⟩ := B
  refine ⟨o, ⟨_, b1.trans h2 (Nat.le_trans b2 C.2.1), Nat.le_refl _⟩, b3, b4.trans C, fun x hx => ?_⟩
  rcases List.mem_append.mp hx with hx | hx
  · exact q x hx
  · exact ⟨Nat.lt_of_lt_of_le (b5 x hx).1 C.2.1, C.safe (b5 x hx).1 (b5 x hx).2⟩
theorem Go.callS {y : MethodName} {index maxY kc ks W : Nat} {bytesY : ByteArray} {retY : Option FieldType} {sfc : List Addr} {Q : Option Value → Heap → List Addr → Prop} {St : List Value} (pc' : Nat) (argsL : List Value) (hd : decode bytes pc = .ok (.invokestatic index, 3)) (hp : pc + 3 = pc') (hst : St = argsL.reverse ++ S)
    (wl : (Jvm.Cond.methodLink own index y).before a0 Z = true) (ws : (Jvm.Cond.static y).before a0 Z = true) (wi : (Jvm.Cond.initialized y.cls).before a0 Z = true) (wc : (Jvm.Cond.code y bytesY maxY retY).before a0 Z = true) (hy : y.cls ≠ "java/lang/invoke/MethodHandle" ∧ y.cls ≠ "java/lang/invoke/VarHandle")
    (hC : Call md l Z n0 R y 3 W argsL.toArray h sfc kc ks Q) (hlen : ∀ sig, parseMethodDescriptor y.desc = some sig → argsL.length = sig.parameters.length) (hW : (S.map fun v => v.category).sum ≤ W) (hsz : L.size = ml) (hc : cells + kc ≤ R.cells) (hs : slots + ks ≤ R.slots) (hsf : ∀ x ∈ sfc, x ∈ sf)
    (G : ∀ v h' sf', Q v h' sf' → Go md l Z n0 R bytes ml ret own mn Ψ (cells + kc) (slots + ks) (sf' ++ sf) h' pc' L (v.toList ++ S)) : Go md l Z n0 R bytes ml ret own mn Ψ cells slots sf h pc L St := by
  subst hp; subst hst
  intro p e s m args below meth c vm0 T locs hx hby hml hr hlk hn ho X eT hZ B N
  have hown : (s.setVm vm0).vm.findClass own = some m.cls := by rw [show (s.setVm vm0).vm = vm0 from rfl, hZ.alike.findClass]; exact ho
  have K := hC p e below s vm0 args hZ (B.sub hsf)
  cases md with
  | none =>
    obtain ⟨v, vm₁, ⟨U, L1, c1, n1⟩, -, X', ⟨L', sf', q1, q0, q2, q3, q4, q5⟩, st⟩ := Jvm.LawKit.callS X hx hown (mvT hZ wl) (mvT hZ ws) (mvT hZ wi) (mvT hZ wc) hy K (g := mkF m pc L (argsL.reverse ++ S)) rfl (hsz.trans hml.symm) hlen rfl (by simpa using hW) (hb hby hd) (fun _ _ => ⟨rfl, eT, hc, hs⟩)
    dsimp only [Pt.U, Pt.locs, Pt.cells, Pt.slots] at q1 q0 q3 q4 q5 X' st
    subst q3 q4 q5
    obtain ⟨s₂, o, h1, r⟩ := G v U.heap sf' q1 p e s m args below meth c vm0 U _ hx hby hml hr hlk hn ho X' rfl hZ ⟨q0, B.2⟩ (N.app q2)
    exact ⟨s₂, o, st _ h1, r⟩
  | some EL =>
    obtain ⟨v, vm₁, ⟨U, L1, c1, n1⟩, -, X', hS, hgr, ⟨L', sf', q1, q0, q2, q3, q4, q5, q6, q7⟩, st⟩ := callSS X hx hown (mvT hZ wl) (mvT hZ ws) (mvT hZ wi) (mvT hZ wc) hy K (g := mkF m pc L (argsL.reverse ++ S)) rfl (hsz.trans hml.symm) hlen rfl (by simpa using hW) (hb hby hd) (fun _ _ => ⟨rfl, eT, hc, hs⟩)
    dsimp only [Pt.U, Pt.locs, Pt.cells, Pt.slots] at q1 q0 q3 q4 q5 q6 q7 X' st hS hgr
    subst q3 q4 q5
    obtain ⟨s₂, o, h1, r⟩ := G v U.heap sf' q1 p e s m args below meth c U.vm U _ hx hby hml hr hlk hn ho X' rfl (State.Warmed39.trans (t := s.setVm vm0) hZ hS.1) (B.called hS q0 q6 q7) (N.app q2)
    exact ⟨s₂, o, st.trans h1, r⟩
theorem Go.callC {y : MethodName} {index maxY kc ks W : Nat} {bytesY : ByteArray} {sfc : List Addr} {Q : Option Value → Heap → List Addr → Prop} {St : List Value} {a : Addr} (pc' : Nat) (argsL : List Value) (hd : decode bytes pc = .ok (.invokespecial index, 3)) (hp : pc + 3 = pc') (hst : St = argsL.reverse ++ .ref a :: S) (hy1 : y.name = "<init>")
    (wl : (Jvm.Cond.methodLink own index y).before a0 Z = true) (ws : (Jvm.Cond.instanceMethod y).before a0 Z = true) (wc : (Jvm.Cond.code y bytesY maxY none).before a0 Z = true) (hy : y.cls ≠ "java/lang/invoke/MethodHandle" ∧ y.cls ≠ "java/lang/invoke/VarHandle")
    (hC : Call md l Z n0 R y 3 W (.ref a :: argsL).toArray h sfc kc ks Q) (hlen : ∀ sig, parseMethodDescriptor y.desc = some sig → argsL.length = sig.parameters.length) (hW : (S.map fun v => v.category).sum ≤ W) (hsz : L.size = ml) (hc : cells + kc ≤ R.cells) (hs : slots + ks ≤ R.slots) (hsf : ∀ x ∈ sfc, x ∈ sf)
    (G : ∀ v h' sf', Q v h' sf' → Go md l Z n0 R bytes ml ret own mn Ψ (cells + kc) (slots + ks) (sf' ++ sf) h' pc' L (v.toList ++ S)) : Go md l Z n0 R bytes ml ret own mn Ψ cells slots sf h pc L St := by
  subst hp; subst hst
  intro p e s m args below meth c vm0 T locs hx hby hml hr hlk hn ho X eT hZ B N
  have hown : (s.setVm vm0).vm.findClass own = some m.cls := by rw [show (s.setVm vm0).vm = vm0 from rfl, hZ.alike.findClass]; exact ho
  have K := hC p e below s vm0 args hZ (B.sub hsf)
  cases md with
  | none =>
    obtain ⟨v, vm₁, ⟨U, L1, c1, n1⟩, -, X', ⟨L', sf', q1, q0, q2, q3, q4, q5⟩, st⟩ := X.specialBack hx hy1 hown (mvT hZ wl) (mvT hZ ws) (mvT hZ wc) hy K (g := mkF m pc L (argsL.reverse ++ .ref a :: S)) rfl (hsz.trans hml.symm) (Steps.refl _) hlen rfl (by simpa using hW) (hb hby hd) (fun _ _ => ⟨rfl, eT, hc, hs⟩)
    dsimp only [Pt.U, Pt.locs, Pt.cells, Pt.slots] at q1 q0 q3 q4 q5 X' st
    subst q3 q4 q5
    obtain ⟨s₂, o, h1, r⟩ := G v U.heap sf' q1 p e s m args below meth c vm0 U _ hx hby hml hr hlk hn ho X' rfl hZ ⟨q0, B.2⟩ (N.app q2)
    exact ⟨s₂, o, st.trans h1, r⟩
  | some EL =>
    obtain ⟨v, vm₁, ⟨U, L1, c1, n1⟩, -, X', hS, hgr, ⟨L', sf', q1, q0, q2, q3, q4, q5, q6, q7⟩, st⟩ := X.specialBackS hx hy1 hown (mvT hZ wl) (mvT hZ ws) (mvT hZ wc) hy K (g := mkF m pc L (argsL.reverse ++ .ref a :: S)) rfl (hsz.trans hml.symm) (Steps.refl _) hlen rfl (by simpa using hW) (hb hby hd) (fun _ _ => ⟨rfl, eT, hc, hs⟩)
    dsimp only [Pt.U, Pt.locs, Pt.cells, Pt.slots] at q1 q0 q3 q4 q5 q6 q7 X' st hS hgr
    subst q3 q4 q5
    obtain ⟨s₂, o, h1, r⟩ := G v U.heap sf' q1 p e s m args below meth c U.vm U _ hx hby hml hr hlk hn ho X' rfl (State.Warmed39.trans (t := s.setVm vm0) hZ hS.1) (B.called hS q0 q6 q7) (N.app q2)
    exact ⟨s₂, o, st.trans h1, r⟩
theorem Go.callV {y z : MethodName} {index kc ks W : Nat} {C : String} {sfc : List Addr} {Q : Option Value → Heap → List Addr → Prop} {St : List Value} {a : Addr} (pc' : Nat) (argsL : List Value) (hd : decode bytes pc = .ok (.invokevirtual index, 3)) (hp : pc + 3 = pc') (hst : St = argsL.reverse ++ .ref a :: S)
    (wl : (Jvm.Cond.methodLink own index y).before a0 Z = true) (wd : (Jvm.Cond.declares y).before a0 Z = true) (wse : (Jvm.Cond.selects C y z).before a0 Z = true) (ws : (Jvm.Cond.instanceMethod z).before a0 Z = true) (hnf : ∀ (s : State), Z.Warmed39 s.vm → NotFace s y) (hy : y.cls ≠ "java/lang/invoke/MethodHandle" ∧ y.cls ≠ "java/lang/invoke/VarHandle")
    (E : Exa Z h a C) (hC : Call md l Z n0 R z 3 W (.ref a :: argsL).toArray h sfc kc ks Q) (hlen : ∀ sig, parseMethodDescriptor y.desc = some sig → argsL.length = sig.parameters.length) (hW : (S.map fun v => v.category).sum ≤ W) (hsz : L.size = ml) (hc : cells + kc ≤ R.cells) (hs : slots + ks ≤ R.slots) (hsf : ∀ x ∈ sfc, x ∈ sf)
    (G : ∀ v h' sf', Q v h' sf' → Go md l Z n0 R bytes ml ret own mn Ψ (cells + kc) (slots + ks) (sf' ++ sf) h' pc' L (v.toList ++ S)) : Go md l Z n0 R bytes ml ret own mn Ψ cells slots sf h pc L St := by
  subst hp; subst hst
  intro p e s m args below meth c vm0 T locs hx hby hml hr hlk hn ho X eT hZ B N
  have hown : (s.setVm vm0).vm.findClass own = some m.cls := by rw [show (s.setVm vm0).vm = vm0 from rfl, hZ.alike.findClass]; exact ho
  have K := hC p e below s vm0 args hZ (B.sub hsf)
  obtain ⟨cB, kB, i1, -, i3⟩ := isOf (s := s.setVm vm0) hZ eT E
  cases md with
  | none =>
    obtain ⟨v, vm₁, ⟨U, L1, c1, n1⟩, -, X', ⟨L', sf', q1, q0, q2, q3, q4, q5⟩, st⟩ := X.virtualBack hx hown (mvT hZ wl) (mvT hZ wd) (hnf _ hZ) (mvT hZ wse) (mvT hZ ws) hy K i1 i3 (g := mkF m pc L (argsL.reverse ++ .ref a :: S)) rfl (hsz.trans hml.symm) (Steps.refl _) hlen rfl (by simpa using hW) (hb hby hd) (fun _ _ => ⟨rfl, eT, hc, hs⟩)
    dsimp only [Pt.U, Pt.locs, Pt.cells, Pt.slots] at q1 q0 q3 q4 q5 X' st
    subst q3 q4 q5
    obtain ⟨s₂, o, h1, r⟩ := G v U.heap sf' q1 p e s m args below meth c vm0 U _ hx hby hml hr hlk hn ho X' rfl hZ ⟨q0, B.2⟩ (N.app q2)
    exact ⟨s₂, o, st.trans h1, r⟩
  | some EL =>
    obtain ⟨v, vm₁, ⟨U, L1, c1, n1⟩, -, X', hS, hgr, ⟨L', sf', q1, q0, q2, q3, q4, q5, q6, q7⟩, st⟩ := X.virtualBackS hx hown (mvT hZ wl) (mvT hZ wd) (hnf _ hZ) (mvT hZ wse) (mvT hZ ws) hy K i1 i3 (g := mkF m pc L (argsL.reverse ++ .ref a :: S)) rfl (hsz.trans hml.symm) (Steps.refl _) hlen rfl (by simpa using hW) (hb hby hd) (fun _ _ => ⟨rfl, eT, hc, hs⟩)
    dsimp only [Pt.U, Pt.locs, Pt.cells, Pt.slots] at q1 q0 q3 q4 q5 q6 q7 X' st hS hgr
    subst q3 q4 q5
    obtain ⟨s₂, o, h1, r⟩ := G v U.heap sf' q1 p e s m args below meth c U.vm U _ hx hby hml hr hlk hn ho X' rfl (State.Warmed39.trans (t := s.setVm vm0) hZ hS.1) (B.called hS q0 q6 q7) (N.app q2)
    exact ⟨s₂, o, st.trans h1, r⟩
/-! from a body to a call -/
theorem met_of_go {cls name desc : String} {as : Array Value} {L0 : Array Slot} {Q : Option Value → Heap → List Addr → Prop} {ws : List Jvm.Cond} (hpn : plainFor ⟨cls, name, desc⟩ = true) (hef : ∀ m, entryFrame m as ml = mkF m 0 L0 []) (G : Go md l Z n0 R bytes ml ret cls name Q 0 0 sf h 0 L0 []) :
    MetFree l ⟨cls, name, desc⟩ (head1 (Jvm.Cond.code ⟨cls, name, desc⟩ bytes ml ret :: ws) R) (fun a U => a = as ∧ Z.Warmed39 U.vm ∧ U.heap = h ∧ Bok md Z n0 U sf U.vm h) (fun _ _ _ _ _ => True)
      (fun _ U o U' => ∃ (v : Option Value) (L' : List Loc) (sf' : List Addr), o = .returned v ∧ Q v U'.heap sf' ∧ Old Z n0 U'.heap ∧ Fr n0 L' ∧ SafeAll md Z sf' U'.vm U'.heap ∧ FinE md Z U o U' L' R.cells R.slots) := by
  refine MetFree.of_bodySF hpn hisR ?_
  intro p e s m args below meth c s₁ Bd hml0 hP hK
  obtain ⟨rfl, hZ, hh, hB⟩ := hP
  have X0 : Stand p l e R s m args below meth c s₁ [] 0 0 := Stand.of_body Bd
  have e0 : s₁.heap = h := by rw [← hh, Bd.state]; rfl
  have q := G p e s m args below meth c s.vm s₁ [] Bd.exec Bd.bytes hml0 Bd.returns (BodyLoose.notSynchronized Bd) (name_of_methodNamed Bd.named Bd.method).1 (by rw [← hZ.alike.findClass]; exact findClass_of_methodNamed Bd.named) X0 e0 hZ hB (Fr.nil n0)
  rw [hef]; exact q
theorem call_of_go {cls name desc : String} {as : Array Value} {L0 : Array Slot} {Q : Option Value → Heap → List Addr → Prop} {rm : Room} {len W : Nat} (hpn : plainFor ⟨cls, name, desc⟩ = true) (hef : ∀ m, entryFrame m as ml = mkF m 0 L0 []) (G : Go md l Z n0 rm bytes ml ret cls name Q 0 0 sf h 0 L0 [])
    (wc : (Jvm.Cond.code ⟨cls, name, desc⟩ bytes ml ret).before a0 Z = true) (wz : (Jvm.Cond.initialized cls).before a0 Z = true) (hf : rm.frames + 1 ≤ R.frames) (hl : W + (ml + 11) + rm.locals ≤ R.locals) :
    Call md l Z n0 R ⟨cls, name, desc⟩ len W as h sf rm.cells rm.slots Q := by
  have hM := met_of_go (desc := desc) (ws := []) hpn hef G
  intro p e below s vm0 sargs hZ B
  cases md with
  | none =>
    have hM' : MetFree l ⟨cls, name, desc⟩ (head1 [Jvm.Cond.code ⟨cls, name, desc⟩ bytes ml ret] rm) (fun a U => a = as ∧ Z.Warmed39 U.vm ∧ U.heap = h) (fun _ _ _ _ _ => True) (fun _ U o U' => ∃ v L, o = .returned v ∧ (fun v h' L => ∃ sf', Q v h' sf' ∧ Old Z n0 h' ∧ Fr n0 L) v U'.heap L ∧ FrameEnd U o U' L rm.cells rm.slots) :=
      fun p e ha hc hk s m args below hfr happ hP hK => by
        obtain ⟨n, o, h1, h2, h3, v, L', sf', e1, q1, q0, q2, -, q4⟩ := hM p e ha hc hk s m args below hfr happ ⟨hP.1, hP.2.1, hP.2.2, B.1, rfl⟩ hK
        exact ⟨n, o, h1, h2, h3, v, L', e1, ⟨sf', q1, q0, q2⟩, q4⟩
    have K := backOf (Q := fun v h' L => ∃ sf', Q v h' sf' ∧ Old Z n0 h' ∧ Fr n0 L) (R := R) (p := p) (e := e) (below := below) (s := s.setVm vm0) (args := sargs) (len := len) (W := W) hM' hZ wc wz hf hl
    intro m meth c A g ig mk a X hg hsize hdg hW hn hp
    obtain ⟨v, P, X', ⟨L', ⟨sf', q1, q0, q2⟩, q3, q4, q5⟩, st⟩ := K m meth c A g ig mk a X hg hsize hdg hW hn hp
    exact ⟨v, P, X', ⟨L', sf', q1, q0, q2, q3, q4, q5⟩, st⟩
  | some EL =>
    obtain ⟨b0, ⟨k, b1, b2⟩, ⟨a1, b3⟩, b4, b5⟩ := B
    exact BackS.of_freeW (bytes := bytes) (maxL := ml) (ret := ret) (E := fun _ first o t L k n => k = rm.cells ∧ n = rm.slots ∧ (∃ v sf', o = .returned v ∧ Q v t.heap sf' ∧ Old Z n0 t.heap ∧ Fr n0 L ∧ ∀ x ∈ sf', x < t.heap.size ∧ Safe Z EL t.vm t.heap x) ∧ CHr Z EL first.vm first.heap t.vm t.heap) hM hf hl
      (fun m meth c A a Y hp => have hU : Z.Warmed39 A.U.vm := wtrans (s := s.setVm vm0) hZ Y.warmed
        ⟨by show (Jvm.Cond.and _ .tt).before a A.U = true; rw [Cond.before_and, mv hU wc]; rfl, mv hU wc, mv hU wz, hp.2.2.1, hp.2.2.2⟩)
      (fun m meth c A a g mk Y hp => by
        have C := CHv.at Y hZ b3 b4.1
        exact ⟨hp.1, wtrans (s := s.setVm vm0) hZ Y.warmed, hp.2.1, b0, ⟨_, (State.WarmedH.refl _).since _, Nat.le_refl _⟩, ⟨a1, b3⟩, by show CHr Z EL A.U.vm A.U.heap A.U.vm h; rw [hp.2.1]; exact CHr.refl C.1, fun x hx => ⟨(b5 x hx).1, C.safe (b5 x hx).1 (b5 x hx).2⟩⟩)
      (fun _ _ _ _ _ _ _ _ _ => trivial)
      (fun _ _ _ _ ⟨v, L', sf', e1, q1, q0, q2, q3, q4, q5⟩ => ⟨L', _, _, q5, rfl, rfl, ⟨v, sf', e1, q1, q0, q2, q3⟩, q4⟩)
      (fun m meth c A a g mk v t L' k n Y hp _ _ ⟨e1, e2, ⟨v', sf', e3, q1, q0, q2, q3⟩, q4⟩ => by
        cases e3; subst e1 e2
        refine ⟨L', sf', q1, q0, q2, rfl, rfl, rfl, (CHv.at Y hZ b3 b4.1).trans ?_, q3⟩
        rw [← hp.2.1]; exact q4)
/-- a law of the library or of a pasted text, in backOf's shape -/
theorem call_of_back {y : MethodName} {as : Array Value} {len W kc ks : Nat} {QB : Option Value → Heap → List Loc → Prop} {Q : Option Value → Heap → List Addr → Prop} (ws : List Addr)
    (hB : ∀ (p : Program) (e : Env) (below : List Frame) (s : State) (sargs : Array Value), Z.Warmed39 s.vm → Back l R p e below s sargs y len W (fun A a => a = as ∧ A.U.heap = h ∧ A.cells + kc ≤ R.cells ∧ A.slots + ks ≤ R.slots) (fun A _ v B => ∃ L, QB v B.U.heap L ∧ B.locs = A.locs ++ L ∧ B.cells = A.cells + kc ∧ B.slots = A.slots + ks))
    (hQ : ∀ v h' L, QB v h' L → Fr n0 L ∧ Keep h h' ws ∧ Q v h' []) (hws : ∀ x ∈ ws, x ∈ sf) (hw0 : ∀ x ∈ ws, n0 ≤ x) : Call md l Z n0 R y len W as h sf kc ks Q := by
  intro p e below s vm0 sargs hZ B
  have K := hB p e below (s.setVm vm0) sargs hZ
  cases md with
  | none =>
    intro m meth c A g ig mk a X hg hsize hdg hW hn hp
    obtain ⟨v, P, X', ⟨L', q1, q3, q4, q5⟩, st⟩ := K m meth c A g ig mk a X hg hsize hdg hW hn hp
    obtain ⟨r1, r2, r3⟩ := hQ _ _ _ q1
    exact ⟨v, P, X', ⟨L', [], r3, B.1.keep r2 hw0, r1, q3, q4, q5⟩, st⟩
  | some EL =>
    obtain ⟨b0, ⟨k, b1, b2⟩, ⟨a1, b3⟩, b4, b5⟩ := B
    intro m meth c A g ig mk a X hg hsize hdg hW hn hp
    obtain ⟨v, P, X', ⟨L', q1, q3, q4, q5⟩, st⟩ := K m meth c A g ig mk a X hg hsize hdg hW hn hp
    obtain ⟨r1, r2, r3⟩ := hQ _ _ _ q1
    have C1 : CHr Z EL vm0 h vm0 P.U.heap := CHr.keep r2 (fun x hx => (b5 x (hws x hx)).2) b4.1
    have C2 : CHr Z EL vm0 P.U.heap P.U.vm P.U.heap := CHv.at X' hZ b3 C1.1
    exact ⟨v, P, X'.retabled X'.warmed.wide, X'.warmed.since _, by rw [hp.2.1]; exact r2.1, ⟨L', [], r3, b0.keep r2 hw0, r1, q3, q4, q5, C1.trans C2, fun x hx => nomatch hx⟩, st⟩
/-! String constants -/
theorem Go.ldcL {index : Nat} {text : String} {vs : List Value} {z : Int32} (n : Nat) (pc' : Nat) (hd : decode bytes pc = .ok (.ldc index, 2)) (hp : pc + 2 = pc') (w : (Jvm.Cond.stringLink own index text).before a0 Z = true) (wS : ∀ a ∈ Bundle.stringAtoms, a.before a0 Z = true) (hmem : (own, index) ∈ EL)
    (ht : (∀ c ∈ text.toList, c.toNat < 256) ∧ text.toList.map (fun c => Value.int (Jvm.Lit.byteI c.toNat.toUInt16)) = vs) (hz : ¬ z < 0) (hl : z.toNatClampNeg = vs.length) (hn : 4 * text.toList.length ≤ n) (hbig : n ≤ 536870912) (hc : cells + 2 ≤ R.cells) (hl' : slots + (n + 4) ≤ R.slots)
    (G : ∀ h' a b k, Ext h h' → Exa Z h' a "java/lang/String" → Fld Z h' a "java/lang/String" "coder" "B" (.int 0) → Fld Z h' a "java/lang/String" "value" "[B" (.ref b) → Arv Z h' b k .byte z vs (.int 0) → (∀ x ∈ sf, x ≠ a ∧ x ≠ b) → Go (some EL) l Z n0 R bytes ml ret own mn Ψ (cells + 2) (slots + (n + 4)) sf h' pc' L (.ref a :: S)) :
    Go (some EL) l Z n0 R bytes ml ret own mn Ψ cells slots sf h pc L S := by
  subst hp
  intro p e s m args below meth c vm0 T locs hx hby hml hr hlk hnm ho X eT hZ B N
  obtain ⟨b0, ⟨k0, b1, b2⟩, ⟨a1, b3⟩, b4, b5⟩ := B
  have hown : vm0.findClass own = some m.cls := by rw [hZ.alike.findClass]; exact ho
  obtain ⟨a, T', h', k1, b, k, X', e', E, hS, hk1, hZ', hown', x1, x2, x3, x4, x5, x6, C, -, hsf, st⟩ := ldcCH X hx hZ hown w wS eT b1 b2 b3 hmem b4.1 ht hz hl (g := mkF m pc L S) rfl (hb hby hd) hn hbig hc hl'
  obtain ⟨s₂, o, h1, r⟩ := G h' a b k E x1 x2 x3 x4 (fun x hx => hsf x (C.safe (b5 x hx).1 (b5 x hx).2)) p e s m args below meth c T'.vm T' locs hx hby hml hr hlk hnm ho X' e' hZ' ⟨b0.ext E, ⟨k1, hS, hk1⟩, ⟨a1, b3⟩, b4.trans C, fun x hx => ⟨Nat.lt_of_lt_of_le (b5 x hx).1 C.2.1, C.safe (b5 x hx).1 (b5 x hx).2⟩⟩ N
  exact ⟨s₂, o, st _ h1, r⟩
theorem ofNat_toInt {n : Nat} (q : n < 2147483648) : (Int32.ofNat n).toInt = (n : Int) := Int32.toInt_ofNat_of_lt (by omega)
theorem Ary.arv {a : Addr} {ty : FieldType} {vs : List Value} (A : Ary Z h a ty vs) (d : Value) : ∃ k, Arv Z h a k ty (Int32.ofNat vs.length) vs d := by
  obtain ⟨c, A, e1, e2, e3⟩ := A
  obtain ⟨q1, q2⟩ := clamp_of (ofNat_toInt e2)
  subst e1
  refine ⟨c.cls, c, A, rfl, by rw [q2]; simp, q1, fun k hk => ?_, fun i hi => ?_⟩
  · simp [List.getD, hk]
  · have : c.slots.toList.getD i d = c.slots[i] := by simp [List.getD, hi]
    rw [this]; exact e3 _ (by simp)
theorem Ary.ofArv {a : Addr} {ty : FieldType} {vs : List Value} {k : ClassId} {z : Int32} {d : Value} (A : Arv Z h a k ty z vs d) (hl : z.toNatClampNeg = vs.length) (hb31 : vs.length < 2147483648) : Ary Z h a ty vs := by
  obtain ⟨c, A, -, e2, -, e4, e5⟩ := A
  have hs : c.slots.size = vs.length := e2.trans hl
  have e1 : c.slots.toList = vs := by
    refine List.ext_getElem? fun i => ?_
    by_cases hi : i < vs.length
    · have := e4 i (by omega)
      simp only [List.getD, List.getElem?_eq_getElem hi, Option.getD_some] at this
      rw [List.getElem?_eq_getElem hi, ← this]; simp
    · rw [List.getElem?_eq_none (by simpa using by omega), List.getElem?_eq_none (by omega)]
  refine ⟨c, A, e1, hb31, fun v hv => ?_⟩
  obtain ⟨i, hi, rfl⟩ := List.mem_iff_getElem.mp hv
  have := e5 i (by omega)
  simpa [List.getD, List.getElem?_eq_getElem hi] using this
theorem fld_int {args : Array Value} {s : State} {t : Term} {O n d : String} {v : Int32} {a : Addr} (hv : (Jvm.Cond.eq (Term.field t O n d) (Term.int v)).value args s none s [] = some true) (ev : t.eval args s none [] s = some (.ref a)) : Fld s s.heap a O n d (.int v) := by
  obtain ⟨x, y, e1, e2, k1, k2⟩ := cmp_v (Or.inl hv)
  cases (Term.int_eval v).symm.trans e2
  obtain ⟨z, rfl⟩ := k2
  have := gotT (Cond.eq_ints e1 (Term.int_eval v)) hv
  subst this
  exact Fld.start ((fld_at ev).symm.trans e1)
theorem no_sub {C O K : String} {k : Nat} (w : (Jvm.Cond.superclass C O).before a0 Z = true) (w0 : (Jvm.Cond.noSuperclass O).before a0 Z = true) (wi : (Jvm.Cond.instantiable K k).before a0 Z = true) (hn : C ≠ K) (hn2 : O ≠ K) : ∃ c t, Z.vm.findClass C = some c ∧ Z.vm.findClass K = some t ∧ Z.vm.assignable c t = false := by
  obtain ⟨c, h0⟩ := found_sup w
  obtain ⟨p, kc, kp, h1, h2, h3, h4, h5, -, h7⟩ := Cond.superclass_spec h0 w
  obtain ⟨c', k', g1, g2, g3, -, -⟩ := Cond.noSuperclass_spec w0
  cases h1.symm.trans g1
  obtain ⟨t, kt, i1, i2, i3, i4, -⟩ := Cond.instantiable_spec wi
  have ne1 := ids_ne h0 i1 hn
  have ne2 := ids_ne g1 i1 hn2
  have i5 : kt.isInterface = false := by simp only [Bool.or_eq_false_iff] at i4; exact i4.1
  refine ⟨c, t, h0, i1, ?_⟩
  show Z.vm.assignableAux (255 + 1) c t = false
  have j1 : ∀ f, Z.vm.isSubclassAux f p t = false := fun f => by cases f <;> simp [Vm.isSubclassAux, ne2, g2, g3]
  have j2 : ∀ f, Z.vm.isSubclassAux f c t = false := fun f => by cases f <;> simp [Vm.isSubclassAux, ne1, h2, h4, j1]
  simp [Vm.assignableAux, ne1, h2, i2, h5, i3, i5, Vm.isSubclass, j2]
theorem range_take {vs : List Value} {i n : Nat} {dv : Value} (q : i + n ≤ vs.length) : (List.range n).map (fun k => vs.getD (i + k) dv) = (vs.drop i).take n := by
  refine List.ext_getElem (by simp; omega) fun k h1 h2 => ?_
  have hk : i + k < vs.length := by simp at h1; omega
  simp [List.getD, List.getElem?_eq_getElem hk]
/-- System.arraycopy between two arrays of one primitive kind -/
theorem Go.acopy {index : Nat} {a b : Addr} {ty : FieldType} {vs vd : List Value} {sp dp nn : Int32} {W : Nat} (i j n : Nat) (pc' : Nat) (hd : decode bytes pc = .ok (.invokestatic index, 3)) (hp : pc + 3 = pc') (w1 : (Jvm.Cond.methodLink own index Jvm.Stand.acN).before a0 Z = true) (w2 : (Jvm.Cond.native Jvm.Stand.acN).before a0 Z = true) (w3 : (Jvm.Cond.static Jvm.Stand.acN).before a0 Z = true) (w4 : (Jvm.Cond.initialized "java/lang/System").before a0 Z = true)
    (A : Ary Z h a ty vs) (B : Ary Z h b ty vd) (hty : refKind ty = false) (hi : sp.toInt = (i : Int)) (hj : dp.toInt = (j : Int)) (hn : nn.toInt = (n : Int)) (h4 : i + n ≤ vs.length) (h5 : j + n ≤ vd.length) (hb' : b ∈ sf) (hn0 : n0 ≤ b) (hsz : L.size = ml) (hf : 1 ≤ R.frames) (hW : (S.map fun v => v.category).sum ≤ W) (hlo : W + (nativeFrameWords "java/lang/System" "arraycopy" 5 + 11) ≤ R.locals)
    (G : ∀ h', Keep h h' [b] → Ary Z h' b ty (vd.take j ++ (vs.drop i).take n ++ vd.drop (j + n)) → Go md l Z n0 R bytes ml ret own mn Ψ cells slots sf h' pc' L S) : Go md l Z n0 R bytes ml ret own mn Ψ cells slots sf h pc L (.int nn :: .int dp :: .ref b :: .int sp :: .ref a :: S) := by
  subst hp
  intro p e s m args below meth c vm0 T locs hx hby hml hr hlk hnm ho X eT hZ B0 N
  obtain ⟨i1, i2⟩ := clamp_of hi
  obtain ⟨j1, j2⟩ := clamp_of hj
  obtain ⟨n1, n2⟩ := clamp_of hn
  have la : vs.length < 2147483648 := by obtain ⟨_, _, _, q, _⟩ := A; exact q
  have lb : vd.length < 2147483648 := by obtain ⟨_, _, _, q, _⟩ := B; exact q
  obtain ⟨ka, KA⟩ := A.arv (.int 0)
  obtain ⟨kb, KB⟩ := B.arv (.int 0)
  have za := (clamp_of (ofNat_toInt la)).2
  have zb := (clamp_of (ofNat_toInt lb)).2
  obtain ⟨T', h', L', X', e', N', K, B', st⟩ := cpA X hx hZ (by rw [show (s.setVm vm0).vm = vm0 from rfl, hZ.alike.findClass]; exact ho) w1 w2 w3 w4 eT (us := (vs.drop i).take n) KA KB (Or.inl ⟨rfl, hty⟩) i1 j1 n1 (by rw [i2, n2, za]; exact h4) (by rw [j2, n2, zb]; exact h5) (by rw [i2, n2]; exact (range_take h4).symm) (by rw [j2, n2]; exact h5) N hn0 (g := mkF m pc L (.int nn :: .int dp :: .ref b :: .int sp :: .ref a :: S)) rfl (hsz.trans hml.symm) rfl (hb hby hd) hf (W := W) (by simpa using hW) hlo
  rw [j2, n2] at B'
  have lz : (vd.take j ++ (vs.drop i).take n ++ vd.drop (j + n)).length = vd.length := by simp; omega
  obtain ⟨s₂, o, h1, r⟩ := G h' K (Ary.ofArv B' (by rw [zb, lz]) (by rw [lz]; exact lb)) p e s m args below meth c vm0 T' L' hx hby hml hr hlk hnm ho X' e' hZ (B0.keep K (sub1 hb') (fun y hy => by cases List.mem_singleton.mp hy; exact hn0)) N'
  exact ⟨s₂, o, st _ h1, r⟩
/-- one place of an array known -/
def At1 (Z : State) (h : Heap) (a : Addr) (ty : FieldType) (i : Nat) (v : Value) : Prop := ∃ c : Cell, Arr Z h a c ty ∧ c.slots[i]? = some v
theorem At1.ext {a : Addr} {ty : FieldType} {i : Nat} {v : Value} (A : At1 Z h a ty i v) (E : Ext h h') : At1 Z h' a ty i v := by obtain ⟨c, A, r⟩ := A; exact ⟨c, A.ext E, r⟩
theorem Go.laload1 {a : Addr} {j : Int32} (i : Nat) {v : Value} (pc' : Nat) (hd : decode bytes pc = .ok (.laload, 1)) (hp : pc + 1 = pc') (A : At1 Z h a .long i v) (hj : j.toInt = (i : Int)) (G : Go md l Z n0 R bytes ml ret own mn Ψ cells slots sf h pc' L (v :: S)) :
    Go md l Z n0 R bytes ml ret own mn Ψ cells slots sf h pc L (.int j :: .ref a :: S) := by
  subst hp
  obtain ⟨c0, A, e1⟩ := A
  obtain ⟨q1, q2⟩ := clamp_of hj
  have hi := (Array.getElem?_eq_some_iff.mp e1).1
  exact Go.warm _ (fun p e s m args below meth c T locs hx hby hml hZ hown X eT => ⟨T, X, eT, fun target k => X.laload hx (by rw [eT]; exact A.1) (State.isArrayOf_alike hZ.alike A.2.1) A.2.2 (by rw [q2]; rintro (z | z); exact q1 z; omega) (by rw [q2]; exact e1) (g := mkF m pc L (.int j :: .ref a :: S)) rfl rfl (hb hby hd) target k⟩) G
/-! arrays of references, longs stored, switches -/
/-- the array at a is one over the class C -/
def Ova (Z : State) (h : Heap) (a : Addr) (C : String) : Prop := ∃ c : Cell, h[a]? = some c ∧ Ovr Z c.cls C
theorem Ova.ext {a : Addr} {C : String} (O : Ova Z h a C) (E : Ext h h') : Ova Z h' a C := by obtain ⟨c, q, r⟩ := O; exact ⟨c, E.2 _ _ q, r⟩
theorem Ova.wr {a b : Addr} {C : String} {sl : Nat} {v : Value} (O : Ova Z h a C) (W : Wr h h' b sl v) : Ova Z h' a C := by
  obtain ⟨c, q, r⟩ := O
  obtain ⟨c', e1, e2, -⟩ := wr_at W q
  exact ⟨c', e1, by rw [e2]; exact r⟩
theorem Ova.keep {a : Addr} {C : String} {ws : List Addr} (O : Ova Z h a C) (K : Keep h h' ws) : Ova Z h' a C := by
  obtain ⟨c, q, r⟩ := O
  obtain ⟨c', e1, e2, -⟩ := K.2.2 a c q
  exact ⟨c', e1, by rw [e2]; exact r⟩
theorem sto_of {a y : Addr} {ty : FieldType} {C : String} {vs : List Value} (A : Ary Z h a ty vs) (O : Ova Z h a C) (I : Ins Z h y C true) : Sto Z h a (.ref y) := by
  obtain ⟨c, A, -⟩ := A
  obtain ⟨c', q, r⟩ := O
  cases A.1.symm.trans q
  exact Sto.of A r I
theorem Go.newR {C : String} {index : Nat} {n : Int32} (k : Nat) (pc' : Nat) (hd : decode bytes pc = .ok (.anewarray index, 3)) (hp : pc + 3 = pc') (w1 : (Jvm.Cond.classLink own index C).before a0 Z = true) (w2 : (Jvm.Cond.arrayOver (.object C)).before a0 Z = true) (hk : n.toInt = (k : Int)) (cap : Nat) (hcap : k ≤ cap) (hb8 : cap * 8 ≤ 536870912) (hc : cells + 1 ≤ R.cells) (hl : slots + cap ≤ R.slots)
    (G : ∀ h' x, h.size = x → n0 ≤ x → Ext h h' → x < h'.size → Ary Z h' x (.object C) (List.replicate k .null) → Ova Z h' x C → Go md l Z n0 R bytes ml ret own mn Ψ (cells + 1) (slots + cap) (x :: sf) h' pc' L (.ref x :: S)) :
    Go md l Z n0 R bytes ml ret own mn Ψ cells slots sf h pc L (.int n :: S) := by
  subst hp
  obtain ⟨q1, q2⟩ := clamp_of hk
  intro p e s m args below meth c vm0 T locs hx hby hml hr hlk hn ho X eT hZ B N
  obtain ⟨T', h', cA, X', e', E, A, O, st⟩ := Jvm.RoadKit.newR X hx hZ (by rw [show (s.setVm vm0).vm = vm0 from rfl, hZ.alike.findClass]; exact ho) w1 w2 eT (g := mkF m pc L (.int n :: S)) rfl (hb hby hd) rfl q1 (cap := cap) (by rw [q2]; exact hcap) hb8 hc hl
  have A' : Ary Z h' h.size (.object C) (List.replicate k .null) := ⟨_, A, by simp [Jvm.RoadKit.newA, q2, defaultValue], by simp; omega, fun v hv => by
    rw [(List.mem_replicate.mp hv).2]; rfl⟩
  obtain ⟨s₂, o, h1, r⟩ := G h' _ rfl B.n0le E A'.lt A' ⟨_, A.1, O⟩ p e s m args below meth c vm0 T' locs hx hby hml hr hlk hn ho X' e' hZ (B.new E A'.lt (Nat.le_refl _)) N
  exact ⟨s₂, o, st _ h1, r⟩
theorem Go.aastore {a : Addr} {C : String} {vs : List Value} {j : Int32} {v : Value} (i : Nat) (pc' : Nat) (hd : decode bytes pc = .ok (.aastore, 1)) (hp : pc + 1 = pc') (A : Ary Z h a (.object C) vs) (hj : j.toInt = (i : Int)) (hi : i < vs.length) (F : Sto Z h a v) (hf : fits (.object C) v = true) (ha : a ∈ sf) (hn0 : n0 ≤ a)
    (G : ∀ h', Wr h h' a i v → Ary Z h' a (.object C) (vs.set i v) → Go md l Z n0 R bytes ml ret own mn Ψ cells slots sf h' pc' L S) : Go md l Z n0 R bytes ml ret own mn Ψ cells slots sf h pc L (v :: .int j :: .ref a :: S) := by
  subst hp
  obtain ⟨c0, A0, e1, e2, e3⟩ := A
  obtain ⟨-, q2⟩ := clamp_of hj
  exact Go.write _ ha hn0 (sl := i) (fun p e s m args below meth c T locs hx hby hml hnm hZ hown X eT => by rw [← q2]; exact stR X hx hZ eT A0 (Ary.inb (a := a) (ty := .object C) e1 hj hi) rfl F (g := mkF m pc L (v :: .int j :: .ref a :: S)) rfl rfl (hb hby hd)) (fun h' W => G h' W (Ary.set W ⟨c0, A0, e1, e2, e3⟩ hf))
theorem Go.lastore {a : Addr} {vs : List Value} {j : Int32} {x : Int64} (i : Nat) (pc' : Nat) (hd : decode bytes pc = .ok (.lastore, 1)) (hp : pc + 1 = pc') (A : Ary Z h a .long vs) (hj : j.toInt = (i : Int)) (hi : i < vs.length) (ha : a ∈ sf) (hn0 : n0 ≤ a)
    (G : ∀ h', Wr h h' a i (.long x) → Ary Z h' a .long (vs.set i (.long x)) → Go md l Z n0 R bytes ml ret own mn Ψ cells slots sf h' pc' L S) : Go md l Z n0 R bytes ml ret own mn Ψ cells slots sf h pc L (.long x :: .int j :: .ref a :: S) := by
  subst hp
  obtain ⟨c0, A0, e1, e2, e3⟩ := A
  obtain ⟨-, q2⟩ := clamp_of hj
  exact Go.write _ ha hn0 (sl := i) (fun p e s m args below meth c T locs hx hby hml hnm hZ hown X eT => by rw [← q2]; exact stJ X hx hZ eT A0 (Ary.inb (a := a) (ty := .long) e1 hj hi) (g := mkF m pc L (.long x :: .int j :: .ref a :: S)) rfl rfl (hb hby hd)) (fun h' W => G h' W (Ary.set W ⟨c0, A0, e1, e2, e3⟩ rfl))
theorem Go.dup2 {v w : Value} (pc' : Nat) (hd : decode bytes pc = .ok (.dup2, 1)) (hp : pc + 1 = pc') (hv : v.category = 1) (hw : w.category = 1) (G : Go md l Z n0 R bytes ml ret own mn Ψ cells slots sf h pc' L (v :: w :: v :: w :: S)) : Go md l Z n0 R bytes ml ret own mn Ψ cells slots sf h pc L (v :: w :: S) := by
  subst hp; exact Go.pure _ (fun p e below T target m c A hx hby k => Jvm.Free.XT.dup2 A hx rfl (hb hby hd) rfl hv hw k) G
theorem Go.lswY {k : Int32} {default : Int} {pairs : Array (Int × Int)} {len : Nat} {b off : Int} (pc' : Nat) (hd : decode bytes pc = .ok (.lookupswitch default pairs, len)) (hs : (pairs.toList.zip (pairs.toList.drop 1)).all (fun (a, next) => a.1 < next.1) = true) (hf : pairs.find? (·.1 == k.toInt) = some (b, off)) (h0 : 0 ≤ (pc : Int) + off) (hp : ((pc : Int) + off).toNat = pc')
    (G : Go md l Z n0 R bytes ml ret own mn Ψ cells slots sf h pc' L S) : Go md l Z n0 R bytes ml ret own mn Ψ cells slots sf h pc L (.int k :: S) := by
  subst hp
  exact Go.warm _ (fun p e s m args below meth c T locs hx hby hml hZ hown X eT => ⟨T, X, eT, fun target q => X.lookupswitchHit hx (g := mkF m pc L (.int k :: S)) rfl rfl (hb hby hd) hs hf h0 target q⟩) G
theorem Go.lswN {k : Int32} {default : Int} {pairs : Array (Int × Int)} {len : Nat} (pc' : Nat) (hd : decode bytes pc = .ok (.lookupswitch default pairs, len)) (hs : (pairs.toList.zip (pairs.toList.drop 1)).all (fun (a, next) => a.1 < next.1) = true) (hf : pairs.find? (·.1 == k.toInt) = none) (h0 : 0 ≤ (pc : Int) + default) (hp : ((pc : Int) + default).toNat = pc')
    (G : Go md l Z n0 R bytes ml ret own mn Ψ cells slots sf h pc' L S) : Go md l Z n0 R bytes ml ret own mn Ψ cells slots sf h pc L (.int k :: S) := by
  subst hp
  exact Go.warm _ (fun p e s m args below meth c T locs hx hby hml hZ hown X eT => ⟨T, X, eT, fun target q => X.lookupswitchMiss hx (g := mkF m pc L (.int k :: S)) rfl rfl (hb hby hd) hs hf h0 target q⟩) G
theorem Go.tswY {k : Int32} {default low high : Int} {offs : Array Int} {len : Nat} {off : Int} (pc' : Nat) (hd : decode bytes pc = .ok (.tableswitch default low high offs, len)) (hi : ¬ (k.toInt < low ∨ k.toInt > high)) (hf : offs[(k.toInt - low).toNat]? = some off) (h0 : 0 ≤ (pc : Int) + off) (hp : ((pc : Int) + off).toNat = pc')
    (G : Go md l Z n0 R bytes ml ret own mn Ψ cells slots sf h pc' L S) : Go md l Z n0 R bytes ml ret own mn Ψ cells slots sf h pc L (.int k :: S) := by
  subst hp
  exact Go.warm _ (fun p e s m args below meth c T locs hx hby hml hZ hown X eT => ⟨T, X, eT, fun target q => X.tableswitchIn hx (g := mkF m pc L (.int k :: S)) rfl rfl (hb hby hd) hi hf h0 target q⟩) G
theorem Go.getFN {R0 O n d host : String} {index : Nat} {a : Addr} {v : Value} (pc' : Nat) (hd : decode bytes pc = .ok (.getfield index, 3)) (hp : pc + 3 = pc') (w : (Jvm.Cond.fieldLinkNest own index R0 n d host).before a0 Z = true) (via : Via Z R0 O n d) (F : Fld Z h a O n d v) (G : Go md l Z n0 R bytes ml ret own mn Ψ cells slots sf h pc' L (v :: S)) :
    Go md l Z n0 R bytes ml ret own mn Ψ cells slots sf h pc L (.ref a :: S) := by
  subst hp; exact Go.warm _ (fun p e s m args below meth c T locs hx hby hml hZ hown X eT => Jvm.RoadKit.getF X hx hZ hown (Or.inr w) via eT F (g := mkF m pc L (.ref a :: S)) rfl rfl (hb hby hd)) G
/-- without String constants every address may be written that is new -/
theorem Go.sfN (sf' : List Addr) (G : Go none l Z n0 R bytes ml ret own mn Ψ cells slots sf' h pc L S) : Go none l Z n0 R bytes ml ret own mn Ψ cells slots sf h pc L S := by
  intro p e s m args below meth c vm0 T locs hx hby hml hr hlk hn ho X eT hZ B N
  exact G p e s m args below meth c vm0 T locs hx hby hml hr hlk hn ho X eT hZ B N
theorem Go.callP {y : MethodName} {index maxY kc ks W : Nat} {bytesY : ByteArray} {retY : Option FieldType} {C : String} {sfc : List Addr} {Q : Option Value → Heap → List Addr → Prop} {St : List Value} {a : Addr} (pc' : Nat) (argsL : List Value) (hd : decode bytes pc = .ok (.invokevirtual index, 3)) (hp : pc + 3 = pc') (hst : St = argsL.reverse ++ .ref a :: S)
    (wl : (Jvm.Cond.methodLink own index y).before a0 Z = true) (ws : (Jvm.Cond.instanceMethod y).before a0 Z = true) (wse : (Jvm.Cond.selects y.cls y y).before a0 Z = true) (wp : (Jvm.Cond.privateMethod y).before a0 Z = true) (wc : (Jvm.Cond.code y bytesY maxY retY).before a0 Z = true) (hy : y.cls ≠ "java/lang/invoke/MethodHandle" ∧ y.cls ≠ "java/lang/invoke/VarHandle")
    (E : Exa Z h a C) (hC : Call md l Z n0 R y 3 W (.ref a :: argsL).toArray h sfc kc ks Q) (hlen : ∀ sig, parseMethodDescriptor y.desc = some sig → argsL.length = sig.parameters.length) (hW : (S.map fun v => v.category).sum ≤ W) (hsz : L.size = ml) (hc : cells + kc ≤ R.cells) (hs : slots + ks ≤ R.slots) (hsf : ∀ x ∈ sfc, x ∈ sf)
    (G : ∀ v h' sf', Q v h' sf' → Go md l Z n0 R bytes ml ret own mn Ψ (cells + kc) (slots + ks) (sf' ++ sf) h' pc' L (v.toList ++ S)) : Go md l Z n0 R bytes ml ret own mn Ψ cells slots sf h pc L St := by
  subst hp; subst hst
  intro p e s m args below meth c vm0 T locs hx hby hml hr hlk hn ho X eT hZ B N
  have hown : (s.setVm vm0).vm.findClass own = some m.cls := by rw [show (s.setVm vm0).vm = vm0 from rfl, hZ.alike.findClass]; exact ho
  have K := hC p e below s vm0 args hZ (B.sub hsf)
  obtain ⟨cell, g1, g2⟩ := E.cell
  have g1' : T.heap[a]? = some cell := by rw [eT]; exact g1
  cases md with
  | none =>
    obtain ⟨v, vm₁, ⟨U, L1, c1, n1⟩, -, X', ⟨L', sf', q1, q0, q2, q3, q4, q5⟩, st⟩ := X.privateBack hx hown (mvT hZ wl) (mvT hZ ws) (mvT hZ wse) (Cond.privateMethod_at (mvP (args := args) (s := s.setVm vm0) hZ wp)) (mvT hZ wc) hy K (g := mkF m pc L (argsL.reverse ++ .ref a :: S)) rfl (hsz.trans hml.symm) (Steps.refl _) g1' g2 hlen rfl (by simpa using hW) (hb hby hd) (fun _ _ => ⟨rfl, eT, hc, hs⟩)
    dsimp only [Pt.U, Pt.locs, Pt.cells, Pt.slots] at q1 q0 q3 q4 q5 X' st
    subst q3 q4 q5
    obtain ⟨s₂, o, h1, r⟩ := G v U.heap sf' q1 p e s m args below meth c vm0 U _ hx hby hml hr hlk hn ho X' rfl hZ ⟨q0, B.2⟩ (N.app q2)
    exact ⟨s₂, o, st.trans h1, r⟩
  | some EL =>
    obtain ⟨v, vm₁, ⟨U, L1, c1, n1⟩, -, X', hS, hgr, ⟨L', sf', q1, q0, q2, q3, q4, q5, q6, q7⟩, st⟩ := X.privateBackS hx hown (mvT hZ wl) (mvT hZ ws) (mvT hZ wse) (Cond.privateMethod_at (mvP (args := args) (s := s.setVm vm0) hZ wp)) (mvT hZ wc) hy K (g := mkF m pc L (argsL.reverse ++ .ref a :: S)) rfl (hsz.trans hml.symm) (Steps.refl _) g1' g2 hlen rfl (by simpa using hW) (hb hby hd) (fun _ _ => ⟨rfl, eT, hc, hs⟩)
    dsimp only [Pt.U, Pt.locs, Pt.cells, Pt.slots] at q1 q0 q3 q4 q5 q6 q7 X' st hS hgr
    subst q3 q4 q5
    obtain ⟨s₂, o, h1, r⟩ := G v U.heap sf' q1 p e s m args below meth c U.vm U _ hx hby hml hr hlk hn ho X' rfl (State.Warmed39.trans (t := s.setVm vm0) hZ hS.1) (B.called hS q0 q6 q7) (N.app q2)
    exact ⟨s₂, o, st.trans h1, r⟩
theorem Go.ldcWI {index : Nat} {v : Int32} (pc' : Nat) (hd : decode bytes pc = .ok (.ldc_w index, 3)) (hp : pc + 3 = pc') (w : (Jvm.Cond.constant own index v).before a0 Z = true) (G : Go md l Z n0 R bytes ml ret own mn Ψ cells slots sf h pc' L (.int v :: S)) : Go md l Z n0 R bytes ml ret own mn Ψ cells slots sf h pc L S := by
  subst hp; exact Go.warm _ (fun p e s m args below meth c T locs hx hby hml hZ hown X eT => ⟨T, X, eT, fun target k => X.ldcWI (g := mkF m pc L S) hx hown (mvT hZ w) rfl (hb hby hd) k⟩) G
/-- ldc of a String constant of which nothing is asked -/
theorem Go.ldcO {EL : List (String × Nat)} {index : Nat} {text : String} (n : Nat) (pc' : Nat) (hd : decode bytes pc = .ok (.ldc index, 2)) (hp : pc + 2 = pc') (w : (Jvm.Cond.stringLink own index text).before a0 Z = true) (wS : ∀ a ∈ Bundle.stringAtoms, a.before a0 Z = true) (hn : 4 * text.toList.length ≤ n) (hbig : n ≤ 536870912) (hc : cells + 2 ≤ R.cells) (hl' : slots + (n + 4) ≤ R.slots)
    (G : ∀ h' a, Ext h h' → Go (some EL) l Z n0 R bytes ml ret own mn Ψ (cells + 2) (slots + (n + 4)) sf h' pc' L (.ref a :: S)) : Go (some EL) l Z n0 R bytes ml ret own mn Ψ cells slots sf h pc L S := by
  subst hp
  intro p e s m args below meth c vm0 T locs hx hby hml hr hlk hnm ho X eT hZ B N
  obtain ⟨b0, ⟨k0, b1, b2⟩, ⟨a1, b3⟩, b4, b5⟩ := B
  have hown : vm0.findClass own = some m.cls := by rw [hZ.alike.findClass]; exact ho
  obtain ⟨a, T', h', k1, X', e', E, hS, hk1, hZ', hown', C, -, st⟩ := ldcOH X hx hZ hown w wS eT b1 b2 b3 b4.1 (g := mkF m pc L S) rfl (hb hby hd) hn hbig hc hl'
  obtain ⟨s₂, o, h1, r⟩ := G h' a E p e s m args below meth c T'.vm T' locs hx hby hml hr hlk hnm ho X' e' hZ' ⟨b0.ext E, ⟨k1, hS, hk1⟩, ⟨a1, b3⟩, b4.trans C, fun x hx => ⟨Nat.lt_of_lt_of_le (b5 x hx).1 C.2.1, C.safe (b5 x hx).1 (b5 x hx).2⟩⟩ N
  exact ⟨s₂, o, st _ h1, r⟩
/-- newarray: the array's class by its name too -/
theorem Go.newE {aty : ArrayType} {n : Int32} {ty : FieldType} {C : String} (k : Nat) (pc' : Nat) (hd : decode bytes pc = .ok (.newarray aty, 2)) (hp : pc + 2 = pc') (hty : newarray.typeOf aty = ty) (hC : "[" ++ ty.toString = C) (w : (Jvm.Cond.arrayClass ty).before a0 Z = true) (hk : n.toInt = (k : Int)) (cap : Nat) (hcap : k ≤ cap) (hb8 : cap * 8 ≤ 536870912) (hc : cells + 1 ≤ R.cells) (hl : slots + cap ≤ R.slots)
    (G : ∀ h' x, h.size = x → n0 ≤ x → Ext h h' → x < h'.size → Ary Z h' x ty (List.replicate k (defaultValue ty)) → Exa Z h' x C → Go md l Z n0 R bytes ml ret own mn Ψ (cells + 1) (slots + cap) (x :: sf) h' pc' L (.ref x :: S)) :
    Go md l Z n0 R bytes ml ret own mn Ψ cells slots sf h pc L (.int n :: S) := by
  subst hp; subst hty; subst hC
  obtain ⟨q1, q2⟩ := clamp_of hk
  intro p e s m args below meth c vm0 T locs hx hby hml hr hlk hn ho X eT hZ B N
  obtain ⟨T', h', cA, X', e', E, A, EX, st⟩ := newPE X hx hZ w eT (g := mkF m pc L (.int n :: S)) rfl (hb hby hd) rfl q1 (cap := cap) (by rw [q2]; exact hcap) hb8 hc hl rfl
  have A' : Ary Z h' h.size (newarray.typeOf aty) (List.replicate k (defaultValue (newarray.typeOf aty))) := ⟨_, A, by simp [Jvm.RoadKit.newA, q2], by simp; omega, fun v hv => by
    rw [(List.mem_replicate.mp hv).2]; cases aty <;> rfl⟩
  obtain ⟨s₂, o, h1, r⟩ := G h' _ rfl B.n0le E A'.lt A' EX p e s m args below meth c vm0 T' locs hx hby hml hr hlk hn ho X' e' hZ (B.new E A'.lt (Nat.le_refl _)) N
  exact ⟨s₂, o, st _ h1, r⟩
/-- a virtual call whose name stands under the entry's class by inheritance (W-mode) -/
theorem Go.callU {EL : List (String × Nat)} {y z : MethodName} {index kc ks W : Nat} {C owner : String} {sfc : List Addr} {Q : Option Value → Heap → List Addr → Prop} {St : List Value} {a : Addr} (pc' : Nat) (argsL : List Value) (hd : decode bytes pc = .ok (.invokevirtual index, 3)) (hp : pc + 3 = pc') (hst : St = argsL.reverse ++ .ref a :: S)
    (wl : (Jvm.Cond.methodLink own index y).before a0 Z = true) (wsm : (Jvm.Cond.sameMethod y.cls owner y.name y.desc).before a0 Z = true) (wd : (Jvm.Cond.declares ⟨owner, y.name, y.desc⟩).before a0 Z = true) (wse : (Jvm.Cond.selects C y z).before a0 Z = true) (ws : (Jvm.Cond.instanceMethod z).before a0 Z = true) (hy : owner ≠ "java/lang/invoke/MethodHandle" ∧ owner ≠ "java/lang/invoke/VarHandle")
    (E : Exa Z h a C) (hC : Call (some EL) l Z n0 R z 3 W (.ref a :: argsL).toArray h sfc kc ks Q) (hlen : ∀ sig, parseMethodDescriptor y.desc = some sig → argsL.length = sig.parameters.length) (hW : (S.map fun v => v.category).sum ≤ W) (hsz : L.size = ml) (hc : cells + kc ≤ R.cells) (hs : slots + ks ≤ R.slots) (hsf : ∀ x ∈ sfc, x ∈ sf)
    (G : ∀ v h' sf', Q v h' sf' → Go (some EL) l Z n0 R bytes ml ret own mn Ψ (cells + kc) (slots + ks) (sf' ++ sf) h' pc' L (v.toList ++ S)) : Go (some EL) l Z n0 R bytes ml ret own mn Ψ cells slots sf h pc L St := by
  subst hp; subst hst
  intro p e s m args below meth c vm0 T locs hx hby hml hr hlk hn ho X eT hZ B N
  have hown : (s.setVm vm0).vm.findClass own = some m.cls := by rw [show (s.setVm vm0).vm = vm0 from rfl, hZ.alike.findClass]; exact ho
  have K := hC p e below s vm0 args hZ (B.sub hsf)
  obtain ⟨cB, kB, i1, -, i3⟩ := isOf (s := s.setVm vm0) hZ eT E
  obtain ⟨v, vm₁, ⟨U, L1, c1, n1⟩, -, X', hS, hgr, ⟨L', sf', q1, q0, q2, q3, q4, q5, q6, q7⟩, st⟩ := X.virtualBackUpS hx hown (mvT hZ wl) (mvT hZ wsm) (mvT hZ wd) hy (mvT hZ wse) (mvT hZ ws) K i1 i3 (g := mkF m pc L (argsL.reverse ++ .ref a :: S)) rfl (hsz.trans hml.symm) (Steps.refl _) hlen rfl (by simpa using hW) (hb hby hd) (fun _ _ => ⟨rfl, eT, hc, hs⟩)
  dsimp only [Pt.U, Pt.locs, Pt.cells, Pt.slots] at q1 q0 q3 q4 q5 q6 q7 X' st hS hgr
  subst q3 q4 q5
  obtain ⟨s₂, o, h1, r⟩ := G v U.heap sf' q1 p e s m args below meth c U.vm U _ hx hby hml hr hlk hn ho X' rfl (State.Warmed39.trans (t := s.setVm vm0) hZ hS.1) (B.called hS q0 q6 q7) (N.app q2)
  exact ⟨s₂, o, st.trans h1, r⟩
theorem Go.aaload1 {a : Addr} {j : Int32} {ty : FieldType} (i : Nat) {v : Value} (pc' : Nat) (hd : decode bytes pc = .ok (.aaload, 1)) (hp : pc + 1 = pc') (hty : ty.isReference = true) (A : At1 Z h a ty i v) (hj : j.toInt = (i : Int)) (G : Go md l Z n0 R bytes ml ret own mn Ψ cells slots sf h pc' L (v :: S)) :
    Go md l Z n0 R bytes ml ret own mn Ψ cells slots sf h pc L (.int j :: .ref a :: S) := by
  subst hp
  obtain ⟨c0, A, e1⟩ := A
  obtain ⟨q1, q2⟩ := clamp_of hj
  have hi := (Array.getElem?_eq_some_iff.mp e1).1
  exact Go.warm _ (fun p e s m args below meth c T locs hx hby hml hZ hown X eT => ⟨T, X, eT, fun target k => X.aaload hx (by rw [eT]; exact A.1) (State.isArrayOf_alike hZ.alike A.2.1) hty A.2.2 (by rw [q2]; rintro (z | z); exact q1 z; omega) (by rw [q2]; exact e1) (g := mkF m pc L (.int j :: .ref a :: S)) rfl rfl (hb hby hd) target k⟩) G
theorem cls_of_selects {C : String} {y : MethodName} (w : (Jvm.Cond.selects C y y).before a0 Z = true) : ∃ (c : ClassId) (k : Class), Z.vm.findClass y.cls = some c ∧ Z.vm.classes[c]? = some k ∧ k.isInterface = false := by
  obtain ⟨c2, r2, m2, q1, q2, q3, q4, kP, hkP, hkPi⟩ := Cond.selects_spec w
  exact ⟨_, kP, findClass_of_methodNamed q3, hkP, hkPi⟩
theorem same_self {y : MethodName} {c : ClassId} {k : Class} {mk : MethodId} (hc : Z.vm.findClass y.cls = some c) (hk : Z.vm.classes[c]? = some k) (hni : k.isInterface = false) (hn : Z.methodNamed? y = some mk) (hy : y.cls ≠ "java/lang/invoke/MethodHandle" ∧ y.cls ≠ "java/lang/invoke/VarHandle") : (Jvm.Cond.sameMethod y.cls y.cls y.name y.desc).before a0 Z = true := by
  have hf := State.methodFound?_of_named hn hy
  simp only [Cond.before, Cond.holds, Cond.value, hc, hf, hk]
  simp [hn, hni, hk]
/-- a private method by invokevirtual, the object of a subclass (W-mode) -/
theorem Go.callQ {EL : List (String × Nat)} {y : MethodName} {index maxY kc ks W : Nat} {bytesY : ByteArray} {retY : Option FieldType} {C D : String} {sfc : List Addr} {Q : Option Value → Heap → List Addr → Prop} {St : List Value} {a : Addr} (pc' : Nat) (argsL : List Value) (hd : decode bytes pc = .ok (.invokevirtual index, 3)) (hp : pc + 3 = pc') (hst : St = argsL.reverse ++ .ref a :: S)
    (wl : (Jvm.Cond.methodLink own index y).before a0 Z = true) (ws : (Jvm.Cond.instanceMethod y).before a0 Z = true) (wse : (Jvm.Cond.selects D y y).before a0 Z = true) (wp : (Jvm.Cond.privateMethod y).before a0 Z = true) (wc : (Jvm.Cond.code y bytesY maxY retY).before a0 Z = true) (hy : y.cls ≠ "java/lang/invoke/MethodHandle" ∧ y.cls ≠ "java/lang/invoke/VarHandle")
    (E : Exa Z h a C) (hC : Call (some EL) l Z n0 R y 3 W (.ref a :: argsL).toArray h sfc kc ks Q) (hlen : ∀ sig, parseMethodDescriptor y.desc = some sig → argsL.length = sig.parameters.length) (hW : (S.map fun v => v.category).sum ≤ W) (hsz : L.size = ml) (hc : cells + kc ≤ R.cells) (hs : slots + ks ≤ R.slots) (hsf : ∀ x ∈ sfc, x ∈ sf)
    (G : ∀ v h' sf', Q v h' sf' → Go (some EL) l Z n0 R bytes ml ret own mn Ψ (cells + kc) (slots + ks) (sf' ++ sf) h' pc' L (v.toList ++ S)) : Go (some EL) l Z n0 R bytes ml ret own mn Ψ cells slots sf h pc L St := by
  subst hp; subst hst
  intro p e s m args below meth c vm0 T locs hx hby hml hr hlk hn ho X eT hZ B N
  have hown : (s.setVm vm0).vm.findClass own = some m.cls := by rw [show (s.setVm vm0).vm = vm0 from rfl, hZ.alike.findClass]; exact ho
  have K := hC p e below s vm0 args hZ (B.sub hsf)
  obtain ⟨cell, g1, g2⟩ := E.cell
  have g1' : T.heap[a]? = some cell := by rw [eT]; exact g1
  obtain ⟨cc, kk, u1, u2, u3⟩ := cls_of_selects (Z := s.setVm vm0) (a0 := args) (mvT hZ wse)
  have hp' := Cond.privateMethod_at (mvP (args := args) (s := s.setVm vm0) hZ wp)
  obtain ⟨v, vm₁, ⟨U, L1, c1, n1⟩, -, X', hS, hgr, ⟨L', sf', q1, q0, q2, q3, q4, q5, q6, q7⟩, st⟩ := X.privateBackS hx hown (mvT hZ wl) (mvT hZ ws) (selects_self_of_private u1 u2 u3 hp' (mvT hZ ws) hy) hp' (mvT hZ wc) hy K (g := mkF m pc L (argsL.reverse ++ .ref a :: S)) rfl (hsz.trans hml.symm) (Steps.refl _) g1' g2 hlen rfl (by simpa using hW) (hb hby hd) (fun _ _ => ⟨rfl, eT, hc, hs⟩)
  dsimp only [Pt.U, Pt.locs, Pt.cells, Pt.slots] at q1 q0 q3 q4 q5 q6 q7 X' st hS hgr
  subst q3 q4 q5
  obtain ⟨s₂, o, h1, r⟩ := G v U.heap sf' q1 p e s m args below meth c U.vm U _ hx hby hml hr hlk hn ho X' rfl (State.Warmed39.trans (t := s.setVm vm0) hZ hS.1) (B.called hS q0 q6 q7) (N.app q2)
  exact ⟨s₂, o, st.trans h1, r⟩
/-- a super call (W-mode) -/
theorem Go.callSup {EL : List (String × Nat)} {y z : MethodName} {index maxY kc ks W : Nat} {bytesY : ByteArray} {retY : Option FieldType} {C D : String} {sfc : List Addr} {Q : Option Value → Heap → List Addr → Prop} {St : List Value} {a : Addr} (pc' : Nat) (argsL : List Value) (hd : decode bytes pc = .ok (.invokespecial index, 3)) (hp : pc + 3 = pc') (hst : St = argsL.reverse ++ .ref a :: S)
    (wl : (Jvm.Cond.methodLink own index y).before a0 Z = true) (ws : (Jvm.Cond.instanceMethod y).before a0 Z = true) (wse : (Jvm.Cond.selects D z z).before a0 Z = true) (hzy : z.cls = y.cls) (wsu : (Jvm.Cond.superclass own y.cls).before a0 Z = true) (hni : y.name ≠ "<init>") (wc : (Jvm.Cond.code y bytesY maxY retY).before a0 Z = true) (hy : y.cls ≠ "java/lang/invoke/MethodHandle" ∧ y.cls ≠ "java/lang/invoke/VarHandle")
    (E : Exa Z h a C) (hC : Call (some EL) l Z n0 R y 3 W (.ref a :: argsL).toArray h sfc kc ks Q) (hlen : ∀ sig, parseMethodDescriptor y.desc = some sig → argsL.length = sig.parameters.length) (hW : (S.map fun v => v.category).sum ≤ W) (hsz : L.size = ml) (hc : cells + kc ≤ R.cells) (hs : slots + ks ≤ R.slots) (hsf : ∀ x ∈ sfc, x ∈ sf)
    (G : ∀ v h' sf', Q v h' sf' → Go (some EL) l Z n0 R bytes ml ret own mn Ψ (cells + kc) (slots + ks) (sf' ++ sf) h' pc' L (v.toList ++ S)) : Go (some EL) l Z n0 R bytes ml ret own mn Ψ cells slots sf h pc L St := by
  subst hp; subst hst
  intro p e s m args below meth c vm0 T locs hx hby hml hr hlk hn ho X eT hZ B N
  have hown : (s.setVm vm0).vm.findClass own = some m.cls := by rw [show (s.setVm vm0).vm = vm0 from rfl, hZ.alike.findClass]; exact ho
  have K := hC p e below s vm0 args hZ (B.sub hsf)
  obtain ⟨cc, kk, u1, u2, u3⟩ := cls_of_selects wse
  rw [hzy] at u1
  obtain ⟨mk, methM, hnamed, hmethM, hstM, habM⟩ := Cond.instanceMethod_spec ws
  obtain ⟨v, vm₁, ⟨U, L1, c1, n1⟩, -, X', hS, hgr, ⟨L', sf', q1, q0, q2, q3, q4, q5, q6, q7⟩, st⟩ := superBackS X hx hZ hown wl (same_self u1 u2 u3 hnamed hy) ws wsu hni K eT (Ins.self E) (g := mkF m pc L (argsL.reverse ++ .ref a :: S)) rfl (hsz.trans hml.symm) wc hlen rfl (by simpa using hW) (hb hby hd) (fun _ _ => ⟨rfl, eT, hc, hs⟩)
  dsimp only [Pt.U, Pt.locs, Pt.cells, Pt.slots] at q1 q0 q3 q4 q5 q6 q7 X' st hS hgr
  subst q3 q4 q5
  obtain ⟨s₂, o, h1, r⟩ := G v U.heap sf' q1 p e s m args below meth c U.vm U _ hx hby hml hr hlk hn ho X' rfl (State.Warmed39.trans (t := s.setVm vm0) hZ hS.1) (B.called hS q0 q6 q7) (N.app q2)
  exact ⟨s₂, o, st.trans h1, r⟩
/-- an interface call (W-mode) -/
theorem Go.callI {EL : List (String × Nat)} {y z : MethodName} {index count kc ks W : Nat} {C : String} {sfc : List Addr} {Q : Option Value → Heap → List Addr → Prop} {St : List Value} {a : Addr} (pc' : Nat) (argsL : List Value) (hd : decode bytes pc = .ok (.invokeinterface index count, 5)) (hp : pc + 5 = pc') (hst : St = argsL.reverse ++ .ref a :: S)
    (wl : (Jvm.Cond.methodLink own index y).before a0 Z = true) (wd : (Jvm.Cond.declares y).before a0 Z = true) (wf : (Jvm.Cond.interfaceMethod y.cls y.cls y.name y.desc).before a0 Z = true) (wse : (Jvm.Cond.selects C y z).before a0 Z = true) (ws : (Jvm.Cond.instanceMethod z).before a0 Z = true) (wpb : (Jvm.Cond.publicMethod z).before a0 Z = true) (wu : (Jvm.Cond.unhidden C y.name y.desc).before a0 Z = true) (wca : (Jvm.Cond.castable C y.cls).before a0 Z = true) (hy : y.cls ≠ "java/lang/invoke/MethodHandle" ∧ y.cls ≠ "java/lang/invoke/VarHandle")
    (E : Exa Z h a C) (hC : Call (some EL) l Z n0 R z 5 W (.ref a :: argsL).toArray h sfc kc ks Q) (hlen : ∀ sig, parseMethodDescriptor y.desc = some sig → argsL.length = sig.parameters.length) (hW : (S.map fun v => v.category).sum ≤ W) (hsz : L.size = ml) (hc : cells + kc ≤ R.cells) (hs : slots + ks ≤ R.slots) (hsf : ∀ x ∈ sfc, x ∈ sf)
    (G : ∀ v h' sf', Q v h' sf' → Go (some EL) l Z n0 R bytes ml ret own mn Ψ (cells + kc) (slots + ks) (sf' ++ sf) h' pc' L (v.toList ++ S)) : Go (some EL) l Z n0 R bytes ml ret own mn Ψ cells slots sf h pc L St := by
  subst hp; subst hst
  intro p e s m args below meth c vm0 T locs hx hby hml hr hlk hn ho X eT hZ B N
  have hown : (s.setVm vm0).vm.findClass own = some m.cls := by rw [show (s.setVm vm0).vm = vm0 from rfl, hZ.alike.findClass]; exact ho
  have K := hC p e below s vm0 args hZ (B.sub hsf)
  obtain ⟨cB, kB, i1, i2, i3⟩ := isOf (s := s.setVm vm0) hZ eT E
  obtain ⟨v, vm₁, ⟨U, L1, c1, n1⟩, -, X', hS, hgr, ⟨L', sf', q1, q0, q2, q3, q4, q5, q6, q7⟩, st⟩ := X.interfaceBackS hx hown (mvT hZ wl) (mvT hZ wd) (mvT hZ wf (by simp [Cond.onTables, Cond.keepsFace, Cond.keeps, Cond.steady, Cond.faceAtom, hy.1, hy.2])) (mvT hZ wse) (mvT hZ ws) (mvT hZ wpb) (mvT hZ wu) (mvT hZ wca) hy K i1 i2 i3 (g := mkF m pc L (argsL.reverse ++ .ref a :: S)) rfl (hsz.trans hml.symm) (Steps.refl _) hlen rfl (by simpa using hW) (hb hby hd) (fun _ _ => ⟨rfl, eT, hc, hs⟩)
  dsimp only [Pt.U, Pt.locs, Pt.cells, Pt.slots] at q1 q0 q3 q4 q5 q6 q7 X' st hS hgr
  subst q3 q4 q5
  obtain ⟨s₂, o, h1, r⟩ := G v U.heap sf' q1 p e s m args below meth c U.vm U _ hx hby hml hr hlk hn ho X' rfl (State.Warmed39.trans (t := s.setVm vm0) hZ hS.1) (B.called hS q0 q6 q7) (N.app q2)
  exact ⟨s₂, o, st.trans h1, r⟩
/-- clone of an array -/
theorem Go.clone {index : Nat} {a : Addr} {ad : String} {ty : FieldType} {vs : List Value} {W : Nat} (pc' : Nat) (hd : decode bytes pc = .ok (.invokevirtual index, 3)) (hp : pc + 3 = pc') (w1 : (Jvm.Cond.methodLink own index ⟨ad, "clone", "()Ljava/lang/Object;"⟩).before a0 Z = true) (w2 : (Jvm.Cond.sameMethod ad "java/lang/Object" "clone" "()Ljava/lang/Object;").before a0 Z = true) (w3 : (Jvm.Cond.native ⟨"java/lang/Object", "clone", "()Ljava/lang/Object;"⟩).before a0 Z = true)
    (w4 : (Jvm.Cond.instanceMethod ⟨"java/lang/Object", "clone", "()Ljava/lang/Object;"⟩).before a0 Z = true) (w5 : (Jvm.Cond.selects ad ⟨ad, "clone", "()Ljava/lang/Object;"⟩ ⟨"java/lang/Object", "clone", "()Ljava/lang/Object;"⟩).before a0 Z = true) (w6 : (Jvm.Cond.castable ad "java/lang/Cloneable").before a0 Z = true)
    (A : Ary Z h a ty vs) (EX : Exa Z h a ad) (cap : Nat) (hcap : vs.length ≤ cap) (hsz : L.size = ml) (hf : 1 ≤ R.frames) (hW : (S.map fun v => v.category).sum ≤ W) (hlo : W + 14 ≤ R.locals) (hc : cells + 1 ≤ R.cells) (hl : slots + cap ≤ R.slots)
    (G : ∀ h' x, h.size = x → n0 ≤ x → Ext h h' → x < h'.size → Ary Z h' x ty vs → Exa Z h' x ad → Go md l Z n0 R bytes ml ret own mn Ψ (cells + 1) (slots + cap) (x :: sf) h' pc' L (.ref x :: S)) :
    Go md l Z n0 R bytes ml ret own mn Ψ cells slots sf h pc L (.ref a :: S) := by
  subst hp
  intro p e s m args below meth c vm0 T locs hx hby hml hr hlk hn ho X eT hZ B N
  have hown : (s.setVm vm0).vm.findClass own = some m.cls := by rw [show (s.setVm vm0).vm = vm0 from rfl, hZ.alike.findClass]; exact ho
  obtain ⟨c0, A0, e1, e2, e3⟩ := A
  have FC : FitC Z c0 := fitC_of A0 fun i hi v hv => e3 v (by rw [← e1]; exact Array.mem_toList_iff.mpr (Array.mem_of_getElem? hv))
  obtain ⟨T', h', X', e', E, A', EX', st⟩ := cloneA X hx hZ hown w1 w2 w3 w4 w5 w6 eT A0 EX FC (g := mkF m pc L (.ref a :: S)) rfl (hsz.trans hml.symm) rfl (hb hby hd) hf (W := W) (cap := cap) (by simpa using hW) hlo (by rw [← Array.length_toList, e1]; exact hcap) hc hl
  have A'' : Ary Z h' h.size ty vs := ⟨_, A', e1, e2, e3⟩
  obtain ⟨s₂, o, h1, r⟩ := G h' _ rfl B.n0le E A''.lt A'' EX' p e s m args below meth c vm0 T' locs hx hby hml hr hlk hn ho X' e' hZ (B.new E A''.lt (Nat.le_refl _)) N
  exact ⟨s₂, o, st _ h1, r⟩
theorem notFace_obj {args : Array Value} {s : State} {y : MethodName} (w : (Jvm.Cond.noSuperclass y.cls).before args s = true) : NotFace s y := fun r0 h0 => by
  obtain ⟨c, k, g1, g2, -, -, g5⟩ := Cond.noSuperclass_spec w
  cases g1.symm.trans (findClass_of_methodNamed h0)
  exact ⟨k, g2, g5⟩
theorem notFace_cls {args : Array Value} {s : State} {D : String} {y z : MethodName} (w : (Jvm.Cond.selects D z z).before args s = true) (e : z.cls = y.cls) : NotFace s y := fun r0 h0 => by
  obtain ⟨c, k, u1, u2, u3⟩ := cls_of_selects w
  rw [e] at u1
  cases u1.symm.trans (findClass_of_methodNamed h0)
  exact ⟨k, u2, u3⟩
end G
end GK
end Jvm.Pilot.@@N@@
/- laws to paste: Road.backV, Road.eqW, Road.chN, Road.codOf (cut by pick.py; bodies as the Statement names them) -/
namespace Jvm.Pilot.@@N@@
namespace StrChars
open Jvm Sem ClassFile Op Lib Jvm.Stand Jvm.Free.XT Jvm.Free.ALB Jvm.Free.JM Jvm.Free
open Jvm.Lib.Cold (StaticIs)
/-- a char array whose places are chars -/
def Ch (a : Addr) (A : Cell) (U : State) : Prop := Arr .char a A U ∧ Typed .char A
theorem Ch.mv {a : Addr} {A : Cell} {U U' : State} (h : Ch a A U) (hal : U.vm.Alike U'.vm) (hh : U'.heap = U.heap) : Ch a A U' := ⟨h.1.mv hal hh, h.2⟩
theorem Ch.keep {a : Addr} {A : Cell} {U U' : State} (h : Ch a A U) (hal : U.vm.Alike U'.vm) (hk : U'.heap[a]? = some A) : Ch a A U' := ⟨h.1.keep hal hk, h.2⟩
/-- what place i of a char[]'s cell holds -/
def cv (A : Cell) (i : Nat) : Int32 := match A.slots[i]? with | some (.int x) => x | _ => 0
theorem Ch.get {a : Addr} {A : Cell} {U : State} (h : Ch a A U) {i : Nat} (hi : i < A.slots.size) : A.slots[i]? = some (.int (cv A i)) := by
  have e := Array.getElem?_eq_getElem hi
  have f := h.2 i _ e
  unfold cv; rw [e]
  generalize A.slots[i] = v at f
  cases v <;> simp [fits] at f ⊢
/-- the byte that i2b leaves of a char -/
def lo8 (x : Int32) : Int32 := x.toInt8.toInt32
theorem fits_lo8 (y : Int32) : fits .byte (.int (lo8 y)) = true := by
  have h1 := y.toInt8.le_toInt
  have h2 := y.toInt8.toInt_lt
  simp only [lo8, fits, Bool.and_eq_true, decide_eq_true_eq, Int32.le_iff_toInt_le, Int8.toInt_toInt32, show (-128 : Int32).toInt = -128 from by decide, show (127 : Int32).toInt = 127 from by decide]
  omega
/-- A' is A but that each place j of lo .. hi - 1 holds f j -/
def Laid (A A' : Cell) (lo hi : Nat) (f : Nat → Value) : Prop := A'.cls = A.cls ∧ A'.vm = A.vm ∧ A'.slots.size = A.slots.size ∧ ∀ i, A'.slots[i]? = if lo ≤ i ∧ i < hi then some (f i) else A.slots[i]?
theorem Laid.zero (A : Cell) (lo : Nat) (f : Nat → Value) : Laid A A lo (lo + 0) f := ⟨rfl, rfl, rfl, fun i => by rw [if_neg (by omega)]⟩
theorem Laid.step {A Ak : Cell} {lo k : Nat} {f : Nat → Value} {v : Value} (h : Laid A Ak lo k f) (hlo : lo ≤ k) (hk : k < Ak.slots.size) (hv : v = f k) : Laid A (Ak.setSlot k v) lo (k + 1) f := by
  refine ⟨h.1, h.2.1, by simpa [Cell.setSlot] using h.2.2.1, fun i => ?_⟩
  by_cases e : k = i
  · subst e; rw [Cell.slots_setSlot_self v hk, if_pos (by omega), hv]
  · rw [Cell.slots_setSlot_ne v e, h.2.2.2 i]
    by_cases q : lo ≤ i ∧ i < k
    · rw [if_pos q, if_pos (by omega)]
    · rw [if_neg q, if_neg (by omega)]
def U16 : String := "java/lang/StringUTF16"
namespace Cmp5
def yN : MethodName := ⟨"java/lang/StringUTF16", "compress", "([CI[BII)I"⟩
abbrev yB : ByteArray := jdk_52_method_21_code
theorem d0 : decode yB 0 = .ok (.iconst 0, 1) := by decide +kernel
theorem d1 : decode yB 1 = .ok (.istore 5, 2) := by decide +kernel
theorem d3 : decode yB 3 = .ok (.iload 5, 2) := by decide +kernel
theorem d5 : decode yB 5 = .ok (.iload 4, 2) := by decide +kernel
theorem d7 : decode yB 7 = .ok (.if_icmp (.ge) 37, 3) := by decide +kernel
theorem d10 : decode yB 10 = .ok (.aload_n 0, 1) := by decide +kernel
theorem d11 : decode yB 11 = .ok (.iload_n 1, 1) := by decide +kernel
theorem d12 : decode yB 12 = .ok (.caload, 1) := by decide +kernel
theorem d13 : decode yB 13 = .ok (.istore 6, 2) := by decide +kernel
theorem d15 : decode yB 15 = .ok (.iload 6, 2) := by decide +kernel
theorem d17 : decode yB 17 = .ok (.sipush 255, 3) := by decide +kernel
theorem d20 : decode yB 20 = .ok (.if_icmp (.le) 6, 3) := by decide +kernel
theorem d26 : decode yB 26 = .ok (.aload_n 2, 1) := by decide +kernel
theorem d27 : decode yB 27 = .ok (.iload_n 3, 1) := by decide +kernel
theorem d28 : decode yB 28 = .ok (.iload 6, 2) := by decide +kernel
theorem d30 : decode yB 30 = .ok (.i2b, 1) := by decide +kernel
theorem d31 : decode yB 31 = .ok (.bastore, 1) := by decide +kernel
theorem d32 : decode yB 32 = .ok (.iinc 1 1, 3) := by decide +kernel
theorem d35 : decode yB 35 = .ok (.iinc 3 1, 3) := by decide +kernel
theorem d38 : decode yB 38 = .ok (.iinc 5 1, 3) := by decide +kernel
theorem d41 : decode yB 41 = .ok (.goto (-38), 3) := by decide +kernel
theorem d44 : decode yB 44 = .ok (.iload 4, 2) := by decide +kernel
theorem d46 : decode yB 46 = .ok (.ireturn, 1) := by decide +kernel
def site : List Cond := []
def tab : Cond := tabOf yN yB 7 (some .int) site
def P (b : Addr) (A : Cell) (d : Addr) (B : Cell) (o q len : Nat) (args : Array Value) (s : State) : Prop := args = #[.ref b, .int (Int32.ofNat o), .ref d, .int (Int32.ofNat q), .int (Int32.ofNat len)] ∧ Ch b A s ∧ Arr .byte d B s ∧ b ≠ d ∧ o + len ≤ A.slots.size ∧ q + len ≤ B.slots.size ∧ ∀ i, i < len → ¬ 255 < cv A (o + i)
def E (b : Addr) (A : Cell) (d : Addr) (B : Cell) (o q len : Nat) (r : Option Value) (s u : State) : Prop := r = some (.int (Int32.ofNat len)) ∧ ∃ B', Put d B' s u ∧ Laid B B' q (q + len) (fun j => Value.int (lo8 (cv A (o + (j - q)))))
/-- no char of the range above 255: len; the places written hold each char's low byte -/
theorem law (l : Launch) (b : Addr) (A : Cell) (d : Addr) (B : Cell) (o q len : Nat) : Law l yN 5 5 0 0 yB 7 (some .int) site (P b A d B o q len) (E b A d B o q len) (copyLocs d q len) 0 0 := by
  refine Law.of_walk (plainFor_of_name (by decide +kernel)) (by decide +kernel) (by decide +kernel) (by decide) (fun _ _ h => by rw [h.1]; rfl) (fun _ U U' hal hh h => ⟨h.1, h.2.1.mv hal hh, h.2.2.1.mv hal hh, h.2.2.2⟩) (fun r U U' V V' h1 hal h2 h => ⟨h.1, h.2.elim fun B' q => ⟨B', q.1.mv h1 h2, q.2⟩⟩) ?_
  intro p e s m args below meth c s₁ X0 hexec hbytes hml hret hlk hnm hown hh0 W hP
  obtain ⟨rfl, hA, hB, hne, l1, l2, hp⟩ := hP
  have c1 : Steps p.tables e below (s₁.setTop (entryFrame m #[.ref b, .int (Int32.ofNat o), .ref d, .int (Int32.ofNat q), .int (Int32.ofNat len)] 7)) (s₁.setTop (mkF m 0 #[.val (.ref b), .val (.int (Int32.ofNat o)), .val (.ref d), .val (.int (Int32.ofNat q)), .val (.int (Int32.ofNat len)), .unset, .unset] [])) := entry rfl
  have hA0 := hA.1.mv X0.warmed.alike hh0
  have hB0 := hB.mv X0.warmed.alike hh0
  have a31 := hA.1.2.2.2
  have c2 : Steps p.tables e below (s₁.setTop (entryFrame m #[.ref b, .int (Int32.ofNat o), .ref d, .int (Int32.ofNat q), .int (Int32.ofNat len)] 7)) (s₁.setTop (mkF m 3 #[.val (.ref b), .val (.int (Int32.ofNat o)), .val (.ref d), .val (.int (Int32.ofNat q)), .val (.int (Int32.ofNat len)), .val (.int 0), .unset] [])) := c1.trans (by
    refine iconstV X0.here hexec rfl 0 (hb hbytes d0) (by decide) ?_
    refine XS.istore X0.here hexec rfl (hb hbytes d1) rfl rfl ?_
    exact Steps.refl _)
  have loop : ∀ (r i : Nat), i + r = len → ∀ (z : Slot), (z = .unset ∨ ∃ w, z = .val w ∧ w.category = 1) → ∀ (Tl : State) (Bk : Cell), Stand p l e { frames := 0, locals := 0, cells := 0, slots := 0 } s m #[.ref b, .int (Int32.ofNat o), .ref d, .int (Int32.ofNat q), .int (Int32.ofNat len)] below meth c Tl ([] ++ copyLocs d q i) 0 0 → Put d Bk s₁ Tl → Laid B Bk q (q + i) (fun j => Value.int (lo8 (cv A (o + (j - q))))) →
      Steps p.tables e below (s₁.setTop (entryFrame m #[.ref b, .int (Int32.ofNat o), .ref d, .int (Int32.ofNat q), .int (Int32.ofNat len)] 7)) (Tl.setTop (mkF m 3 #[.val (.ref b), .val (.int (Int32.ofNat (o + i))), .val (.ref d), .val (.int (Int32.ofNat (q + i))), .val (.int (Int32.ofNat len)), .val (.int (Int32.ofNat i)), z] [])) → ∃ (T' : State) (B' : Cell) (z' : Slot), Stand p l e { frames := 0, locals := 0, cells := 0, slots := 0 } s m #[.ref b, .int (Int32.ofNat o), .ref d, .int (Int32.ofNat q), .int (Int32.ofNat len)] below meth c T' ([] ++ copyLocs d q len) 0 0 ∧ Put d B' s₁ T' ∧ Laid B B' q (q + len) (fun j => Value.int (lo8 (cv A (o + (j - q))))) ∧
      Steps p.tables e below (s₁.setTop (entryFrame m #[.ref b, .int (Int32.ofNat o), .ref d, .int (Int32.ofNat q), .int (Int32.ofNat len)] 7)) (T'.setTop (mkF m 3 #[.val (.ref b), .val (.int (Int32.ofNat (o + len))), .val (.ref d), .val (.int (Int32.ofNat (q + len))), .val (.int (Int32.ofNat len)), .val (.int (Int32.ofNat len)), z'] [])) := by
    intro r
    induction r with
    | zero =>
      intro i hi z hz Tl Bk Xl pl fl cl
      have hil : i = len := by omega
      rw [hil] at Xl fl cl
      exact ⟨Tl, Bk, z, Xl, pl, fl, cl⟩
    | succ r ih =>
      intro i hi z hz Tl Bk Xl pl fl cl
      have all := X0.warmed.alike.symm.trans Xl.warmed.alike
      have hAl := hA0.keep all (pl.other hne hA0.1)
      have hBk := hB0.like all pl.1 fl.1 fl.2.1 fl.2.2.1
      have hlt : q + i < Bk.slots.size := by rw [fl.2.2.1]; omega
      have c3 : Steps p.tables e below (s₁.setTop (entryFrame m #[.ref b, .int (Int32.ofNat o), .ref d, .int (Int32.ofNat q), .int (Int32.ofNat len)] 7)) (Tl.setTop (mkF m 12 #[.val (.ref b), .val (.int (Int32.ofNat (o + i))), .val (.ref d), .val (.int (Int32.ofNat (q + i))), .val (.int (Int32.ofNat len)), .val (.int (Int32.ofNat i)), z] [.int (Int32.ofNat (o + i)), .ref b])) := cl.trans (by
        refine XS.iload Xl.here hexec rfl (hb hbytes d3) rfl ?_
        refine XS.iload Xl.here hexec rfl (hb hbytes d5) rfl ?_
        refine XS.icmpNo Xl.here hexec rfl (hb hbytes d7) rfl (ii_ge_f (lt32 (by omega) (by omega))) ?_
        refine XS.aloadN Xl.here hexec rfl (hb hbytes d10) rfl rfl ?_
        refine XS.iloadN Xl.here hexec rfl (hb hbytes d11) rfl ?_
        exact Steps.refl _)
      have c4 : Steps p.tables e below (s₁.setTop (entryFrame m #[.ref b, .int (Int32.ofNat o), .ref d, .int (Int32.ofNat q), .int (Int32.ofNat len)] 7)) (Tl.setTop (mkF m 13 #[.val (.ref b), .val (.int (Int32.ofNat (o + i))), .val (.ref d), .val (.int (Int32.ofNat (q + i))), .val (.int (Int32.ofNat len)), .val (.int (Int32.ofNat i)), z] [.int (cv A (o + i))])) := c3.trans (by
        refine Xl.aget hexec hAl rfl (hA.get (i := o + i) (by omega)) rfl rfl (hb hbytes d12) ?_
        exact Steps.refl _)
      have c5 : Steps p.tables e below (s₁.setTop (entryFrame m #[.ref b, .int (Int32.ofNat o), .ref d, .int (Int32.ofNat q), .int (Int32.ofNat len)] 7)) (Tl.setTop (mkF m 15 #[.val (.ref b), .val (.int (Int32.ofNat (o + i))), .val (.ref d), .val (.int (Int32.ofNat (q + i))), .val (.int (Int32.ofNat len)), .val (.int (Int32.ofNat i)), .val (.int (cv A (o + i)))] [])) := c4.trans (by
        refine XS.istoreS Xl.here hexec rfl (hb hbytes d13) rfl rfl hz ?_
        exact Steps.refl _)
      have c6 : Steps p.tables e below (s₁.setTop (entryFrame m #[.ref b, .int (Int32.ofNat o), .ref d, .int (Int32.ofNat q), .int (Int32.ofNat len)] 7)) (Tl.setTop (mkF m 31 #[.val (.ref b), .val (.int (Int32.ofNat (o + i))), .val (.ref d), .val (.int (Int32.ofNat (q + i))), .val (.int (Int32.ofNat len)), .val (.int (Int32.ofNat i)), .val (.int (cv A (o + i)))] [.int (lo8 (cv A (o + i))), .int (Int32.ofNat (q + i)), .ref d])) := c5.trans (by
        refine XS.iload Xl.here hexec rfl (hb hbytes d15) rfl ?_
        refine sipushV Xl.here hexec rfl 255 (hb hbytes d17) (by decide) ?_
        refine XS.icmpYes Xl.here hexec rfl (pc0 := 20) rfl (hb hbytes d20) rfl (ii_le_t (hp i (by omega))) (by decide) rfl ?_
        refine XS.aloadN Xl.here hexec rfl (hb hbytes d26) rfl rfl ?_
        refine XS.iloadN Xl.here hexec rfl (hb hbytes d27) rfl ?_
        refine XS.iload Xl.here hexec rfl (hb hbytes d28) rfl ?_
        refine i2b Xl.here hexec rfl (hb hbytes d30) rfl ?_
        exact Steps.refl _)
      obtain ⟨T7, X7, p7, st7⟩ := Xl.aput hexec hBk rfl hlt rfl (fits_lo8 (cv A (o + i))) (g := (mkF m 31 #[.val (.ref b), .val (.int (Int32.ofNat (o + i))), .val (.ref d), .val (.int (Int32.ofNat (q + i))), .val (.int (Int32.ofNat len)), .val (.int (Int32.ofNat i)), .val (.int (cv A (o + i)))] [.int (lo8 (cv A (o + i))), .int (Int32.ofNat (q + i)), .ref d])) rfl (rest := []) rfl (hb hbytes d31)
      have c8 : Steps p.tables e below (s₁.setTop (entryFrame m #[.ref b, .int (Int32.ofNat o), .ref d, .int (Int32.ofNat q), .int (Int32.ofNat len)] 7)) (T7.setTop (mkF m 32 #[.val (.ref b), .val (.int (Int32.ofNat (o + i))), .val (.ref d), .val (.int (Int32.ofNat (q + i))), .val (.int (Int32.ofNat len)), .val (.int (Int32.ofNat i)), .val (.int (cv A (o + i)))] [])) := c6.trans (st7 _ (Steps.refl _))
      have c9 : Steps p.tables e below (s₁.setTop (entryFrame m #[.ref b, .int (Int32.ofNat o), .ref d, .int (Int32.ofNat q), .int (Int32.ofNat len)] 7)) (T7.setTop (mkF m 3 #[.val (.ref b), .val (.int (Int32.ofNat (o + i) + 1)), .val (.ref d), .val (.int (Int32.ofNat (q + i) + 1)), .val (.int (Int32.ofNat len)), .val (.int (Int32.ofNat i + 1)), .val (.int (cv A (o + i)))] [])) := c8.trans (by
        refine iincV X7.here hexec rfl 1 (hb hbytes d32) (by decide) rfl rfl ?_
        refine iincV X7.here hexec rfl 1 (hb hbytes d35) (by decide) rfl rfl ?_
        refine iincV X7.here hexec rfl 1 (hb hbytes d38) (by decide) rfl rfl ?_
        refine XS.goto X7.here hexec rfl (pc0 := 41) rfl (hb hbytes d41) (by decide) rfl ?_
        exact Steps.refl _)
      have c10 : Steps p.tables e below (s₁.setTop (entryFrame m #[.ref b, .int (Int32.ofNat o), .ref d, .int (Int32.ofNat q), .int (Int32.ofNat len)] 7)) (T7.setTop (mkF m 3 #[.val (.ref b), .val (.int (Int32.ofNat (o + (i + 1)))), .val (.ref d), .val (.int (Int32.ofNat (q + (i + 1)))), .val (.int (Int32.ofNat len)), .val (.int (Int32.ofNat (i + 1))), .val (.int (cv A (o + i)))] [])) := by
        have := c9
        rw [succ32, succ32, succ32] at this
        exact this
      exact ih (i + 1) (by omega) _ (Or.inr ⟨_, rfl, rfl⟩) T7 _ (by rw [copyLocs_step, ← List.append_assoc]; exact X7) (pl.trans p7) (fl.step (by omega) hlt (by simp)) c10
  obtain ⟨T9, B9, z9, X9, p9, f9, g9⟩ := loop len 0 (by omega) .unset (Or.inl rfl) s₁ B (by simpa [copyLocs] using X0) ⟨hB0.1, fun _ _ => rfl, rfl⟩ (Laid.zero _ _ _) c2
  have c11 : Steps p.tables e below (s₁.setTop (entryFrame m #[.ref b, .int (Int32.ofNat o), .ref d, .int (Int32.ofNat q), .int (Int32.ofNat len)] 7)) (T9.setTop (mkF m 46 #[.val (.ref b), .val (.int (Int32.ofNat (o + len))), .val (.ref d), .val (.int (Int32.ofNat (q + len))), .val (.int (Int32.ofNat len)), .val (.int (Int32.ofNat len)), z9] [.int (Int32.ofNat len)])) := g9.trans (by
    refine XS.iload X9.here hexec rfl (hb hbytes d3) rfl ?_
    refine XS.iload X9.here hexec rfl (hb hbytes d5) rfl ?_
    refine XS.icmpYes X9.here hexec rfl (pc0 := 7) rfl (hb hbytes d7) rfl (ii_ge_t (nlt32 (by omega) (Nat.le_refl _))) (by decide) rfl ?_
    refine XS.iload X9.here hexec rfl (hb hbytes d44) rfl ?_
    exact Steps.refl _)
  exact ⟨T9, some (.int (Int32.ofNat len)), _, _, _, X9, by simp, rfl, rfl, (fun h => by cases h), ⟨rfl, B9, p9.from hh0, f9⟩, fun fs hl => c11.trans (X9.ireturnOut hexec hret rfl (Or.inl rfl) (hb hbytes d46) hl)⟩
end Cmp5
namespace Cmp3
def yN : MethodName := ⟨"java/lang/StringUTF16", "compress", "([CII)[B"⟩
abbrev yB : ByteArray := jdk_52_method_16_code
theorem d0 : decode yB 0 = .ok (.iload_n 2, 1) := by decide +kernel
theorem d1 : decode yB 1 = .ok (.newarray .byte, 2) := by decide +kernel
theorem d3 : decode yB 3 = .ok (.astore_n 3, 1) := by decide +kernel
theorem d4 : decode yB 4 = .ok (.aload_n 0, 1) := by decide +kernel
theorem d5 : decode yB 5 = .ok (.iload_n 1, 1) := by decide +kernel
theorem d6 : decode yB 6 = .ok (.aload_n 3, 1) := by decide +kernel
theorem d7 : decode yB 7 = .ok (.iconst 0, 1) := by decide +kernel
theorem d8 : decode yB 8 = .ok (.iload_n 2, 1) := by decide +kernel
theorem d9 : decode yB 9 = .ok (.invokestatic 115, 3) := by decide +kernel
theorem d12 : decode yB 12 = .ok (.istore 4, 2) := by decide +kernel
theorem d14 : decode yB 14 = .ok (.iload 4, 2) := by decide +kernel
theorem d16 : decode yB 16 = .ok (.iload_n 2, 1) := by decide +kernel
theorem d17 : decode yB 17 = .ok (.if_icmp (.eq) 40, 3) := by decide +kernel
theorem d57 : decode yB 57 = .ok (.aload_n 3, 1) := by decide +kernel
theorem d58 : decode yB 58 = .ok (.areturn, 1) := by decide +kernel
def site : List Cond := [.arrayClass .byte, Cmp5.tab] ++ staticW U16 115 Cmp5.yN
def tab : Cond := tabOf yN yB 6 (some (.array .byte)) site
def P (b : Addr) (A : Cell) (o len : Nat) (args : Array Value) (s : State) : Prop := args = #[.ref b, .int (Int32.ofNat o), .int (Int32.ofNat len)] ∧ Ch b A s ∧ o + len ≤ A.slots.size ∧ len ≤ 536870912 ∧ ∀ i, i < len → ¬ 255 < cv A (o + i)
def E (b : Addr) (A : Cell) (o len : Nat) (r : Option Value) (s u : State) : Prop := NewArr .byte "[B" len (fun j => .int (lo8 (cv A (o + j)))) r s u ∧ u.heap.size = s.heap.size + 1
/-- no char of the range above 255: a new byte[] of their low bytes -/
theorem law (l : Launch) (b : Addr) (A : Cell) (o len : Nat) : Law l yN 3 3 1 18 yB 6 (some (.array .byte)) site (P b A o len) (E b A o len) [] 1 len := by
  refine Law.of_walk (plainFor_of_name (by decide +kernel)) (by decide +kernel) (by decide +kernel) (by decide) (fun _ _ h => by rw [h.1]; rfl) (fun _ U U' hal hh h => ⟨h.1, h.2.1.mv hal hh, h.2.2⟩) (fun r U U' V V' h1 hal h2 h => ⟨NewArr.mv r U U' V V' h1 hal h2 h.1, by rw [h1, h2]; exact h.2⟩) ?_
  intro p e s m args below meth c s₁ X0 hexec hbytes hml hret hlk hnm hown hh0 W hP
  obtain ⟨rfl, hA, l1, l2, hp⟩ := hP
  have a31 := hA.1.2.2.2
  have c1 : Steps p.tables e below (s₁.setTop (entryFrame m #[.ref b, .int (Int32.ofNat o), .int (Int32.ofNat len)] 6)) (s₁.setTop (mkF m 0 #[.val (.ref b), .val (.int (Int32.ofNat o)), .val (.int (Int32.ofNat len)), .unset, .unset, .unset] [])) := entry rfl
  have c2 : Steps p.tables e below (s₁.setTop (entryFrame m #[.ref b, .int (Int32.ofNat o), .int (Int32.ofNat len)] 6)) (s₁.setTop (mkF m 1 #[.val (.ref b), .val (.int (Int32.ofNat o)), .val (.int (Int32.ofNat len)), .unset, .unset, .unset] [.int (Int32.ofNat len)])) := c1.trans (by
    refine XS.iloadN X0.here hexec rfl (hb hbytes d0) rfl ?_
    exact Steps.refl _)
  obtain ⟨T3, B3, X3, ba3, bs3, bv3, bh3, bf3, st3⟩ := X0.anew hexec (atype := .byte) (wk W (.arrayClass .byte)) rfl (by show len * 1 ≤ _; omega) (by omega) (g := (mkF m 1 #[.val (.ref b), .val (.int (Int32.ofNat o)), .val (.int (Int32.ofNat len)), .unset, .unset, .unset] [.int (Int32.ofNat len)])) rfl (hb hbytes d1) (rest := []) rfl (Nat.le_refl _) (by show 0 + len ≤ len; omega)
  rw [hh0] at ba3 st3
  have kp3 : XT.Kept s T3 := (XT.Kept.of_eq hh0).push bh3
  have hA3 := hA.keep X3.warmed.alike (kp3 _ _ hA.1.1)
  have hne : b ≠ s.heap.size := hA.1.ne
  have c4 : Steps p.tables e below (s₁.setTop (entryFrame m #[.ref b, .int (Int32.ofNat o), .int (Int32.ofNat len)] 6)) (T3.setTop (mkF m 3 #[.val (.ref b), .val (.int (Int32.ofNat o)), .val (.int (Int32.ofNat len)), .unset, .unset, .unset] [.ref s.heap.size])) := c2.trans (st3 _ (Steps.refl _))
  have c5 : Steps p.tables e below (s₁.setTop (entryFrame m #[.ref b, .int (Int32.ofNat o), .int (Int32.ofNat len)] 6)) (T3.setTop (mkF m 9 #[.val (.ref b), .val (.int (Int32.ofNat o)), .val (.int (Int32.ofNat len)), .val (.ref s.heap.size), .unset, .unset] [.int (Int32.ofNat len), .int 0, .ref s.heap.size, .int (Int32.ofNat o), .ref b])) := c4.trans (by
    refine XS.astoreN X3.here hexec rfl (hb hbytes d3) rfl rfl rfl ?_
    refine XS.aloadN X3.here hexec rfl (hb hbytes d4) rfl rfl ?_
    refine XS.iloadN X3.here hexec rfl (hb hbytes d5) rfl ?_
    refine XS.aloadN X3.here hexec rfl (hb hbytes d6) rfl rfl ?_
    refine iconstV X3.here hexec rfl 0 (hb hbytes d7) (by decide) ?_
    refine XS.iloadN X3.here hexec rfl (hb hbytes d8) rfl ?_
    exact Steps.refl _)
  obtain ⟨v6, T6, X6, E6, g6⟩ := X3.callS hexec (Cmp5.law l b A s.heap.size B3 o 0 len) hown (wks W (staticW U16 115 Cmp5.yN)) (wk W Cmp5.tab) (W := 0) (Nat.le_of_ble_eq_true rfl) (Nat.le_of_ble_eq_true rfl) (Nat.le_refl _) (by show 0 + len + 0 ≤ len; omega) (g := (mkF m 9 #[.val (.ref b), .val (.int (Int32.ofNat o)), .val (.int (Int32.ofNat len)), .val (.ref s.heap.size), .unset, .unset] [.int (Int32.ofNat len), .int (Int32.ofNat 0), .ref s.heap.size, .int (Int32.ofNat o), .ref b])) rfl (by rw [hml]; rfl) c5 (argsL := [.ref b, .int (Int32.ofNat o), .ref s.heap.size, .int (Int32.ofNat 0), .int (Int32.ofNat len)]) (rest := []) rfl rfl (by show 2 * 0 + 0 ≤ _; decide) (hb hbytes d9) (⟨rfl, hA3, ba3, hne, l1, by rw [bs3]; simp, hp⟩)
  obtain ⟨rfl, B6, p6, f6⟩ := E6
  have c7 : Steps p.tables e below (s₁.setTop (entryFrame m #[.ref b, .int (Int32.ofNat o), .int (Int32.ofNat len)] 6)) (T6.setTop (mkF m 12 #[.val (.ref b), .val (.int (Int32.ofNat o)), .val (.int (Int32.ofNat len)), .val (.ref s.heap.size), .unset, .unset] [.int (Int32.ofNat len)])) := g6
  have c8 : Steps p.tables e below (s₁.setTop (entryFrame m #[.ref b, .int (Int32.ofNat o), .int (Int32.ofNat len)] 6)) (T6.setTop (mkF m 58 #[.val (.ref b), .val (.int (Int32.ofNat o)), .val (.int (Int32.ofNat len)), .val (.ref s.heap.size), .val (.int (Int32.ofNat len)), .unset] [.ref s.heap.size])) := c7.trans (by
    refine XS.istore X6.here hexec rfl (hb hbytes d12) rfl rfl ?_
    refine XS.iload X6.here hexec rfl (hb hbytes d14) rfl ?_
    refine XS.iloadN X6.here hexec rfl (hb hbytes d16) rfl ?_
    refine XS.icmpYes X6.here hexec rfl (pc0 := 17) rfl (hb hbytes d17) rfl (ii_eq_t rfl) (by decide) rfl ?_
    refine XS.aloadN X6.here hexec rfl (hb hbytes d57) rfl rfl ?_
    exact Steps.refl _)
  have X8 := X6.wide (L' := []) (cells' := 1) (slots' := len) (fun x hx hlt => by
    simp only [List.nil_append, copyLocs, List.mem_map, List.mem_range] at hx
    obtain ⟨i, -, rfl⟩ := hx
    exact absurd hlt (Nat.lt_irrefl _)) (Nat.le_refl _) (by omega)
  exact ⟨T6, some (.ref s.heap.size), _, _, _, X8, rfl, rfl, rfl, (fun h => by cases h), ⟨⟨rfl, B6, ba3.like (X3.warmed.alike.symm.trans X6.warmed.alike) p6.1 f6.1 f6.2.1 f6.2.2.1, f6.2.1.trans bv3, by rw [X6.warmed.alike.findClass, f6.1]; exact bf3, by rw [f6.2.2.1, bs3]; simp, fun j hj => by rw [f6.2.2.2 j, if_pos (by omega)]; rfl, kp3.put p6 (Nat.le_refl _)⟩, by rw [p6.2.2, bh3, hh0]; simp⟩, fun fs hl => c8.trans (X8.areturnOut hexec rfl hret rfl (hb hbytes d58) hl)⟩
end Cmp3
namespace CodL
def yN : MethodName := ⟨"java/lang/StringUTF16", "coderFromArrayLen", "([BI)B"⟩
abbrev yB : ByteArray := jdk_52_method_15_code
theorem d0 : decode yB 0 = .ok (.iload_n 1, 1) := by decide +kernel
theorem d1 : decode yB 1 = .ok (.aload_n 0, 1) := by decide +kernel
theorem d2 : decode yB 2 = .ok (.arraylength, 1) := by decide +kernel
theorem d3 : decode yB 3 = .ok (.isub, 1) := by decide +kernel
theorem d4 : decode yB 4 = .ok (.bipush 31, 2) := by decide +kernel
theorem d6 : decode yB 6 = .ok (.iushr, 1) := by decide +kernel
theorem d7 : decode yB 7 = .ok (.i2b, 1) := by decide +kernel
theorem d8 : decode yB 8 = .ok (.ireturn, 1) := by decide +kernel
def site : List Cond := []
def tab : Cond := tabOf yN yB 2 (some .byte) site
def P (d : Addr) (B : Cell) (args : Array Value) (s : State) : Prop := args = #[.ref d, .int (Int32.ofNat B.slots.size)] ∧ Arr .byte d B s
def E (r : Option Value) (s u : State) : Prop := XT.PureE (some (.int 0)) r s u
/-- an array as long as the number of chars: LATIN1 -/
theorem law (l : Launch) (d : Addr) (B : Cell) : Law l yN 2 2 0 0 yB 2 (some .byte) site (P d B) E [] 0 0 := by
  refine Law.of_walk (plainFor_of_name (by decide +kernel)) (by decide +kernel) (by decide +kernel) (by decide) (fun _ _ h => by rw [h.1]; rfl) (fun _ U U' hal hh h => ⟨h.1, h.2.mv hal hh⟩) (fun r U U' V V' h1 hal h2 h => XT.PureE.mv r U U' V V' h1 hal h2 h) ?_
  intro p e s m args below meth c s₁ X0 hexec hbytes hml hret hlk hnm hown hh0 W hP
  obtain ⟨rfl, hB⟩ := hP
  have hB0 := hB.mv X0.warmed.alike hh0
  have c1 : Steps p.tables e below (s₁.setTop (entryFrame m #[.ref d, .int (Int32.ofNat B.slots.size)] 2)) (s₁.setTop (mkF m 0 #[.val (.ref d), .val (.int (Int32.ofNat B.slots.size))] [])) := entry rfl
  have c2 : Steps p.tables e below (s₁.setTop (entryFrame m #[.ref d, .int (Int32.ofNat B.slots.size)] 2)) (s₁.setTop (mkF m 2 #[.val (.ref d), .val (.int (Int32.ofNat B.slots.size))] [.ref d, .int (Int32.ofNat B.slots.size)])) := c1.trans (by
    refine XS.iloadN X0.here hexec rfl (hb hbytes d0) rfl ?_
    refine XS.aloadN X0.here hexec rfl (hb hbytes d1) rfl rfl ?_
    exact Steps.refl _)
  have c3 : Steps p.tables e below (s₁.setTop (entryFrame m #[.ref d, .int (Int32.ofNat B.slots.size)] 2)) (s₁.setTop (mkF m 8 #[.val (.ref d), .val (.int (Int32.ofNat B.slots.size))] [.int (lo8 (ushr (Int32.ofNat B.slots.size - Int32.ofNat B.slots.size) 31))])) := c2.trans (by
    refine X0.alen hexec hB0 rfl rfl (hb hbytes d2) ?_
    refine XS.isub X0.here hexec rfl (hb hbytes d3) rfl ?_
    refine bipushV X0.here hexec rfl 31 (hb hbytes d4) (by decide) ?_
    refine iushr X0.here hexec rfl (hb hbytes d6) rfl ?_
    refine i2b X0.here hexec rfl (hb hbytes d7) rfl ?_
    exact Steps.refl _)
  have e0 : lo8 (ushr (Int32.ofNat B.slots.size - Int32.ofNat B.slots.size) 31) = 0 := by rw [Int32.sub_self]; decide
  rw [e0] at c3
  exact ⟨s₁, some (.int 0), _, _, _, X0, rfl, rfl, rfl, (fun h => by cases h), ⟨rfl, hh0⟩, fun fs hl => c3.trans (X0.ireturnOut hexec hret rfl (Or.inr (Or.inr (Or.inl rfl))) (hb hbytes d8) hl)⟩
end CodL
/-- the String at a is Latin-1 over a new byte[] (the heap's one new cell): the low bytes of the len chars of A from o on; every cell but a is kept -/
def Got (a : Addr) (D : Cell) (fV fC : Field) (A : Cell) (o len : Nat) (r : Option Value) (s u : State) : Prop := r = none ∧ ∃ D' V : Cell, Blank "java/lang/String" a D' u ∧ Same D D' [fV.slot, fC.slot] ∧ D'.slots[fV.slot]? = some (.ref s.heap.size) ∧ D'.slots[fC.slot]? = some (.int 0) ∧ Arr .byte s.heap.size V u ∧ V.vm = .none ∧ u.vm.findClass "[B" = some V.cls ∧ V.slots.size = len ∧ (∀ j, j < len → V.slots[j]? = some (.int (lo8 (cv A (o + j))))) ∧ (∀ (y : Addr) (c : Cell), y ≠ a → s.heap[y]? = some c → u.heap[y]? = some c) ∧ u.heap.size = s.heap.size + 1
theorem Got.mv {a : Addr} {D A : Cell} {fV fC : Field} {o len : Nat} : ∀ r (U U' V V' : State), U'.heap = U.heap → V.vm.Alike V'.vm → V'.heap = V.heap → Got a D fV fC A o len r U V → Got a D fV fC A o len r U' V' :=
  fun r U U' V V' h1 hal h2 ⟨e0, D', X, a1, a2, a3, a4, a5, a6, a7, a8, a9, a10, a11⟩ => ⟨e0, D', X, a1.mv hal h2, a2, by rw [h1]; exact a3, a4, by rw [h1]; exact a5.mv hal h2, a6, by rw [hal.findClass]; exact a7, a8, a9, by rw [h1, h2]; exact a10, by rw [h1, h2]; exact a11⟩
namespace New4
def yN : MethodName := ⟨"java/lang/String", "<init>", "([CIILjava/lang/Void;)V"⟩
abbrev yB : ByteArray := jdk_42_method_149_code
theorem d0 : decode yB 0 = .ok (.aload_n 0, 1) := by decide +kernel
theorem d1 : decode yB 1 = .ok (.invokespecial 1, 3) := by decide +kernel
theorem d4 : decode yB 4 = .ok (.iload_n 3, 1) := by decide +kernel
theorem d5 : decode yB 5 = .ok (.ifCond (.ne) 22, 3) := by decide +kernel
theorem d27 : decode yB 27 = .ok (.getstatic 38, 3) := by decide +kernel
theorem d30 : decode yB 30 = .ok (.ifCond (.eq) 28, 3) := by decide +kernel
theorem d33 : decode yB 33 = .ok (.aload_n 1, 1) := by decide +kernel
theorem d34 : decode yB 34 = .ok (.iload_n 2, 1) := by decide +kernel
theorem d35 : decode yB 35 = .ok (.iload_n 3, 1) := by decide +kernel
theorem d36 : decode yB 36 = .ok (.invokestatic 177, 3) := by decide +kernel
theorem d39 : decode yB 39 = .ok (.astore 5, 2) := by decide +kernel
theorem d41 : decode yB 41 = .ok (.aload_n 0, 1) := by decide +kernel
theorem d42 : decode yB 42 = .ok (.aload 5, 2) := by decide +kernel
theorem d44 : decode yB 44 = .ok (.iload_n 3, 1) := by decide +kernel
theorem d45 : decode yB 45 = .ok (.invokestatic 47, 3) := by decide +kernel
theorem d48 : decode yB 48 = .ok (.putfield 15, 3) := by decide +kernel
theorem d51 : decode yB 51 = .ok (.aload_n 0, 1) := by decide +kernel
theorem d52 : decode yB 52 = .ok (.aload 5, 2) := by decide +kernel
theorem d54 : decode yB 54 = .ok (.putfield 9, 3) := by decide +kernel
theorem d57 : decode yB 57 = .ok (.return_, 1) := by decide +kernel
def site : List Cond := [.fieldLink "java/lang/String" 38 "java/lang/String" "COMPACT_STRINGS" "Z", Cmp3.tab, CodL.tab, .laysFinal "java/lang/String" "java/lang/String" "value" "[B", .fieldLink "java/lang/String" 9 "java/lang/String" "value" "[B", .laysFinal "java/lang/String" "java/lang/String" "coder" "B", .fieldLink "java/lang/String" 15 "java/lang/String" "coder" "B"] ++ objW "java/lang/String" 1 ++ staticW "java/lang/String" 177 Cmp3.yN ++ staticW "java/lang/String" 47 CodL.yN
def tab : Cond := tabOf yN yB 6 none site
def P (a : Addr) (D : Cell) (fV fC : Field) (b : Addr) (A : Cell) (z : Int32) (o len : Nat) (args : Array Value) (s : State) : Prop := args = #[.ref a, .ref b, .int (Int32.ofNat o), .int (Int32.ofNat len), .null] ∧ Blank "java/lang/String" a D s ∧ Found "java/lang/String" "value" "[B" fV s ∧ Found "java/lang/String" "coder" "B" fC s ∧ Ch b A s ∧ StaticIs s "java/lang/String" "COMPACT_STRINGS" "Z" (.int z) ∧ ¬ z = 0 ∧ 0 < len ∧ o + len ≤ A.slots.size ∧ len ≤ 536870912 ∧ ∀ i, i < len → ¬ 255 < cv A (o + i)
def E (a : Addr) (D : Cell) (fV fC : Field) (A : Cell) (o len : Nat) (r : Option Value) (s u : State) : Prop := Got a D fV fC A o len r s u
/-- len > 0, no char of the range above 255: a Latin-1 String of their low bytes -/
theorem law (l : Launch) (a : Addr) (D : Cell) (fV fC : Field) (b : Addr) (A : Cell) (z : Int32) (o len : Nat) : Law l yN 5 4 2 35 yB 6 none site (P a D fV fC b A z o len) (E a D fV fC A o len) [⟨a, fC.slot⟩, ⟨a, fV.slot⟩] 1 len := by
  refine Law.of_walk (plainFor_of_name (by decide +kernel)) (by decide +kernel) (by decide +kernel) (by decide) (fun _ _ h => by rw [h.1]; rfl) (fun _ U U' hal hh h => ⟨h.1, h.2.1.mv hal hh, h.2.2.1.al hal, h.2.2.2.1.al hal, h.2.2.2.2.1.mv hal hh, h.2.2.2.2.2.1.there hal hh, h.2.2.2.2.2.2⟩) (fun r U U' V V' h1 hal h2 h => Got.mv r U U' V V' h1 hal h2 h) ?_
  intro p e s m args below meth c s₁ X0 hexec hbytes hml hret hlk hnm hown hh0 W hP
  obtain ⟨rfl, hB, f1, f2, hA, s1, hz, l0, l1, l2, hp⟩ := hP
  have a31 := hA.1.2.2.2
  have c1 : Steps p.tables e below (s₁.setTop (entryFrame m #[.ref a, .ref b, .int (Int32.ofNat o), .int (Int32.ofNat len), .null] 6)) (s₁.setTop (mkF m 0 #[.val (.ref a), .val (.ref b), .val (.int (Int32.ofNat o)), .val (.int (Int32.ofNat len)), .val .null, .unset] [])) := entry rfl
  have c2 : Steps p.tables e below (s₁.setTop (entryFrame m #[.ref a, .ref b, .int (Int32.ofNat o), .int (Int32.ofNat len), .null] 6)) (s₁.setTop (mkF m 1 #[.val (.ref a), .val (.ref b), .val (.int (Int32.ofNat o)), .val (.int (Int32.ofNat len)), .val .null, .unset] [.ref a])) := c1.trans (by
    refine XS.aloadN X0.here hexec rfl (hb hbytes d0) rfl rfl ?_
    exact Steps.refl _)
  obtain ⟨T3, X3, q3, st3⟩ := X0.oinit hexec hown (wks W (objW "java/lang/String" 1)) (g := (mkF m 1 #[.val (.ref a), .val (.ref b), .val (.int (Int32.ofNat o)), .val (.int (Int32.ofNat len)), .val .null, .unset] [.ref a])) rfl (by rw [hml]; rfl) (rest := []) rfl (hb hbytes d1) (W := 0) (by show 2 * 0 + 0 ≤ _; decide) (Nat.le_of_ble_eq_true rfl) (Nat.le_of_ble_eq_true rfl)
  have hh3 := q3.trans hh0
  have c4 : Steps p.tables e below (s₁.setTop (entryFrame m #[.ref a, .ref b, .int (Int32.ofNat o), .int (Int32.ofNat len), .null] 6)) (T3.setTop (mkF m 27 #[.val (.ref a), .val (.ref b), .val (.int (Int32.ofNat o)), .val (.int (Int32.ofNat len)), .val .null, .unset] [])) := (c2.trans (st3 _ (Steps.refl _))).trans (by
    refine XS.iloadN X3.here hexec rfl (hb hbytes d4) rfl ?_
    refine XS.ifYes X3.here hexec rfl (pc0 := 5) rfl (hb hbytes d5) rfl (i0_ne_t (nz32 (by omega) l0)) (by decide) rfl ?_
    exact Steps.refl _)
  obtain ⟨T5, X5, q5, st5⟩ := X3.sget hexec hown (wk W (.fieldLink "java/lang/String" 38 "java/lang/String" "COMPACT_STRINGS" "Z")) s1 (fun _ _ h => by rw [hh3]; exact h) (g := (mkF m 27 #[.val (.ref a), .val (.ref b), .val (.int (Int32.ofNat o)), .val (.int (Int32.ofNat len)), .val .null, .unset] [])) rfl (hb hbytes d27)
  have hh5 := q5.trans hh3
  have c6 : Steps p.tables e below (s₁.setTop (entryFrame m #[.ref a, .ref b, .int (Int32.ofNat o), .int (Int32.ofNat len), .null] 6)) (T5.setTop (mkF m 30 #[.val (.ref a), .val (.ref b), .val (.int (Int32.ofNat o)), .val (.int (Int32.ofNat len)), .val .null, .unset] [.int z])) := c4.trans (st5 _ (Steps.refl _))
  have c7 : Steps p.tables e below (s₁.setTop (entryFrame m #[.ref a, .ref b, .int (Int32.ofNat o), .int (Int32.ofNat len), .null] 6)) (T5.setTop (mkF m 36 #[.val (.ref a), .val (.ref b), .val (.int (Int32.ofNat o)), .val (.int (Int32.ofNat len)), .val .null, .unset] [.int (Int32.ofNat len), .int (Int32.ofNat o), .ref b])) := c6.trans (by
    refine XS.ifNo X5.here hexec rfl (hb hbytes d30) rfl (i0_eq_f hz) ?_
    refine XS.aloadN X5.here hexec rfl (hb hbytes d33) rfl rfl ?_
    refine XS.iloadN X5.here hexec rfl (hb hbytes d34) rfl ?_
    refine XS.iloadN X5.here hexec rfl (hb hbytes d35) rfl ?_
    exact Steps.refl _)
  obtain ⟨v8, T8, X8, E8, g8⟩ := X5.callS hexec (Cmp3.law l b A o len) hown (wks W (staticW "java/lang/String" 177 Cmp3.yN)) (wk W Cmp3.tab) (W := 0) (Nat.le_of_ble_eq_true rfl) (Nat.le_of_ble_eq_true rfl) (Nat.le_refl _) (by show 0 + len ≤ len; omega) (g := (mkF m 36 #[.val (.ref a), .val (.ref b), .val (.int (Int32.ofNat o)), .val (.int (Int32.ofNat len)), .val .null, .unset] [.int (Int32.ofNat len), .int (Int32.ofNat o), .ref b])) rfl (by rw [hml]; rfl) c7 (argsL := [.ref b, .int (Int32.ofNat o), .int (Int32.ofNat len)]) (rest := []) rfl rfl (by show 2 * 0 + 0 ≤ _; decide) (hb hbytes d36) (⟨rfl, hA.mv X5.warmed.alike hh5, l1, l2, hp⟩)
  obtain ⟨e8, z8⟩ := E8
  obtain ⟨rfl, N, n1, n2, n3, n4, n5, n6⟩ := NewArr.mv _ T5 s _ _ hh5.symm (Vm.Alike.refl _) rfl e8
  rw [hh5] at z8
  have hB1 := hB.keep X8.warmed.alike (n6 _ _ hB.1)
  have hne : s.heap.size ≠ a := (Nat.ne_of_lt (Array.getElem?_eq_some_iff.mp hB.1).1).symm
  have c9 : Steps p.tables e below (s₁.setTop (entryFrame m #[.ref a, .ref b, .int (Int32.ofNat o), .int (Int32.ofNat len), .null] 6)) (T8.setTop (mkF m 39 #[.val (.ref a), .val (.ref b), .val (.int (Int32.ofNat o)), .val (.int (Int32.ofNat len)), .val .null, .unset] [.ref s.heap.size])) := g8
  have c10 : Steps p.tables e below (s₁.setTop (entryFrame m #[.ref a, .ref b, .int (Int32.ofNat o), .int (Int32.ofNat len), .null] 6)) (T8.setTop (mkF m 45 #[.val (.ref a), .val (.ref b), .val (.int (Int32.ofNat o)), .val (.int (Int32.ofNat len)), .val .null, .val (.ref s.heap.size)] [.int (Int32.ofNat N.slots.size), .ref s.heap.size, .ref a])) := by
    have hc : Steps p.tables e below (s₁.setTop (entryFrame m #[.ref a, .ref b, .int (Int32.ofNat o), .int (Int32.ofNat len), .null] 6)) (T8.setTop (mkF m 45 #[.val (.ref a), .val (.ref b), .val (.int (Int32.ofNat o)), .val (.int (Int32.ofNat len)), .val .null, .val (.ref s.heap.size)] [.int (Int32.ofNat len), .ref s.heap.size, .ref a])) := c9.trans (by
      refine XS.astore X8.here hexec rfl (hb hbytes d39) rfl rfl rfl ?_
      refine XS.aloadN X8.here hexec rfl (hb hbytes d41) rfl rfl ?_
      refine XS.aload X8.here hexec rfl (hb hbytes d42) rfl rfl ?_
      refine XS.iloadN X8.here hexec rfl (hb hbytes d44) rfl ?_
      exact Steps.refl _)
    rw [n4]; exact hc
  obtain ⟨v11, T11, X11, E11, g11⟩ := X8.callS hexec (CodL.law l s.heap.size N) hown (wks W (staticW "java/lang/String" 47 CodL.yN)) (wk W CodL.tab) (W := 1) (Nat.le_of_ble_eq_true rfl) (Nat.le_of_ble_eq_true rfl) (Nat.le_refl _) (by show 0 + len + 0 ≤ len; omega) (g := (mkF m 45 #[.val (.ref a), .val (.ref b), .val (.int (Int32.ofNat o)), .val (.int (Int32.ofNat len)), .val .null, .val (.ref s.heap.size)] [.int (Int32.ofNat N.slots.size), .ref s.heap.size, .ref a])) rfl (by rw [hml]; rfl) c10 (argsL := [.ref s.heap.size, .int (Int32.ofNat N.slots.size)]) (rest := [.ref a]) rfl rfl (by show 2 * 0 + (1 + 0) ≤ _; decide) (hb hbytes d45) (⟨rfl, n1⟩)
  obtain ⟨rfl, q11⟩ := E11
  have hB11 := hB1.mv (X8.warmed.alike.symm.trans X11.warmed.alike) q11
  have c12 : Steps p.tables e below (s₁.setTop (entryFrame m #[.ref a, .ref b, .int (Int32.ofNat o), .int (Int32.ofNat len), .null] 6)) (T11.setTop (mkF m 48 #[.val (.ref a), .val (.ref b), .val (.int (Int32.ofNat o)), .val (.int (Int32.ofNat len)), .val .null, .val (.ref s.heap.size)] [.int 0, .ref a])) := g11
  obtain ⟨T13, X13, p13, bl13, sl13, st13⟩ := X11.finit hexec hown (wk W (.fieldLink "java/lang/String" 15 "java/lang/String" "coder" "B")) (Or.inr ⟨_, (wk W (.laysFinal "java/lang/String" "java/lang/String" "coder" "B"))⟩) (Or.inl ⟨rfl, hnm⟩) f2 (Or.inl rfl) hB11 (t := .byte) (by decide +kernel) rfl (g := (mkF m 48 #[.val (.ref a), .val (.ref b), .val (.int (Int32.ofNat o)), .val (.int (Int32.ofNat len)), .val .null, .val (.ref s.heap.size)] [.int 0, .ref a])) rfl (rest := []) rfl (hb hbytes d48)
  have c14 : Steps p.tables e below (s₁.setTop (entryFrame m #[.ref a, .ref b, .int (Int32.ofNat o), .int (Int32.ofNat len), .null] 6)) (T13.setTop (mkF m 54 #[.val (.ref a), .val (.ref b), .val (.int (Int32.ofNat o)), .val (.int (Int32.ofNat len)), .val .null, .val (.ref s.heap.size)] [.ref s.heap.size, .ref a])) := (c12.trans (st13 _ (Steps.refl _))).trans (by
    refine XS.aloadN X13.here hexec rfl (hb hbytes d51) rfl rfl ?_
    refine XS.aload X13.here hexec rfl (hb hbytes d52) rfl rfl ?_
    exact Steps.refl _)
  obtain ⟨T15, X15, p15, bl15, sl15, st15⟩ := X13.finit hexec hown (wk W (.fieldLink "java/lang/String" 9 "java/lang/String" "value" "[B")) (Or.inr ⟨_, (wk W (.laysFinal "java/lang/String" "java/lang/String" "value" "[B"))⟩) (Or.inl ⟨rfl, hnm⟩) f1 (Or.inl rfl) bl13 (t := (.array .byte)) (by decide +kernel) rfl (g := (mkF m 54 #[.val (.ref a), .val (.ref b), .val (.int (Int32.ofNat o)), .val (.int (Int32.ofNat len)), .val .null, .val (.ref s.heap.size)] [.ref s.heap.size, .ref a])) rfl (rest := []) rfl (hb hbytes d54)
  have c16 : Steps p.tables e below (s₁.setTop (entryFrame m #[.ref a, .ref b, .int (Int32.ofNat o), .int (Int32.ofNat len), .null] 6)) (T15.setTop (mkF m 57 #[.val (.ref a), .val (.ref b), .val (.int (Int32.ofNat o)), .val (.int (Int32.ofNat len)), .val .null, .val (.ref s.heap.size)] [])) := c14.trans (st15 _ (Steps.refl _))
  have ap := apart (Or.inr ⟨_, (wk W (.laysFinal "java/lang/String" "java/lang/String" "value" "[B"))⟩) (Or.inr ⟨_, (wk W (.laysFinal "java/lang/String" "java/lang/String" "coder" "B"))⟩) f1 f2 (t₁ := .array .byte) (t₂ := .byte) (by decide +kernel) (by decide +kernel) (by decide)
  have al := X8.warmed.alike.symm.trans X15.warmed.alike
  have n7 : T11.heap[s.heap.size]? = some N := by rw [q11]; exact n1.1
  exact ⟨T15, none, _, _, _, X15, by simp, rfl, by omega, (fun _ => rfl), ⟨rfl, _, N, bl15, ((Same.refl D _).set _ (by simp)).set _ (by simp), sl15, (Cell.slots_setSlot_ne _ ap).trans sl13, n1.keep al (p15.other hne (p13.other hne n7)), n2, by rw [al.findClass]; exact n3, n4, n5, fun y c h1 h2 => p15.other h1 (p13.other h1 (by rw [q11]; exact n6 y c h2)), by rw [p15.2.2, p13.2.2, q11]; exact z8⟩, fun fs hl => c16.trans (X15.returnOut hexec hret (hb hbytes d57) hl)⟩
end New4
namespace New1
def yN : MethodName := ⟨"java/lang/String", "<init>", "([C)V"⟩
abbrev yB : ByteArray := jdk_42_method_3_code
theorem d0 : decode yB 0 = .ok (.aload_n 0, 1) := by decide +kernel
theorem d1 : decode yB 1 = .ok (.aload_n 1, 1) := by decide +kernel
theorem d2 : decode yB 2 = .ok (.iconst 0, 1) := by decide +kernel
theorem d3 : decode yB 3 = .ok (.aload_n 1, 1) := by decide +kernel
theorem d4 : decode yB 4 = .ok (.arraylength, 1) := by decide +kernel
theorem d5 : decode yB 5 = .ok (.aconst_null, 1) := by decide +kernel
theorem d6 : decode yB 6 = .ok (.invokespecial 27, 3) := by decide +kernel
theorem d9 : decode yB 9 = .ok (.return_, 1) := by decide +kernel
def site : List Cond := [New4.tab] ++ initW "java/lang/String" 27 New4.yN
def tab : Cond := tabOf yN yB 2 none site
def P (a : Addr) (D : Cell) (fV fC : Field) (b : Addr) (A : Cell) (z : Int32) (args : Array Value) (s : State) : Prop := args = #[.ref a, .ref b] ∧ Blank "java/lang/String" a D s ∧ Found "java/lang/String" "value" "[B" fV s ∧ Found "java/lang/String" "coder" "B" fC s ∧ Ch b A s ∧ StaticIs s "java/lang/String" "COMPACT_STRINGS" "Z" (.int z) ∧ ¬ z = 0 ∧ 0 < A.slots.size ∧ A.slots.size ≤ 536870912 ∧ ∀ i, i < A.slots.size → ¬ 255 < cv A i
def E (a : Addr) (D : Cell) (fV fC : Field) (A : Cell) (r : Option Value) (s u : State) : Prop := Got a D fV fC A 0 A.slots.size r s u
/-- new String(chars), not empty, no char above 255: a Latin-1 String of their low bytes -/
theorem law (l : Launch) (a : Addr) (D : Cell) (fV fC : Field) (b : Addr) (A : Cell) (z : Int32) : Law l yN 2 1 3 52 yB 2 none site (P a D fV fC b A z) (E a D fV fC A) [⟨a, fC.slot⟩, ⟨a, fV.slot⟩] 1 A.slots.size := by
  refine Law.of_walk (plainFor_of_name (by decide +kernel)) (by decide +kernel) (by decide +kernel) (by decide) (fun _ _ h => by rw [h.1]; rfl) (fun _ U U' hal hh h => ⟨h.1, h.2.1.mv hal hh, h.2.2.1.al hal, h.2.2.2.1.al hal, h.2.2.2.2.1.mv hal hh, h.2.2.2.2.2.1.there hal hh, h.2.2.2.2.2.2⟩) (fun r U U' V V' h1 hal h2 h => Got.mv r U U' V V' h1 hal h2 h) ?_
  intro p e s m args below meth c s₁ X0 hexec hbytes hml hret hlk hnm hown hh0 W hP
  obtain ⟨rfl, hB, f1, f2, hA, s1, hz, l0, l2, hp⟩ := hP
  have c1 : Steps p.tables e below (s₁.setTop (entryFrame m #[.ref a, .ref b] 2)) (s₁.setTop (mkF m 0 #[.val (.ref a), .val (.ref b)] [])) := entry rfl
  have c2 : Steps p.tables e below (s₁.setTop (entryFrame m #[.ref a, .ref b] 2)) (s₁.setTop (mkF m 6 #[.val (.ref a), .val (.ref b)] [.null, .int (Int32.ofNat A.slots.size), .int 0, .ref b, .ref a])) := c1.trans (by
    refine XS.aloadN X0.here hexec rfl (hb hbytes d0) rfl rfl ?_
    refine XS.aloadN X0.here hexec rfl (hb hbytes d1) rfl rfl ?_
    refine iconstV X0.here hexec rfl 0 (hb hbytes d2) (by decide) ?_
    refine XS.aloadN X0.here hexec rfl (hb hbytes d3) rfl rfl ?_
    refine X0.alen hexec (hA.1.mv X0.warmed.alike hh0) rfl rfl (hb hbytes d4) ?_
    refine XS.aconstNull X0.here hexec rfl (hb hbytes d5) ?_
    exact Steps.refl _)
  obtain ⟨v3, T3, X3, E3, g3⟩ := X0.callN hexec (New4.law l a D fV fC b A z 0 A.slots.size) rfl hown (wks W (initW "java/lang/String" 27 New4.yN)) (W New4.tab (by simp only [site, List.mem_cons, List.mem_append, true_or, or_true])) (W := 0) (Nat.le_of_ble_eq_true rfl) (Nat.le_of_ble_eq_true rfl) (Nat.le_refl _) (by show 0 + A.slots.size ≤ A.slots.size; omega) (g := (mkF m 6 #[.val (.ref a), .val (.ref b)] [.null, .int (Int32.ofNat A.slots.size), .int (Int32.ofNat 0), .ref b, .ref a])) rfl (by rw [hml]; rfl) c2 (argsL := [.ref b, .int (Int32.ofNat 0), .int (Int32.ofNat A.slots.size), .null]) (rest := []) rfl rfl (by show 2 * 0 + 0 ≤ _; decide) (hb hbytes d6) (⟨rfl, hB.mv X0.warmed.alike hh0, f1.al X0.warmed.alike, f2.al X0.warmed.alike, hA.mv X0.warmed.alike hh0, s1.there X0.warmed.alike hh0, hz, l0, by omega, l2, fun i hi => by rw [Nat.zero_add]; exact hp i hi⟩)
  have e0 := Got.mv _ s₁ s _ _ hh0.symm (Vm.Alike.refl _) rfl E3
  obtain rfl := e0.1
  have c4 : Steps p.tables e below (s₁.setTop (entryFrame m #[.ref a, .ref b] 2)) (T3.setTop (mkF m 9 #[.val (.ref a), .val (.ref b)] [])) := g3
  exact ⟨T3, none, _, _, _, X3, by simp, rfl, by omega, (fun _ => rfl), e0, fun fs hl => c4.trans (X3.returnOut hexec hret (hb hbytes d9) hl)⟩
theorem pays {l : Launch} {R : Room} {p : Program} {e : Env} {below : List Frame} {s : State} {sargs : Array Value} {len W : Nat} (a : Addr) (D : Cell) (fV fC : Field) (b : Addr) (A : Cell) (z : Int32) (htab : tab.before sargs s = true) (hfr : 4 ≤ R.frames) (hlo : W + 65 ≤ R.locals) :
    Back l R p e below s sargs yN len W (fun A₁ a₁ => A₁.cells + 1 ≤ R.cells ∧ A₁.slots + A.slots.size ≤ R.slots ∧ P a D fV fC b A z a₁ A₁.U) (fun A₁ _ v₁ B₁ => E a D fV fC A v₁ A₁.U B₁.U ∧ B₁.locs = A₁.locs ++ [⟨a, fC.slot⟩, ⟨a, fV.slot⟩] ∧ B₁.cells = A₁.cells + 1 ∧ B₁.slots = A₁.slots + A.slots.size) :=
  (law l a D fV fC b A z).pays htab hfr (by omega)
end New1
/-- the byte, read back as charAt reads it, is the char -/
theorem lo8_mask {x : Int32} (h0 : ¬ x < 0) (h1 : ¬ 255 < x) : lo8 x &&& 255 = x := by
  have t : ∀ k : Fin 256, lo8 (Int32.ofNat k.val) &&& 255 = Int32.ofNat k.val := by decide +kernel
  rw [Int32.lt_iff_toInt_lt] at h0 h1
  have e0 : (0 : Int32).toInt = 0 := rfl
  have e1 : (255 : Int32).toInt = 255 := rfl
  obtain ⟨k, hk⟩ : ∃ k : Nat, x.toInt = k := ⟨x.toInt.toNat, by omega⟩
  have hx : x = Int32.ofNat k := Int32.toInt_inj.mp (by rw [hk, Int32.toInt_ofNat_small (by omega)])
  rw [hx]
  exact t ⟨k, by omega⟩
end StrChars
namespace StrChars.Road
open Jvm Sem ClassFile Op Lib Jvm.Stand Jvm.Free Jvm.Free.XT
open Jvm.Lib.Cold (StaticIs)
abbrev ST : String := "java/lang/String"
/-- every table word that New1's law asks, flat -/
abbrev words : List Jvm.Cond := [.code New1.yN New1.yB 2 none, .initialized ST, .methodLink ST 27 New4.yN, .instanceMethod New4.yN,
  .code New4.yN New4.yB 6 none, .fieldLink ST 38 ST "COMPACT_STRINGS" "Z", .laysFinal ST ST "value" "[B", .fieldLink ST 9 ST "value" "[B", .laysFinal ST ST "coder" "B", .fieldLink ST 15 ST "coder" "B",
  .methodLink ST 1 Lib.objectInit, .instanceMethod Lib.objectInit, .code Lib.objectInit ⟨#[0xb1]⟩ 1 none, .methodLink ST 177 Cmp3.yN, .static Cmp3.yN, .methodLink ST 47 CodL.yN, .static CodL.yN,
  .code Cmp3.yN Cmp3.yB 6 (some (.array .byte)), .initialized U16, .arrayClass .byte, .methodLink U16 115 Cmp5.yN, .static Cmp5.yN, .code Cmp5.yN Cmp5.yB 7 (some .int), .code CodL.yN CodL.yB 2 (some .byte)]
theorem tab_of {a : Array Value} {s : State} (h : ∀ w ∈ words, w.before a s = true) : New1.tab.before a s = true := by
  have h5 : Cmp5.tab.before a s = true := unparts (wk h (.code Cmp5.yN Cmp5.yB 7 (some .int))) (wks h (.initialized Cmp5.yN.cls :: Cmp5.site))
  have hc : CodL.tab.before a s = true := unparts (wk h (.code CodL.yN CodL.yB 2 (some .byte))) (wks h (.initialized CodL.yN.cls :: CodL.site))
  have q5 : ∀ w ∈ Cmp5.tab :: words, w.before a s = true := fun w hw => (List.mem_cons.mp hw).elim (fun e => e ▸ h5) (h w)
  have h3 : Cmp3.tab.before a s = true := unparts (wk q5 (.code Cmp3.yN Cmp3.yB 6 (some (.array .byte)))) (wks q5 (.initialized Cmp3.yN.cls :: Cmp3.site))
  have q3 : ∀ w ∈ Cmp3.tab :: CodL.tab :: words, w.before a s = true := fun w hw => (List.mem_cons.mp hw).elim (fun e => e ▸ h3) fun hw => (List.mem_cons.mp hw).elim (fun e => e ▸ hc) (h w)
  have h4 : New4.tab.before a s = true := unparts (wk q3 (.code New4.yN New4.yB 6 none)) (wks q3 (.initialized New4.yN.cls :: New4.site))
  have q4 : ∀ w ∈ New4.tab :: words, w.before a s = true := fun w hw => (List.mem_cons.mp hw).elim (fun e => e ▸ h4) (h w)
  exact unparts (wk q4 (.code New1.yN New1.yB 2 none)) (wks q4 (.initialized New1.yN.cls :: New1.site))
/-- the words ride from the start Z to the walk's own state -/
theorem moved {Z s : State} {a0 args : Array Value} (hZ : Z.Warmed39 s.vm) (hw : ∀ d ∈ words, d.before a0 Z = true) : ∀ d ∈ words, d.before args s = true := fun d hd => by
  have q := hw d hd
  have t : ∀ d ∈ words, d = .arrayClass .byte ∨ (d.onTables && d.keepsFace) = true := by decide +kernel
  rcases t d hd with rfl | t
  · exact RoadKit.mvA hZ q
  · exact RoadKit.mv hZ q t
/-- WHAT COMES BACK, over the tables of the start Z: h the heap at the call, h' behind it -/
def Q (Z : State) (x : Addr) (A : Cell) (h : Heap) (v : Option Value) (h' : Heap) (L : List Loc) : Prop := v = none ∧ (∀ y ∈ L, y.base = x) ∧ RoadKit.Keep h h' [x] ∧ h'.size = h.size + 1 ∧ RoadKit.Exa Z h' x ST ∧ RoadKit.Fld Z h' x ST "value" "[B" (.ref h.size) ∧ RoadKit.Fld Z h' x ST "coder" "B" (.int 0) ∧
  (∃ V : Cell, RoadKit.Arr Z h' h.size V .byte ∧ V.vm = .none ∧ Z.vm.findClass "[B" = some V.cls ∧ V.slots.size = A.slots.size ∧ ∀ j, j < A.slots.size → V.slots[j]? = some (.int (lo8 (cv A j)))) ∧
  ∀ (O n d : String) (w : Value), RoadKit.Fld Z h x O n d w → RoadKit.slotOf Z O n d ≠ RoadKit.slotOf Z ST "value" "[B" → RoadKit.slotOf Z O n d ≠ RoadKit.slotOf Z ST "coder" "B" → RoadKit.Fld Z h' x O n d w
/-- **new String(chars) AT A CALL, IN THE ROAD'S FORM**: for specialBack behind newO: x the fresh String, b the char[] with the cell A -/
theorem back {p : Program} {l : Launch} {e : Env} {R : Room} {s : State} {args : Array Value} {below : List Frame} {len W : Nat} {Z : State} {a0 : Array Value} {h : Heap} (hZ : Z.Warmed39 s.vm) (hw : ∀ d ∈ words, d.before a0 Z = true) {kI : Nat} (wi : (Jvm.Cond.instantiable ST kI).before a0 Z = true)
    {x b : Addr} {A : Cell} {z : Int32} {v0 c0 : Value} (E : RoadKit.Exa Z h x ST) (V : RoadKit.Fld Z h x ST "value" "[B" v0) (C : RoadKit.Fld Z h x ST "coder" "B" c0) (K : RoadKit.Arr Z h b A .char) (hty : Typed .char A) (S : RoadKit.Sta Z h ST "COMPACT_STRINGS" "Z" (.int z)) (hz : ¬ z = 0)
    (l0 : 0 < A.slots.size) (l2 : A.slots.size ≤ 536870912) (hp : ∀ i, i < A.slots.size → ¬ 255 < cv A i) (hfr : 4 ≤ R.frames) (hlo : W + 65 ≤ R.locals) :
    Back l R p e below s args New1.yN len W (fun P a => a = #[.ref x, .ref b] ∧ P.U.heap = h ∧ P.cells + 1 ≤ R.cells ∧ P.slots + A.slots.size ≤ R.slots)
      (fun P _ v B => ∃ L, Q Z x A h v B.U.heap L ∧ B.locs = P.locs ++ L ∧ B.cells = P.cells + 1 ∧ B.slots = P.slots + A.slots.size) := by
  intro m meth c P g ig mk a X hg hsize hdg hW hn hp'
  obtain ⟨rfl, rfl, r1, r2⟩ := hp'
  have al : Z.vm.Alike P.U.vm := hZ.alike.trans X.warmed.alike
  obtain ⟨D, cfV, kV, iV, fV, hD, gV, stV, knV, obV, asV, slV⟩ := id V
  obtain ⟨D', cfC, kC, iC, fC, hD', gC, stC, -, -, asC, slC⟩ := id C
  cases hD.symm.trans hD'
  obtain ⟨D2, kD, e1, e2, e3, e4, e5⟩ := id E
  cases hD.symm.trans e1
  obtain ⟨c2, k2, i1, i2, i3, -⟩ := Cond.instantiable_spec wi
  cases e2.symm.trans i1
  cases e3.symm.trans i2
  obtain ⟨kU, u1, u2⟩ := al.2.2 _ _ e3
  have hB : Blank ST x D P.U := ⟨hD, ⟨knV, fun q hq => by rw [hq] at obV; cases obV⟩, by rw [al.findClass]; exact e2, kU, u1, by rw [u2]; exact i3, by rw [u2]; exact e5 i3⟩
  have F1 : Found ST "value" "[B" fV P.U := ⟨SBG.found_only al ⟨cfV, kV, iV, gV⟩, stV⟩
  have F2 : Found ST "coder" "B" fC P.U := ⟨SBG.found_only al ⟨cfC, kC, iC, gC⟩, stC⟩
  have hA : Ch b A P.U := ⟨⟨K.1, State.isArrayOf_alike al K.2.1, K.2.2, by omega⟩, hty⟩
  have hS : StaticIs P.U ST "COMPACT_STRINGS" "Z" (.int z) := by
    obtain ⟨cfS, iS, kS, fS, st, cS, t1, t2, t3, t4, t5, t6, t7⟩ := S
    exact StaticIs.there (s := { Z with heap := P.U.heap }) ⟨cfS, iS, kS, fS, st, cS, t1, t2, t3, t4, t5, (fun q => by rw [q] at t6; cases t6), t7⟩ al rfl
  obtain ⟨v, B, X', ⟨⟨hv, E', V', q1, q2, q3, q4, q5, q6, q7, q8, q9, q10, q11⟩, hl, hc, hs⟩, st⟩ := New1.pays x D fV fC b A z (tab_of (moved hZ hw)) hfr hlo m meth c P g ig mk _ X hg hsize hdg hW hn ⟨r1, r2, rfl, hB, F1, F2, hA, hS, hz, l0, l2, hp⟩
  have al' : Z.vm.Alike B.U.vm := hZ.alike.trans X'.warmed.alike
  have hsz : E'.slots.size = D.slots.size := by
    obtain ⟨-, -, -, kB, w1, w2, w3⟩ := q1
    obtain ⟨kB', y1, y2⟩ := al'.2.2 _ _ e3
    rw [q2.2.1] at w1
    cases w1.symm.trans y1
    rw [w3, e5 i3, y2]
  refine ⟨v, B, X', ⟨_, ⟨hv, ?_, ⟨by omega, fun y cy hy hn' => q10 y cy (by simpa using hn') hy, fun y cy hy => ?_⟩, q11, ⟨E', _, q1.1, by rw [q2.2.1]; exact e2, by rw [q2.2.1]; exact e3, by rw [q2.1]; exact obV, fun _ => by rw [hsz]; exact e5 i3⟩,
    ⟨E', cfV, kV, iV, fV, q1.1, gV, stV, by rw [q2.1]; exact knV, by rw [q2.1]; exact obV, by rw [q2.2.1]; exact asV, q3⟩, ⟨E', cfC, kC, iC, fC, q1.1, gC, stC, by rw [q2.1]; exact knV, by rw [q2.1]; exact obV, by rw [q2.2.1]; exact asC, q4⟩,
    ⟨V', ⟨q5.1, State.isArrayOf_alike al'.symm q5.2.1, q5.2.2.1⟩, q6, by rw [← al'.findClass]; exact q7, q8, fun j hj => by have := q9 j hj; rwa [Nat.zero_add] at this⟩, fun O n d w F n1 n2 => ?_⟩, hl, hc, hs⟩, st⟩
  · intro y hy
    simp only [List.mem_cons, List.not_mem_nil, or_false] at hy
    rcases hy with rfl | rfl <;> rfl
  · by_cases q : y = x
    · subst q
      cases hD.symm.trans hy
      exact ⟨E', q1.1, q2.2.1, q2.1, hsz⟩
    · exact ⟨cy, q10 y cy q hy, rfl, rfl, rfl⟩
  · obtain ⟨D3, cf, k, i, f, g1, g2, g3, g4, g5, g6, g7⟩ := F
    cases hD.symm.trans g1
    simp only [RoadKit.slotOf, g2, gV, gC, Option.map_some, Option.getD_some] at n1 n2
    exact ⟨E', cf, k, i, f, q1.1, g2, g3, by rw [q2.1]; exact g4, by rw [q2.1]; exact g5, by rw [q2.2.1]; exact g6, by rw [q2.2.2 f.slot (by simp [n1, n2])]; exact g7⟩
end StrChars.Road
namespace StrChars.Road
open Jvm Sem ClassFile Op Lib Jvm.Stand Jvm.Free Jvm.Free.XT
/-- WHAT COMES BACK, the byte[] as a list of values -/
def QA (Z : State) (x : Addr) (zn : Int32) (cs : List Int32) (h : Heap) (v : Option Value) (h' : Heap) (L : List Loc) : Prop := v = none ∧ (∀ y ∈ L, y.base = x) ∧ RoadKit.Keep h h' [x] ∧ h'.size = h.size + 1 ∧ RoadKit.Exa Z h' x ST ∧ RoadKit.Fld Z h' x ST "value" "[B" (.ref h.size) ∧ RoadKit.Fld Z h' x ST "coder" "B" (.int 0) ∧
  (∃ kb, Z.vm.findClass "[B" = some kb ∧ RoadKit.Arv Z h' h.size kb .byte zn (cs.map fun c => .int (lo8 c)) (.int 0)) ∧
  ∀ (O n d : String) (w : Value), RoadKit.Fld Z h x O n d w → RoadKit.slotOf Z O n d ≠ RoadKit.slotOf Z ST "value" "[B" → RoadKit.slotOf Z O n d ≠ RoadKit.slotOf Z ST "coder" "B" → RoadKit.Fld Z h' x O n d w
/-- **new String(chars) AT A CALL, THE ARRAYS AS LISTS**: the char[] at b holds cs, not empty, no char above 255 -/
theorem backArv {p : Program} {l : Launch} {e : Env} {R : Room} {s : State} {args : Array Value} {below : List Frame} {len W : Nat} {Z : State} {a0 : Array Value} {h : Heap} (hZ : Z.Warmed39 s.vm) (hw : ∀ d ∈ words, d.before a0 Z = true) {kI : Nat} (wi : (Jvm.Cond.instantiable ST kI).before a0 Z = true)
    {x b : Addr} {k : ClassId} {zn z : Int32} {cs : List Int32} {dv v0 c0 : Value} (E : RoadKit.Exa Z h x ST) (V : RoadKit.Fld Z h x ST "value" "[B" v0) (C : RoadKit.Fld Z h x ST "coder" "B" c0) (K : RoadKit.Arv Z h b k .char zn (cs.map Value.int) dv) (S : RoadKit.Sta Z h ST "COMPACT_STRINGS" "Z" (.int z)) (hz : ¬ z = 0)
    (hlen : zn.toNatClampNeg = cs.length) (h0 : 0 < cs.length) (hbig : cs.length ≤ 536870912) (hall : ∀ c ∈ cs, ¬ 255 < c) (hfr : 4 ≤ R.frames) (hlo : W + 65 ≤ R.locals) :
    Back l R p e below s args New1.yN len W (fun P a => a = #[.ref x, .ref b] ∧ P.U.heap = h ∧ P.cells + 1 ≤ R.cells ∧ P.slots + cs.length ≤ R.slots)
      (fun P _ v B => ∃ L, QA Z x zn cs h v B.U.heap L ∧ B.locs = P.locs ++ L ∧ B.cells = P.cells + 1 ∧ B.slots = P.slots + cs.length) := by
  obtain ⟨A, K1, K2, K3, K4, K5, K6⟩ := K
  have e : A.slots.size = cs.length := K3.trans hlen
  have hat : ∀ (i : Nat) (hi : i < cs.length), A.slots[i]? = some (.int cs[i]) := fun i hi => by rw [K5 i (by omega)]; simp [List.getD_eq_getElem?_getD, hi]
  have hcv : ∀ (i : Nat) (hi : i < cs.length), cv A i = cs[i] := fun i hi => by unfold cv; rw [hat i hi]
  have hty : Typed .char A := fun i v hv => by
    have hi : i < A.slots.size := (Array.getElem?_eq_some_iff.mp hv).1
    have q := K5 i hi
    rw [hv] at q
    rw [Option.some.inj q]
    exact K6 i hi
  refine Back.mono (back hZ hw wi E V C K1 hty S hz (by omega) (by omega) (fun i hi => by rw [hcv i (by omega)]; exact hall _ (List.getElem_mem _)) hfr hlo) (fun P a hp => ⟨hp.1, hp.2.1, hp.2.2.1, by rw [e]; exact hp.2.2.2⟩) (fun P a v B hp hq => ?_)
  obtain ⟨L, ⟨q1, q2, q3, q4, q5, q6, q7, ⟨V', v1, v2, v3, v4, v5⟩, q9⟩, hl, hc, hs⟩ := hq
  refine ⟨L, ⟨q1, q2, q3, q4, q5, q6, q7, ⟨V'.cls, v3, V', v1, rfl, by rw [v4, e, hlen], K4, fun i hi => ?_, fun i hi => ?_⟩, q9⟩, hl, hc, by rw [hs, e]⟩
  · have hi' : i < cs.length := by omega
    rw [v5 i (by omega), hcv i hi']; simp [List.getD_eq_getElem?_getD, hi']
  · have hi' : i < cs.length := by omega
    simp only [List.getD_eq_getElem?_getD, List.getElem?_map, List.getElem?_eq_getElem hi', Option.map_some, Option.getD_some]
    exact fits_lo8 _
end StrChars.Road
namespace StrChars.Road
open Jvm Sem ClassFile Op Lib Jvm.Stand Jvm.Free Jvm.Free.XT
/-- WHAT COMES BACK, in the writer's own shape -/
def QV (Z : State) (x : Addr) (N : Int32) (bs : List Int32) (h : Heap) (n0 : Nat) (v : Option Value) (h' : Heap) (L : List Loc) : Prop := v = none ∧ RoadKit.Fr n0 L ∧ RoadKit.Keep h h' [x] ∧ RoadKit.Exa Z h' x ST ∧ RoadKit.Fld Z h' x ST "coder" "B" (.int 0) ∧
  ∃ (t : Addr) (kb : ClassId), n0 ≤ t ∧ h.size ≤ t ∧ ¬ t = x ∧ RoadKit.Fld Z h' x ST "value" "[B" (.ref t) ∧ RoadKit.Arv Z h' t kb .byte N (bs.map Value.int) (.int 0)
/-- **new String(chars) AT A CALL, FOR THE WRITER**: a char[] of n known ints, each 0 to 255 -/
theorem backV {p : Program} {l : Launch} {e : Env} {R : Room} {s : State} {args : Array Value} {below : List Frame} {len W : Nat} {Z : State} {a0 : Array Value} {h : Heap} (hZ : Z.Warmed39 s.vm) (hw : ∀ d ∈ words, d.before a0 Z = true) {kI : Nat} (wi : (Jvm.Cond.instantiable ST kI).before a0 Z = true)
    {x b : Addr} {kC : ClassId} {cs bs : List Int32} {d v0 c0 : Value} {z N : Int32} {n n0 : Nat} (hx0 : n0 ≤ x) (hh0 : n0 ≤ h.size) (E : RoadKit.Exa Z h x ST) (V : RoadKit.Fld Z h x ST "value" "[B" v0) (C : RoadKit.Fld Z h x ST "coder" "B" c0) (K : RoadKit.Arv Z h b kC .char N (cs.map Value.int) d) (S : RoadKit.Sta Z h ST "COMPACT_STRINGS" "Z" (.int z)) (hz : ¬ z = 0)
    (hn : cs.length = n) (hN : N = Int32.ofNat n) (l0 : 0 < n) (l2 : n ≤ 4000) (hp : ∀ c ∈ cs, ¬ c < 0 ∧ ¬ (255 : Int32) < c) (hb : bs = cs.map (fun c => c.toInt8.toInt32)) (hfr : 4 ≤ R.frames) (hlo : W + 65 ≤ R.locals) :
    Back l R p e below s args (⟨"java/lang/String", "<init>", "([C)V"⟩ : MethodName) len W (fun P a => a = #[.ref x, .ref b] ∧ P.U.heap = h ∧ P.cells + 1 ≤ R.cells ∧ P.slots + n ≤ R.slots)
      (fun P _ v B => ∃ L, QV Z x N bs h n0 v B.U.heap L ∧ B.locs = P.locs ++ L ∧ B.cells = P.cells + 1 ∧ B.slots = P.slots + n) := by
  subst hn hN hb
  refine Back.mono (backArv hZ hw wi E V C K S hz (n32 (by omega)) l0 (by omega) (fun c hc => (hp c hc).2) hfr hlo) (fun P a hp => hp) (fun P a v B hp hq => ?_)
  obtain ⟨L, ⟨q1, q2, q3, q4, q5, q6, q7, ⟨kb, v1, v2⟩, q9⟩, hl, hc, hs⟩ := hq
  exact ⟨L, ⟨q1, fun y hy => by rw [q2 y hy]; exact hx0, q3, q5, q7, h.size, kb, hh0, Nat.le_refl _, Nat.ne_of_gt E.lt, q6, by rw [List.map_map]; exact v2⟩, hl, hc, hs⟩
end StrChars.Road
namespace StrChars
open Jvm Sem ClassFile Op Lib Jvm.Stand Jvm.Free.XT Jvm.Free.ALB Jvm.Free.JM Jvm.Free
open Jvm.Lib.Cold (StaticIs)
def hi8 (x : Int32) : Int32 := lo8 (x >>> ((8 : Int32) &&& 31))
/-- what StringUTF16.getChar makes of two bytes -/
def pairCh (u v : Int32) : Int32 := (((u &&& 255) <<< ((0 : Int32) &&& 31)) ||| ((v &&& 255) <<< ((8 : Int32) &&& 31))).toUInt32.toUInt16.toUInt32.toInt32
theorem lo8_and (x : Int32) : (lo8 x &&& 255).toBitVec.toNat = x.toBitVec.toNat % 256 := by
  have h : (lo8 x).toBitVec = (x.toBitVec.signExtend 8).signExtend 32 := by rw [lo8, Int8.toBitVec_toInt32, Int32.toBitVec_toInt8]
  rw [Int32.toBitVec_and, BitVec.toNat_and, h]
  have e : ((x.toBitVec.signExtend 8).signExtend 32).toNat % 256 = x.toBitVec.toNat % 256 := by
    rw [BitVec.toNat_signExtend]
    have hlt := x.toBitVec.isLt
    simp only [BitVec.toNat_setWidth, BitVec.toNat_signExtend]
    split <;> split <;> omega
  rw [← e]
  exact Nat.and_two_pow_sub_one_eq_mod _ 8
theorem pair_says {c : Int32} (h0 : ¬ c < 0) (h1 : ¬ 65535 < c) : pairCh (lo8 c) (hi8 c) = c := by
  rw [Int32.lt_iff_toInt_lt] at h0 h1
  have e0 : (0 : Int32).toInt = 0 := rfl
  have e1 : (65535 : Int32).toInt = 65535 := rfl
  have hc : c.toInt = c.toBitVec.toNat := by
    have := c.toBitVec.isLt
    have e : c.toInt = c.toBitVec.toInt := rfl
    rw [e] at h0 h1
    rw [e]
    rw [BitVec.toInt_eq_toNat_cond] at h0 h1 ⊢
    split at h0 <;> split <;> omega
  have hn : c.toBitVec.toNat < 65536 := by omega
  have a1 := lo8_and c
  have a2 : (hi8 c &&& 255).toBitVec.toNat = c.toBitVec.toNat / 256 := by
    rw [hi8, lo8_and]
    have e : ((8 : Int32) &&& 31) = 8 := by decide
    rw [e, Int32.toBitVec_shiftRight]
    have e2 : ((8 : Int32).toBitVec.smod 32) = 8#32 := by decide
    rw [e2, BitVec.sshiftRight_eq', BitVec.toNat_sshiftRight_of_msb_false (by rw [BitVec.msb_eq_false_iff_two_mul_lt]; omega)]
    show c.toBitVec.toNat >>> 8 % 256 = _
    rw [Nat.shiftRight_eq_div_pow]
    omega
  unfold pairCh
  apply Int32.toBitVec_inj.mp
  apply BitVec.eq_of_toNat_eq
  have f0 : ((0 : Int32) &&& 31) = 0 := by decide
  have f8 : ((8 : Int32) &&& 31) = 8 := by decide
  rw [f0, f8]
  have g : (((lo8 c &&& 255) <<< (0 : Int32)) ||| ((hi8 c &&& 255) <<< (8 : Int32))).toBitVec.toNat = c.toBitVec.toNat := by
    rw [Int32.toBitVec_or, Int32.toBitVec_shiftLeft, Int32.toBitVec_shiftLeft]
    have s0 : ((0 : Int32).toBitVec.smod 32) = 0#32 := by decide
    have s8 : ((8 : Int32).toBitVec.smod 32) = 8#32 := by decide
    rw [s0, s8, BitVec.toNat_or]
    simp only [BitVec.shiftLeft_eq', BitVec.toNat_shiftLeft, a1, a2]
    show (c.toBitVec.toNat % 256) <<< 0 % 2 ^ 32 ||| (c.toBitVec.toNat / 256) <<< 8 % 2 ^ 32 = _
    rw [Nat.shiftLeft_zero, Nat.mod_eq_of_lt (show c.toBitVec.toNat % 256 < 2 ^ 32 by omega), Nat.mod_eq_of_lt (show (c.toBitVec.toNat / 256) <<< 8 < 2 ^ 32 by rw [Nat.shiftLeft_eq]; omega), Nat.or_comm, ← Nat.shiftLeft_add_eq_or_of_lt (by omega), Nat.shiftLeft_eq]
    omega
  show BitVec.toNat (((((lo8 c &&& 255) <<< (0 : Int32)) ||| ((hi8 c &&& 255) <<< (8 : Int32))).toBitVec.setWidth 16).setWidth 32) = _
  rw [BitVec.toNat_setWidth, BitVec.toNat_setWidth, g]
  omega
end StrChars
namespace StrChars
open Jvm Sem ClassFile Op Lib Jvm.Stand Jvm.Free.XT Jvm.Free.ALB Jvm.Free.JM Jvm.Free
open Jvm.Lib.Cold (StaticIs)
/-- charAt's cast of a byte read back -/
def chr8 (u : Int32) : Int32 := (u &&& 255).toUInt32.toUInt16.toUInt32.toInt32
theorem chr8_lo8 {c : Int32} (h0 : ¬ c < 0) (h1 : ¬ 255 < c) : chr8 (lo8 c) = c := by
  have t : ∀ k : Fin 256, (Int32.ofNat k.val).toUInt32.toUInt16.toUInt32.toInt32 = Int32.ofNat k.val := by decide +kernel
  unfold chr8
  rw [lo8_mask h0 h1]
  rw [Int32.lt_iff_toInt_lt] at h0 h1
  have e0 : (0 : Int32).toInt = 0 := rfl
  have e1 : (255 : Int32).toInt = 255 := rfl
  obtain ⟨k, hk⟩ : ∃ k : Nat, c.toInt = k := ⟨c.toInt.toNat, by omega⟩
  have hx : c = Int32.ofNat k := Int32.toInt_inj.mp (by rw [hk, Int32.toInt_ofNat_small (by omega)])
  rw [hx]
  exact t ⟨k, by omega⟩
theorem narrow_ch {c : Int32} (h0 : ¬ c < 0) (h1 : ¬ 65535 < c) : narrow .char (.int c) = .int c := by
  have q : narrow .char (.int (pairCh (lo8 c) (hi8 c))) = .int (pairCh (lo8 c) (hi8 c)) := narrow_c _
  rwa [pair_says h0 h1] at q
/-- the array's cell V codes the n chars f 0 .. f (n - 1) by the coder cd, as the JDK does: coder 1 just where some char is above 255 -/
def Cod (cd : Int32) (n : Nat) (f : Nat → Int32) (V : Cell) : Prop := (cd = 0 ∧ V.slots.size = n ∧ ∀ j, j < n → V.slots[j]? = some (.int (lo8 (f j))) ∧ ¬ 255 < f j) ∨ (cd = 1 ∧ V.slots.size = 2 * n ∧ (∀ j, j < n → V.slots[2 * j]? = some (.int (lo8 (f j))) ∧ V.slots[2 * j + 1]? = some (.int (hi8 (f j)))) ∧ ∃ j, j < n ∧ 255 < f j)
theorem Cod.cd {cd : Int32} {n : Nat} {f : Nat → Int32} {V : Cell} (h : Cod cd n f V) : cd = 0 ∨ cd = 1 := h.imp (fun q => q.1) fun q => q.1
/-- **x is a String of the n chars f 0 .. f (n - 1)**, Latin-1 or UTF-16; its array at t has the cell V -/
def Txt (x t : Addr) (V : Cell) (cd : Int32) (n : Nat) (f : Nat → Int32) (U : State) : Prop := Exact "java/lang/String" x U ∧ Has x "java/lang/String" "value" "[B" (.ref t) U ∧ Has x "java/lang/String" "coder" "B" (.int cd) U ∧ XT.Arr .byte t V U ∧ Cod cd n f V ∧ ∀ j, j < n → ¬ f j < 0 ∧ ¬ 65535 < f j
theorem Txt.mv {x t : Addr} {V : Cell} {cd : Int32} {n : Nat} {f : Nat → Int32} {U U' : State} (h : Txt x t V cd n f U) (hal : U.vm.Alike U'.vm) (hh : U'.heap = U.heap) : Txt x t V cd n f U' := ⟨h.1.mv hal hh, h.2.1.mv hal hh, h.2.2.1.mv hal hh, h.2.2.2.1.mv hal hh, h.2.2.2.2⟩
namespace IsL
def yN : MethodName := ⟨"java/lang/String", "isLatin1", "()Z"⟩
abbrev yB : ByteArray := jdk_42_method_154_code
theorem d0 : decode yB 0 = .ok (.getstatic 38, 3) := by decide +kernel
theorem d3 : decode yB 3 = .ok (.ifCond (.eq) 14, 3) := by decide +kernel
theorem d6 : decode yB 6 = .ok (.aload_n 0, 1) := by decide +kernel
theorem d7 : decode yB 7 = .ok (.getfield 15, 3) := by decide +kernel
theorem d10 : decode yB 10 = .ok (.ifCond (.ne) 7, 3) := by decide +kernel
theorem d13 : decode yB 13 = .ok (.iconst 1, 1) := by decide +kernel
theorem d14 : decode yB 14 = .ok (.goto 4, 3) := by decide +kernel
theorem d17 : decode yB 17 = .ok (.iconst 0, 1) := by decide +kernel
theorem d18 : decode yB 18 = .ok (.ireturn, 1) := by decide +kernel
def site : List Cond := [.fieldLink "java/lang/String" 38 "java/lang/String" "COMPACT_STRINGS" "Z", .fieldLink "java/lang/String" 15 "java/lang/String" "coder" "B"]
def tab : Cond := tabOf yN yB 1 (some .boolean) site
def P (x : Addr) (cd z : Int32) (args : Array Value) (s : State) : Prop := args = #[.ref x] ∧ Has x "java/lang/String" "coder" "B" (.int cd) s ∧ (cd = 0 ∨ cd = 1) ∧ StaticIs s "java/lang/String" "COMPACT_STRINGS" "Z" (.int z) ∧ ¬ z = 0
def E (cd : Int32) (r : Option Value) (s u : State) : Prop := XT.PureE (some (.int (1 - cd))) r s u
theorem law (l : Launch) (x : Addr) (cd z : Int32) : Law l yN 1 0 0 0 yB 1 (some .boolean) site (P x cd z) (E cd) [] 0 0 := by
  refine Law.of_walk (plainFor_of_name (by decide +kernel)) (by decide +kernel) (by decide +kernel) (by decide) (fun _ _ h => by rw [h.1]; rfl) (fun _ U U' hal hh h => ⟨h.1, h.2.1.mv hal hh, h.2.2.1, h.2.2.2.1.there hal hh, h.2.2.2.2⟩) (fun r U U' V V' h1 hal h2 h => XT.PureE.mv r U U' V V' h1 hal h2 h) ?_
  intro p e s m args below meth c s₁ X0 hexec hbytes hml hret hlk hnm hown hh0 W hP
  obtain ⟨rfl, hx, hc, s1, hz⟩ := hP
  have c1 : Steps p.tables e below (s₁.setTop (entryFrame m #[.ref x] 1)) (s₁.setTop (mkF m 0 #[.val (.ref x)] [])) := entry rfl
  obtain ⟨T2, X2, q2, st2⟩ := X0.sget hexec hown (wk W (.fieldLink "java/lang/String" 38 "java/lang/String" "COMPACT_STRINGS" "Z")) s1 (fun _ _ h => by rw [hh0]; exact h) (g := (mkF m 0 #[.val (.ref x)] [])) rfl (hb hbytes d0)
  have hh2 := q2.trans hh0
  have c3 : Steps p.tables e below (s₁.setTop (entryFrame m #[.ref x] 1)) (T2.setTop (mkF m 7 #[.val (.ref x)] [.ref x])) := (c1.trans (st2 _ (Steps.refl _))).trans (by
    refine XS.ifNo X2.here hexec rfl (hb hbytes d3) rfl (i0_eq_f hz) ?_
    refine XS.aloadN X2.here hexec rfl (hb hbytes d6) rfl rfl ?_
    exact Steps.refl _)
  obtain ⟨T4, X4, q4, st4⟩ := X2.hget hexec hown (wk W (.fieldLink "java/lang/String" 15 "java/lang/String" "coder" "B")) (hx.mv X2.warmed.alike hh2) (g := (mkF m 7 #[.val (.ref x)] [.ref x])) rfl (rest := []) rfl (hb hbytes d7)
  have c5 : Steps p.tables e below (s₁.setTop (entryFrame m #[.ref x] 1)) (T4.setTop (mkF m 10 #[.val (.ref x)] [.int cd])) := c3.trans (st4 _ (Steps.refl _))
  have c6 : Steps p.tables e below (s₁.setTop (entryFrame m #[.ref x] 1)) (T4.setTop (mkF m 18 #[.val (.ref x)] [.int (1 - cd)])) := by
    rcases hc with rfl | rfl
    · exact c5.trans (by
        refine XS.ifNo X4.here hexec rfl (hb hbytes d10) rfl (i0_ne_f rfl) ?_
        refine iconstV X4.here hexec rfl 1 (hb hbytes d13) (by decide) ?_
        refine XS.goto X4.here hexec rfl (pc0 := 14) rfl (hb hbytes d14) (by decide) rfl ?_
        exact Steps.refl _)
    · exact c5.trans (by
        refine XS.ifYes X4.here hexec rfl (pc0 := 10) rfl (hb hbytes d10) rfl (i0_ne_t (by decide)) (by decide) rfl ?_
        refine iconstV X4.here hexec rfl 0 (hb hbytes d17) (by decide) ?_
        exact Steps.refl _)
  exact ⟨T4, some (.int (1 - cd)), _, _, _, X4, rfl, rfl, rfl, (fun h => by cases h), ⟨rfl, q4.trans hh2⟩, fun fs hl => c6.trans (X4.ireturnOut hexec hret (by rcases hc with rfl | rfl <;> rfl) (Or.inr (Or.inl rfl)) (hb hbytes d18) hl)⟩
end IsL
namespace LChA
def yN : MethodName := ⟨"java/lang/StringLatin1", "charAt", "([BI)C"⟩
abbrev yB : ByteArray := jdk_43_method_2_code
theorem d0 : decode yB 0 = .ok (.iload_n 1, 1) := by decide +kernel
theorem d1 : decode yB 1 = .ok (.aload_n 0, 1) := by decide +kernel
theorem d2 : decode yB 2 = .ok (.arraylength, 1) := by decide +kernel
theorem d3 : decode yB 3 = .ok (.invokestatic 9, 3) := by decide +kernel
theorem d6 : decode yB 6 = .ok (.aload_n 0, 1) := by decide +kernel
theorem d7 : decode yB 7 = .ok (.iload_n 1, 1) := by decide +kernel
theorem d8 : decode yB 8 = .ok (.baload, 1) := by decide +kernel
theorem d9 : decode yB 9 = .ok (.sipush 255, 3) := by decide +kernel
theorem d12 : decode yB 12 = .ok (.iand, 1) := by decide +kernel
theorem d13 : decode yB 13 = .ok (.i2c, 1) := by decide +kernel
theorem d14 : decode yB 14 = .ok (.ireturn, 1) := by decide +kernel
def site : List Cond := [JO.Str_checkIndex.tab] ++ staticW "java/lang/StringLatin1" 9 JO.Str_checkIndex.yN
def tab : Cond := tabOf yN yB 2 (some .char) site
def P (t : Addr) (V : Cell) (i : Nat) (u : Int32) (fm : Value) (args : Array Value) (s : State) : Prop := args = #[.ref t, .int (Int32.ofNat i)] ∧ XT.Arr .byte t V s ∧ V.slots[i]? = some (.int u) ∧ (StaticIs s "jdk/internal/util/Preconditions" "SIOOBE_FORMATTER" "Ljava/util/function/BiFunction;" fm ∧ fm.isRef = true)
def E (u : Int32) (r : Option Value) (s w : State) : Prop := XT.PureE (some (.int (chr8 u))) r s w
theorem law (l : Launch) (t : Addr) (V : Cell) (i : Nat) (u : Int32) (fm : Value) : Law l yN 2 2 2 27 yB 2 (some .char) site (P t V i u fm) (E u) [] 0 0 := by
  refine Law.of_walk (plainFor_of_name (by decide +kernel)) (by decide +kernel) (by decide +kernel) (by decide) (fun _ _ h => by rw [h.1]; rfl) (fun _ U U' hal hh h => ⟨h.1, h.2.1.mv hal hh, h.2.2.1, h.2.2.2.1.there hal hh, h.2.2.2.2⟩) (fun r U U' V V' h1 hal h2 h => XT.PureE.mv r U U' V V' h1 hal h2 h) ?_
  intro p e s m args below meth c s₁ X0 hexec hbytes hml hret hlk hnm hown hh0 W hP
  obtain ⟨rfl, hV, hu, s1, rf⟩ := hP
  have v31 := hV.2.2.2
  have hi : i < V.slots.size := (Array.getElem?_eq_some_iff.mp hu).1
  have c1 : Steps p.tables e below (s₁.setTop (entryFrame m #[.ref t, .int (Int32.ofNat i)] 2)) (s₁.setTop (mkF m 0 #[.val (.ref t), .val (.int (Int32.ofNat i))] [])) := entry rfl
  have c2 : Steps p.tables e below (s₁.setTop (entryFrame m #[.ref t, .int (Int32.ofNat i)] 2)) (s₁.setTop (mkF m 3 #[.val (.ref t), .val (.int (Int32.ofNat i))] [.int (Int32.ofNat V.slots.size), .int (Int32.ofNat i)])) := c1.trans (by
    refine XS.iloadN X0.here hexec rfl (hb hbytes d0) rfl ?_
    refine XS.aloadN X0.here hexec rfl (hb hbytes d1) rfl rfl ?_
    refine X0.alen hexec (hV.mv X0.warmed.alike hh0) rfl rfl (hb hbytes d2) ?_
    exact Steps.refl _)
  obtain ⟨v3, T3, X3, E3, g3⟩ := X0.callS hexec (JO.Str_checkIndex.law l (Int32.ofNat i) (Int32.ofNat V.slots.size) fm) hown (wks W (staticW "java/lang/StringLatin1" 9 JO.Str_checkIndex.yN)) (wk W JO.Str_checkIndex.tab) (W := 0) (Nat.le_of_ble_eq_true rfl) (Nat.le_of_ble_eq_true rfl) (Nat.le_refl _) (Nat.le_refl _) (g := (mkF m 3 #[.val (.ref t), .val (.int (Int32.ofNat i))] [.int (Int32.ofNat V.slots.size), .int (Int32.ofNat i)])) rfl (by rw [hml]; rfl) c2 (argsL := [.int (Int32.ofNat i), .int (Int32.ofNat V.slots.size)]) (rest := []) rfl rfl (by show 2 * 0 + 0 ≤ _; decide) (hb hbytes d3) (⟨rfl, rf, s1.there X0.warmed.alike hh0, Int32.ofNat_not_neg (by omega), lt32 v31 hi⟩)
  obtain ⟨rfl, q3⟩ := E3
  have hh3 := q3.trans hh0
  have c4 : Steps p.tables e below (s₁.setTop (entryFrame m #[.ref t, .int (Int32.ofNat i)] 2)) (T3.setTop (mkF m 14 #[.val (.ref t), .val (.int (Int32.ofNat i))] [.int (chr8 u)])) := Steps.trans g3 (by
    refine XS.aloadN X3.here hexec rfl (hb hbytes d6) rfl rfl ?_
    refine XS.iloadN X3.here hexec rfl (hb hbytes d7) rfl ?_
    refine X3.aget hexec (hV.mv X3.warmed.alike hh3) rfl hu rfl rfl (hb hbytes d8) ?_
    refine sipushV X3.here hexec rfl 255 (hb hbytes d9) (by decide) ?_
    refine XS.iand X3.here hexec rfl (hb hbytes d12) rfl ?_
    refine i2c X3.here hexec rfl (hb hbytes d13) rfl ?_
    exact Steps.refl _)
  exact ⟨T3, some (.int (chr8 u)), _, _, _, X3, rfl, rfl, rfl, (fun h => by cases h), ⟨rfl, hh3⟩, fun fs hl => c4.trans (X3.ireturnOut hexec hret (narrow_c _) (Or.inr (Or.inr (Or.inr (Or.inl rfl)))) (hb hbytes d14) hl)⟩
end LChA
end StrChars
namespace StrChars.Road
open Jvm Sem ClassFile Op Lib Jvm.Stand Jvm.Free Jvm.Free.XT
open Jvm.Lib.Cold (StaticIs)
theorem consq {a : Array Value} {s : State} {c : Jvm.Cond} {L : List Jvm.Cond} (h0 : c.before a s = true) (h : ∀ w ∈ L, w.before a s = true) : ∀ w ∈ c :: L, w.before a s = true := fun w hw => (List.mem_cons.mp hw).elim (fun e => e ▸ h0) (h w)
/-- the bytes of the chars cs, low before high -/
def wideBytes : List Int32 → List Value
  | [] => []
  | c :: cs => .int (lo8 c) :: .int (hi8 c) :: wideBytes cs
theorem wide_lo (d : Value) : ∀ (cs : List Int32) (j : Nat), j < cs.length → (wideBytes cs).getD (2 * j) d = .int (lo8 (cs.getD j 0))
  | [], j, h => absurd h (Nat.not_lt_zero j)
  | c :: cs, 0, _ => rfl
  | c :: cs, j + 1, h => by
    have q := wide_lo d cs j (by simpa using h)
    rw [show 2 * (j + 1) = 2 * j + 1 + 1 from by omega]
    simpa [wideBytes] using q
theorem wide_hi (d : Value) : ∀ (cs : List Int32) (j : Nat), j < cs.length → (wideBytes cs).getD (2 * j + 1) d = .int (hi8 (cs.getD j 0))
  | [], j, h => absurd h (Nat.not_lt_zero j)
  | c :: cs, 0, _ => rfl
  | c :: cs, j + 1, h => by
    have q := wide_hi d cs j (by simpa using h)
    rw [show 2 * (j + 1) + 1 = 2 * j + 1 + 1 + 1 from by omega]
    simpa [wideBytes] using q
theorem low_at (d : Value) (cs : List Int32) (j : Nat) (h : j < cs.length) : (cs.map fun c => Value.int (lo8 c)).getD j d = .int (lo8 (cs.getD j 0)) := by
  simp [List.getD_eq_getElem?_getD, h]
/-- an array of N2 bytes vs codes the chars cs by the coder cd -/
def CodA (cs : List Int32) (cd N2 : Int32) (vs : List Value) : Prop := (cd = 0 ∧ N2 = Int32.ofNat cs.length ∧ vs = (cs.map fun c => Value.int (lo8 c)) ∧ ∀ c ∈ cs, ¬ 255 < c) ∨ (cd = 1 ∧ N2 = Int32.ofNat (2 * cs.length) ∧ vs = wideBytes cs ∧ ∃ c ∈ cs, 255 < c)
theorem CodA.cod {cs : List Int32} {cd N2 : Int32} {vs : List Value} {V : Cell} (h : CodA cs cd N2 vs) (hn : 2 * cs.length < 2 ^ 31) (hs : V.slots.size = N2.toNatClampNeg) (hv : RoadKit.Has V vs (.int 0)) : Cod cd cs.length (fun j => cs.getD j 0) V := by
  rcases h with ⟨rfl, rfl, rfl, h⟩ | ⟨rfl, rfl, rfl, c, hc, hw⟩
  · rw [n32 (by omega)] at hs
    exact Or.inl ⟨rfl, hs, fun j hj => ⟨by rw [hv j (by omega), low_at _ _ _ hj], by
      have e : cs.getD j 0 = cs[j] := by simp [List.getD_eq_getElem?_getD, hj]
      show ¬ 255 < cs.getD j 0
      rw [e]; exact h _ (List.getElem_mem _)⟩⟩
  · rw [n32 (by omega)] at hs
    obtain ⟨j, hj, rfl⟩ := List.getElem_of_mem hc
    exact Or.inr ⟨rfl, hs, fun j hj => ⟨by rw [hv _ (by omega), wide_lo _ _ _ hj], by rw [hv _ (by omega), wide_hi _ _ _ hj]⟩, j, hj, by
      have e : cs.getD j 0 = cs[j] := by simp [List.getD_eq_getElem?_getD, hj]
      show 255 < cs.getD j 0
      rw [e]; exact hw⟩
/-- an object of exactly java/lang/String, its two fields found: as the laws ask it -/
theorem strObj {Z U : State} {a0 : Array Value} {kI : Nat} (wi : (Jvm.Cond.instantiable ST kI).before a0 Z = true) (al : Z.vm.Alike U.vm) {x : Addr} {v0 c0 : Value} (E : RoadKit.Exa Z U.heap x ST) (V : RoadKit.Fld Z U.heap x ST "value" "[B" v0) (C : RoadKit.Fld Z U.heap x ST "coder" "B" c0) :
    ∃ (D : Cell) (fV fC : Field), Blank ST x D U ∧ Found ST "value" "[B" fV U ∧ Found ST "coder" "B" fC U ∧ D.slots[fV.slot]? = some v0 ∧ D.slots[fC.slot]? = some c0 ∧ RoadKit.slotOf Z ST "value" "[B" = fV.slot ∧ RoadKit.slotOf Z ST "coder" "B" = fC.slot := by
  obtain ⟨D, cfV, kV, iV, fV, hD, gV, stV, knV, obV, asV, slV⟩ := V
  obtain ⟨D', cfC, kC, iC, fC, hD', gC, stC, -, -, asC, slC⟩ := C
  cases hD.symm.trans hD'
  obtain ⟨D2, kD, e1, e2, e3, e4, e5⟩ := E
  cases hD.symm.trans e1
  obtain ⟨c2, k2, i1, i2, i3, -⟩ := Cond.instantiable_spec wi
  cases e2.symm.trans i1
  cases e3.symm.trans i2
  obtain ⟨kU, u1, u2⟩ := al.2.2 _ _ e3
  exact ⟨D, fV, fC, ⟨hD, ⟨knV, fun q hq => by rw [hq] at obV; cases obV⟩, by rw [al.findClass]; exact e2, kU, u1, by rw [u2]; exact i3, by rw [u2]; exact e5 i3⟩, ⟨SBG.found_only al ⟨cfV, kV, iV, gV⟩, stV⟩, ⟨SBG.found_only al ⟨cfC, kC, iC, gC⟩, stC⟩, slV, slC, by simp [RoadKit.slotOf, gV], by simp [RoadKit.slotOf, gC]⟩
theorem sta_is {Z U : State} (al : Z.vm.Alike U.vm) {C n d : String} {v : Value} (S : RoadKit.Sta Z U.heap C n d v) : StaticIs U C n d v := by
  obtain ⟨cfS, iS, kS, fS, st, cS, t1, t2, t3, t4, t5, t6, t7⟩ := S
  exact StaticIs.there (s := { Z with heap := U.heap }) ⟨cfS, iS, kS, fS, st, cS, t1, t2, t3, t4, t5, (fun q => by rw [q] at t6; cases t6), t7⟩ al rfl
end StrChars.Road
namespace StrChars
open Jvm Sem ClassFile Op Lib Jvm.Stand Jvm.Free.XT Jvm.Free.ALB Jvm.Free.JM Jvm.Free
open Jvm.Lib.Cold (StaticIs)
/-- what place i of a byte[]'s cell holds -/
def yv (A : Cell) (i : Nat) : Int32 := match A.slots[i]? with | some (.int x) => x | _ => 0
theorem yv_get {a : Addr} {A : Cell} {U : State} (h : XT.Arr .byte a A U) (ht : Typed .byte A) {i : Nat} (hi : i < A.slots.size) : A.slots[i]? = some (.int (yv A i)) := by
  have e := Array.getElem?_eq_getElem hi
  have f := ht i _ e
  unfold yv; rw [e]
  generalize A.slots[i] = v at f
  cases v <;> simp [fits] at f ⊢
/-- the two arrays are equal, place for place -/
def EqC (A B : Cell) : Prop := A.slots.size = B.slots.size ∧ ∀ i, i < A.slots.size → yv A i = yv B i
/-- a boolean that says whether p -/
def Says01 (q : Prop) (r : Option Value) (s u : State) : Prop := ∃ v : Int32, r = some (.int v) ∧ u.heap = s.heap ∧ ((v = 1 ∧ q) ∨ (v = 0 ∧ ¬ q))
theorem Says01.mv {q : Prop} : ∀ r (U U' V V' : State), U'.heap = U.heap → V.vm.Alike V'.vm → V'.heap = V.heap → Says01 q r U V → Says01 q r U' V' :=
  fun r U U' V V' h1 _ h2 ⟨v, a, b, c⟩ => ⟨v, a, by rw [h1, h2]; exact b, c⟩
namespace LEq
def yN : MethodName := ⟨"java/lang/StringLatin1", "equals", "([B[B)Z"⟩
abbrev yB : ByteArray := jdk_43_method_13_code
theorem d0 : decode yB 0 = .ok (.aload_n 0, 1) := by decide +kernel
theorem d1 : decode yB 1 = .ok (.arraylength, 1) := by decide +kernel
theorem d2 : decode yB 2 = .ok (.aload_n 1, 1) := by decide +kernel
theorem d3 : decode yB 3 = .ok (.arraylength, 1) := by decide +kernel
theorem d4 : decode yB 4 = .ok (.if_icmp (.ne) 30, 3) := by decide +kernel
theorem d7 : decode yB 7 = .ok (.iconst 0, 1) := by decide +kernel
theorem d8 : decode yB 8 = .ok (.istore_n 2, 1) := by decide +kernel
theorem d9 : decode yB 9 = .ok (.iload_n 2, 1) := by decide +kernel
theorem d10 : decode yB 10 = .ok (.aload_n 0, 1) := by decide +kernel
theorem d11 : decode yB 11 = .ok (.arraylength, 1) := by decide +kernel
theorem d12 : decode yB 12 = .ok (.if_icmp (.ge) 20, 3) := by decide +kernel
theorem d15 : decode yB 15 = .ok (.aload_n 0, 1) := by decide +kernel
theorem d16 : decode yB 16 = .ok (.iload_n 2, 1) := by decide +kernel
theorem d17 : decode yB 17 = .ok (.baload, 1) := by decide +kernel
theorem d18 : decode yB 18 = .ok (.aload_n 1, 1) := by decide +kernel
theorem d19 : decode yB 19 = .ok (.iload_n 2, 1) := by decide +kernel
theorem d20 : decode yB 20 = .ok (.baload, 1) := by decide +kernel
theorem d21 : decode yB 21 = .ok (.if_icmp (.eq) 5, 3) := by decide +kernel
theorem d24 : decode yB 24 = .ok (.iconst 0, 1) := by decide +kernel
theorem d25 : decode yB 25 = .ok (.ireturn, 1) := by decide +kernel
theorem d26 : decode yB 26 = .ok (.iinc 2 1, 3) := by decide +kernel
theorem d29 : decode yB 29 = .ok (.goto (-20), 3) := by decide +kernel
theorem d32 : decode yB 32 = .ok (.iconst 1, 1) := by decide +kernel
theorem d33 : decode yB 33 = .ok (.ireturn, 1) := by decide +kernel
theorem d34 : decode yB 34 = .ok (.iconst 0, 1) := by decide +kernel
theorem d35 : decode yB 35 = .ok (.ireturn, 1) := by decide +kernel
def site : List Cond := []
def tab : Cond := tabOf yN yB 3 (some .boolean) site
def P (a : Addr) (A : Cell) (b : Addr) (B : Cell) (args : Array Value) (s : State) : Prop := args = #[.ref a, .ref b] ∧ XT.Arr .byte a A s ∧ Typed .byte A ∧ XT.Arr .byte b B s ∧ Typed .byte B
/-- whether two byte[] are equal, place for place -/
theorem law (l : Launch) (a : Addr) (A : Cell) (b : Addr) (B : Cell) : Law l yN 2 2 0 0 yB 3 (some .boolean) site (P a A b B) (Says01 (EqC A B)) [] 0 0 := by
  refine Law.of_walk (plainFor_of_name (by decide +kernel)) (by decide +kernel) (by decide +kernel) (by decide) (fun _ _ h => by rw [h.1]; rfl) (fun _ U U' hal hh h => ⟨h.1, h.2.1.mv hal hh, h.2.2.1, h.2.2.2.1.mv hal hh, h.2.2.2.2⟩) (fun r U U' V V' h1 hal h2 h => Says01.mv r U U' V V' h1 hal h2 h) ?_
  intro p e s m args below meth c s₁ X0 hexec hbytes hml hret hlk hnm hown hh0 W hP
  obtain ⟨rfl, hA, tA, hB, tB⟩ := hP
  have a31 := hA.2.2.2
  have b31 := hB.2.2.2
  have hA0 := hA.mv X0.warmed.alike hh0
  have hB0 := hB.mv X0.warmed.alike hh0
  have c1 : Steps p.tables e below (s₁.setTop (entryFrame m #[.ref a, .ref b] 3)) (s₁.setTop (mkF m 0 #[.val (.ref a), .val (.ref b), .unset] [])) := entry rfl
  have c2 : Steps p.tables e below (s₁.setTop (entryFrame m #[.ref a, .ref b] 3)) (s₁.setTop (mkF m 4 #[.val (.ref a), .val (.ref b), .unset] [.int (Int32.ofNat B.slots.size), .int (Int32.ofNat A.slots.size)])) := c1.trans (by
    refine XS.aloadN X0.here hexec rfl (hb hbytes d0) rfl rfl ?_
    refine X0.alen hexec hA0 rfl rfl (hb hbytes d1) ?_
    refine XS.aloadN X0.here hexec rfl (hb hbytes d2) rfl rfl ?_
    refine X0.alen hexec hB0 rfl rfl (hb hbytes d3) ?_
    exact Steps.refl _)
  by_cases hs : A.slots.size = B.slots.size
  · have c3 : Steps p.tables e below (s₁.setTop (entryFrame m #[.ref a, .ref b] 3)) (s₁.setTop (mkF m 9 #[.val (.ref a), .val (.ref b), .val (.int 0)] [])) := c2.trans (by
      refine XS.icmpNo X0.here hexec rfl (hb hbytes d4) rfl (ii_ne_f (by rw [hs])) ?_
      refine iconstV X0.here hexec rfl 0 (hb hbytes d7) (by decide) ?_
      refine XS.istoreN X0.here hexec rfl (hb hbytes d8) rfl rfl ?_
      exact Steps.refl _)
    have loop : ∀ (r i : Nat), i + r = A.slots.size → (∀ j, j < i → yv A j = yv B j) → Steps p.tables e below (s₁.setTop (entryFrame m #[.ref a, .ref b] 3)) (s₁.setTop (mkF m 9 #[.val (.ref a), .val (.ref b), .val (.int (Int32.ofNat i))] [])) → ∃ (pc : Nat) (Ls : Array Slot) (v : Int32), (pc = 25 ∨ pc = 33) ∧ ((v = 1 ∧ EqC A B) ∨ (v = 0 ∧ ¬ EqC A B)) ∧ Steps p.tables e below (s₁.setTop (entryFrame m #[.ref a, .ref b] 3)) (s₁.setTop (mkF m pc Ls [.int v])) := by
      intro r
      induction r with
      | zero =>
        intro i hi he cl
        exact ⟨33, _, 1, Or.inr rfl, Or.inl ⟨rfl, hs, fun j hj => he j (by omega)⟩, cl.trans (by
          refine XS.iloadN X0.here hexec rfl (hb hbytes d9) rfl ?_
          refine XS.aloadN X0.here hexec rfl (hb hbytes d10) rfl rfl ?_
          refine X0.alen hexec hA0 rfl rfl (hb hbytes d11) ?_
          refine XS.icmpYes X0.here hexec rfl (pc0 := 12) rfl (hb hbytes d12) rfl (ii_ge_t (nlt32 (by omega) (by omega))) (by decide) rfl ?_
          refine iconstV X0.here hexec rfl 1 (hb hbytes d32) (by decide) ?_
          exact Steps.refl _)⟩
      | succ r ih =>
        intro i hi he cl
        have c4 : Steps p.tables e below (s₁.setTop (entryFrame m #[.ref a, .ref b] 3)) (s₁.setTop (mkF m 21 #[.val (.ref a), .val (.ref b), .val (.int (Int32.ofNat i))] [.int (yv B i), .int (yv A i)])) := cl.trans (by
          refine XS.iloadN X0.here hexec rfl (hb hbytes d9) rfl ?_
          refine XS.aloadN X0.here hexec rfl (hb hbytes d10) rfl rfl ?_
          refine X0.alen hexec hA0 rfl rfl (hb hbytes d11) ?_
          refine XS.icmpNo X0.here hexec rfl (hb hbytes d12) rfl (ii_ge_f (lt32 (by omega) (by omega))) ?_
          refine XS.aloadN X0.here hexec rfl (hb hbytes d15) rfl rfl ?_
          refine XS.iloadN X0.here hexec rfl (hb hbytes d16) rfl ?_
          refine X0.aget hexec hA0 rfl (yv_get hA tA (i := i) (by omega)) rfl rfl (hb hbytes d17) ?_
          refine XS.aloadN X0.here hexec rfl (hb hbytes d18) rfl rfl ?_
          refine XS.iloadN X0.here hexec rfl (hb hbytes d19) rfl ?_
          refine X0.aget hexec hB0 rfl (yv_get hB tB (i := i) (by omega)) rfl rfl (hb hbytes d20) ?_
          exact Steps.refl _)
        by_cases hv : yv A i = yv B i
        · have c5 : Steps p.tables e below (s₁.setTop (entryFrame m #[.ref a, .ref b] 3)) (s₁.setTop (mkF m 9 #[.val (.ref a), .val (.ref b), .val (.int (Int32.ofNat i + 1))] [])) := c4.trans (by
            refine XS.icmpYes X0.here hexec rfl (pc0 := 21) rfl (hb hbytes d21) rfl (ii_eq_t hv) (by decide) rfl ?_
            refine iincV X0.here hexec rfl 1 (hb hbytes d26) (by decide) rfl rfl ?_
            refine XS.goto X0.here hexec rfl (pc0 := 29) rfl (hb hbytes d29) (by decide) rfl ?_
            exact Steps.refl _)
          rw [succ32] at c5
          exact ih (i + 1) (by omega) (fun j hj => by
            by_cases e : j = i
            · rw [e]; exact hv
            · exact he j (by omega)) c5
        · exact ⟨25, _, 0, Or.inl rfl, Or.inr ⟨rfl, fun q => hv (q.2 i (by omega))⟩, c4.trans (by
            refine XS.icmpNo X0.here hexec rfl (hb hbytes d21) rfl (ii_eq_f hv) ?_
            refine iconstV X0.here hexec rfl 0 (hb hbytes d24) (by decide) ?_
            exact Steps.refl _)⟩
    obtain ⟨pc, Ls, v, hpc, hv, cz⟩ := loop A.slots.size 0 (by omega) (fun j hj => absurd hj (Nat.not_lt_zero j)) c3
    have nv : narrow .boolean (.int v) = .int v := by rcases hv with ⟨rfl, -⟩ | ⟨rfl, -⟩ <;> rfl
    rcases hpc with rfl | rfl
    · exact ⟨s₁, some (.int v), _, _, _, X0, rfl, rfl, rfl, (fun h => by cases h), ⟨v, rfl, hh0, hv⟩, fun fs hl => cz.trans (X0.ireturnOut hexec hret nv (Or.inr (Or.inl rfl)) (hb hbytes d25) hl)⟩
    · exact ⟨s₁, some (.int v), _, _, _, X0, rfl, rfl, rfl, (fun h => by cases h), ⟨v, rfl, hh0, hv⟩, fun fs hl => cz.trans (X0.ireturnOut hexec hret nv (Or.inr (Or.inl rfl)) (hb hbytes d33) hl)⟩
  · have c3 : Steps p.tables e below (s₁.setTop (entryFrame m #[.ref a, .ref b] 3)) (s₁.setTop (mkF m 35 #[.val (.ref a), .val (.ref b), .unset] [.int 0])) := c2.trans (by
      refine XS.icmpYes X0.here hexec rfl (pc0 := 4) rfl (hb hbytes d4) rfl (ii_ne_t (ne32 a31 b31 hs)) (by decide) rfl ?_
      refine iconstV X0.here hexec rfl 0 (hb hbytes d34) (by decide) ?_
      exact Steps.refl _)
    exact ⟨s₁, some (.int 0), _, _, _, X0, rfl, rfl, rfl, (fun h => by cases h), ⟨0, rfl, hh0, Or.inr ⟨rfl, fun q => hs q.1⟩⟩, fun fs hl => c3.trans (X0.ireturnOut hexec hret rfl (Or.inr (Or.inl rfl)) (hb hbytes d35) hl)⟩
end LEq
theorem Cod.ty {cd : Int32} {n : Nat} {f : Nat → Int32} {V : Cell} (h : Cod cd n f V) : Typed .byte V := fun i v hv => by
  have hi : i < V.slots.size := (Array.getElem?_eq_some_iff.mp hv).1
  rcases h with ⟨-, k1, k2⟩ | ⟨-, k1, k2, -⟩
  · rw [(k2 i (by omega)).1] at hv; cases hv; exact fits_lo8 _
  · rcases Nat.mod_two_eq_zero_or_one i with e | e
    · obtain ⟨j, rfl⟩ : ∃ j, i = 2 * j := ⟨i / 2, by omega⟩
      rw [(k2 j (by omega)).1] at hv; cases hv; exact fits_lo8 _
    · obtain ⟨j, rfl⟩ : ∃ j, i = 2 * j + 1 := ⟨i / 2, by omega⟩
      rw [(k2 j (by omega)).2] at hv; cases hv; exact fits_lo8 _
/-- the same text -/
def SameT (n : Nat) (f : Nat → Int32) (k : Nat) (g : Nat → Int32) : Prop := n = k ∧ ∀ j, j < n → f j = g j
theorem lo8_inj {x y : Int32} (h0 : ¬ x < 0) (h1 : ¬ 255 < x) (k0 : ¬ y < 0) (k1 : ¬ 255 < y) (h : lo8 x = lo8 y) : x = y := by
  rw [← lo8_mask h0 h1, ← lo8_mask k0 k1, h]
/-- arrays coded by one coder are equal just where the texts are -/
theorem Cod.eqv {cd : Int32} {n k : Nat} {f g : Nat → Int32} {V V' : Cell} (h : Cod cd n f V) (h' : Cod cd k g V') (hf : ∀ j, j < n → ¬ f j < 0 ∧ ¬ 65535 < f j) (hg : ∀ j, j < k → ¬ g j < 0 ∧ ¬ 65535 < g j) : EqC V V' ↔ SameT n f k g := by
  have yvv : ∀ {W : Cell} {i : Nat} {x : Int32}, W.slots[i]? = some (.int x) → yv W i = x := fun q => by unfold yv; rw [q]
  rcases h with ⟨rfl, k1, k2⟩ | ⟨rfl, k1, k2, -⟩
  · rcases h' with ⟨-, m1, m2⟩ | ⟨e, -⟩
    · constructor
      · rintro ⟨e1, e2⟩
        refine ⟨by omega, fun j hj => ?_⟩
        have q := e2 j (by omega)
        rw [yvv (k2 j hj).1, yvv (m2 j (by omega)).1] at q
        exact lo8_inj (hf j hj).1 (k2 j hj).2 (hg j (by omega)).1 (m2 j (by omega)).2 q
      · rintro ⟨rfl, e2⟩
        refine ⟨by omega, fun j hj => ?_⟩
        rw [yvv (k2 j (by omega)).1, yvv (m2 j (by omega)).1, e2 j (by omega)]
    · exact absurd e (by decide)
  · rcases h' with ⟨e, -⟩ | ⟨-, m1, m2, -⟩
    · exact absurd e (by decide)
    · constructor
      · rintro ⟨e1, e2⟩
        refine ⟨by omega, fun j hj => ?_⟩
        have q1 := e2 (2 * j) (by omega)
        have q2 := e2 (2 * j + 1) (by omega)
        rw [yvv (k2 j hj).1, yvv (m2 j (by omega)).1] at q1
        rw [yvv (k2 j hj).2, yvv (m2 j (by omega)).2] at q2
        rw [← pair_says (hf j hj).1 (hf j hj).2, ← pair_says (hg j (by omega)).1 (hg j (by omega)).2, q1, q2]
      · rintro ⟨rfl, e2⟩
        refine ⟨by omega, fun i hi => ?_⟩
        rcases Nat.mod_two_eq_zero_or_one i with e | e
        · obtain ⟨j, rfl⟩ : ∃ j, i = 2 * j := ⟨i / 2, by omega⟩
          rw [yvv (k2 j (by omega)).1, yvv (m2 j (by omega)).1, e2 j (by omega)]
        · obtain ⟨j, rfl⟩ : ∃ j, i = 2 * j + 1 := ⟨i / 2, by omega⟩
          rw [yvv (k2 j (by omega)).2, yvv (m2 j (by omega)).2, e2 j (by omega)]
/-- two codings differ: so do the texts -/
theorem Cod.dif {cd cd' : Int32} {n k : Nat} {f g : Nat → Int32} {V V' : Cell} (h : Cod cd n f V) (h' : Cod cd' k g V') (hne : ¬ cd = cd') : ¬ SameT n f k g := by
  rintro ⟨rfl, e⟩
  rcases h with ⟨rfl, -, k2⟩ | ⟨rfl, -, -, j, hj, hw⟩
  · rcases h' with ⟨rfl, -⟩ | ⟨-, -, -, j, hj, hw⟩
    · exact hne rfl
    · exact (k2 j hj).2 (by rw [e j hj]; exact hw)
  · rcases h' with ⟨-, -, m2⟩ | ⟨rfl, -⟩
    · exact (m2 j hj).2 (by rw [← e j hj]; exact hw)
    · exact hne rfl
/-- an object of exactly C is an instance of C -/
theorem cinst {p : Program} {l : Launch} {e : Env} {R : Room} {s : State} {m : MethodId} {args : Array Value} {below : List Frame} {meth : Method} {c : Code} {T : State} {locs : List Loc} {cells slots : Nat} (X : Stand p l e R s m args below meth c T locs cells slots) (hexec : p.tables.exec = Jvm.exec) {own C : String} {index : Nat} (hown : s.vm.findClass own = some m.cls) (hlink : (Cond.classLink own index C).before args s = true) {a : Addr} (hE : Exact C a T)
    {g : JFrame} (hg : g.method = m) {rest : List Value} (hstack : g.stack = .ref a :: rest) (hdg : decode c.code g.pc = .ok (.instanceof index, 3)) :
    ∃ T', Stand p l e R s m args below meth c T' locs cells slots ∧ T'.heap = T.heap ∧ ∀ target, Steps p.tables e below (T'.setTop { g with pc := g.pc + 3, stack := .int 1 :: rest }) target → Steps p.tables e below (T.setTop g) target := by
  obtain ⟨cB, h1, D, h2, h3, h4⟩ := hE
  have h1' : s.vm.findClass C = some cB := by rw [← X.warmed.alike.findClass]; exact h1
  obtain ⟨vm', X', st⟩ := X.instanceofYes hexec hown hlink h2 h4 h1' (by rw [h3]; exact Jvm.Free.SB.assignable_self _ _) hg hstack hdg
  exact ⟨_, X', rfl, st⟩
theorem cself {p : Program} {l : Launch} {e : Env} {R : Room} {s : State} {m : MethodId} {args : Array Value} {below : List Frame} {meth : Method} {c : Code} {T : State} {locs : List Loc} {cells slots : Nat} (X : Stand p l e R s m args below meth c T locs cells slots) (hexec : p.tables.exec = Jvm.exec) {own C : String} {index : Nat} (hown : s.vm.findClass own = some m.cls) (hlink : (Cond.classLink own index C).before args s = true) {a : Addr} (hE : Exact C a T)
    {g : JFrame} (hg : g.method = m) {rest : List Value} (hstack : g.stack = .ref a :: rest) (hdg : decode c.code g.pc = .ok (.checkcast index, 3)) :
    ∃ T', Stand p l e R s m args below meth c T' locs cells slots ∧ T'.heap = T.heap ∧ ∀ target, Steps p.tables e below (T'.setTop { g with pc := g.pc + 3, stack := .ref a :: rest }) target → Steps p.tables e below (T.setTop g) target := by
  obtain ⟨cB, h1, D, h2, h3, h4⟩ := hE
  have h1' : s.vm.findClass C = some cB := by rw [← X.warmed.alike.findClass]; exact h1
  obtain ⟨vm', X', st⟩ := X.checkcastYes hexec hown hlink h2 h4 h1' (by rw [h3]; exact Jvm.Free.SB.assignable_self _ _) hg hstack hdg
  exact ⟨_, X', rfl, fun t h => st t (by rw [← hstack] at h; exact h)⟩
namespace SEq
def yN : MethodName := ⟨"java/lang/String", "equals", "(Ljava/lang/Object;)Z"⟩
abbrev yB : ByteArray := jdk_42_method_66_code
theorem d0 : decode yB 0 = .ok (.aload_n 0, 1) := by decide +kernel
theorem d1 : decode yB 1 = .ok (.aload_n 1, 1) := by decide +kernel
theorem d2 : decode yB 2 = .ok (.if_acmp (.ne) 5, 3) := by decide +kernel
theorem d5 : decode yB 5 = .ok (.iconst 1, 1) := by decide +kernel
theorem d6 : decode yB 6 = .ok (.ireturn, 1) := by decide +kernel
theorem d7 : decode yB 7 = .ok (.aload_n 1, 1) := by decide +kernel
theorem d8 : decode yB 8 = .ok (.instanceof 10, 3) := by decide +kernel
theorem d11 : decode yB 11 = .ok (.ifCond (.eq) 43, 3) := by decide +kernel
theorem d14 : decode yB 14 = .ok (.aload_n 1, 1) := by decide +kernel
theorem d15 : decode yB 15 = .ok (.checkcast 10, 3) := by decide +kernel
theorem d18 : decode yB 18 = .ok (.astore_n 2, 1) := by decide +kernel
theorem d19 : decode yB 19 = .ok (.getstatic 38, 3) := by decide +kernel
theorem d22 : decode yB 22 = .ok (.ifCond (.eq) 14, 3) := by decide +kernel
theorem d25 : decode yB 25 = .ok (.aload_n 0, 1) := by decide +kernel
theorem d26 : decode yB 26 = .ok (.getfield 15, 3) := by decide +kernel
theorem d29 : decode yB 29 = .ok (.aload_n 2, 1) := by decide +kernel
theorem d30 : decode yB 30 = .ok (.getfield 15, 3) := by decide +kernel
theorem d33 : decode yB 33 = .ok (.if_icmp (.ne) 21, 3) := by decide +kernel
theorem d36 : decode yB 36 = .ok (.aload_n 0, 1) := by decide +kernel
theorem d37 : decode yB 37 = .ok (.getfield 9, 3) := by decide +kernel
theorem d40 : decode yB 40 = .ok (.aload_n 2, 1) := by decide +kernel
theorem d41 : decode yB 41 = .ok (.getfield 9, 3) := by decide +kernel
theorem d44 : decode yB 44 = .ok (.invokestatic 541, 3) := by decide +kernel
theorem d47 : decode yB 47 = .ok (.ifCond (.eq) 7, 3) := by decide +kernel
theorem d50 : decode yB 50 = .ok (.iconst 1, 1) := by decide +kernel
theorem d51 : decode yB 51 = .ok (.goto 4, 3) := by decide +kernel
theorem d54 : decode yB 54 = .ok (.iconst 0, 1) := by decide +kernel
theorem d55 : decode yB 55 = .ok (.ireturn, 1) := by decide +kernel
def site : List Cond := [.classLink "java/lang/String" 10 "java/lang/String", .fieldLink "java/lang/String" 38 "java/lang/String" "COMPACT_STRINGS" "Z", .fieldLink "java/lang/String" 15 "java/lang/String" "coder" "B", .fieldLink "java/lang/String" 9 "java/lang/String" "value" "[B", LEq.tab] ++ staticW "java/lang/String" 541 LEq.yN
def tab : Cond := tabOf yN yB 3 (some .boolean) site
def P (x t : Addr) (V : Cell) (cd : Int32) (n : Nat) (f : Nat → Int32) (y t' : Addr) (V' : Cell) (cd' : Int32) (k : Nat) (g : Nat → Int32) (z : Int32) (args : Array Value) (s : State) : Prop := args = #[.ref x, .ref y] ∧ Txt x t V cd n f s ∧ Txt y t' V' cd' k g s ∧ StaticIs s "java/lang/String" "COMPACT_STRINGS" "Z" (.int z) ∧ ¬ z = 0
/-- equals(Object) of two Strings: whether the texts are the same -/
theorem law (l : Launch) (x t : Addr) (V : Cell) (cd : Int32) (n : Nat) (f : Nat → Int32) (y t' : Addr) (V' : Cell) (cd' : Int32) (k : Nat) (g : Nat → Int32) (z : Int32) : Law l yN 2 1 1 14 yB 3 (some .boolean) site (P x t V cd n f y t' V' cd' k g z) (Says01 (SameT n f k g)) [] 0 0 := by
  refine Law.of_walk (plainFor_of_name (by decide +kernel)) (by decide +kernel) (by decide +kernel) (by decide) (fun _ _ h => by rw [h.1]; rfl) (fun _ U U' hal hh h => ⟨h.1, h.2.1.mv hal hh, h.2.2.1.mv hal hh, h.2.2.2.1.there hal hh, h.2.2.2.2⟩) (fun r U U' V V' h1 hal h2 h => Says01.mv r U U' V V' h1 hal h2 h) ?_
  intro p e s m args below meth c s₁ X0 hexec hbytes hml hret hlk hnm hown hh0 W hP
  obtain ⟨rfl, hx, hy, s1, hz⟩ := hP
  have c1 : Steps p.tables e below (s₁.setTop (entryFrame m #[.ref x, .ref y] 3)) (s₁.setTop (mkF m 2 #[.val (.ref x), .val (.ref y), .unset] [.ref y, .ref x])) := Steps.trans (entry rfl) (by
    show Steps p.tables e below (s₁.setTop (mkF m 0 #[.val (.ref x), .val (.ref y), .unset] [])) _
    refine XS.aloadN X0.here hexec rfl (hb hbytes d0) rfl rfl ?_
    refine XS.aloadN X0.here hexec rfl (hb hbytes d1) rfl rfl ?_
    exact Steps.refl _)
  by_cases hxy : x = y
  · have c2 : Steps p.tables e below (s₁.setTop (entryFrame m #[.ref x, .ref y] 3)) (s₁.setTop (mkF m 6 #[.val (.ref x), .val (.ref y), .unset] [.int 1])) := c1.trans (by
      refine acmpNo X0.here hexec rfl (hb hbytes d2) rfl rfl rfl (by simp [acmp, hxy]) ?_
      refine iconstV X0.here hexec rfl 1 (hb hbytes d5) (by decide) ?_
      exact Steps.refl _)
    subst hxy
    have ec : cd = cd' := by
      obtain ⟨D, fd, a1, a2, a3⟩ := hx.2.2.1
      obtain ⟨D', fd', b1, b2, b3⟩ := hy.2.2.1
      cases a1.symm.trans b1
      obtain ⟨q1, q2, q3, q4⟩ := a2.1
      obtain ⟨r1, r2, r3, r4⟩ := b2.1
      cases q4.symm.trans r4
      cases a3.symm.trans b3; rfl
    have et : t = t' := by
      obtain ⟨D, fd, a1, a2, a3⟩ := hx.2.1
      obtain ⟨D', fd', b1, b2, b3⟩ := hy.2.1
      cases a1.symm.trans b1
      obtain ⟨q1, q2, q3, q4⟩ := a2.1
      obtain ⟨r1, r2, r3, r4⟩ := b2.1
      cases q4.symm.trans r4
      cases a3.symm.trans b3; rfl
    subst ec et
    have ev : V = V' := by cases hx.2.2.2.1.1.symm.trans hy.2.2.2.1.1; rfl
    subst ev
    have hs : SameT n f k g := (Cod.eqv hx.2.2.2.2.1 hy.2.2.2.2.1 hx.2.2.2.2.2 hy.2.2.2.2.2).mp ⟨rfl, fun _ _ => rfl⟩
    exact ⟨s₁, some (.int 1), _, _, _, X0, rfl, rfl, rfl, (fun h => by cases h), ⟨1, rfl, hh0, Or.inl ⟨rfl, hs⟩⟩, fun fs hl => c2.trans (X0.ireturnOut hexec hret rfl (Or.inr (Or.inl rfl)) (hb hbytes d6) hl)⟩
  · have c2 : Steps p.tables e below (s₁.setTop (entryFrame m #[.ref x, .ref y] 3)) (s₁.setTop (mkF m 8 #[.val (.ref x), .val (.ref y), .unset] [.ref y])) := c1.trans (by
      refine acmpYes X0.here hexec rfl (pc0 := 2) rfl (hb hbytes d2) rfl rfl rfl (by simp [acmp, hxy]) (by decide) rfl ?_
      refine XS.aloadN X0.here hexec rfl (hb hbytes d7) rfl rfl ?_
      exact Steps.refl _)
    obtain ⟨T3, X3, q3, st3⟩ := cinst X0 hexec hown (wk W (.classLink "java/lang/String" 10 "java/lang/String")) (hy.mv X0.warmed.alike hh0).1 (g := (mkF m 8 #[.val (.ref x), .val (.ref y), .unset] [.ref y])) rfl (rest := []) rfl (hb hbytes d8)
    have hh3 := q3.trans hh0
    have c4 : Steps p.tables e below (s₁.setTop (entryFrame m #[.ref x, .ref y] 3)) (T3.setTop (mkF m 15 #[.val (.ref x), .val (.ref y), .unset] [.ref y])) := (c2.trans (st3 _ (Steps.refl _))).trans (by
      refine XS.ifNo X3.here hexec rfl (hb hbytes d11) rfl (i0_eq_f (by decide)) ?_
      refine XS.aloadN X3.here hexec rfl (hb hbytes d14) rfl rfl ?_
      exact Steps.refl _)
    obtain ⟨T5, X5, q5, st5⟩ := cself X3 hexec hown (wk W (.classLink "java/lang/String" 10 "java/lang/String")) (hy.mv X3.warmed.alike hh3).1 (g := (mkF m 15 #[.val (.ref x), .val (.ref y), .unset] [.ref y])) rfl (rest := []) rfl (hb hbytes d15)
    have hh5 := q5.trans hh3
    have c6 : Steps p.tables e below (s₁.setTop (entryFrame m #[.ref x, .ref y] 3)) (T5.setTop (mkF m 19 #[.val (.ref x), .val (.ref y), .val (.ref y)] [])) := (c4.trans (st5 _ (Steps.refl _))).trans (by
      refine XS.astoreN X5.here hexec rfl (hb hbytes d18) rfl rfl rfl ?_
      exact Steps.refl _)
    obtain ⟨T7, X7, q7, st7⟩ := X5.sget hexec hown (wk W (.fieldLink "java/lang/String" 38 "java/lang/String" "COMPACT_STRINGS" "Z")) s1 (fun _ _ h => by rw [hh5]; exact h) (g := (mkF m 19 #[.val (.ref x), .val (.ref y), .val (.ref y)] [])) rfl (hb hbytes d19)
    have hh7 := q7.trans hh5
    have c8 : Steps p.tables e below (s₁.setTop (entryFrame m #[.ref x, .ref y] 3)) (T7.setTop (mkF m 26 #[.val (.ref x), .val (.ref y), .val (.ref y)] [.ref x])) := (c6.trans (st7 _ (Steps.refl _))).trans (by
      refine XS.ifNo X7.here hexec rfl (hb hbytes d22) rfl (i0_eq_f hz) ?_
      refine XS.aloadN X7.here hexec rfl (hb hbytes d25) rfl rfl ?_
      exact Steps.refl _)
    obtain ⟨T9, X9, q9, st9⟩ := X7.hget hexec hown (wk W (.fieldLink "java/lang/String" 15 "java/lang/String" "coder" "B")) (hx.mv X7.warmed.alike hh7).2.2.1 (g := (mkF m 26 #[.val (.ref x), .val (.ref y), .val (.ref y)] [.ref x])) rfl (rest := []) rfl (hb hbytes d26)
    have hh9 := q9.trans hh7
    have c10 : Steps p.tables e below (s₁.setTop (entryFrame m #[.ref x, .ref y] 3)) (T9.setTop (mkF m 30 #[.val (.ref x), .val (.ref y), .val (.ref y)] [.ref y, .int cd])) := (c8.trans (st9 _ (Steps.refl _))).trans (by
      refine XS.aloadN X9.here hexec rfl (hb hbytes d29) rfl rfl ?_
      exact Steps.refl _)
    obtain ⟨T11, X11, q11, st11⟩ := X9.hget hexec hown (wk W (.fieldLink "java/lang/String" 15 "java/lang/String" "coder" "B")) (hy.mv X9.warmed.alike hh9).2.2.1 (g := (mkF m 30 #[.val (.ref x), .val (.ref y), .val (.ref y)] [.ref y, .int cd])) rfl (rest := [.int cd]) rfl (hb hbytes d30)
    have hh11 := q11.trans hh9
    have c12 : Steps p.tables e below (s₁.setTop (entryFrame m #[.ref x, .ref y] 3)) (T11.setTop (mkF m 33 #[.val (.ref x), .val (.ref y), .val (.ref y)] [.int cd', .int cd])) := c10.trans (st11 _ (Steps.refl _))
    by_cases hcd : cd = cd'
    · subst hcd
      have c13 : Steps p.tables e below (s₁.setTop (entryFrame m #[.ref x, .ref y] 3)) (T11.setTop (mkF m 37 #[.val (.ref x), .val (.ref y), .val (.ref y)] [.ref x])) := c12.trans (by
        refine XS.icmpNo X11.here hexec rfl (hb hbytes d33) rfl (ii_ne_f rfl) ?_
        refine XS.aloadN X11.here hexec rfl (hb hbytes d36) rfl rfl ?_
        exact Steps.refl _)
      obtain ⟨T14, X14, q14, st14⟩ := X11.hget hexec hown (wk W (.fieldLink "java/lang/String" 9 "java/lang/String" "value" "[B")) (hx.mv X11.warmed.alike hh11).2.1 (g := (mkF m 37 #[.val (.ref x), .val (.ref y), .val (.ref y)] [.ref x])) rfl (rest := []) rfl (hb hbytes d37)
      have hh14 := q14.trans hh11
      have c15 : Steps p.tables e below (s₁.setTop (entryFrame m #[.ref x, .ref y] 3)) (T14.setTop (mkF m 41 #[.val (.ref x), .val (.ref y), .val (.ref y)] [.ref y, .ref t])) := (c13.trans (st14 _ (Steps.refl _))).trans (by
        refine XS.aloadN X14.here hexec rfl (hb hbytes d40) rfl rfl ?_
        exact Steps.refl _)
      obtain ⟨T16, X16, q16, st16⟩ := X14.hget hexec hown (wk W (.fieldLink "java/lang/String" 9 "java/lang/String" "value" "[B")) (hy.mv X14.warmed.alike hh14).2.1 (g := (mkF m 41 #[.val (.ref x), .val (.ref y), .val (.ref y)] [.ref y, .ref t])) rfl (rest := [.ref t]) rfl (hb hbytes d41)
      have hh16 := q16.trans hh14
      have c17 : Steps p.tables e below (s₁.setTop (entryFrame m #[.ref x, .ref y] 3)) (T16.setTop (mkF m 44 #[.val (.ref x), .val (.ref y), .val (.ref y)] [.ref t', .ref t])) := c15.trans (st16 _ (Steps.refl _))
      obtain ⟨v18, T18, X18, E18, g18⟩ := X16.callS hexec (LEq.law l t V t' V') hown (wks W (staticW "java/lang/String" 541 LEq.yN)) (wk W LEq.tab) (W := 0) (Nat.le_of_ble_eq_true rfl) (Nat.le_of_ble_eq_true rfl) (Nat.le_refl _) (Nat.le_refl _) (g := (mkF m 44 #[.val (.ref x), .val (.ref y), .val (.ref y)] [.ref t', .ref t])) rfl (by rw [hml]; rfl) c17 (argsL := [.ref t, .ref t']) (rest := []) rfl rfl (by show 2 * 0 + 0 ≤ _; decide) (hb hbytes d44) (⟨rfl, hx.2.2.2.1.mv X16.warmed.alike hh16, hx.2.2.2.2.1.ty, hy.2.2.2.1.mv X16.warmed.alike hh16, hy.2.2.2.2.1.ty⟩)
      obtain ⟨v, rfl, q18, hv⟩ := E18
      have iff := Cod.eqv hx.2.2.2.2.1 hy.2.2.2.2.1 hx.2.2.2.2.2 hy.2.2.2.2.2
      rcases hv with ⟨rfl, he⟩ | ⟨rfl, he⟩
      · have c19 : Steps p.tables e below (s₁.setTop (entryFrame m #[.ref x, .ref y] 3)) (T18.setTop (mkF m 55 #[.val (.ref x), .val (.ref y), .val (.ref y)] [.int 1])) := Steps.trans g18 (by
          refine XS.ifNo X18.here hexec rfl (hb hbytes d47) rfl (i0_eq_f (by decide)) ?_
          refine iconstV X18.here hexec rfl 1 (hb hbytes d50) (by decide) ?_
          refine XS.goto X18.here hexec rfl (pc0 := 51) rfl (hb hbytes d51) (by decide) rfl ?_
          exact Steps.refl _)
        exact ⟨T18, some (.int 1), _, _, _, X18, rfl, rfl, rfl, (fun h => by cases h), ⟨1, rfl, q18.trans hh16, Or.inl ⟨rfl, iff.mp he⟩⟩, fun fs hl => c19.trans (X18.ireturnOut hexec hret rfl (Or.inr (Or.inl rfl)) (hb hbytes d55) hl)⟩
      · have c19 : Steps p.tables e below (s₁.setTop (entryFrame m #[.ref x, .ref y] 3)) (T18.setTop (mkF m 55 #[.val (.ref x), .val (.ref y), .val (.ref y)] [.int 0])) := Steps.trans g18 (by
          refine XS.ifYes X18.here hexec rfl (pc0 := 47) rfl (hb hbytes d47) rfl (i0_eq_t rfl) (by decide) rfl ?_
          refine iconstV X18.here hexec rfl 0 (hb hbytes d54) (by decide) ?_
          exact Steps.refl _)
        exact ⟨T18, some (.int 0), _, _, _, X18, rfl, rfl, rfl, (fun h => by cases h), ⟨0, rfl, q18.trans hh16, Or.inr ⟨rfl, fun q => he (iff.mpr q)⟩⟩, fun fs hl => c19.trans (X18.ireturnOut hexec hret rfl (Or.inr (Or.inl rfl)) (hb hbytes d55) hl)⟩
    · have c13 : Steps p.tables e below (s₁.setTop (entryFrame m #[.ref x, .ref y] 3)) (T11.setTop (mkF m 55 #[.val (.ref x), .val (.ref y), .val (.ref y)] [.int 0])) := c12.trans (by
        refine XS.icmpYes X11.here hexec rfl (pc0 := 33) rfl (hb hbytes d33) rfl (ii_ne_t hcd) (by decide) rfl ?_
        refine iconstV X11.here hexec rfl 0 (hb hbytes d54) (by decide) ?_
        exact Steps.refl _)
      exact ⟨T11, some (.int 0), _, _, _, X11, rfl, rfl, rfl, (fun h => by cases h), ⟨0, rfl, hh11, Or.inr ⟨rfl, Cod.dif hx.2.2.2.2.1 hy.2.2.2.2.1 hcd⟩⟩, fun fs hl => c13.trans (X11.ireturnOut hexec hret rfl (Or.inr (Or.inl rfl)) (hb hbytes d55) hl)⟩
theorem pays {l : Launch} {R : Room} {p : Program} {e : Env} {below : List Frame} {s : State} {sargs : Array Value} {len W : Nat} (x t : Addr) (V : Cell) (cd : Int32) (n : Nat) (f : Nat → Int32) (y t' : Addr) (V' : Cell) (cd' : Int32) (k : Nat) (g : Nat → Int32) (z : Int32) (htab : tab.before sargs s = true) (hfr : 2 ≤ R.frames) (hlo : W + 28 ≤ R.locals) :
    Back l R p e below s sargs yN len W (fun A₁ a₁ => A₁.cells + 0 ≤ R.cells ∧ A₁.slots + 0 ≤ R.slots ∧ P x t V cd n f y t' V' cd' k g z a₁ A₁.U) (fun A₁ _ v₁ B₁ => Says01 (SameT n f k g) v₁ A₁.U B₁.U ∧ B₁.locs = A₁.locs ++ [] ∧ B₁.cells = A₁.cells + 0 ∧ B₁.slots = A₁.slots + 0) :=
  (law l x t V cd n f y t' V' cd' k g z).pays htab hfr (by omega)
end SEq
end StrChars
namespace StrChars.Road
open Jvm Sem ClassFile Op Lib Jvm.Stand Jvm.Free Jvm.Free.XT
open Jvm.Lib.Cold (StaticIs)
/-- the words of String.equals(Object) -/
abbrev wordsEq : List Jvm.Cond := [.code SEq.yN SEq.yB 3 (some .boolean), .initialized ST, .classLink ST 10 ST, .fieldLink ST 38 ST "COMPACT_STRINGS" "Z", .fieldLink ST 15 ST "coder" "B", .fieldLink ST 9 ST "value" "[B", .methodLink ST 541 LEq.yN, .static LEq.yN, .code LEq.yN LEq.yB 3 (some .boolean), .initialized "java/lang/StringLatin1"]
theorem tabEq_of {a : Array Value} {s : State} (h : ∀ w ∈ wordsEq, w.before a s = true) : SEq.tab.before a s = true := by
  have hl : LEq.tab.before a s = true := unparts (wk h (.code LEq.yN LEq.yB 3 (some .boolean))) (wks h (.initialized LEq.yN.cls :: LEq.site))
  have q := consq hl h
  exact unparts (wk q (.code SEq.yN SEq.yB 3 (some .boolean))) (wks q (.initialized SEq.yN.cls :: SEq.site))
theorem movedEq {Z s : State} {a0 args : Array Value} (hZ : Z.Warmed39 s.vm) (hw : ∀ d ∈ wordsEq, d.before a0 Z = true) : ∀ d ∈ wordsEq, d.before args s = true := fun d hd => by
  have t : ∀ d ∈ wordsEq, (d.onTables && d.keepsFace) = true := by decide +kernel
  exact RoadKit.mv hZ (hw d hd) (t d hd)
/-- the road's facts of a String, as the laws ask it -/
theorem txt_of {Z U : State} {a0 : Array Value} {kI : Nat} (wi : (Jvm.Cond.instantiable ST kI).before a0 Z = true) (al : Z.vm.Alike U.vm) {x t : Addr} {kb : ClassId} {cs : List Int32} {cd N2 : Int32} {vs : List Value} (E : RoadKit.Exa Z U.heap x ST) (V : RoadKit.Fld Z U.heap x ST "value" "[B" (.ref t)) (C : RoadKit.Fld Z U.heap x ST "coder" "B" (.int cd)) (K : RoadKit.Arv Z U.heap t kb .byte N2 vs (.int 0)) (hc : CodA cs cd N2 vs) (hb : ∀ c ∈ cs, ¬ c < 0 ∧ ¬ (65535 : Int32) < c) (l2 : cs.length ≤ 4000) :
    ∃ A, Txt x t A cd cs.length (fun j => cs.getD j 0) U := by
  obtain ⟨A, K1, K2, K3, K4, K5, K6⟩ := K
  have hcod := hc.cod (by omega) K3 K5
  obtain ⟨D, fV, fC, hB, F1, F2, g1, g2, -, -⟩ := strObj wi al E V C
  exact ⟨A, ⟨_, hB.2.2.1, D, hB.1, rfl, by cases q : D.vm <;> first | rfl | exact absurd q (hB.2.1.2 _)⟩, Has.of hB F1 g1, Has.of hB F2 g2, ⟨K1.1, State.isArrayOf_alike al K1.2.1, K1.2.2, by rcases hcod with ⟨-, q, -⟩ | ⟨-, q, -⟩ <;> omega⟩, hcod, fun j hj => by
    have e : cs.getD j 0 = cs[j] := by simp [List.getD_eq_getElem?_getD, hj]
    show ¬ cs.getD j 0 < 0 ∧ ¬ 65535 < cs.getD j 0
    rw [e]; exact hb _ (List.getElem_mem _)⟩
theorem same_list (cs ds : List Int32) : SameT cs.length (fun j => cs.getD j 0) ds.length (fun j => ds.getD j 0) ↔ cs = ds := by
  constructor
  · rintro ⟨e, q⟩
    refine List.ext_getElem e fun j h1 h2 => ?_
    have := q j h1
    simpa [List.getD_eq_getElem?_getD, h1, h2] using this
  · rintro rfl
    exact ⟨rfl, fun _ _ => rfl⟩
/-- **equals(Object) OF TWO SUCH STRINGS**: 1 just where the chars are the same -/
theorem eqW {p : Program} {l : Launch} {e : Env} {R : Room} {s : State} {args : Array Value} {below : List Frame} {len W : Nat} {Z : State} {a0 : Array Value} {h : Heap} (hZ : Z.Warmed39 s.vm) (hw : ∀ d ∈ wordsEq, d.before a0 Z = true) {kI : Nat} (wi : (Jvm.Cond.instantiable ST kI).before a0 Z = true)
    {x t : Addr} {kb : ClassId} {cs : List Int32} {cd N2 : Int32} {vs : List Value} (E : RoadKit.Exa Z h x ST) (V : RoadKit.Fld Z h x ST "value" "[B" (.ref t)) (C : RoadKit.Fld Z h x ST "coder" "B" (.int cd)) (K : RoadKit.Arv Z h t kb .byte N2 vs (.int 0)) (hc : CodA cs cd N2 vs) (hb : ∀ c ∈ cs, ¬ c < 0 ∧ ¬ (65535 : Int32) < c) (l2 : cs.length ≤ 4000)
    {y t' : Addr} {kb' : ClassId} {ds : List Int32} {cd' N2' : Int32} {vs' : List Value} (E' : RoadKit.Exa Z h y ST) (V' : RoadKit.Fld Z h y ST "value" "[B" (.ref t')) (C' : RoadKit.Fld Z h y ST "coder" "B" (.int cd')) (K' : RoadKit.Arv Z h t' kb' .byte N2' vs' (.int 0)) (hc' : CodA ds cd' N2' vs') (hb' : ∀ c ∈ ds, ¬ c < 0 ∧ ¬ (65535 : Int32) < c) (l2' : ds.length ≤ 4000)
    {z : Int32} (S : RoadKit.Sta Z h ST "COMPACT_STRINGS" "Z" (.int z)) (hz : ¬ z = 0) (hfr : 2 ≤ R.frames) (hlo : W + 28 ≤ R.locals) :
    Back l R p e below s args (⟨"java/lang/String", "equals", "(Ljava/lang/Object;)Z"⟩ : MethodName) len W (fun P a => a = #[.ref x, .ref y] ∧ P.U.heap = h ∧ P.cells + 0 ≤ R.cells ∧ P.slots + 0 ≤ R.slots)
      (fun P _ v B => ∃ L, (((v = some (.int 1) ∧ cs = ds) ∨ (v = some (.int 0) ∧ ¬ cs = ds)) ∧ L = [] ∧ B.U.heap = h) ∧ B.locs = P.locs ++ L ∧ B.cells = P.cells + 0 ∧ B.slots = P.slots + 0) := by
  intro m meth c P g ig mk a X hg hsize hdg hW hn hp'
  obtain ⟨rfl, rfl, r1, r2⟩ := hp'
  have al : Z.vm.Alike P.U.vm := hZ.alike.trans X.warmed.alike
  obtain ⟨A, hx⟩ := txt_of wi al E V C K hc hb l2
  obtain ⟨A', hy⟩ := txt_of wi al E' V' C' K' hc' hb' l2'
  obtain ⟨v, B, X', ⟨⟨w, hv, hh, hq⟩, hl, hk, hs⟩, st⟩ := SEq.pays x t A cd cs.length (fun j => cs.getD j 0) y t' A' cd' ds.length (fun j => ds.getD j 0) z (tabEq_of (movedEq hZ hw)) hfr hlo m meth c P g ig mk _ X hg hsize hdg hW hn ⟨r1, r2, rfl, hx, hy, sta_is al S, hz⟩
  refine ⟨v, B, X', ⟨[], ⟨?_, rfl, hh⟩, hl, hk, hs⟩, st⟩
  rcases hq with ⟨rfl, q⟩ | ⟨rfl, q⟩
  · exact Or.inl ⟨hv, (same_list cs ds).mp q⟩
  · exact Or.inr ⟨hv, fun e => q ((same_list cs ds).mpr e)⟩
end StrChars.Road
namespace StrChars
open Jvm Sem ClassFile Op Lib Jvm.Stand Jvm.Free.XT Jvm.Free.ALB Jvm.Free.JM Jvm.Free
open Jvm.Lib.Cold (StaticIs)
namespace ChN
def yN : MethodName := ⟨"java/lang/String", "charAt", "(I)C"⟩
abbrev yB : ByteArray := jdk_42_method_56_code
theorem d0 : decode yB 0 = .ok (.aload_n 0, 1) := by decide +kernel
theorem d1 : decode yB 1 = .ok (.invokevirtual 492, 3) := by decide +kernel
theorem d4 : decode yB 4 = .ok (.ifCond (.eq) 12, 3) := by decide +kernel
theorem d7 : decode yB 7 = .ok (.aload_n 0, 1) := by decide +kernel
theorem d8 : decode yB 8 = .ok (.getfield 9, 3) := by decide +kernel
theorem d11 : decode yB 11 = .ok (.iload_n 1, 1) := by decide +kernel
theorem d12 : decode yB 12 = .ok (.invokestatic 495, 3) := by decide +kernel
theorem d15 : decode yB 15 = .ok (.ireturn, 1) := by decide +kernel
def site : List Cond := [.fieldLink "java/lang/String" 9 "java/lang/String" "value" "[B", IsL.tab, LChA.tab] ++ virtW "java/lang/String" 492 "java/lang/String" IsL.yN IsL.yN ++ staticW "java/lang/String" 495 LChA.yN
def tab : Cond := tabOf yN yB 2 (some .char) site
def P (x t : Addr) (V : Cell) (n : Nat) (f : Nat → Int32) (z : Int32) (fm : Value) (i : Nat) (args : Array Value) (s : State) : Prop := args = #[.ref x, .int (Int32.ofNat i)] ∧ Txt x t V 0 n f s ∧ i < n ∧ StaticIs s "java/lang/String" "COMPACT_STRINGS" "Z" (.int z) ∧ ¬ z = 0 ∧ StaticIs s "jdk/internal/util/Preconditions" "SIOOBE_FORMATTER" "Ljava/util/function/BiFunction;" fm ∧ fm.isRef = true
def E (f : Nat → Int32) (i : Nat) (r : Option Value) (s u : State) : Prop := XT.PureE (some (.int (f i))) r s u
/-- charAt(i) of a Latin-1 String of n chars, i < n: f i -/
theorem law (l : Launch) (x t : Addr) (V : Cell) (n : Nat) (f : Nat → Int32) (z : Int32) (fm : Value) (i : Nat) : Law l yN 2 1 3 40 yB 2 (some .char) site (P x t V n f z fm i) (E f i) [] 0 0 := by
  refine Law.of_walk (plainFor_of_name (by decide +kernel)) (by decide +kernel) (by decide +kernel) (by decide) (fun _ _ h => by rw [h.1]; rfl) (fun _ U U' hal hh h => ⟨h.1, h.2.1.mv hal hh, h.2.2.1, h.2.2.2.1.there hal hh, h.2.2.2.2.1, h.2.2.2.2.2.1.there hal hh, h.2.2.2.2.2.2⟩) (fun r U U' V V' h1 hal h2 h => XT.PureE.mv r U U' V V' h1 hal h2 h) ?_
  intro p e s m args below meth c s₁ X0 hexec hbytes hml hret hlk hnm hown hh0 W hP
  obtain ⟨rfl, hx, hi, s1, hz, s3, rf⟩ := hP
  have v31 := hx.2.2.2.1.2.2.2
  have hr := hx.2.2.2.2.2 i hi
  have hx0 := hx.mv X0.warmed.alike hh0
  have c1 : Steps p.tables e below (s₁.setTop (entryFrame m #[.ref x, .int (Int32.ofNat i)] 2)) (s₁.setTop (mkF m 1 #[.val (.ref x), .val (.int (Int32.ofNat i))] [.ref x])) := Steps.trans (entry rfl) (by
    show Steps p.tables e below (s₁.setTop (mkF m 0 #[.val (.ref x), .val (.int (Int32.ofNat i))] [])) _
    refine XS.aloadN X0.here hexec rfl (hb hbytes d0) rfl rfl ?_
    exact Steps.refl _)
  obtain ⟨v2, T2, X2, E2, g2⟩ := X0.callV hexec (IsL.law l x 0 z) hown (wks W (virtW "java/lang/String" 492 "java/lang/String" IsL.yN IsL.yN)) rfl (by decide) (wk W IsL.tab) (W := 0) (Nat.le_of_ble_eq_true rfl) (Nat.le_of_ble_eq_true rfl) (Nat.le_refl _) (Nat.le_refl _) (hx0.1.fc X0.warmed.alike) hx0.1.is (g := (mkF m 1 #[.val (.ref x), .val (.int (Int32.ofNat i))] [.ref x])) rfl (by rw [hml]; rfl) c1 (argsL := []) (rest := []) rfl rfl (by show 2 * 0 + 0 ≤ _; decide) (hb hbytes d1) (⟨rfl, hx0.2.2.1, hx.2.2.2.2.1.cd, s1.there X0.warmed.alike hh0, hz⟩)
  obtain ⟨rfl, q2⟩ := E2
  have hh2 := q2.trans hh0
  have hx2 := hx.mv X2.warmed.alike hh2
  obtain ⟨-, k1, k2⟩ | ⟨k0, -⟩ := hx.2.2.2.2.1
  · have c3 : Steps p.tables e below (s₁.setTop (entryFrame m #[.ref x, .int (Int32.ofNat i)] 2)) (T2.setTop (mkF m 8 #[.val (.ref x), .val (.int (Int32.ofNat i))] [.ref x])) := Steps.trans g2 (by
      refine XS.ifNo X2.here hexec rfl (hb hbytes d4) rfl (i0_eq_f (by decide)) ?_
      refine XS.aloadN X2.here hexec rfl (hb hbytes d7) rfl rfl ?_
      exact Steps.refl _)
    obtain ⟨T4, X4, q4, st4⟩ := X2.hget hexec hown (wk W (.fieldLink "java/lang/String" 9 "java/lang/String" "value" "[B")) hx2.2.1 (g := (mkF m 8 #[.val (.ref x), .val (.int (Int32.ofNat i))] [.ref x])) rfl (rest := []) rfl (hb hbytes d8)
    have hh4 := q4.trans hh2
    have c5 : Steps p.tables e below (s₁.setTop (entryFrame m #[.ref x, .int (Int32.ofNat i)] 2)) (T4.setTop (mkF m 12 #[.val (.ref x), .val (.int (Int32.ofNat i))] [.int (Int32.ofNat i), .ref t])) := (c3.trans (st4 _ (Steps.refl _))).trans (by
      refine XS.iloadN X4.here hexec rfl (hb hbytes d11) rfl ?_
      exact Steps.refl _)
    obtain ⟨v6, T6, X6, E6, g6⟩ := X4.callS hexec (LChA.law l t V i (lo8 (f i)) fm) hown (wks W (staticW "java/lang/String" 495 LChA.yN)) (wk W LChA.tab) (W := 0) (Nat.le_of_ble_eq_true rfl) (Nat.le_of_ble_eq_true rfl) (Nat.le_refl _) (Nat.le_refl _) (g := (mkF m 12 #[.val (.ref x), .val (.int (Int32.ofNat i))] [.int (Int32.ofNat i), .ref t])) rfl (by rw [hml]; rfl) c5 (argsL := [.ref t, .int (Int32.ofNat i)]) (rest := []) rfl rfl (by show 2 * 0 + 0 ≤ _; decide) (hb hbytes d12) (⟨rfl, hx.2.2.2.1.mv X4.warmed.alike hh4, (k2 i hi).1, s3.there X4.warmed.alike hh4, rf⟩)
    obtain ⟨rfl, q6⟩ := E6
    rw [chr8_lo8 hr.1 (k2 i hi).2] at g6
    exact ⟨T6, some (.int (f i)), _, _, _, X6, rfl, rfl, rfl, (fun h => by cases h), ⟨rfl, q6.trans hh4⟩, fun fs hl => Steps.trans g6 (X6.ireturnOut hexec hret (narrow_ch hr.1 hr.2) (Or.inr (Or.inr (Or.inr (Or.inl rfl)))) (hb hbytes d15) hl)⟩
  · exact absurd k0 (by decide)
theorem pays {l : Launch} {R : Room} {p : Program} {e : Env} {below : List Frame} {s : State} {sargs : Array Value} {len W : Nat} (x t : Addr) (V : Cell) (n : Nat) (f : Nat → Int32) (z : Int32) (fm : Value) (i : Nat) (htab : tab.before sargs s = true) (hfr : 4 ≤ R.frames) (hlo : W + 53 ≤ R.locals) :
    Back l R p e below s sargs yN len W (fun A₁ a₁ => A₁.cells + 0 ≤ R.cells ∧ A₁.slots + 0 ≤ R.slots ∧ P x t V n f z fm i a₁ A₁.U) (fun A₁ _ v₁ B₁ => E f i v₁ A₁.U B₁.U ∧ B₁.locs = A₁.locs ++ [] ∧ B₁.cells = A₁.cells + 0 ∧ B₁.slots = A₁.slots + 0) :=
  (law l x t V n f z fm i).pays htab hfr (by omega)
end ChN
end StrChars
namespace StrChars.Road
open Jvm Sem ClassFile Op Lib Jvm.Stand Jvm.Free Jvm.Free.XT
open Jvm.Lib.Cold (StaticIs)
/-- the words of String.charAt(int), the Latin-1 road alone -/
abbrev wordsChN : List Jvm.Cond := [.code ChN.yN ChN.yB 2 (some .char), .initialized ST, .fieldLink ST 9 ST "value" "[B", .fieldLink ST 38 ST "COMPACT_STRINGS" "Z", .fieldLink ST 15 ST "coder" "B", .code IsL.yN IsL.yB 1 (some .boolean), .methodLink ST 492 IsL.yN, .declares IsL.yN, .selects ST IsL.yN IsL.yN, .instanceMethod IsL.yN,
  .methodLink ST 495 LChA.yN, .static LChA.yN, .code LChA.yN LChA.yB 2 (some .char), .initialized "java/lang/StringLatin1", .methodLink "java/lang/StringLatin1" 9 JO.Str_checkIndex.yN, .static JO.Str_checkIndex.yN, .code JO.Str_checkIndex.yN JO.Str_checkIndex.yB 2 none,
  .fieldLink ST 1053 "jdk/internal/util/Preconditions" "SIOOBE_FORMATTER" "Ljava/util/function/BiFunction;", .methodLink ST 1059 JC.PreCheck.yN, .static JC.PreCheck.yN, .code JC.PreCheck.yN JC.PreCheck.yB 3 (some .int), .initialized "jdk/internal/util/Preconditions"]
theorem tabChN_of {a : Array Value} {s : State} (h : ∀ w ∈ wordsChN, w.before a s = true) : ChN.tab.before a s = true := by
  have hp : JC.PreCheck.tab.before a s = true := unparts (wk h (.code JC.PreCheck.yN JC.PreCheck.yB 3 (some .int))) (wks h (.initialized JC.PreCheck.yN.cls :: JC.PreCheck.site))
  have qk := consq hp h
  have hk : JO.Str_checkIndex.tab.before a s = true := unparts (wk qk (.code JO.Str_checkIndex.yN JO.Str_checkIndex.yB 2 none)) (wks qk (.initialized JO.Str_checkIndex.yN.cls :: JO.Str_checkIndex.site))
  have ql := consq hk h
  have hl : LChA.tab.before a s = true := unparts (wk ql (.code LChA.yN LChA.yB 2 (some .char))) (wks ql (.initialized LChA.yN.cls :: LChA.site))
  have hi : IsL.tab.before a s = true := unparts (wk h (.code IsL.yN IsL.yB 1 (some .boolean))) (wks h (.initialized IsL.yN.cls :: IsL.site))
  have q := consq hi (consq hl h)
  exact unparts (wk q (.code ChN.yN ChN.yB 2 (some .char))) (wks q (.initialized ChN.yN.cls :: ChN.site))
theorem movedChN {Z s : State} {a0 args : Array Value} (hZ : Z.Warmed39 s.vm) (hw : ∀ d ∈ wordsChN, d.before a0 Z = true) : ∀ d ∈ wordsChN, d.before args s = true := fun d hd => by
  have t : ∀ d ∈ wordsChN, (d.onTables && d.keepsFace) = true := by decide +kernel
  exact RoadKit.mv hZ (hw d hd) (t d hd)
/-- **charAt(i) OF A LATIN-1 STRING**, i < n: the char -/
theorem chN {p : Program} {l : Launch} {e : Env} {R : Room} {s : State} {args : Array Value} {below : List Frame} {len W : Nat} {Z : State} {a0 : Array Value} {h : Heap} (hZ : Z.Warmed39 s.vm) (hw : ∀ d ∈ wordsChN, d.before a0 Z = true) {kI : Nat} (wi : (Jvm.Cond.instantiable ST kI).before a0 Z = true)
    {x t : Addr} {kb : ClassId} {cs : List Int32} {N2 z : Int32} {vs : List Value} {fm : Value} {i : Nat} {j : Int32} (E : RoadKit.Exa Z h x ST) (V : RoadKit.Fld Z h x ST "value" "[B" (.ref t)) (C : RoadKit.Fld Z h x ST "coder" "B" (.int 0)) (K : RoadKit.Arv Z h t kb .byte N2 vs (.int 0)) (hc : CodA cs 0 N2 vs) (hb : ∀ c ∈ cs, ¬ c < 0 ∧ ¬ (65535 : Int32) < c)
    (S : RoadKit.Sta Z h ST "COMPACT_STRINGS" "Z" (.int z)) (hz : ¬ z = 0) (F : RoadKit.Sta Z h "jdk/internal/util/Preconditions" "SIOOBE_FORMATTER" "Ljava/util/function/BiFunction;" fm) (rf : fm.isRef = true) (l2 : cs.length ≤ 4000) (hi : i < cs.length) (hj : j = Int32.ofNat i) (hfr : 4 ≤ R.frames) (hlo : W + 53 ≤ R.locals) :
    Back l R p e below s args (⟨"java/lang/String", "charAt", "(I)C"⟩ : MethodName) len W (fun P a => a = #[.ref x, .int j] ∧ P.U.heap = h ∧ P.cells + 0 ≤ R.cells ∧ P.slots + 0 ≤ R.slots)
      (fun P _ v B => ∃ L, (v = some (.int (cs.getD i 0)) ∧ L = [] ∧ B.U.heap = h) ∧ B.locs = P.locs ++ L ∧ B.cells = P.cells + 0 ∧ B.slots = P.slots + 0) := by
  subst hj
  intro m meth c P g ig mk a X hg hsize hdg hW hn hp'
  obtain ⟨rfl, rfl, r1, r2⟩ := hp'
  have al : Z.vm.Alike P.U.vm := hZ.alike.trans X.warmed.alike
  obtain ⟨A, hx⟩ := txt_of wi al E V C K hc hb l2
  obtain ⟨v, B, X', ⟨⟨hv, hh⟩, hl, hk, hs⟩, st⟩ := ChN.pays x t A cs.length (fun j => cs.getD j 0) z fm i (tabChN_of (movedChN hZ hw)) hfr hlo m meth c P g ig mk _ X hg hsize hdg hW hn ⟨r1, r2, rfl, hx, hi, sta_is al S, hz, sta_is al F, rf⟩
  exact ⟨v, B, X', ⟨[], ⟨hv, rfl, hh⟩, hl, hk, hs⟩, st⟩
/-- what backV says of its String, as the contracts of this text ask it: cs's low bytes, coder 0 -/
theorem codOf {cs : List Int32} {n : Nat} (hn : cs.length = n) (hb : ∀ c ∈ cs, ¬ 255 < c) : CodA cs 0 (Int32.ofNat n) ((cs.map lo8).map Value.int) := Or.inl ⟨rfl, by rw [hn], by simp [List.map_map, Function.comp_def], hb⟩
end StrChars.Road
end Jvm.Pilot.@@N@@
namespace Jvm.Pilot.@@N@@
namespace GK
open Jvm Jvm.ClassFile Sem Op Lib Jvm.Free Jvm.Stand Jvm.LawKit Jvm.RoadKit Bundle
section Strs
variable {md : Md} {l : Launch} {Z : State} {n0 : Nat} {R : Room} {h h' : Heap} {sf : List Addr} {a0 : Array Value} {x b : Addr} {cs ds : List Int32}
abbrev ST : String := "java/lang/String"
def Lat (cs : List Int32) : Prop := ∀ c ∈ cs, ¬ c < 0 ∧ ¬ (255 : Int32) < c
/-- x is a Latin-1 String of these chars -/
def Str (Z : State) (h : Heap) (x : Addr) (cs : List Int32) : Prop := ∃ t : Addr, Exa Z h x ST ∧ Fld Z h x ST "coder" "B" (.int 0) ∧ Fld Z h x ST "value" "[B" (.ref t) ∧ Ary Z h t .byte ((cs.map fun c => c.toInt8.toInt32).map Value.int) ∧ Lat cs
theorem Str.ext (S : Str Z h x cs) (E : Ext h h') : Str Z h' x cs := by obtain ⟨t, s1, s2, s3, s4, s5⟩ := S; exact ⟨t, s1.ext E, s2.ext E, s3.ext E, s4.ext E, s5⟩
theorem Str.exa (S : Str Z h x cs) : Exa Z h x ST := by obtain ⟨t, s1, -⟩ := S; exact s1
theorem Str.lt (S : Str Z h x cs) : x < h.size := S.exa.lt
theorem Str.keepO {a : Addr} {C : String} {k : Nat} (S : Str Z h x cs) (E : Exa Z h a C) (hn : C ≠ ST) (wi : (Jvm.Cond.instantiable C k).before a0 Z = true) (K : Keep h h' [a]) : Str Z h' x cs := by
  obtain ⟨t, s1, s2, s3, s4, s5⟩ := S
  have n1 : x ≠ a := Ne.symm (ne_exa E s1 hn)
  have n2 : t ≠ a := by obtain ⟨c, A, -⟩ := s4; exact Ne.symm (ne_arr E wi A)
  exact ⟨t, s1.keep K, s2.keep K (ninS n1 nin0), s3.keep K (ninS n1 nin0), Ary.keep K s4 (ninS n2 nin0), s5⟩
theorem strNew {W : Nat} {v0 c0 : Value} {z : Int32} (hws : ∀ d ∈ StrChars.Road.words, d.before a0 Z = true) (wi : (Jvm.Cond.instantiable ST 4).before a0 Z = true) (hx0 : n0 ≤ x) (o : Old Z n0 h) (E : Exa Z h x ST) (V : Fld Z h x ST "value" "[B" v0) (C : Fld Z h x ST "coder" "B" c0) (K : Ary Z h b .char (cs.map Value.int))
    (S : Sta Z Z.heap ST "COMPACT_STRINGS" "Z" (.int z)) (hz : ¬ z = 0) (n : Nat) (hn : cs.length = n) (l0 : 0 < n) (l2 : n ≤ 4000) (hp : Lat cs) (hfr : 4 ≤ R.frames) (hlo : W + 65 ≤ R.locals) (hsf : x ∈ sf) :
    Call md l Z n0 R ⟨"java/lang/String", "<init>", "([C)V"⟩ 3 W #[.ref x, .ref b] h sf 1 n (fun v h' _ => v = none ∧ Keep h h' [x] ∧ Str Z h' x cs) := by
  subst hn
  obtain ⟨kC, K'⟩ := K.arv (.int 0)
  rw [List.length_map] at K'
  refine call_of_back [x] (QB := StrChars.Road.QV Z x (Int32.ofNat cs.length) (cs.map fun c => c.toInt8.toInt32) h n0) (fun p e below s sargs hZ => StrChars.Road.backV hZ hws wi hx0 (o.1 ▸ o.2.1) E V C K' (S.ext o.2) hz rfl rfl l0 l2 hp rfl hfr hlo) ?_ (sub1 hsf) (fun y hy => by cases List.mem_singleton.mp hy; exact hx0)
  rintro v h' L ⟨rfl, q2, q3, q4, q5, t, kb, -, -, -, q9, q10⟩
  refine ⟨q2, q3, rfl, q3, t, q4, q5, q9, Ary.ofArv q10 ?_ (by simp; omega), hp⟩
  rw [(clamp_of (ofNat_toInt (by omega))).2]; simp
theorem toInt_lt {x y : Int32} : x < y ↔ x.toInt < y.toInt := Int32.lt_iff_toInt_lt
theorem lat_iff {c : Int32} : (¬ c < 0 ∧ ¬ (255 : Int32) < c) ↔ (0 ≤ c.toInt ∧ c.toInt ≤ 255) := by
  rw [toInt_lt, toInt_lt]
  have e1 : (0 : Int32).toInt = 0 := rfl
  have e2 : (255 : Int32).toInt = 255 := rfl
  omega
theorem chr_id {c : Int32} (q : 0 ≤ c.toInt ∧ c.toInt ≤ 65535) : chr c = c := Int32.toInt_inj.mp (by have := c_i2c c; show (c.toUInt32.toUInt16.toUInt32.toInt32).toInt = c.toInt; omega)
theorem chr_rng (x : Int32) : 0 ≤ (chr x).toInt ∧ (chr x).toInt ≤ 65535 := by have := c_i2c x; show 0 ≤ (x.toUInt32.toUInt16.toUInt32.toInt32).toInt ∧ (x.toUInt32.toUInt16.toUInt32.toInt32).toInt ≤ 65535; omega
theorem and255 (x : Int32) : 0 ≤ (x &&& (255 : Int32)).toInt ∧ (x &&& (255 : Int32)).toInt ≤ 255 := c_and x 255 (by decide)
theorem chr255 (x : Int32) : ¬ chr (x &&& (255 : Int32)) < 0 ∧ ¬ (255 : Int32) < chr (x &&& (255 : Int32)) := by
  have q := and255 x
  rw [chr_id (by omega)]; exact lat_iff.mpr q
theorem nar_chr (c : Int32) : nar .char c = chr c := rfl
theorem nar_c {c : Int32} (q : ¬ c < 0 ∧ ¬ (255 : Int32) < c) : nar .char c = c := by
  have := lat_iff.mp q
  rw [nar_chr, chr_id (by omega)]
theorem i8_idem (x : Int32) : x.toInt8.toInt32.toInt8.toInt32 = x.toInt8.toInt32 := Int32.toInt_inj.mp (by have h1 := c_i2b x; have h2 := c_i2b (x.toInt8.toInt32); omega)
theorem latN : Lat [] := fun c hc => nomatch hc
theorem latC {c : Int32} {cs : List Int32} (q : ¬ c < 0 ∧ ¬ (255 : Int32) < c) (r : Lat cs) : Lat (c :: cs) := fun y hy => (List.mem_cons.mp hy).elim (fun u => u ▸ q) (r y)
theorem lat1 {c : Int32} (q : ¬ c < 0 ∧ ¬ (255 : Int32) < c) : Lat [c] := latC q latN
theorem lat2 {c d : Int32} (q : ¬ c < 0 ∧ ¬ (255 : Int32) < c) (r : ¬ d < 0 ∧ ¬ (255 : Int32) < d) : Lat [c, d] := latC q (lat1 r)
end Strs
end GK
end Jvm.Pilot.@@N@@
namespace Jvm.Pilot.@@N@@
namespace GK
open Jvm Jvm.ClassFile Sem Op Lib Jvm.Free Jvm.Stand Jvm.LawKit Jvm.RoadKit Bundle
section StrsE
variable {md : Md} {l : Launch} {Z : State} {n0 : Nat} {R : Room} {h h' : Heap} {sf : List Addr} {a0 : Array Value} {x y : Addr} {cs ds : List Int32}
theorem Lat.up (q : Lat cs) : ∀ c ∈ cs, ¬ c < 0 ∧ ¬ (65535 : Int32) < c := fun c hc => by
  have := lat_iff.mp (q c hc)
  refine ⟨(q c hc).1, fun z => ?_⟩
  rw [toInt_lt] at z
  have e1 : (65535 : Int32).toInt = 65535 := rfl
  omega
theorem strEq {W : Nat} {z : Int32} (heq : ∀ d ∈ StrChars.Road.wordsEq, d.before a0 Z = true) (wi : (Jvm.Cond.instantiable ST 4).before a0 Z = true) (S1 : Str Z h x cs) (S2 : Str Z h y ds) (l1 : cs.length ≤ 4000) (l2 : ds.length ≤ 4000) (o : Old Z n0 h) (S : Sta Z Z.heap ST "COMPACT_STRINGS" "Z" (.int z)) (hz : ¬ z = 0) (hfr : 2 ≤ R.frames) (hlo : W + 28 ≤ R.locals) :
    Call md l Z n0 R ⟨"java/lang/String", "equals", "(Ljava/lang/Object;)Z"⟩ 3 W #[.ref x, .ref y] h sf 0 0 (fun v h' _ => h = h' ∧ ((v = some (.int 1) ∧ cs = ds) ∨ (v = some (.int 0) ∧ ¬ cs = ds))) := by
  obtain ⟨t, E, C, V, A, q⟩ := S1
  obtain ⟨t', E', C', V', A', q'⟩ := S2
  obtain ⟨k, K⟩ := A.arv (.int 0)
  obtain ⟨k', K'⟩ := A'.arv (.int 0)
  rw [List.length_map, List.length_map] at K K'
  refine call_of_back [] (QB := fun v h' L => (((v = some (.int 1) ∧ cs = ds) ∨ (v = some (.int 0) ∧ ¬ cs = ds)) ∧ L = [] ∧ h' = h)) (fun p e below s sargs hZ => StrChars.Road.eqW hZ heq wi E V C K (StrChars.Road.codOf rfl fun c hc => (q c hc).2) q.up l1 E' V' C' K' (StrChars.Road.codOf rfl fun c hc => (q' c hc).2) q'.up l2 (S.ext o.2) hz hfr hlo) ?_ (fun _ q => nomatch q) (fun _ q => nomatch q)
  rintro v h' L ⟨q1, rfl, rfl⟩
  exact ⟨Fr.nil n0, Keep.refl _ _, rfl, q1⟩
end StrsE
end GK
end Jvm.Pilot.@@N@@
namespace Jvm.Pilot.@@N@@
namespace GK
open Jvm Jvm.ClassFile Sem Op Lib Jvm.Free Jvm.Stand Jvm.LawKit Jvm.RoadKit Bundle
section StrsM
variable {md : Md} {l : Launch} {Z : State} {n0 : Nat} {R : Room} {h h' : Heap} {sf : List Addr} {a0 : Array Value} {x y : Addr} {cs ds : List Int32}
theorem Lat.wide (q : Lat cs) : ∀ c ∈ cs, ¬ c < 0 ∧ ¬ (65535 : Int32) < c := fun c hc => by
  have := lat_iff.mp (q c hc)
  refine ⟨(q c hc).1, fun z => ?_⟩
  rw [toInt_lt] at z
  have e1 : (65535 : Int32).toInt = 65535 := rfl
  omega
theorem strCh {W : Nat} {z j : Int32} {fm : Value} (hch : ∀ d ∈ StrChars.Road.wordsChN, d.before a0 Z = true) (wi : (Jvm.Cond.instantiable ST 4).before a0 Z = true) (S1 : Str Z h x cs) (l1 : cs.length ≤ 4000) (o : Old Z n0 h) (S : Sta Z Z.heap ST "COMPACT_STRINGS" "Z" (.int z)) (hz : ¬ z = 0) (F : Sta Z Z.heap "jdk/internal/util/Preconditions" "SIOOBE_FORMATTER" "Ljava/util/function/BiFunction;" fm) (rf : fm.isRef = true)
    (i : Nat) (hj : j.toInt = (i : Int)) (hi : i < cs.length) (hfr : 4 ≤ R.frames) (hlo : W + 53 ≤ R.locals) :
    Call md l Z n0 R ⟨"java/lang/String", "charAt", "(I)C"⟩ 3 W #[.ref x, .int j] h sf 0 0 (fun v h' _ => h = h' ∧ v = some (.int (cs.getD i 0))) := by
  obtain ⟨t, E, C, V, A, q⟩ := S1
  obtain ⟨k, K⟩ := A.arv (.int 0)
  rw [List.length_map, List.length_map] at K
  have ej : j = Int32.ofNat i := Int32.toInt_inj.mp (by rw [hj, ofNat_toInt (by omega)])
  refine call_of_back [] (QB := fun v h' L => (v = some (.int (cs.getD i 0)) ∧ L = [] ∧ h' = h)) (fun p e below s sargs hZ => StrChars.Road.chN hZ hch wi E V C K (StrChars.Road.codOf rfl fun c hc => (q c hc).2) q.wide (S.ext o.2) hz (F.ext o.2) rf l1 hi ej hfr hlo) ?_ (fun _ q => nomatch q) (fun _ q => nomatch q)
  rintro v h' L ⟨q1, rfl, rfl⟩
  exact ⟨Fr.nil n0, Keep.refl _ _, rfl, q1⟩
end StrsM
end GK
end Jvm.Pilot.@@N@@
namespace Jvm.Pilot.@@N@@
open Jvm Jvm.ClassFile Sem Op Lib Jvm.Free Jvm.Stand Jvm.LawKit Jvm.RoadKit Bundle Jvm.Pilot.@@N@@.Jvm.D Jvm.Pilot.@@N@@.GK
abbrev HW (a0 : Array Value) (Z : State) : Prop := ∀ d ∈ tables_1, d.before a0 Z = true
theorem w0 {a0 : Array Value} {Z : State} (hw : HW a0 Z) : (Jvm.Cond.arrayClass Jvm.ClassFile.FieldType.char).before a0 Z = true := hw _ (List.mem_of_getElem? (i := 0) rfl)
theorem w1 {a0 : Array Value} {Z : State} (hw : HW a0 Z) : (Jvm.Cond.methodLink "com/example/tugas/tugas/store/ListingListedOnlyPinLaw" (17 : Nat) ({ cls := "com/example/tugas/tugas/store/ListingListedOnlyPinLaw", name := "pick", desc := "(IIIJ)C" } : Jvm.MethodName)).before a0 Z = true := hw _ (List.mem_of_getElem? (i := 1) rfl)
theorem w2 {a0 : Array Value} {Z : State} (hw : HW a0 Z) : (Jvm.Cond.static ({ cls := "com/example/tugas/tugas/store/ListingListedOnlyPinLaw", name := "pick", desc := "(IIIJ)C" } : Jvm.MethodName)).before a0 Z = true := hw _ (List.mem_of_getElem? (i := 2) rfl)
theorem w3 {a0 : Array Value} {Z : State} (hw : HW a0 Z) : (Jvm.Cond.initialized "com/example/tugas/tugas/store/ListingListedOnlyPinLaw").before a0 Z = true := hw _ (List.mem_of_getElem? (i := 3) rfl)
theorem w4 {a0 : Array Value} {Z : State} (hw : HW a0 Z) : (Jvm.Cond.code ({ cls := "com/example/tugas/tugas/store/ListingListedOnlyPinLaw", name := "pick", desc := "(IIIJ)C" } : Jvm.MethodName) method_2_code (8 : Nat) (Option.some Jvm.ClassFile.FieldType.char)).before a0 Z = true := hw _ (List.mem_of_getElem? (i := 4) rfl)
theorem w5 {a0 : Array Value} {Z : State} (hw : HW a0 Z) : (Jvm.Cond.constantLong "com/example/tugas/tugas/store/ListingListedOnlyPinLaw" (7 : Nat) (255 : Int64)).before a0 Z = true := hw _ (List.mem_of_getElem? (i := 5) rfl)
theorem w6 {a0 : Array Value} {Z : State} (hw : HW a0 Z) : (Jvm.Cond.methodLink "com/example/tugas/tugas/store/ListingListedOnlyPinLaw" (23 : Nat) ({ cls := "com/example/tugas/tugas/store/ListingListedOnlyPinLaw", name := "whereAt", desc := "([CI)Z" } : Jvm.MethodName)).before a0 Z = true := hw _ (List.mem_of_getElem? (i := 6) rfl)
theorem w7 {a0 : Array Value} {Z : State} (hw : HW a0 Z) : (Jvm.Cond.static ({ cls := "com/example/tugas/tugas/store/ListingListedOnlyPinLaw", name := "whereAt", desc := "([CI)Z" } : Jvm.MethodName)).before a0 Z = true := hw _ (List.mem_of_getElem? (i := 7) rfl)
theorem w8 {a0 : Array Value} {Z : State} (hw : HW a0 Z) : (Jvm.Cond.code ({ cls := "com/example/tugas/tugas/store/ListingListedOnlyPinLaw", name := "whereAt", desc := "([CI)Z" } : Jvm.MethodName) method_3_code (2 : Nat) (Option.some Jvm.ClassFile.FieldType.boolean)).before a0 Z = true := hw _ (List.mem_of_getElem? (i := 8) rfl)
theorem w9 {a0 : Array Value} {Z : State} (hw : HW a0 Z) : (Jvm.Cond.methodLink "com/example/tugas/tugas/store/ListingListedOnlyPinLaw" (27 : Nat) ({ cls := "com/example/tugas/tugas/store/ListingListedOnlyPinLaw", name := "putListed", desc := "([CI)V" } : Jvm.MethodName)).before a0 Z = true := hw _ (List.mem_of_getElem? (i := 9) rfl)
theorem w10 {a0 : Array Value} {Z : State} (hw : HW a0 Z) : (Jvm.Cond.static ({ cls := "com/example/tugas/tugas/store/ListingListedOnlyPinLaw", name := "putListed", desc := "([CI)V" } : Jvm.MethodName)).before a0 Z = true := hw _ (List.mem_of_getElem? (i := 10) rfl)
theorem w11 {a0 : Array Value} {Z : State} (hw : HW a0 Z) : (Jvm.Cond.code ({ cls := "com/example/tugas/tugas/store/ListingListedOnlyPinLaw", name := "putListed", desc := "([CI)V" } : Jvm.MethodName) method_4_code (2 : Nat) (Option.none : Option Jvm.ClassFile.FieldType)).before a0 Z = true := hw _ (List.mem_of_getElem? (i := 11) rfl)
theorem w12 {a0 : Array Value} {Z : State} (hw : HW a0 Z) : (Jvm.Cond.classLink "com/example/tugas/tugas/store/ListingListedOnlyPinLaw" (12 : Nat) "java/lang/String").before a0 Z = true := hw _ (List.mem_of_getElem? (i := 12) rfl)
theorem w13 {a0 : Array Value} {Z : State} (hw : HW a0 Z) : (Jvm.Cond.instantiable "java/lang/String" (4 : Nat)).before a0 Z = true := hw _ (List.mem_of_getElem? (i := 13) rfl)
theorem w14 {a0 : Array Value} {Z : State} (hw : HW a0 Z) : (Jvm.Cond.initialized "java/lang/String").before a0 Z = true := hw _ (List.mem_of_getElem? (i := 14) rfl)
theorem w15 {a0 : Array Value} {Z : State} (hw : HW a0 Z) : (Jvm.Cond.methodLink "com/example/tugas/tugas/store/ListingListedOnlyPinLaw" (31 : Nat) ({ cls := "java/lang/String", name := "<init>", desc := "([C)V" } : Jvm.MethodName)).before a0 Z = true := hw _ (List.mem_of_getElem? (i := 15) rfl)
theorem w16 {a0 : Array Value} {Z : State} (hw : HW a0 Z) : (Jvm.Cond.instanceMethod ({ cls := "java/lang/String", name := "<init>", desc := "([C)V" } : Jvm.MethodName)).before a0 Z = true := hw _ (List.mem_of_getElem? (i := 16) rfl)
theorem w17 {a0 : Array Value} {Z : State} (hw : HW a0 Z) : (Jvm.Cond.code ({ cls := "java/lang/String", name := "<init>", desc := "([C)V" } : Jvm.MethodName) jdk_42_method_3_code (2 : Nat) (Option.none : Option Jvm.ClassFile.FieldType)).before a0 Z = true := hw _ (List.mem_of_getElem? (i := 17) rfl)
theorem w22 {a0 : Array Value} {Z : State} (hw : HW a0 Z) : (Jvm.Cond.methodLink "java/lang/String" (1 : Nat) ({ cls := "java/lang/Object", name := "<init>", desc := "()V" } : Jvm.MethodName)).before a0 Z = true := hw _ (List.mem_of_getElem? (i := 22) rfl)
theorem w23 {a0 : Array Value} {Z : State} (hw : HW a0 Z) : (Jvm.Cond.instanceMethod ({ cls := "java/lang/Object", name := "<init>", desc := "()V" } : Jvm.MethodName)).before a0 Z = true := hw _ (List.mem_of_getElem? (i := 23) rfl)
theorem w24 {a0 : Array Value} {Z : State} (hw : HW a0 Z) : (Jvm.Cond.code ({ cls := "java/lang/Object", name := "<init>", desc := "()V" } : Jvm.MethodName) object_method_1_code (1 : Nat) (Option.none : Option Jvm.ClassFile.FieldType)).before a0 Z = true := hw _ (List.mem_of_getElem? (i := 24) rfl)
theorem w25 {a0 : Array Value} {Z : State} (hw : HW a0 Z) : (Jvm.Cond.fieldLink "java/lang/String" (38 : Nat) "java/lang/String" "COMPACT_STRINGS" "Z").before a0 Z = true := hw _ (List.mem_of_getElem? (i := 25) rfl)
theorem w30 {a0 : Array Value} {Z : State} (hw : HW a0 Z) : (Jvm.Cond.arrayClass Jvm.ClassFile.FieldType.byte).before a0 Z = true := hw _ (List.mem_of_getElem? (i := 30) rfl)
theorem w37 {a0 : Array Value} {Z : State} (hw : HW a0 Z) : (Jvm.Cond.fieldLink "java/lang/String" (15 : Nat) "java/lang/String" "coder" "B").before a0 Z = true := hw _ (List.mem_of_getElem? (i := 37) rfl)
theorem w38 {a0 : Array Value} {Z : State} (hw : HW a0 Z) : (Jvm.Cond.laysFinal "java/lang/String" "java/lang/String" "coder" "B").before a0 Z = true := hw _ (List.mem_of_getElem? (i := 38) rfl)
theorem w39 {a0 : Array Value} {Z : State} (hw : HW a0 Z) : (Jvm.Cond.fieldLink "java/lang/String" (9 : Nat) "java/lang/String" "value" "[B").before a0 Z = true := hw _ (List.mem_of_getElem? (i := 39) rfl)
theorem w40 {a0 : Array Value} {Z : State} (hw : HW a0 Z) : (Jvm.Cond.laysFinal "java/lang/String" "java/lang/String" "value" "[B").before a0 Z = true := hw _ (List.mem_of_getElem? (i := 40) rfl)
theorem w41 {a0 : Array Value} {Z : State} (hw : HW a0 Z) : (Jvm.Cond.methodLink "com/example/tugas/tugas/store/ListingListedOnlyPinLaw" (34 : Nat) ({ cls := "com/example/tugas/tugas/store/Listing", name := "listedOnly", desc := "(Ljava/lang/String;)Ljava/lang/String;" } : Jvm.MethodName)).before a0 Z = true := hw _ (List.mem_of_getElem? (i := 41) rfl)
theorem w42 {a0 : Array Value} {Z : State} (hw : HW a0 Z) : (Jvm.Cond.static ({ cls := "com/example/tugas/tugas/store/Listing", name := "listedOnly", desc := "(Ljava/lang/String;)Ljava/lang/String;" } : Jvm.MethodName)).before a0 Z = true := hw _ (List.mem_of_getElem? (i := 42) rfl)
theorem w43 {a0 : Array Value} {Z : State} (hw : HW a0 Z) : (Jvm.Cond.initialized "com/example/tugas/tugas/store/Listing").before a0 Z = true := hw _ (List.mem_of_getElem? (i := 43) rfl)
theorem w44 {a0 : Array Value} {Z : State} (hw : HW a0 Z) : (Jvm.Cond.code ({ cls := "com/example/tugas/tugas/store/Listing", name := "listedOnly", desc := "(Ljava/lang/String;)Ljava/lang/String;" } : Jvm.MethodName) prog_46_method_2_code (2 : Nat) (Option.some (Jvm.ClassFile.FieldType.object "java/lang/String"))).before a0 Z = true := hw _ (List.mem_of_getElem? (i := 44) rfl)
theorem w45 {a0 : Array Value} {Z : State} (hw : HW a0 Z) : (Jvm.Cond.stringLink "com/example/tugas/tugas/store/Listing" (20 : Nat) " WHERE ").before a0 Z = true := hw _ (List.mem_of_getElem? (i := 45) rfl)
theorem w48 {a0 : Array Value} {Z : State} (hw : HW a0 Z) : (Jvm.Cond.methodLink "com/example/tugas/tugas/store/Listing" (22 : Nat) ({ cls := "java/lang/String", name := "contains", desc := "(Ljava/lang/CharSequence;)Z" } : Jvm.MethodName)).before a0 Z = true := hw _ (List.mem_of_getElem? (i := 48) rfl)
theorem w49 {a0 : Array Value} {Z : State} (hw : HW a0 Z) : (Jvm.Cond.declares ({ cls := "java/lang/String", name := "contains", desc := "(Ljava/lang/CharSequence;)Z" } : Jvm.MethodName)).before a0 Z = true := hw _ (List.mem_of_getElem? (i := 49) rfl)
theorem w50 {a0 : Array Value} {Z : State} (hw : HW a0 Z) : (Jvm.Cond.instanceMethod ({ cls := "java/lang/String", name := "contains", desc := "(Ljava/lang/CharSequence;)Z" } : Jvm.MethodName)).before a0 Z = true := hw _ (List.mem_of_getElem? (i := 50) rfl)
theorem w51 {a0 : Array Value} {Z : State} (hw : HW a0 Z) : (Jvm.Cond.selects "java/lang/String" ({ cls := "java/lang/String", name := "contains", desc := "(Ljava/lang/CharSequence;)Z" } : Jvm.MethodName) ({ cls := "java/lang/String", name := "contains", desc := "(Ljava/lang/CharSequence;)Z" } : Jvm.MethodName)).before a0 Z = true := hw _ (List.mem_of_getElem? (i := 51) rfl)
theorem w52 {a0 : Array Value} {Z : State} (hw : HW a0 Z) : (Jvm.Cond.code ({ cls := "java/lang/String", name := "contains", desc := "(Ljava/lang/CharSequence;)Z" } : Jvm.MethodName) jdk_42_method_97_code (2 : Nat) (Option.some Jvm.ClassFile.FieldType.boolean)).before a0 Z = true := hw _ (List.mem_of_getElem? (i := 52) rfl)
theorem w53 {a0 : Array Value} {Z : State} (hw : HW a0 Z) : (Jvm.Cond.methodLink "java/lang/String" (710 : Nat) ({ cls := "java/lang/CharSequence", name := "toString", desc := "()Ljava/lang/String;" } : Jvm.MethodName)).before a0 Z = true := hw _ (List.mem_of_getElem? (i := 53) rfl)
theorem w54 {a0 : Array Value} {Z : State} (hw : HW a0 Z) : (Jvm.Cond.declares ({ cls := "java/lang/CharSequence", name := "toString", desc := "()Ljava/lang/String;" } : Jvm.MethodName)).before a0 Z = true := hw _ (List.mem_of_getElem? (i := 54) rfl)
theorem w55 {a0 : Array Value} {Z : State} (hw : HW a0 Z) : (Jvm.Cond.interfaceMethod "java/lang/CharSequence" "java/lang/CharSequence" "toString" "()Ljava/lang/String;").before a0 Z = true := hw _ (List.mem_of_getElem? (i := 55) rfl)
theorem w56 {a0 : Array Value} {Z : State} (hw : HW a0 Z) : (Jvm.Cond.selects "java/lang/String" ({ cls := "java/lang/CharSequence", name := "toString", desc := "()Ljava/lang/String;" } : Jvm.MethodName) ({ cls := "java/lang/String", name := "toString", desc := "()Ljava/lang/String;" } : Jvm.MethodName)).before a0 Z = true := hw _ (List.mem_of_getElem? (i := 56) rfl)
theorem w57 {a0 : Array Value} {Z : State} (hw : HW a0 Z) : (Jvm.Cond.instanceMethod ({ cls := "java/lang/String", name := "toString", desc := "()Ljava/lang/String;" } : Jvm.MethodName)).before a0 Z = true := hw _ (List.mem_of_getElem? (i := 57) rfl)
theorem w58 {a0 : Array Value} {Z : State} (hw : HW a0 Z) : (Jvm.Cond.publicMethod ({ cls := "java/lang/String", name := "toString", desc := "()Ljava/lang/String;" } : Jvm.MethodName)).before a0 Z = true := hw _ (List.mem_of_getElem? (i := 58) rfl)
theorem w59 {a0 : Array Value} {Z : State} (hw : HW a0 Z) : (Jvm.Cond.unhidden "java/lang/String" "toString" "()Ljava/lang/String;").before a0 Z = true := hw _ (List.mem_of_getElem? (i := 59) rfl)
theorem w60 {a0 : Array Value} {Z : State} (hw : HW a0 Z) : (Jvm.Cond.castable "java/lang/String" "java/lang/CharSequence").before a0 Z = true := hw _ (List.mem_of_getElem? (i := 60) rfl)
theorem w61 {a0 : Array Value} {Z : State} (hw : HW a0 Z) : (Jvm.Cond.code ({ cls := "java/lang/String", name := "toString", desc := "()Ljava/lang/String;" } : Jvm.MethodName) jdk_42_method_126_code (1 : Nat) (Option.some (Jvm.ClassFile.FieldType.object "java/lang/String"))).before a0 Z = true := hw _ (List.mem_of_getElem? (i := 61) rfl)
theorem w62 {a0 : Array Value} {Z : State} (hw : HW a0 Z) : (Jvm.Cond.methodLink "java/lang/String" (711 : Nat) ({ cls := "java/lang/String", name := "indexOf", desc := "(Ljava/lang/String;)I" } : Jvm.MethodName)).before a0 Z = true := hw _ (List.mem_of_getElem? (i := 62) rfl)
theorem w63 {a0 : Array Value} {Z : State} (hw : HW a0 Z) : (Jvm.Cond.declares ({ cls := "java/lang/String", name := "indexOf", desc := "(Ljava/lang/String;)I" } : Jvm.MethodName)).before a0 Z = true := hw _ (List.mem_of_getElem? (i := 63) rfl)
theorem w64 {a0 : Array Value} {Z : State} (hw : HW a0 Z) : (Jvm.Cond.instanceMethod ({ cls := "java/lang/String", name := "indexOf", desc := "(Ljava/lang/String;)I" } : Jvm.MethodName)).before a0 Z = true := hw _ (List.mem_of_getElem? (i := 64) rfl)
theorem w65 {a0 : Array Value} {Z : State} (hw : HW a0 Z) : (Jvm.Cond.selects "java/lang/String" ({ cls := "java/lang/String", name := "indexOf", desc := "(Ljava/lang/String;)I" } : Jvm.MethodName) ({ cls := "java/lang/String", name := "indexOf", desc := "(Ljava/lang/String;)I" } : Jvm.MethodName)).before a0 Z = true := hw _ (List.mem_of_getElem? (i := 65) rfl)
theorem w66 {a0 : Array Value} {Z : State} (hw : HW a0 Z) : (Jvm.Cond.code ({ cls := "java/lang/String", name := "indexOf", desc := "(Ljava/lang/String;)I" } : Jvm.MethodName) jdk_42_method_84_code (3 : Nat) (Option.some Jvm.ClassFile.FieldType.int)).before a0 Z = true := hw _ (List.mem_of_getElem? (i := 66) rfl)
theorem w67 {a0 : Array Value} {Z : State} (hw : HW a0 Z) : (Jvm.Cond.methodLink "java/lang/String" (335 : Nat) ({ cls := "java/lang/String", name := "coder", desc := "()B" } : Jvm.MethodName)).before a0 Z = true := hw _ (List.mem_of_getElem? (i := 67) rfl)
theorem w68 {a0 : Array Value} {Z : State} (hw : HW a0 Z) : (Jvm.Cond.declares ({ cls := "java/lang/String", name := "coder", desc := "()B" } : Jvm.MethodName)).before a0 Z = true := hw _ (List.mem_of_getElem? (i := 68) rfl)
theorem w69 {a0 : Array Value} {Z : State} (hw : HW a0 Z) : (Jvm.Cond.instanceMethod ({ cls := "java/lang/String", name := "coder", desc := "()B" } : Jvm.MethodName)).before a0 Z = true := hw _ (List.mem_of_getElem? (i := 69) rfl)
theorem w70 {a0 : Array Value} {Z : State} (hw : HW a0 Z) : (Jvm.Cond.selects "java/lang/String" ({ cls := "java/lang/String", name := "coder", desc := "()B" } : Jvm.MethodName) ({ cls := "java/lang/String", name := "coder", desc := "()B" } : Jvm.MethodName)).before a0 Z = true := hw _ (List.mem_of_getElem? (i := 70) rfl)
theorem w71 {a0 : Array Value} {Z : State} (hw : HW a0 Z) : (Jvm.Cond.code ({ cls := "java/lang/String", name := "coder", desc := "()B" } : Jvm.MethodName) jdk_42_method_152_code (1 : Nat) (Option.some Jvm.ClassFile.FieldType.byte)).before a0 Z = true := hw _ (List.mem_of_getElem? (i := 71) rfl)
theorem w72 {a0 : Array Value} {Z : State} (hw : HW a0 Z) : (Jvm.Cond.methodLink "java/lang/String" (492 : Nat) ({ cls := "java/lang/String", name := "isLatin1", desc := "()Z" } : Jvm.MethodName)).before a0 Z = true := hw _ (List.mem_of_getElem? (i := 72) rfl)
theorem w73 {a0 : Array Value} {Z : State} (hw : HW a0 Z) : (Jvm.Cond.declares ({ cls := "java/lang/String", name := "isLatin1", desc := "()Z" } : Jvm.MethodName)).before a0 Z = true := hw _ (List.mem_of_getElem? (i := 73) rfl)
theorem w74 {a0 : Array Value} {Z : State} (hw : HW a0 Z) : (Jvm.Cond.instanceMethod ({ cls := "java/lang/String", name := "isLatin1", desc := "()Z" } : Jvm.MethodName)).before a0 Z = true := hw _ (List.mem_of_getElem? (i := 74) rfl)
theorem w75 {a0 : Array Value} {Z : State} (hw : HW a0 Z) : (Jvm.Cond.selects "java/lang/String" ({ cls := "java/lang/String", name := "isLatin1", desc := "()Z" } : Jvm.MethodName) ({ cls := "java/lang/String", name := "isLatin1", desc := "()Z" } : Jvm.MethodName)).before a0 Z = true := hw _ (List.mem_of_getElem? (i := 75) rfl)
theorem w76 {a0 : Array Value} {Z : State} (hw : HW a0 Z) : (Jvm.Cond.code ({ cls := "java/lang/String", name := "isLatin1", desc := "()Z" } : Jvm.MethodName) jdk_42_method_154_code (1 : Nat) (Option.some Jvm.ClassFile.FieldType.boolean)).before a0 Z = true := hw _ (List.mem_of_getElem? (i := 76) rfl)
theorem w77 {a0 : Array Value} {Z : State} (hw : HW a0 Z) : (Jvm.Cond.methodLink "java/lang/String" (647 : Nat) ({ cls := "java/lang/StringLatin1", name := "indexOf", desc := "([B[B)I" } : Jvm.MethodName)).before a0 Z = true := hw _ (List.mem_of_getElem? (i := 77) rfl)
theorem w78 {a0 : Array Value} {Z : State} (hw : HW a0 Z) : (Jvm.Cond.static ({ cls := "java/lang/StringLatin1", name := "indexOf", desc := "([B[B)I" } : Jvm.MethodName)).before a0 Z = true := hw _ (List.mem_of_getElem? (i := 78) rfl)
theorem w79 {a0 : Array Value} {Z : State} (hw : HW a0 Z) : (Jvm.Cond.initialized "java/lang/StringLatin1").before a0 Z = true := hw _ (List.mem_of_getElem? (i := 79) rfl)
theorem w80 {a0 : Array Value} {Z : State} (hw : HW a0 Z) : (Jvm.Cond.code ({ cls := "java/lang/StringLatin1", name := "indexOf", desc := "([B[B)I" } : Jvm.MethodName) jdk_43_method_24_code (2 : Nat) (Option.some Jvm.ClassFile.FieldType.int)).before a0 Z = true := hw _ (List.mem_of_getElem? (i := 80) rfl)
theorem w81 {a0 : Array Value} {Z : State} (hw : HW a0 Z) : (Jvm.Cond.methodLink "java/lang/StringLatin1" (99 : Nat) ({ cls := "java/lang/StringLatin1", name := "indexOf", desc := "([BI[BII)I" } : Jvm.MethodName)).before a0 Z = true := hw _ (List.mem_of_getElem? (i := 81) rfl)
theorem w82 {a0 : Array Value} {Z : State} (hw : HW a0 Z) : (Jvm.Cond.static ({ cls := "java/lang/StringLatin1", name := "indexOf", desc := "([BI[BII)I" } : Jvm.MethodName)).before a0 Z = true := hw _ (List.mem_of_getElem? (i := 82) rfl)
theorem w83 {a0 : Array Value} {Z : State} (hw : HW a0 Z) : (Jvm.Cond.code ({ cls := "java/lang/StringLatin1", name := "indexOf", desc := "([BI[BII)I" } : Jvm.MethodName) jdk_43_method_25_code (11 : Nat) (Option.some Jvm.ClassFile.FieldType.int)).before a0 Z = true := hw _ (List.mem_of_getElem? (i := 83) rfl)
theorem w84 {a0 : Array Value} {Z : State} (hw : HW a0 Z) : (Jvm.Cond.classLink "com/example/tugas/tugas/store/Listing" (30 : Nat) "java/lang/StringBuilder").before a0 Z = true := hw _ (List.mem_of_getElem? (i := 84) rfl)
theorem w85 {a0 : Array Value} {Z : State} (hw : HW a0 Z) : (Jvm.Cond.instantiable "java/lang/StringBuilder" (4 : Nat)).before a0 Z = true := hw _ (List.mem_of_getElem? (i := 85) rfl)
theorem w86 {a0 : Array Value} {Z : State} (hw : HW a0 Z) : (Jvm.Cond.initialized "java/lang/StringBuilder").before a0 Z = true := hw _ (List.mem_of_getElem? (i := 86) rfl)
theorem w87 {a0 : Array Value} {Z : State} (hw : HW a0 Z) : (Jvm.Cond.methodLink "com/example/tugas/tugas/store/Listing" (32 : Nat) ({ cls := "java/lang/StringBuilder", name := "<init>", desc := "()V" } : Jvm.MethodName)).before a0 Z = true := hw _ (List.mem_of_getElem? (i := 87) rfl)
theorem w88 {a0 : Array Value} {Z : State} (hw : HW a0 Z) : (Jvm.Cond.instanceMethod ({ cls := "java/lang/StringBuilder", name := "<init>", desc := "()V" } : Jvm.MethodName)).before a0 Z = true := hw _ (List.mem_of_getElem? (i := 88) rfl)
theorem w89 {a0 : Array Value} {Z : State} (hw : HW a0 Z) : (Jvm.Cond.code ({ cls := "java/lang/StringBuilder", name := "<init>", desc := "()V" } : Jvm.MethodName) jdk_67_method_1_code (1 : Nat) (Option.none : Option Jvm.ClassFile.FieldType)).before a0 Z = true := hw _ (List.mem_of_getElem? (i := 89) rfl)
theorem w90 {a0 : Array Value} {Z : State} (hw : HW a0 Z) : (Jvm.Cond.methodLink "java/lang/StringBuilder" (1 : Nat) ({ cls := "java/lang/AbstractStringBuilder", name := "<init>", desc := "(I)V" } : Jvm.MethodName)).before a0 Z = true := hw _ (List.mem_of_getElem? (i := 90) rfl)
theorem w91 {a0 : Array Value} {Z : State} (hw : HW a0 Z) : (Jvm.Cond.instanceMethod ({ cls := "java/lang/AbstractStringBuilder", name := "<init>", desc := "(I)V" } : Jvm.MethodName)).before a0 Z = true := hw _ (List.mem_of_getElem? (i := 91) rfl)
theorem w94 {a0 : Array Value} {Z : State} (hw : HW a0 Z) : (Jvm.Cond.initialized "java/lang/AbstractStringBuilder").before a0 Z = true := hw _ (List.mem_of_getElem? (i := 94) rfl)
theorem w95 {a0 : Array Value} {Z : State} (hw : HW a0 Z) : (Jvm.Cond.code ({ cls := "java/lang/AbstractStringBuilder", name := "<init>", desc := "(I)V" } : Jvm.MethodName) jdk_68_method_2_code (2 : Nat) (Option.none : Option Jvm.ClassFile.FieldType)).before a0 Z = true := hw _ (List.mem_of_getElem? (i := 95) rfl)
theorem w96 {a0 : Array Value} {Z : State} (hw : HW a0 Z) : (Jvm.Cond.methodLink "java/lang/AbstractStringBuilder" (3 : Nat) ({ cls := "java/lang/Object", name := "<init>", desc := "()V" } : Jvm.MethodName)).before a0 Z = true := hw _ (List.mem_of_getElem? (i := 96) rfl)
theorem w97 {a0 : Array Value} {Z : State} (hw : HW a0 Z) : (Jvm.Cond.fieldLink "java/lang/AbstractStringBuilder" (18 : Nat) "java/lang/String" "COMPACT_STRINGS" "Z").before a0 Z = true := hw _ (List.mem_of_getElem? (i := 97) rfl)
theorem w98 {a0 : Array Value} {Z : State} (hw : HW a0 Z) : (Jvm.Cond.fieldLink "java/lang/AbstractStringBuilder" (15 : Nat) "java/lang/AbstractStringBuilder" "value" "[B").before a0 Z = true := hw _ (List.mem_of_getElem? (i := 98) rfl)
theorem w99 {a0 : Array Value} {Z : State} (hw : HW a0 Z) : (Jvm.Cond.lays "java/lang/StringBuilder" "java/lang/AbstractStringBuilder" "value" "[B").before a0 Z = true := hw _ (List.mem_of_getElem? (i := 99) rfl)
theorem w100 {a0 : Array Value} {Z : State} (hw : HW a0 Z) : (Jvm.Cond.fieldLink "java/lang/AbstractStringBuilder" (22 : Nat) "java/lang/AbstractStringBuilder" "coder" "B").before a0 Z = true := hw _ (List.mem_of_getElem? (i := 100) rfl)
theorem w101 {a0 : Array Value} {Z : State} (hw : HW a0 Z) : (Jvm.Cond.lays "java/lang/StringBuilder" "java/lang/AbstractStringBuilder" "coder" "B").before a0 Z = true := hw _ (List.mem_of_getElem? (i := 101) rfl)
theorem w102 {a0 : Array Value} {Z : State} (hw : HW a0 Z) : (Jvm.Cond.methodLink "com/example/tugas/tugas/store/Listing" (33 : Nat) ({ cls := "java/lang/StringBuilder", name := "append", desc := "(Ljava/lang/String;)Ljava/lang/StringBuilder;" } : Jvm.MethodName)).before a0 Z = true := hw _ (List.mem_of_getElem? (i := 102) rfl)
theorem w103 {a0 : Array Value} {Z : State} (hw : HW a0 Z) : (Jvm.Cond.declares ({ cls := "java/lang/StringBuilder", name := "append", desc := "(Ljava/lang/String;)Ljava/lang/StringBuilder;" } : Jvm.MethodName)).before a0 Z = true := hw _ (List.mem_of_getElem? (i := 103) rfl)
theorem w104 {a0 : Array Value} {Z : State} (hw : HW a0 Z) : (Jvm.Cond.instanceMethod ({ cls := "java/lang/StringBuilder", name := "append", desc := "(Ljava/lang/String;)Ljava/lang/StringBuilder;" } : Jvm.MethodName)).before a0 Z = true := hw _ (List.mem_of_getElem? (i := 104) rfl)
theorem w105 {a0 : Array Value} {Z : State} (hw : HW a0 Z) : (Jvm.Cond.selects "java/lang/StringBuilder" ({ cls := "java/lang/StringBuilder", name := "append", desc := "(Ljava/lang/String;)Ljava/lang/StringBuilder;" } : Jvm.MethodName) ({ cls := "java/lang/StringBuilder", name := "append", desc := "(Ljava/lang/String;)Ljava/lang/StringBuilder;" } : Jvm.MethodName)).before a0 Z = true := hw _ (List.mem_of_getElem? (i := 105) rfl)
theorem w106 {a0 : Array Value} {Z : State} (hw : HW a0 Z) : (Jvm.Cond.code ({ cls := "java/lang/StringBuilder", name := "append", desc := "(Ljava/lang/String;)Ljava/lang/StringBuilder;" } : Jvm.MethodName) jdk_67_method_7_code (2 : Nat) (Option.some (Jvm.ClassFile.FieldType.object "java/lang/StringBuilder"))).before a0 Z = true := hw _ (List.mem_of_getElem? (i := 106) rfl)
theorem w107 {a0 : Array Value} {Z : State} (hw : HW a0 Z) : (Jvm.Cond.methodLink "java/lang/StringBuilder" (29 : Nat) ({ cls := "java/lang/AbstractStringBuilder", name := "append", desc := "(Ljava/lang/String;)Ljava/lang/AbstractStringBuilder;" } : Jvm.MethodName)).before a0 Z = true := hw _ (List.mem_of_getElem? (i := 107) rfl)
theorem w108 {a0 : Array Value} {Z : State} (hw : HW a0 Z) : (Jvm.Cond.instanceMethod ({ cls := "java/lang/AbstractStringBuilder", name := "append", desc := "(Ljava/lang/String;)Ljava/lang/AbstractStringBuilder;" } : Jvm.MethodName)).before a0 Z = true := hw _ (List.mem_of_getElem? (i := 108) rfl)
theorem w109 {a0 : Array Value} {Z : State} (hw : HW a0 Z) : (Jvm.Cond.superclass "java/lang/StringBuilder" "java/lang/AbstractStringBuilder").before a0 Z = true := hw _ (List.mem_of_getElem? (i := 109) rfl)
theorem w111 {a0 : Array Value} {Z : State} (hw : HW a0 Z) : (Jvm.Cond.code ({ cls := "java/lang/AbstractStringBuilder", name := "append", desc := "(Ljava/lang/String;)Ljava/lang/AbstractStringBuilder;" } : Jvm.MethodName) jdk_68_method_22_code (3 : Nat) (Option.some (Jvm.ClassFile.FieldType.object "java/lang/AbstractStringBuilder"))).before a0 Z = true := hw _ (List.mem_of_getElem? (i := 111) rfl)
theorem w112 {a0 : Array Value} {Z : State} (hw : HW a0 Z) : (Jvm.Cond.methodLink "java/lang/AbstractStringBuilder" (32 : Nat) ({ cls := "java/lang/String", name := "length", desc := "()I" } : Jvm.MethodName)).before a0 Z = true := hw _ (List.mem_of_getElem? (i := 112) rfl)
theorem w113 {a0 : Array Value} {Z : State} (hw : HW a0 Z) : (Jvm.Cond.declares ({ cls := "java/lang/String", name := "length", desc := "()I" } : Jvm.MethodName)).before a0 Z = true := hw _ (List.mem_of_getElem? (i := 113) rfl)
theorem w114 {a0 : Array Value} {Z : State} (hw : HW a0 Z) : (Jvm.Cond.instanceMethod ({ cls := "java/lang/String", name := "length", desc := "()I" } : Jvm.MethodName)).before a0 Z = true := hw _ (List.mem_of_getElem? (i := 114) rfl)
theorem w115 {a0 : Array Value} {Z : State} (hw : HW a0 Z) : (Jvm.Cond.selects "java/lang/String" ({ cls := "java/lang/String", name := "length", desc := "()I" } : Jvm.MethodName) ({ cls := "java/lang/String", name := "length", desc := "()I" } : Jvm.MethodName)).before a0 Z = true := hw _ (List.mem_of_getElem? (i := 115) rfl)
theorem w116 {a0 : Array Value} {Z : State} (hw : HW a0 Z) : (Jvm.Cond.code ({ cls := "java/lang/String", name := "length", desc := "()I" } : Jvm.MethodName) jdk_42_method_54_code (1 : Nat) (Option.some Jvm.ClassFile.FieldType.int)).before a0 Z = true := hw _ (List.mem_of_getElem? (i := 116) rfl)
theorem w117 {a0 : Array Value} {Z : State} (hw : HW a0 Z) : (Jvm.Cond.fieldLink "java/lang/AbstractStringBuilder" (79 : Nat) "java/lang/AbstractStringBuilder" "count" "I").before a0 Z = true := hw _ (List.mem_of_getElem? (i := 117) rfl)
theorem w118 {a0 : Array Value} {Z : State} (hw : HW a0 Z) : (Jvm.Cond.lays "java/lang/StringBuilder" "java/lang/AbstractStringBuilder" "count" "I").before a0 Z = true := hw _ (List.mem_of_getElem? (i := 118) rfl)
theorem w119 {a0 : Array Value} {Z : State} (hw : HW a0 Z) : (Jvm.Cond.methodLink "java/lang/AbstractStringBuilder" (100 : Nat) ({ cls := "java/lang/AbstractStringBuilder", name := "ensureCapacityInternal", desc := "(I)V" } : Jvm.MethodName)).before a0 Z = true := hw _ (List.mem_of_getElem? (i := 119) rfl)
theorem w120 {a0 : Array Value} {Z : State} (hw : HW a0 Z) : (Jvm.Cond.instanceMethod ({ cls := "java/lang/AbstractStringBuilder", name := "ensureCapacityInternal", desc := "(I)V" } : Jvm.MethodName)).before a0 Z = true := hw _ (List.mem_of_getElem? (i := 120) rfl)
theorem w121 {a0 : Array Value} {Z : State} (hw : HW a0 Z) : (Jvm.Cond.privateMethod ({ cls := "java/lang/AbstractStringBuilder", name := "ensureCapacityInternal", desc := "(I)V" } : Jvm.MethodName)).before a0 Z = true := hw _ (List.mem_of_getElem? (i := 121) rfl)
theorem w122 {a0 : Array Value} {Z : State} (hw : HW a0 Z) : (Jvm.Cond.selects "java/lang/StringBuilder" ({ cls := "java/lang/AbstractStringBuilder", name := "ensureCapacityInternal", desc := "(I)V" } : Jvm.MethodName) ({ cls := "java/lang/AbstractStringBuilder", name := "ensureCapacityInternal", desc := "(I)V" } : Jvm.MethodName)).before a0 Z = true := hw _ (List.mem_of_getElem? (i := 122) rfl)
theorem w123 {a0 : Array Value} {Z : State} (hw : HW a0 Z) : (Jvm.Cond.code ({ cls := "java/lang/AbstractStringBuilder", name := "ensureCapacityInternal", desc := "(I)V" } : Jvm.MethodName) jdk_68_method_9_code (3 : Nat) (Option.none : Option Jvm.ClassFile.FieldType)).before a0 Z = true := hw _ (List.mem_of_getElem? (i := 123) rfl)
theorem w124 {a0 : Array Value} {Z : State} (hw : HW a0 Z) : (Jvm.Cond.methodLink "java/lang/AbstractStringBuilder" (208 : Nat) ({ cls := "java/lang/AbstractStringBuilder", name := "putStringAt", desc := "(ILjava/lang/String;)V" } : Jvm.MethodName)).before a0 Z = true := hw _ (List.mem_of_getElem? (i := 124) rfl)
theorem w125 {a0 : Array Value} {Z : State} (hw : HW a0 Z) : (Jvm.Cond.instanceMethod ({ cls := "java/lang/AbstractStringBuilder", name := "putStringAt", desc := "(ILjava/lang/String;)V" } : Jvm.MethodName)).before a0 Z = true := hw _ (List.mem_of_getElem? (i := 125) rfl)
theorem w126 {a0 : Array Value} {Z : State} (hw : HW a0 Z) : (Jvm.Cond.privateMethod ({ cls := "java/lang/AbstractStringBuilder", name := "putStringAt", desc := "(ILjava/lang/String;)V" } : Jvm.MethodName)).before a0 Z = true := hw _ (List.mem_of_getElem? (i := 126) rfl)
theorem w127 {a0 : Array Value} {Z : State} (hw : HW a0 Z) : (Jvm.Cond.selects "java/lang/StringBuilder" ({ cls := "java/lang/AbstractStringBuilder", name := "putStringAt", desc := "(ILjava/lang/String;)V" } : Jvm.MethodName) ({ cls := "java/lang/AbstractStringBuilder", name := "putStringAt", desc := "(ILjava/lang/String;)V" } : Jvm.MethodName)).before a0 Z = true := hw _ (List.mem_of_getElem? (i := 127) rfl)
theorem w128 {a0 : Array Value} {Z : State} (hw : HW a0 Z) : (Jvm.Cond.code ({ cls := "java/lang/AbstractStringBuilder", name := "putStringAt", desc := "(ILjava/lang/String;)V" } : Jvm.MethodName) jdk_68_method_73_code (3 : Nat) (Option.none : Option Jvm.ClassFile.FieldType)).before a0 Z = true := hw _ (List.mem_of_getElem? (i := 128) rfl)
theorem w129 {a0 : Array Value} {Z : State} (hw : HW a0 Z) : (Jvm.Cond.methodLink "java/lang/AbstractStringBuilder" (397 : Nat) ({ cls := "java/lang/AbstractStringBuilder", name := "inflateIfNeededFor", desc := "(Ljava/lang/String;)V" } : Jvm.MethodName)).before a0 Z = true := hw _ (List.mem_of_getElem? (i := 129) rfl)
theorem w130 {a0 : Array Value} {Z : State} (hw : HW a0 Z) : (Jvm.Cond.instanceMethod ({ cls := "java/lang/AbstractStringBuilder", name := "inflateIfNeededFor", desc := "(Ljava/lang/String;)V" } : Jvm.MethodName)).before a0 Z = true := hw _ (List.mem_of_getElem? (i := 130) rfl)
theorem w131 {a0 : Array Value} {Z : State} (hw : HW a0 Z) : (Jvm.Cond.privateMethod ({ cls := "java/lang/AbstractStringBuilder", name := "inflateIfNeededFor", desc := "(Ljava/lang/String;)V" } : Jvm.MethodName)).before a0 Z = true := hw _ (List.mem_of_getElem? (i := 131) rfl)
theorem w132 {a0 : Array Value} {Z : State} (hw : HW a0 Z) : (Jvm.Cond.selects "java/lang/StringBuilder" ({ cls := "java/lang/AbstractStringBuilder", name := "inflateIfNeededFor", desc := "(Ljava/lang/String;)V" } : Jvm.MethodName) ({ cls := "java/lang/AbstractStringBuilder", name := "inflateIfNeededFor", desc := "(Ljava/lang/String;)V" } : Jvm.MethodName)).before a0 Z = true := hw _ (List.mem_of_getElem? (i := 132) rfl)
theorem w133 {a0 : Array Value} {Z : State} (hw : HW a0 Z) : (Jvm.Cond.code ({ cls := "java/lang/AbstractStringBuilder", name := "inflateIfNeededFor", desc := "(Ljava/lang/String;)V" } : Jvm.MethodName) jdk_68_method_71_code (2 : Nat) (Option.none : Option Jvm.ClassFile.FieldType)).before a0 Z = true := hw _ (List.mem_of_getElem? (i := 133) rfl)
theorem w134 {a0 : Array Value} {Z : State} (hw : HW a0 Z) : (Jvm.Cond.methodLink "java/lang/AbstractStringBuilder" (40 : Nat) ({ cls := "java/lang/String", name := "coder", desc := "()B" } : Jvm.MethodName)).before a0 Z = true := hw _ (List.mem_of_getElem? (i := 134) rfl)
theorem w135 {a0 : Array Value} {Z : State} (hw : HW a0 Z) : (Jvm.Cond.methodLink "java/lang/AbstractStringBuilder" (399 : Nat) ({ cls := "java/lang/String", name := "getBytes", desc := "([BIB)V" } : Jvm.MethodName)).before a0 Z = true := hw _ (List.mem_of_getElem? (i := 135) rfl)
theorem w136 {a0 : Array Value} {Z : State} (hw : HW a0 Z) : (Jvm.Cond.declares ({ cls := "java/lang/String", name := "getBytes", desc := "([BIB)V" } : Jvm.MethodName)).before a0 Z = true := hw _ (List.mem_of_getElem? (i := 136) rfl)
theorem w137 {a0 : Array Value} {Z : State} (hw : HW a0 Z) : (Jvm.Cond.instanceMethod ({ cls := "java/lang/String", name := "getBytes", desc := "([BIB)V" } : Jvm.MethodName)).before a0 Z = true := hw _ (List.mem_of_getElem? (i := 137) rfl)
theorem w138 {a0 : Array Value} {Z : State} (hw : HW a0 Z) : (Jvm.Cond.selects "java/lang/String" ({ cls := "java/lang/String", name := "getBytes", desc := "([BIB)V" } : Jvm.MethodName) ({ cls := "java/lang/String", name := "getBytes", desc := "([BIB)V" } : Jvm.MethodName)).before a0 Z = true := hw _ (List.mem_of_getElem? (i := 138) rfl)
theorem w139 {a0 : Array Value} {Z : State} (hw : HW a0 Z) : (Jvm.Cond.code ({ cls := "java/lang/String", name := "getBytes", desc := "([BIB)V" } : Jvm.MethodName) jdk_42_method_147_code (4 : Nat) (Option.none : Option Jvm.ClassFile.FieldType)).before a0 Z = true := hw _ (List.mem_of_getElem? (i := 139) rfl)
theorem w140 {a0 : Array Value} {Z : State} (hw : HW a0 Z) : (Jvm.Cond.methodLink "java/lang/String" (212 : Nat) ({ cls := "java/lang/System", name := "arraycopy", desc := "(Ljava/lang/Object;ILjava/lang/Object;II)V" } : Jvm.MethodName)).before a0 Z = true := hw _ (List.mem_of_getElem? (i := 140) rfl)
theorem w141 {a0 : Array Value} {Z : State} (hw : HW a0 Z) : (Jvm.Cond.static ({ cls := "java/lang/System", name := "arraycopy", desc := "(Ljava/lang/Object;ILjava/lang/Object;II)V" } : Jvm.MethodName)).before a0 Z = true := hw _ (List.mem_of_getElem? (i := 141) rfl)
theorem w142 {a0 : Array Value} {Z : State} (hw : HW a0 Z) : (Jvm.Cond.initialized "java/lang/System").before a0 Z = true := hw _ (List.mem_of_getElem? (i := 142) rfl)
theorem w143 {a0 : Array Value} {Z : State} (hw : HW a0 Z) : (Jvm.Cond.native ({ cls := "java/lang/System", name := "arraycopy", desc := "(Ljava/lang/Object;ILjava/lang/Object;II)V" } : Jvm.MethodName)).before a0 Z = true := hw _ (List.mem_of_getElem? (i := 143) rfl)
theorem w144 {a0 : Array Value} {Z : State} (hw : HW a0 Z) : (Jvm.Cond.stringLink "com/example/tugas/tugas/store/Listing" (37 : Nat) "listed").before a0 Z = true := hw _ (List.mem_of_getElem? (i := 144) rfl)
theorem w145 {a0 : Array Value} {Z : State} (hw : HW a0 Z) : (Jvm.Cond.methodLink "java/lang/AbstractStringBuilder" (104 : Nat) ({ cls := "java/lang/AbstractStringBuilder", name := "newCapacity", desc := "(I)I" } : Jvm.MethodName)).before a0 Z = true := hw _ (List.mem_of_getElem? (i := 145) rfl)
theorem w146 {a0 : Array Value} {Z : State} (hw : HW a0 Z) : (Jvm.Cond.instanceMethod ({ cls := "java/lang/AbstractStringBuilder", name := "newCapacity", desc := "(I)I" } : Jvm.MethodName)).before a0 Z = true := hw _ (List.mem_of_getElem? (i := 146) rfl)
theorem w147 {a0 : Array Value} {Z : State} (hw : HW a0 Z) : (Jvm.Cond.privateMethod ({ cls := "java/lang/AbstractStringBuilder", name := "newCapacity", desc := "(I)I" } : Jvm.MethodName)).before a0 Z = true := hw _ (List.mem_of_getElem? (i := 147) rfl)
theorem w148 {a0 : Array Value} {Z : State} (hw : HW a0 Z) : (Jvm.Cond.selects "java/lang/StringBuilder" ({ cls := "java/lang/AbstractStringBuilder", name := "newCapacity", desc := "(I)I" } : Jvm.MethodName) ({ cls := "java/lang/AbstractStringBuilder", name := "newCapacity", desc := "(I)I" } : Jvm.MethodName)).before a0 Z = true := hw _ (List.mem_of_getElem? (i := 148) rfl)
theorem w149 {a0 : Array Value} {Z : State} (hw : HW a0 Z) : (Jvm.Cond.code ({ cls := "java/lang/AbstractStringBuilder", name := "newCapacity", desc := "(I)I" } : Jvm.MethodName) jdk_68_method_10_code (6 : Nat) (Option.some Jvm.ClassFile.FieldType.int)).before a0 Z = true := hw _ (List.mem_of_getElem? (i := 149) rfl)
theorem w150 {a0 : Array Value} {Z : State} (hw : HW a0 Z) : (Jvm.Cond.methodLink "java/lang/AbstractStringBuilder" (114 : Nat) ({ cls := "jdk/internal/util/ArraysSupport", name := "newLength", desc := "(III)I" } : Jvm.MethodName)).before a0 Z = true := hw _ (List.mem_of_getElem? (i := 150) rfl)
theorem w151 {a0 : Array Value} {Z : State} (hw : HW a0 Z) : (Jvm.Cond.static ({ cls := "jdk/internal/util/ArraysSupport", name := "newLength", desc := "(III)I" } : Jvm.MethodName)).before a0 Z = true := hw _ (List.mem_of_getElem? (i := 151) rfl)
theorem w152 {a0 : Array Value} {Z : State} (hw : HW a0 Z) : (Jvm.Cond.initialized "jdk/internal/util/ArraysSupport").before a0 Z = true := hw _ (List.mem_of_getElem? (i := 152) rfl)
theorem w153 {a0 : Array Value} {Z : State} (hw : HW a0 Z) : (Jvm.Cond.code ({ cls := "jdk/internal/util/ArraysSupport", name := "newLength", desc := "(III)I" } : Jvm.MethodName) jdk_48_method_27_code (4 : Nat) (Option.some Jvm.ClassFile.FieldType.int)).before a0 Z = true := hw _ (List.mem_of_getElem? (i := 153) rfl)
theorem w154 {a0 : Array Value} {Z : State} (hw : HW a0 Z) : (Jvm.Cond.methodLink "jdk/internal/util/ArraysSupport" (194 : Nat) ({ cls := "java/lang/Math", name := "max", desc := "(II)I" } : Jvm.MethodName)).before a0 Z = true := hw _ (List.mem_of_getElem? (i := 154) rfl)
theorem w155 {a0 : Array Value} {Z : State} (hw : HW a0 Z) : (Jvm.Cond.static ({ cls := "java/lang/Math", name := "max", desc := "(II)I" } : Jvm.MethodName)).before a0 Z = true := hw _ (List.mem_of_getElem? (i := 155) rfl)
theorem w156 {a0 : Array Value} {Z : State} (hw : HW a0 Z) : (Jvm.Cond.initialized "java/lang/Math").before a0 Z = true := hw _ (List.mem_of_getElem? (i := 156) rfl)
theorem w157 {a0 : Array Value} {Z : State} (hw : HW a0 Z) : (Jvm.Cond.code ({ cls := "java/lang/Math", name := "max", desc := "(II)I" } : Jvm.MethodName) jdk_29_method_65_code (2 : Nat) (Option.some Jvm.ClassFile.FieldType.int)).before a0 Z = true := hw _ (List.mem_of_getElem? (i := 157) rfl)
theorem w158 {a0 : Array Value} {Z : State} (hw : HW a0 Z) : (Jvm.Cond.constant "jdk/internal/util/ArraysSupport" (200 : Nat) (2147483639 : Int32)).before a0 Z = true := hw _ (List.mem_of_getElem? (i := 158) rfl)
theorem w159 {a0 : Array Value} {Z : State} (hw : HW a0 Z) : (Jvm.Cond.constant "java/lang/AbstractStringBuilder" (39 : Nat) (2147483647 : Int32)).before a0 Z = true := hw _ (List.mem_of_getElem? (i := 159) rfl)
theorem w160 {a0 : Array Value} {Z : State} (hw : HW a0 Z) : (Jvm.Cond.methodLink "java/lang/AbstractStringBuilder" (108 : Nat) ({ cls := "java/util/Arrays", name := "copyOf", desc := "([BI)[B" } : Jvm.MethodName)).before a0 Z = true := hw _ (List.mem_of_getElem? (i := 160) rfl)
theorem w161 {a0 : Array Value} {Z : State} (hw : HW a0 Z) : (Jvm.Cond.static ({ cls := "java/util/Arrays", name := "copyOf", desc := "([BI)[B" } : Jvm.MethodName)).before a0 Z = true := hw _ (List.mem_of_getElem? (i := 161) rfl)
theorem w162 {a0 : Array Value} {Z : State} (hw : HW a0 Z) : (Jvm.Cond.initialized "java/util/Arrays").before a0 Z = true := hw _ (List.mem_of_getElem? (i := 162) rfl)
theorem w163 {a0 : Array Value} {Z : State} (hw : HW a0 Z) : (Jvm.Cond.code ({ cls := "java/util/Arrays", name := "copyOf", desc := "([BI)[B" } : Jvm.MethodName) jdk_65_method_121_code (3 : Nat) (Option.some (Jvm.ClassFile.FieldType.array Jvm.ClassFile.FieldType.byte))).before a0 Z = true := hw _ (List.mem_of_getElem? (i := 163) rfl)
theorem w164 {a0 : Array Value} {Z : State} (hw : HW a0 Z) : (Jvm.Cond.methodLink "java/util/Arrays" (304 : Nat) ({ cls := "java/lang/Math", name := "min", desc := "(II)I" } : Jvm.MethodName)).before a0 Z = true := hw _ (List.mem_of_getElem? (i := 164) rfl)
theorem w165 {a0 : Array Value} {Z : State} (hw : HW a0 Z) : (Jvm.Cond.static ({ cls := "java/lang/Math", name := "min", desc := "(II)I" } : Jvm.MethodName)).before a0 Z = true := hw _ (List.mem_of_getElem? (i := 165) rfl)
theorem w166 {a0 : Array Value} {Z : State} (hw : HW a0 Z) : (Jvm.Cond.code ({ cls := "java/lang/Math", name := "min", desc := "(II)I" } : Jvm.MethodName) jdk_29_method_69_code (2 : Nat) (Option.some Jvm.ClassFile.FieldType.int)).before a0 Z = true := hw _ (List.mem_of_getElem? (i := 166) rfl)
theorem w167 {a0 : Array Value} {Z : State} (hw : HW a0 Z) : (Jvm.Cond.methodLink "java/util/Arrays" (150 : Nat) ({ cls := "java/lang/System", name := "arraycopy", desc := "(Ljava/lang/Object;ILjava/lang/Object;II)V" } : Jvm.MethodName)).before a0 Z = true := hw _ (List.mem_of_getElem? (i := 167) rfl)
theorem w168 {a0 : Array Value} {Z : State} (hw : HW a0 Z) : (Jvm.Cond.methodLink "com/example/tugas/tugas/store/Listing" (39 : Nat) ({ cls := "java/lang/StringBuilder", name := "toString", desc := "()Ljava/lang/String;" } : Jvm.MethodName)).before a0 Z = true := hw _ (List.mem_of_getElem? (i := 168) rfl)
theorem w169 {a0 : Array Value} {Z : State} (hw : HW a0 Z) : (Jvm.Cond.declares ({ cls := "java/lang/StringBuilder", name := "toString", desc := "()Ljava/lang/String;" } : Jvm.MethodName)).before a0 Z = true := hw _ (List.mem_of_getElem? (i := 169) rfl)
theorem w170 {a0 : Array Value} {Z : State} (hw : HW a0 Z) : (Jvm.Cond.instanceMethod ({ cls := "java/lang/StringBuilder", name := "toString", desc := "()Ljava/lang/String;" } : Jvm.MethodName)).before a0 Z = true := hw _ (List.mem_of_getElem? (i := 170) rfl)
theorem w171 {a0 : Array Value} {Z : State} (hw : HW a0 Z) : (Jvm.Cond.selects "java/lang/StringBuilder" ({ cls := "java/lang/StringBuilder", name := "toString", desc := "()Ljava/lang/String;" } : Jvm.MethodName) ({ cls := "java/lang/StringBuilder", name := "toString", desc := "()Ljava/lang/String;" } : Jvm.MethodName)).before a0 Z = true := hw _ (List.mem_of_getElem? (i := 171) rfl)
theorem w172 {a0 : Array Value} {Z : State} (hw : HW a0 Z) : (Jvm.Cond.code ({ cls := "java/lang/StringBuilder", name := "toString", desc := "()Ljava/lang/String;" } : Jvm.MethodName) jdk_67_method_42_code (1 : Nat) (Option.some (Jvm.ClassFile.FieldType.object "java/lang/String"))).before a0 Z = true := hw _ (List.mem_of_getElem? (i := 172) rfl)
theorem w173 {a0 : Array Value} {Z : State} (hw : HW a0 Z) : (Jvm.Cond.classLink "java/lang/StringBuilder" (18 : Nat) "java/lang/String").before a0 Z = true := hw _ (List.mem_of_getElem? (i := 173) rfl)
theorem w174 {a0 : Array Value} {Z : State} (hw : HW a0 Z) : (Jvm.Cond.methodLink "java/lang/StringBuilder" (137 : Nat) ({ cls := "java/lang/String", name := "<init>", desc := "(Ljava/lang/StringBuilder;)V" } : Jvm.MethodName)).before a0 Z = true := hw _ (List.mem_of_getElem? (i := 174) rfl)
theorem w175 {a0 : Array Value} {Z : State} (hw : HW a0 Z) : (Jvm.Cond.instanceMethod ({ cls := "java/lang/String", name := "<init>", desc := "(Ljava/lang/StringBuilder;)V" } : Jvm.MethodName)).before a0 Z = true := hw _ (List.mem_of_getElem? (i := 175) rfl)
theorem w176 {a0 : Array Value} {Z : State} (hw : HW a0 Z) : (Jvm.Cond.code ({ cls := "java/lang/String", name := "<init>", desc := "(Ljava/lang/StringBuilder;)V" } : Jvm.MethodName) jdk_42_method_53_code (2 : Nat) (Option.none : Option Jvm.ClassFile.FieldType)).before a0 Z = true := hw _ (List.mem_of_getElem? (i := 176) rfl)
theorem w177 {a0 : Array Value} {Z : State} (hw : HW a0 Z) : (Jvm.Cond.methodLink "java/lang/String" (489 : Nat) ({ cls := "java/lang/String", name := "<init>", desc := "(Ljava/lang/AbstractStringBuilder;Ljava/lang/Void;)V" } : Jvm.MethodName)).before a0 Z = true := hw _ (List.mem_of_getElem? (i := 177) rfl)
theorem w178 {a0 : Array Value} {Z : State} (hw : HW a0 Z) : (Jvm.Cond.instanceMethod ({ cls := "java/lang/String", name := "<init>", desc := "(Ljava/lang/AbstractStringBuilder;Ljava/lang/Void;)V" } : Jvm.MethodName)).before a0 Z = true := hw _ (List.mem_of_getElem? (i := 178) rfl)
theorem w179 {a0 : Array Value} {Z : State} (hw : HW a0 Z) : (Jvm.Cond.code ({ cls := "java/lang/String", name := "<init>", desc := "(Ljava/lang/AbstractStringBuilder;Ljava/lang/Void;)V" } : Jvm.MethodName) jdk_42_method_150_code (5 : Nat) (Option.none : Option Jvm.ClassFile.FieldType)).before a0 Z = true := hw _ (List.mem_of_getElem? (i := 179) rfl)
theorem w180 {a0 : Array Value} {Z : State} (hw : HW a0 Z) : (Jvm.Cond.methodLink "java/lang/String" (552 : Nat) ({ cls := "java/lang/AbstractStringBuilder", name := "getValue", desc := "()[B" } : Jvm.MethodName)).before a0 Z = true := hw _ (List.mem_of_getElem? (i := 180) rfl)
theorem w181 {a0 : Array Value} {Z : State} (hw : HW a0 Z) : (Jvm.Cond.declares ({ cls := "java/lang/AbstractStringBuilder", name := "getValue", desc := "()[B" } : Jvm.MethodName)).before a0 Z = true := hw _ (List.mem_of_getElem? (i := 181) rfl)
theorem w182 {a0 : Array Value} {Z : State} (hw : HW a0 Z) : (Jvm.Cond.instanceMethod ({ cls := "java/lang/AbstractStringBuilder", name := "getValue", desc := "()[B" } : Jvm.MethodName)).before a0 Z = true := hw _ (List.mem_of_getElem? (i := 182) rfl)
theorem w183 {a0 : Array Value} {Z : State} (hw : HW a0 Z) : (Jvm.Cond.selects "java/lang/StringBuilder" ({ cls := "java/lang/AbstractStringBuilder", name := "getValue", desc := "()[B" } : Jvm.MethodName) ({ cls := "java/lang/AbstractStringBuilder", name := "getValue", desc := "()[B" } : Jvm.MethodName)).before a0 Z = true := hw _ (List.mem_of_getElem? (i := 183) rfl)
theorem w184 {a0 : Array Value} {Z : State} (hw : HW a0 Z) : (Jvm.Cond.code ({ cls := "java/lang/AbstractStringBuilder", name := "getValue", desc := "()[B" } : Jvm.MethodName) jdk_68_method_64_code (1 : Nat) (Option.some (Jvm.ClassFile.FieldType.array Jvm.ClassFile.FieldType.byte))).before a0 Z = true := hw _ (List.mem_of_getElem? (i := 184) rfl)
theorem w185 {a0 : Array Value} {Z : State} (hw : HW a0 Z) : (Jvm.Cond.methodLink "java/lang/String" (549 : Nat) ({ cls := "java/lang/AbstractStringBuilder", name := "length", desc := "()I" } : Jvm.MethodName)).before a0 Z = true := hw _ (List.mem_of_getElem? (i := 185) rfl)
theorem w186 {a0 : Array Value} {Z : State} (hw : HW a0 Z) : (Jvm.Cond.declares ({ cls := "java/lang/AbstractStringBuilder", name := "length", desc := "()I" } : Jvm.MethodName)).before a0 Z = true := hw _ (List.mem_of_getElem? (i := 186) rfl)
theorem w187 {a0 : Array Value} {Z : State} (hw : HW a0 Z) : (Jvm.Cond.instanceMethod ({ cls := "java/lang/AbstractStringBuilder", name := "length", desc := "()I" } : Jvm.MethodName)).before a0 Z = true := hw _ (List.mem_of_getElem? (i := 187) rfl)
theorem w188 {a0 : Array Value} {Z : State} (hw : HW a0 Z) : (Jvm.Cond.selects "java/lang/StringBuilder" ({ cls := "java/lang/AbstractStringBuilder", name := "length", desc := "()I" } : Jvm.MethodName) ({ cls := "java/lang/StringBuilder", name := "length", desc := "()I" } : Jvm.MethodName)).before a0 Z = true := hw _ (List.mem_of_getElem? (i := 188) rfl)
theorem w189 {a0 : Array Value} {Z : State} (hw : HW a0 Z) : (Jvm.Cond.instanceMethod ({ cls := "java/lang/StringBuilder", name := "length", desc := "()I" } : Jvm.MethodName)).before a0 Z = true := hw _ (List.mem_of_getElem? (i := 189) rfl)
theorem w190 {a0 : Array Value} {Z : State} (hw : HW a0 Z) : (Jvm.Cond.code ({ cls := "java/lang/StringBuilder", name := "length", desc := "()I" } : Jvm.MethodName) jdk_67_method_93_code (1 : Nat) (Option.some Jvm.ClassFile.FieldType.int)).before a0 Z = true := hw _ (List.mem_of_getElem? (i := 190) rfl)
theorem w191 {a0 : Array Value} {Z : State} (hw : HW a0 Z) : (Jvm.Cond.methodLink "java/lang/StringBuilder" (343 : Nat) ({ cls := "java/lang/AbstractStringBuilder", name := "length", desc := "()I" } : Jvm.MethodName)).before a0 Z = true := hw _ (List.mem_of_getElem? (i := 191) rfl)
theorem w192 {a0 : Array Value} {Z : State} (hw : HW a0 Z) : (Jvm.Cond.code ({ cls := "java/lang/AbstractStringBuilder", name := "length", desc := "()I" } : Jvm.MethodName) jdk_68_method_6_code (1 : Nat) (Option.some Jvm.ClassFile.FieldType.int)).before a0 Z = true := hw _ (List.mem_of_getElem? (i := 192) rfl)
theorem w193 {a0 : Array Value} {Z : State} (hw : HW a0 Z) : (Jvm.Cond.methodLink "java/lang/String" (1047 : Nat) ({ cls := "java/lang/AbstractStringBuilder", name := "isLatin1", desc := "()Z" } : Jvm.MethodName)).before a0 Z = true := hw _ (List.mem_of_getElem? (i := 193) rfl)
theorem w194 {a0 : Array Value} {Z : State} (hw : HW a0 Z) : (Jvm.Cond.declares ({ cls := "java/lang/AbstractStringBuilder", name := "isLatin1", desc := "()Z" } : Jvm.MethodName)).before a0 Z = true := hw _ (List.mem_of_getElem? (i := 194) rfl)
theorem w195 {a0 : Array Value} {Z : State} (hw : HW a0 Z) : (Jvm.Cond.instanceMethod ({ cls := "java/lang/AbstractStringBuilder", name := "isLatin1", desc := "()Z" } : Jvm.MethodName)).before a0 Z = true := hw _ (List.mem_of_getElem? (i := 195) rfl)
theorem w196 {a0 : Array Value} {Z : State} (hw : HW a0 Z) : (Jvm.Cond.selects "java/lang/StringBuilder" ({ cls := "java/lang/AbstractStringBuilder", name := "isLatin1", desc := "()Z" } : Jvm.MethodName) ({ cls := "java/lang/AbstractStringBuilder", name := "isLatin1", desc := "()Z" } : Jvm.MethodName)).before a0 Z = true := hw _ (List.mem_of_getElem? (i := 196) rfl)
theorem w197 {a0 : Array Value} {Z : State} (hw : HW a0 Z) : (Jvm.Cond.code ({ cls := "java/lang/AbstractStringBuilder", name := "isLatin1", desc := "()Z" } : Jvm.MethodName) jdk_68_method_68_code (1 : Nat) (Option.some Jvm.ClassFile.FieldType.boolean)).before a0 Z = true := hw _ (List.mem_of_getElem? (i := 197) rfl)
theorem w198 {a0 : Array Value} {Z : State} (hw : HW a0 Z) : (Jvm.Cond.methodLink "java/lang/String" (54 : Nat) ({ cls := "java/util/Arrays", name := "copyOfRange", desc := "([BII)[B" } : Jvm.MethodName)).before a0 Z = true := hw _ (List.mem_of_getElem? (i := 198) rfl)
theorem w199 {a0 : Array Value} {Z : State} (hw : HW a0 Z) : (Jvm.Cond.static ({ cls := "java/util/Arrays", name := "copyOfRange", desc := "([BII)[B" } : Jvm.MethodName)).before a0 Z = true := hw _ (List.mem_of_getElem? (i := 199) rfl)
theorem w200 {a0 : Array Value} {Z : State} (hw : HW a0 Z) : (Jvm.Cond.code ({ cls := "java/util/Arrays", name := "copyOfRange", desc := "([BII)[B" } : Jvm.MethodName) jdk_65_method_132_code (3 : Nat) (Option.some (Jvm.ClassFile.FieldType.array Jvm.ClassFile.FieldType.byte))).before a0 Z = true := hw _ (List.mem_of_getElem? (i := 200) rfl)
theorem w201 {a0 : Array Value} {Z : State} (hw : HW a0 Z) : (Jvm.Cond.methodLink "java/util/Arrays" (339 : Nat) ({ cls := "java/util/Arrays", name := "copyOfRangeByte", desc := "([BII)[B" } : Jvm.MethodName)).before a0 Z = true := hw _ (List.mem_of_getElem? (i := 201) rfl)
theorem w202 {a0 : Array Value} {Z : State} (hw : HW a0 Z) : (Jvm.Cond.static ({ cls := "java/util/Arrays", name := "copyOfRangeByte", desc := "([BII)[B" } : Jvm.MethodName)).before a0 Z = true := hw _ (List.mem_of_getElem? (i := 202) rfl)
theorem w203 {a0 : Array Value} {Z : State} (hw : HW a0 Z) : (Jvm.Cond.code ({ cls := "java/util/Arrays", name := "copyOfRangeByte", desc := "([BII)[B" } : Jvm.MethodName) jdk_65_method_133_code (5 : Nat) (Option.some (Jvm.ClassFile.FieldType.array Jvm.ClassFile.FieldType.byte))).before a0 Z = true := hw _ (List.mem_of_getElem? (i := 203) rfl)
theorem w204 {a0 : Array Value} {Z : State} (hw : HW a0 Z) : (Jvm.Cond.methodLink "java/util/Arrays" (343 : Nat) ({ cls := "java/util/Arrays", name := "checkLength", desc := "(II)V" } : Jvm.MethodName)).before a0 Z = true := hw _ (List.mem_of_getElem? (i := 204) rfl)
theorem w205 {a0 : Array Value} {Z : State} (hw : HW a0 Z) : (Jvm.Cond.static ({ cls := "java/util/Arrays", name := "checkLength", desc := "(II)V" } : Jvm.MethodName)).before a0 Z = true := hw _ (List.mem_of_getElem? (i := 205) rfl)
theorem w206 {a0 : Array Value} {Z : State} (hw : HW a0 Z) : (Jvm.Cond.code ({ cls := "java/util/Arrays", name := "checkLength", desc := "(II)V" } : Jvm.MethodName) jdk_65_method_131_code (2 : Nat) (Option.none : Option Jvm.ClassFile.FieldType)).before a0 Z = true := hw _ (List.mem_of_getElem? (i := 206) rfl)
theorem w207 {a0 : Array Value} {Z : State} (hw : HW a0 Z) : (Jvm.Cond.methodLink "com/example/tugas/tugas/store/ListingListedOnlyPinLaw" (40 : Nat) ({ cls := "java/lang/String", name := "equals", desc := "(Ljava/lang/Object;)Z" } : Jvm.MethodName)).before a0 Z = true := hw _ (List.mem_of_getElem? (i := 207) rfl)
theorem w208 {a0 : Array Value} {Z : State} (hw : HW a0 Z) : (Jvm.Cond.declares ({ cls := "java/lang/String", name := "equals", desc := "(Ljava/lang/Object;)Z" } : Jvm.MethodName)).before a0 Z = true := hw _ (List.mem_of_getElem? (i := 208) rfl)
theorem w209 {a0 : Array Value} {Z : State} (hw : HW a0 Z) : (Jvm.Cond.instanceMethod ({ cls := "java/lang/String", name := "equals", desc := "(Ljava/lang/Object;)Z" } : Jvm.MethodName)).before a0 Z = true := hw _ (List.mem_of_getElem? (i := 209) rfl)
theorem w210 {a0 : Array Value} {Z : State} (hw : HW a0 Z) : (Jvm.Cond.selects "java/lang/String" ({ cls := "java/lang/String", name := "equals", desc := "(Ljava/lang/Object;)Z" } : Jvm.MethodName) ({ cls := "java/lang/String", name := "equals", desc := "(Ljava/lang/Object;)Z" } : Jvm.MethodName)).before a0 Z = true := hw _ (List.mem_of_getElem? (i := 210) rfl)
theorem w216 {a0 : Array Value} {Z : State} (hw : HW a0 Z) : (Jvm.Cond.stringLink "com/example/tugas/tugas/store/ListingListedOnlyPinLaw" (9 : Nat) " WHERE ").before a0 Z = true := hw _ (List.mem_of_getElem? (i := 216) rfl)
theorem w217 {a0 : Array Value} {Z : State} (hw : HW a0 Z) : (Jvm.Cond.methodLink "com/example/tugas/tugas/store/ListingListedOnlyPinLaw" (11 : Nat) ({ cls := "java/lang/String", name := "charAt", desc := "(I)C" } : Jvm.MethodName)).before a0 Z = true := hw _ (List.mem_of_getElem? (i := 217) rfl)
theorem w218 {a0 : Array Value} {Z : State} (hw : HW a0 Z) : (Jvm.Cond.declares ({ cls := "java/lang/String", name := "charAt", desc := "(I)C" } : Jvm.MethodName)).before a0 Z = true := hw _ (List.mem_of_getElem? (i := 218) rfl)
theorem w219 {a0 : Array Value} {Z : State} (hw : HW a0 Z) : (Jvm.Cond.instanceMethod ({ cls := "java/lang/String", name := "charAt", desc := "(I)C" } : Jvm.MethodName)).before a0 Z = true := hw _ (List.mem_of_getElem? (i := 219) rfl)
theorem w220 {a0 : Array Value} {Z : State} (hw : HW a0 Z) : (Jvm.Cond.selects "java/lang/String" ({ cls := "java/lang/String", name := "charAt", desc := "(I)C" } : Jvm.MethodName) ({ cls := "java/lang/String", name := "charAt", desc := "(I)C" } : Jvm.MethodName)).before a0 Z = true := hw _ (List.mem_of_getElem? (i := 220) rfl)
theorem w233 {a0 : Array Value} {Z : State} (hw : HW a0 Z) : (Jvm.Cond.stringLink "com/example/tugas/tugas/store/Listing" (28 : Nat) " AND ").before a0 Z = true := hw _ (List.mem_of_getElem? (i := 233) rfl)
theorem d1_0 : decode method_2_code 0 = .ok (.lload_n 3, 1) := by decide +kernel
theorem d1_1 : decode method_2_code 1 = .ok (.bipush 8, 2) := by decide +kernel
theorem d1_3 : decode method_2_code 3 = .ok (.iload_n 0, 1) := by decide +kernel
theorem d1_4 : decode method_2_code 4 = .ok (.imul, 1) := by decide +kernel
theorem d1_5 : decode method_2_code 5 = .ok (.lushr, 1) := by decide +kernel
theorem d1_6 : decode method_2_code 6 = .ok (.ldc2_w 7, 3) := by decide +kernel
theorem d1_9 : decode method_2_code 9 = .ok (.land, 1) := by decide +kernel
theorem d1_10 : decode method_2_code 10 = .ok (.l2i, 1) := by decide +kernel
theorem d1_11 : decode method_2_code 11 = .ok (.i2c, 1) := by decide +kernel
theorem d1_12 : decode method_2_code 12 = .ok (.istore 5, 2) := by decide +kernel
theorem d1_14 : decode method_2_code 14 = .ok (.iload_n 0, 1) := by decide +kernel
theorem d1_15 : decode method_2_code 15 = .ok (.iload_n 1, 1) := by decide +kernel
theorem d1_16 : decode method_2_code 16 = .ok (.isub, 1) := by decide +kernel
theorem d1_17 : decode method_2_code 17 = .ok (.istore 6, 2) := by decide +kernel
theorem d1_19 : decode method_2_code 19 = .ok (.iload_n 2, 1) := by decide +kernel
theorem d1_20 : decode method_2_code 20 = .ok (.bipush 9, 2) := by decide +kernel
theorem d1_22 : decode method_2_code 22 = .ok (.iushr, 1) := by decide +kernel
theorem d1_23 : decode method_2_code 23 = .ok (.iconst 1, 1) := by decide +kernel
theorem d1_24 : decode method_2_code 24 = .ok (.iand, 1) := by decide +kernel
theorem d1_25 : decode method_2_code 25 = .ok (.ifCond .ne 11, 3) := by decide +kernel
theorem d1_28 : decode method_2_code 28 = .ok (.iload_n 2, 1) := by decide +kernel
theorem d1_29 : decode method_2_code 29 = .ok (.iload_n 0, 1) := by decide +kernel
theorem d1_30 : decode method_2_code 30 = .ok (.iushr, 1) := by decide +kernel
theorem d1_31 : decode method_2_code 31 = .ok (.iconst 1, 1) := by decide +kernel
theorem d1_32 : decode method_2_code 32 = .ok (.iand, 1) := by decide +kernel
theorem d1_33 : decode method_2_code 33 = .ok (.ifCond .eq 7, 3) := by decide +kernel
theorem d1_36 : decode method_2_code 36 = .ok (.iconst 1, 1) := by decide +kernel
theorem d1_37 : decode method_2_code 37 = .ok (.goto 4, 3) := by decide +kernel
theorem d1_40 : decode method_2_code 40 = .ok (.iconst 0, 1) := by decide +kernel
theorem d1_41 : decode method_2_code 41 = .ok (.istore 7, 2) := by decide +kernel
theorem d1_43 : decode method_2_code 43 = .ok (.iload 7, 2) := by decide +kernel
theorem d1_45 : decode method_2_code 45 = .ok (.ifCond .eq 23, 3) := by decide +kernel
theorem d1_48 : decode method_2_code 48 = .ok (.iload 6, 2) := by decide +kernel
theorem d1_50 : decode method_2_code 50 = .ok (.ifCond .lt 18, 3) := by decide +kernel
theorem d1_53 : decode method_2_code 53 = .ok (.iload 6, 2) := by decide +kernel
theorem d1_55 : decode method_2_code 55 = .ok (.bipush 7, 2) := by decide +kernel
theorem d1_57 : decode method_2_code 57 = .ok (.if_icmp .ge 11, 3) := by decide +kernel
theorem d1_60 : decode method_2_code 60 = .ok (.ldc 9, 2) := by decide +kernel
theorem d1_62 : decode method_2_code 62 = .ok (.iload 6, 2) := by decide +kernel
theorem d1_64 : decode method_2_code 64 = .ok (.invokevirtual 11, 3) := by decide +kernel
theorem d1_67 : decode method_2_code 67 = .ok (.ireturn, 1) := by decide +kernel
theorem d1_68 : decode method_2_code 68 = .ok (.iload 5, 2) := by decide +kernel
theorem d1_70 : decode method_2_code 70 = .ok (.ireturn, 1) := by decide +kernel
theorem d2_0 : decode method_3_code 0 = .ok (.aload_n 0, 1) := by decide +kernel
theorem d2_1 : decode method_3_code 1 = .ok (.iload_n 1, 1) := by decide +kernel
theorem d2_2 : decode method_3_code 2 = .ok (.caload, 1) := by decide +kernel
theorem d2_3 : decode method_3_code 3 = .ok (.bipush 32, 2) := by decide +kernel
theorem d2_5 : decode method_3_code 5 = .ok (.if_icmp .ne 68, 3) := by decide +kernel
theorem d2_8 : decode method_3_code 8 = .ok (.aload_n 0, 1) := by decide +kernel
theorem d2_9 : decode method_3_code 9 = .ok (.iload_n 1, 1) := by decide +kernel
theorem d2_10 : decode method_3_code 10 = .ok (.iconst 1, 1) := by decide +kernel
theorem d2_11 : decode method_3_code 11 = .ok (.iadd, 1) := by decide +kernel
theorem d2_12 : decode method_3_code 12 = .ok (.caload, 1) := by decide +kernel
theorem d2_13 : decode method_3_code 13 = .ok (.bipush 87, 2) := by decide +kernel
theorem d2_15 : decode method_3_code 15 = .ok (.if_icmp .ne 58, 3) := by decide +kernel
theorem d2_18 : decode method_3_code 18 = .ok (.aload_n 0, 1) := by decide +kernel
theorem d2_19 : decode method_3_code 19 = .ok (.iload_n 1, 1) := by decide +kernel
theorem d2_20 : decode method_3_code 20 = .ok (.iconst 2, 1) := by decide +kernel
theorem d2_21 : decode method_3_code 21 = .ok (.iadd, 1) := by decide +kernel
theorem d2_22 : decode method_3_code 22 = .ok (.caload, 1) := by decide +kernel
theorem d2_23 : decode method_3_code 23 = .ok (.bipush 72, 2) := by decide +kernel
theorem d2_25 : decode method_3_code 25 = .ok (.if_icmp .ne 48, 3) := by decide +kernel
theorem d2_28 : decode method_3_code 28 = .ok (.aload_n 0, 1) := by decide +kernel
theorem d2_29 : decode method_3_code 29 = .ok (.iload_n 1, 1) := by decide +kernel
theorem d2_30 : decode method_3_code 30 = .ok (.iconst 3, 1) := by decide +kernel
theorem d2_31 : decode method_3_code 31 = .ok (.iadd, 1) := by decide +kernel
theorem d2_32 : decode method_3_code 32 = .ok (.caload, 1) := by decide +kernel
theorem d2_33 : decode method_3_code 33 = .ok (.bipush 69, 2) := by decide +kernel
theorem d2_35 : decode method_3_code 35 = .ok (.if_icmp .ne 38, 3) := by decide +kernel
theorem d2_38 : decode method_3_code 38 = .ok (.aload_n 0, 1) := by decide +kernel
theorem d2_39 : decode method_3_code 39 = .ok (.iload_n 1, 1) := by decide +kernel
theorem d2_40 : decode method_3_code 40 = .ok (.iconst 4, 1) := by decide +kernel
theorem d2_41 : decode method_3_code 41 = .ok (.iadd, 1) := by decide +kernel
theorem d2_42 : decode method_3_code 42 = .ok (.caload, 1) := by decide +kernel
theorem d2_43 : decode method_3_code 43 = .ok (.bipush 82, 2) := by decide +kernel
theorem d2_45 : decode method_3_code 45 = .ok (.if_icmp .ne 28, 3) := by decide +kernel
theorem d2_48 : decode method_3_code 48 = .ok (.aload_n 0, 1) := by decide +kernel
theorem d2_49 : decode method_3_code 49 = .ok (.iload_n 1, 1) := by decide +kernel
theorem d2_50 : decode method_3_code 50 = .ok (.iconst 5, 1) := by decide +kernel
theorem d2_51 : decode method_3_code 51 = .ok (.iadd, 1) := by decide +kernel
theorem d2_52 : decode method_3_code 52 = .ok (.caload, 1) := by decide +kernel
theorem d2_53 : decode method_3_code 53 = .ok (.bipush 69, 2) := by decide +kernel
theorem d2_55 : decode method_3_code 55 = .ok (.if_icmp .ne 18, 3) := by decide +kernel
theorem d2_58 : decode method_3_code 58 = .ok (.aload_n 0, 1) := by decide +kernel
theorem d2_59 : decode method_3_code 59 = .ok (.iload_n 1, 1) := by decide +kernel
theorem d2_60 : decode method_3_code 60 = .ok (.bipush 6, 2) := by decide +kernel
theorem d2_62 : decode method_3_code 62 = .ok (.iadd, 1) := by decide +kernel
theorem d2_63 : decode method_3_code 63 = .ok (.caload, 1) := by decide +kernel
theorem d2_64 : decode method_3_code 64 = .ok (.bipush 32, 2) := by decide +kernel
theorem d2_66 : decode method_3_code 66 = .ok (.if_icmp .ne 7, 3) := by decide +kernel
theorem d2_69 : decode method_3_code 69 = .ok (.iconst 1, 1) := by decide +kernel
theorem d2_70 : decode method_3_code 70 = .ok (.goto 4, 3) := by decide +kernel
theorem d2_73 : decode method_3_code 73 = .ok (.iconst 0, 1) := by decide +kernel
theorem d2_74 : decode method_3_code 74 = .ok (.ireturn, 1) := by decide +kernel
theorem d3_0 : decode method_4_code 0 = .ok (.aload_n 0, 1) := by decide +kernel
theorem d3_1 : decode method_4_code 1 = .ok (.iload_n 1, 1) := by decide +kernel
theorem d3_2 : decode method_4_code 2 = .ok (.bipush 108, 2) := by decide +kernel
theorem d3_4 : decode method_4_code 4 = .ok (.castore, 1) := by decide +kernel
theorem d3_5 : decode method_4_code 5 = .ok (.aload_n 0, 1) := by decide +kernel
theorem d3_6 : decode method_4_code 6 = .ok (.iload_n 1, 1) := by decide +kernel
theorem d3_7 : decode method_4_code 7 = .ok (.iconst 1, 1) := by decide +kernel
theorem d3_8 : decode method_4_code 8 = .ok (.iadd, 1) := by decide +kernel
theorem d3_9 : decode method_4_code 9 = .ok (.bipush 105, 2) := by decide +kernel
theorem d3_11 : decode method_4_code 11 = .ok (.castore, 1) := by decide +kernel
theorem d3_12 : decode method_4_code 12 = .ok (.aload_n 0, 1) := by decide +kernel
theorem d3_13 : decode method_4_code 13 = .ok (.iload_n 1, 1) := by decide +kernel
theorem d3_14 : decode method_4_code 14 = .ok (.iconst 2, 1) := by decide +kernel
theorem d3_15 : decode method_4_code 15 = .ok (.iadd, 1) := by decide +kernel
theorem d3_16 : decode method_4_code 16 = .ok (.bipush 115, 2) := by decide +kernel
theorem d3_18 : decode method_4_code 18 = .ok (.castore, 1) := by decide +kernel
theorem d3_19 : decode method_4_code 19 = .ok (.aload_n 0, 1) := by decide +kernel
theorem d3_20 : decode method_4_code 20 = .ok (.iload_n 1, 1) := by decide +kernel
theorem d3_21 : decode method_4_code 21 = .ok (.iconst 3, 1) := by decide +kernel
theorem d3_22 : decode method_4_code 22 = .ok (.iadd, 1) := by decide +kernel
theorem d3_23 : decode method_4_code 23 = .ok (.bipush 116, 2) := by decide +kernel
theorem d3_25 : decode method_4_code 25 = .ok (.castore, 1) := by decide +kernel
theorem d3_26 : decode method_4_code 26 = .ok (.aload_n 0, 1) := by decide +kernel
theorem d3_27 : decode method_4_code 27 = .ok (.iload_n 1, 1) := by decide +kernel
theorem d3_28 : decode method_4_code 28 = .ok (.iconst 4, 1) := by decide +kernel
theorem d3_29 : decode method_4_code 29 = .ok (.iadd, 1) := by decide +kernel
theorem d3_30 : decode method_4_code 30 = .ok (.bipush 101, 2) := by decide +kernel
theorem d3_32 : decode method_4_code 32 = .ok (.castore, 1) := by decide +kernel
theorem d3_33 : decode method_4_code 33 = .ok (.aload_n 0, 1) := by decide +kernel
theorem d3_34 : decode method_4_code 34 = .ok (.iload_n 1, 1) := by decide +kernel
theorem d3_35 : decode method_4_code 35 = .ok (.iconst 5, 1) := by decide +kernel
theorem d3_36 : decode method_4_code 36 = .ok (.iadd, 1) := by decide +kernel
theorem d3_37 : decode method_4_code 37 = .ok (.bipush 100, 2) := by decide +kernel
theorem d3_39 : decode method_4_code 39 = .ok (.castore, 1) := by decide +kernel
theorem d3_40 : decode method_4_code 40 = .ok (.return_, 1) := by decide +kernel
theorem d10_0 : decode prog_46_method_2_code 0 = .ok (.aload_n 0, 1) := by decide +kernel
theorem d10_1 : decode prog_46_method_2_code 1 = .ok (.ldc 20, 2) := by decide +kernel
theorem d10_3 : decode prog_46_method_2_code 3 = .ok (.invokevirtual 22, 3) := by decide +kernel
theorem d10_6 : decode prog_46_method_2_code 6 = .ok (.ifCond .eq 8, 3) := by decide +kernel
theorem d10_9 : decode prog_46_method_2_code 9 = .ok (.ldc 28, 2) := by decide +kernel
theorem d10_11 : decode prog_46_method_2_code 11 = .ok (.goto 5, 3) := by decide +kernel
theorem d10_14 : decode prog_46_method_2_code 14 = .ok (.ldc 20, 2) := by decide +kernel
theorem d10_16 : decode prog_46_method_2_code 16 = .ok (.astore_n 1, 1) := by decide +kernel
theorem d10_17 : decode prog_46_method_2_code 17 = .ok (.new 30, 3) := by decide +kernel
theorem d10_20 : decode prog_46_method_2_code 20 = .ok (.dup, 1) := by decide +kernel
theorem d10_21 : decode prog_46_method_2_code 21 = .ok (.invokespecial 32, 3) := by decide +kernel
theorem d10_24 : decode prog_46_method_2_code 24 = .ok (.aload_n 0, 1) := by decide +kernel
theorem d10_25 : decode prog_46_method_2_code 25 = .ok (.invokevirtual 33, 3) := by decide +kernel
theorem d10_28 : decode prog_46_method_2_code 28 = .ok (.aload_n 1, 1) := by decide +kernel
theorem d10_29 : decode prog_46_method_2_code 29 = .ok (.invokevirtual 33, 3) := by decide +kernel
theorem d10_32 : decode prog_46_method_2_code 32 = .ok (.ldc 37, 2) := by decide +kernel
theorem d10_34 : decode prog_46_method_2_code 34 = .ok (.invokevirtual 33, 3) := by decide +kernel
theorem d10_37 : decode prog_46_method_2_code 37 = .ok (.invokevirtual 39, 3) := by decide +kernel
theorem d10_40 : decode prog_46_method_2_code 40 = .ok (.areturn, 1) := by decide +kernel
theorem d11_0 : decode jdk_42_method_97_code 0 = .ok (.aload_n 0, 1) := by decide +kernel
theorem d11_1 : decode jdk_42_method_97_code 1 = .ok (.aload_n 1, 1) := by decide +kernel
theorem d11_2 : decode jdk_42_method_97_code 2 = .ok (.invokeinterface 710 1, 5) := by decide +kernel
theorem d11_7 : decode jdk_42_method_97_code 7 = .ok (.invokevirtual 711, 3) := by decide +kernel
theorem d11_10 : decode jdk_42_method_97_code 10 = .ok (.ifCond .lt 7, 3) := by decide +kernel
theorem d11_13 : decode jdk_42_method_97_code 13 = .ok (.iconst 1, 1) := by decide +kernel
theorem d11_14 : decode jdk_42_method_97_code 14 = .ok (.goto 4, 3) := by decide +kernel
theorem d11_17 : decode jdk_42_method_97_code 17 = .ok (.iconst 0, 1) := by decide +kernel
theorem d11_18 : decode jdk_42_method_97_code 18 = .ok (.ireturn, 1) := by decide +kernel
theorem d12_0 : decode jdk_42_method_126_code 0 = .ok (.aload_n 0, 1) := by decide +kernel
theorem d12_1 : decode jdk_42_method_126_code 1 = .ok (.areturn, 1) := by decide +kernel
theorem d13_0 : decode jdk_42_method_84_code 0 = .ok (.aload_n 0, 1) := by decide +kernel
theorem d13_1 : decode jdk_42_method_84_code 1 = .ok (.invokevirtual 335, 3) := by decide +kernel
theorem d13_4 : decode jdk_42_method_84_code 4 = .ok (.istore_n 2, 1) := by decide +kernel
theorem d13_5 : decode jdk_42_method_84_code 5 = .ok (.iload_n 2, 1) := by decide +kernel
theorem d13_6 : decode jdk_42_method_84_code 6 = .ok (.aload_n 1, 1) := by decide +kernel
theorem d13_7 : decode jdk_42_method_84_code 7 = .ok (.invokevirtual 335, 3) := by decide +kernel
theorem d13_10 : decode jdk_42_method_84_code 10 = .ok (.if_icmp .ne 36, 3) := by decide +kernel
theorem d13_13 : decode jdk_42_method_84_code 13 = .ok (.aload_n 0, 1) := by decide +kernel
theorem d13_14 : decode jdk_42_method_84_code 14 = .ok (.invokevirtual 492, 3) := by decide +kernel
theorem d13_17 : decode jdk_42_method_84_code 17 = .ok (.ifCond .eq 17, 3) := by decide +kernel
theorem d13_20 : decode jdk_42_method_84_code 20 = .ok (.aload_n 0, 1) := by decide +kernel
theorem d13_21 : decode jdk_42_method_84_code 21 = .ok (.getfield 9, 3) := by decide +kernel
theorem d13_24 : decode jdk_42_method_84_code 24 = .ok (.aload_n 1, 1) := by decide +kernel
theorem d13_25 : decode jdk_42_method_84_code 25 = .ok (.getfield 9, 3) := by decide +kernel
theorem d13_28 : decode jdk_42_method_84_code 28 = .ok (.invokestatic 647, 3) := by decide +kernel
theorem d13_31 : decode jdk_42_method_84_code 31 = .ok (.goto 14, 3) := by decide +kernel
theorem d13_45 : decode jdk_42_method_84_code 45 = .ok (.ireturn, 1) := by decide +kernel
theorem d14_0 : decode jdk_42_method_152_code 0 = .ok (.getstatic 38, 3) := by decide +kernel
theorem d14_3 : decode jdk_42_method_152_code 3 = .ok (.ifCond .eq 10, 3) := by decide +kernel
theorem d14_6 : decode jdk_42_method_152_code 6 = .ok (.aload_n 0, 1) := by decide +kernel
theorem d14_7 : decode jdk_42_method_152_code 7 = .ok (.getfield 15, 3) := by decide +kernel
theorem d14_10 : decode jdk_42_method_152_code 10 = .ok (.goto 4, 3) := by decide +kernel
theorem d14_14 : decode jdk_42_method_152_code 14 = .ok (.ireturn, 1) := by decide +kernel
theorem d15_0 : decode jdk_42_method_154_code 0 = .ok (.getstatic 38, 3) := by decide +kernel
theorem d15_3 : decode jdk_42_method_154_code 3 = .ok (.ifCond .eq 14, 3) := by decide +kernel
theorem d15_6 : decode jdk_42_method_154_code 6 = .ok (.aload_n 0, 1) := by decide +kernel
theorem d15_7 : decode jdk_42_method_154_code 7 = .ok (.getfield 15, 3) := by decide +kernel
theorem d15_10 : decode jdk_42_method_154_code 10 = .ok (.ifCond .ne 7, 3) := by decide +kernel
theorem d15_13 : decode jdk_42_method_154_code 13 = .ok (.iconst 1, 1) := by decide +kernel
theorem d15_14 : decode jdk_42_method_154_code 14 = .ok (.goto 4, 3) := by decide +kernel
theorem d15_18 : decode jdk_42_method_154_code 18 = .ok (.ireturn, 1) := by decide +kernel
theorem d16_0 : decode jdk_43_method_24_code 0 = .ok (.aload_n 1, 1) := by decide +kernel
theorem d16_1 : decode jdk_43_method_24_code 1 = .ok (.arraylength, 1) := by decide +kernel
theorem d16_2 : decode jdk_43_method_24_code 2 = .ok (.ifCond .ne 5, 3) := by decide +kernel
theorem d16_7 : decode jdk_43_method_24_code 7 = .ok (.aload_n 0, 1) := by decide +kernel
theorem d16_8 : decode jdk_43_method_24_code 8 = .ok (.arraylength, 1) := by decide +kernel
theorem d16_9 : decode jdk_43_method_24_code 9 = .ok (.ifCond .ne 5, 3) := by decide +kernel
theorem d16_14 : decode jdk_43_method_24_code 14 = .ok (.aload_n 0, 1) := by decide +kernel
theorem d16_15 : decode jdk_43_method_24_code 15 = .ok (.aload_n 0, 1) := by decide +kernel
theorem d16_16 : decode jdk_43_method_24_code 16 = .ok (.arraylength, 1) := by decide +kernel
theorem d16_17 : decode jdk_43_method_24_code 17 = .ok (.aload_n 1, 1) := by decide +kernel
theorem d16_18 : decode jdk_43_method_24_code 18 = .ok (.aload_n 1, 1) := by decide +kernel
theorem d16_19 : decode jdk_43_method_24_code 19 = .ok (.arraylength, 1) := by decide +kernel
theorem d16_20 : decode jdk_43_method_24_code 20 = .ok (.iconst 0, 1) := by decide +kernel
theorem d16_21 : decode jdk_43_method_24_code 21 = .ok (.invokestatic 99, 3) := by decide +kernel
theorem d16_24 : decode jdk_43_method_24_code 24 = .ok (.ireturn, 1) := by decide +kernel
theorem d17_0 : decode jdk_43_method_25_code 0 = .ok (.aload_n 2, 1) := by decide +kernel
theorem d17_1 : decode jdk_43_method_25_code 1 = .ok (.iconst 0, 1) := by decide +kernel
theorem d17_2 : decode jdk_43_method_25_code 2 = .ok (.baload, 1) := by decide +kernel
theorem d17_3 : decode jdk_43_method_25_code 3 = .ok (.istore 5, 2) := by decide +kernel
theorem d17_5 : decode jdk_43_method_25_code 5 = .ok (.iload_n 1, 1) := by decide +kernel
theorem d17_6 : decode jdk_43_method_25_code 6 = .ok (.iload_n 3, 1) := by decide +kernel
theorem d17_7 : decode jdk_43_method_25_code 7 = .ok (.isub, 1) := by decide +kernel
theorem d17_8 : decode jdk_43_method_25_code 8 = .ok (.istore 6, 2) := by decide +kernel
theorem d17_10 : decode jdk_43_method_25_code 10 = .ok (.iload 4, 2) := by decide +kernel
theorem d17_12 : decode jdk_43_method_25_code 12 = .ok (.istore 7, 2) := by decide +kernel
theorem d17_14 : decode jdk_43_method_25_code 14 = .ok (.iload 7, 2) := by decide +kernel
theorem d17_16 : decode jdk_43_method_25_code 16 = .ok (.iload 6, 2) := by decide +kernel
theorem d17_18 : decode jdk_43_method_25_code 18 = .ok (.if_icmp .gt 101, 3) := by decide +kernel
theorem d17_21 : decode jdk_43_method_25_code 21 = .ok (.aload_n 0, 1) := by decide +kernel
theorem d17_22 : decode jdk_43_method_25_code 22 = .ok (.iload 7, 2) := by decide +kernel
theorem d17_24 : decode jdk_43_method_25_code 24 = .ok (.baload, 1) := by decide +kernel
theorem d17_25 : decode jdk_43_method_25_code 25 = .ok (.iload 5, 2) := by decide +kernel
theorem d17_27 : decode jdk_43_method_25_code 27 = .ok (.if_icmp .eq 25, 3) := by decide +kernel
theorem d17_30 : decode jdk_43_method_25_code 30 = .ok (.iinc 7 1, 3) := by decide +kernel
theorem d17_33 : decode jdk_43_method_25_code 33 = .ok (.iload 7, 2) := by decide +kernel
theorem d17_35 : decode jdk_43_method_25_code 35 = .ok (.iload 6, 2) := by decide +kernel
theorem d17_37 : decode jdk_43_method_25_code 37 = .ok (.if_icmp .gt 15, 3) := by decide +kernel
theorem d17_40 : decode jdk_43_method_25_code 40 = .ok (.aload_n 0, 1) := by decide +kernel
theorem d17_41 : decode jdk_43_method_25_code 41 = .ok (.iload 7, 2) := by decide +kernel
theorem d17_43 : decode jdk_43_method_25_code 43 = .ok (.baload, 1) := by decide +kernel
theorem d17_44 : decode jdk_43_method_25_code 44 = .ok (.iload 5, 2) := by decide +kernel
theorem d17_46 : decode jdk_43_method_25_code 46 = .ok (.if_icmp .eq 6, 3) := by decide +kernel
theorem d17_49 : decode jdk_43_method_25_code 49 = .ok (.goto (-19), 3) := by decide +kernel
theorem d17_52 : decode jdk_43_method_25_code 52 = .ok (.iload 7, 2) := by decide +kernel
theorem d17_54 : decode jdk_43_method_25_code 54 = .ok (.iload 6, 2) := by decide +kernel
theorem d17_56 : decode jdk_43_method_25_code 56 = .ok (.if_icmp .gt 57, 3) := by decide +kernel
theorem d17_59 : decode jdk_43_method_25_code 59 = .ok (.iload 7, 2) := by decide +kernel
theorem d17_61 : decode jdk_43_method_25_code 61 = .ok (.iconst 1, 1) := by decide +kernel
theorem d17_62 : decode jdk_43_method_25_code 62 = .ok (.iadd, 1) := by decide +kernel
theorem d17_63 : decode jdk_43_method_25_code 63 = .ok (.istore 8, 2) := by decide +kernel
theorem d17_65 : decode jdk_43_method_25_code 65 = .ok (.iload 8, 2) := by decide +kernel
theorem d17_67 : decode jdk_43_method_25_code 67 = .ok (.iload_n 3, 1) := by decide +kernel
theorem d17_68 : decode jdk_43_method_25_code 68 = .ok (.iadd, 1) := by decide +kernel
theorem d17_69 : decode jdk_43_method_25_code 69 = .ok (.iconst 1, 1) := by decide +kernel
theorem d17_70 : decode jdk_43_method_25_code 70 = .ok (.isub, 1) := by decide +kernel
theorem d17_71 : decode jdk_43_method_25_code 71 = .ok (.istore 9, 2) := by decide +kernel
theorem d17_73 : decode jdk_43_method_25_code 73 = .ok (.iconst 1, 1) := by decide +kernel
theorem d17_74 : decode jdk_43_method_25_code 74 = .ok (.istore 10, 2) := by decide +kernel
theorem d17_76 : decode jdk_43_method_25_code 76 = .ok (.iload 8, 2) := by decide +kernel
theorem d17_78 : decode jdk_43_method_25_code 78 = .ok (.iload 9, 2) := by decide +kernel
theorem d17_80 : decode jdk_43_method_25_code 80 = .ok (.if_icmp .ge 23, 3) := by decide +kernel
theorem d17_83 : decode jdk_43_method_25_code 83 = .ok (.aload_n 0, 1) := by decide +kernel
theorem d17_84 : decode jdk_43_method_25_code 84 = .ok (.iload 8, 2) := by decide +kernel
theorem d17_86 : decode jdk_43_method_25_code 86 = .ok (.baload, 1) := by decide +kernel
theorem d17_87 : decode jdk_43_method_25_code 87 = .ok (.aload_n 2, 1) := by decide +kernel
theorem d17_88 : decode jdk_43_method_25_code 88 = .ok (.iload 10, 2) := by decide +kernel
theorem d17_90 : decode jdk_43_method_25_code 90 = .ok (.baload, 1) := by decide +kernel
theorem d17_91 : decode jdk_43_method_25_code 91 = .ok (.if_icmp .ne 12, 3) := by decide +kernel
theorem d17_94 : decode jdk_43_method_25_code 94 = .ok (.iinc 8 1, 3) := by decide +kernel
theorem d17_97 : decode jdk_43_method_25_code 97 = .ok (.iinc 10 1, 3) := by decide +kernel
theorem d17_100 : decode jdk_43_method_25_code 100 = .ok (.goto (-24), 3) := by decide +kernel
theorem d17_103 : decode jdk_43_method_25_code 103 = .ok (.iload 8, 2) := by decide +kernel
theorem d17_105 : decode jdk_43_method_25_code 105 = .ok (.iload 9, 2) := by decide +kernel
theorem d17_107 : decode jdk_43_method_25_code 107 = .ok (.if_icmp .ne 6, 3) := by decide +kernel
theorem d17_110 : decode jdk_43_method_25_code 110 = .ok (.iload 7, 2) := by decide +kernel
theorem d17_112 : decode jdk_43_method_25_code 112 = .ok (.ireturn, 1) := by decide +kernel
theorem d17_113 : decode jdk_43_method_25_code 113 = .ok (.iinc 7 1, 3) := by decide +kernel
theorem d17_116 : decode jdk_43_method_25_code 116 = .ok (.goto (-102), 3) := by decide +kernel
theorem d17_119 : decode jdk_43_method_25_code 119 = .ok (.iconst (-1), 1) := by decide +kernel
theorem d17_120 : decode jdk_43_method_25_code 120 = .ok (.ireturn, 1) := by decide +kernel
theorem d18_0 : decode jdk_67_method_1_code 0 = .ok (.aload_n 0, 1) := by decide +kernel
theorem d18_1 : decode jdk_67_method_1_code 1 = .ok (.bipush 16, 2) := by decide +kernel
theorem d18_3 : decode jdk_67_method_1_code 3 = .ok (.invokespecial 1, 3) := by decide +kernel
theorem d18_6 : decode jdk_67_method_1_code 6 = .ok (.return_, 1) := by decide +kernel
theorem d19_0 : decode jdk_68_method_2_code 0 = .ok (.aload_n 0, 1) := by decide +kernel
theorem d19_1 : decode jdk_68_method_2_code 1 = .ok (.invokespecial 3, 3) := by decide +kernel
theorem d19_4 : decode jdk_68_method_2_code 4 = .ok (.getstatic 18, 3) := by decide +kernel
theorem d19_7 : decode jdk_68_method_2_code 7 = .ok (.ifCond .eq 18, 3) := by decide +kernel
theorem d19_10 : decode jdk_68_method_2_code 10 = .ok (.aload_n 0, 1) := by decide +kernel
theorem d19_11 : decode jdk_68_method_2_code 11 = .ok (.iload_n 1, 1) := by decide +kernel
theorem d19_12 : decode jdk_68_method_2_code 12 = .ok (.newarray .byte, 2) := by decide +kernel
theorem d19_14 : decode jdk_68_method_2_code 14 = .ok (.putfield 15, 3) := by decide +kernel
theorem d19_17 : decode jdk_68_method_2_code 17 = .ok (.aload_n 0, 1) := by decide +kernel
theorem d19_18 : decode jdk_68_method_2_code 18 = .ok (.iconst 0, 1) := by decide +kernel
theorem d19_19 : decode jdk_68_method_2_code 19 = .ok (.putfield 22, 3) := by decide +kernel
theorem d19_22 : decode jdk_68_method_2_code 22 = .ok (.goto 16, 3) := by decide +kernel
theorem d19_38 : decode jdk_68_method_2_code 38 = .ok (.return_, 1) := by decide +kernel
theorem d20_0 : decode jdk_67_method_7_code 0 = .ok (.aload_n 0, 1) := by decide +kernel
theorem d20_1 : decode jdk_67_method_7_code 1 = .ok (.aload_n 1, 1) := by decide +kernel
theorem d20_2 : decode jdk_67_method_7_code 2 = .ok (.invokespecial 29, 3) := by decide +kernel
theorem d20_5 : decode jdk_67_method_7_code 5 = .ok (.pop, 1) := by decide +kernel
theorem d20_6 : decode jdk_67_method_7_code 6 = .ok (.aload_n 0, 1) := by decide +kernel
theorem d20_7 : decode jdk_67_method_7_code 7 = .ok (.areturn, 1) := by decide +kernel
theorem d21_0 : decode jdk_68_method_22_code 0 = .ok (.aload_n 1, 1) := by decide +kernel
theorem d21_1 : decode jdk_68_method_22_code 1 = .ok (.ifnonnull 8, 3) := by decide +kernel
theorem d21_9 : decode jdk_68_method_22_code 9 = .ok (.aload_n 1, 1) := by decide +kernel
theorem d21_10 : decode jdk_68_method_22_code 10 = .ok (.invokevirtual 32, 3) := by decide +kernel
theorem d21_13 : decode jdk_68_method_22_code 13 = .ok (.istore_n 2, 1) := by decide +kernel
theorem d21_14 : decode jdk_68_method_22_code 14 = .ok (.aload_n 0, 1) := by decide +kernel
theorem d21_15 : decode jdk_68_method_22_code 15 = .ok (.aload_n 0, 1) := by decide +kernel
theorem d21_16 : decode jdk_68_method_22_code 16 = .ok (.getfield 79, 3) := by decide +kernel
theorem d21_19 : decode jdk_68_method_22_code 19 = .ok (.iload_n 2, 1) := by decide +kernel
theorem d21_20 : decode jdk_68_method_22_code 20 = .ok (.iadd, 1) := by decide +kernel
theorem d21_21 : decode jdk_68_method_22_code 21 = .ok (.invokevirtual 100, 3) := by decide +kernel
theorem d21_24 : decode jdk_68_method_22_code 24 = .ok (.aload_n 0, 1) := by decide +kernel
theorem d21_25 : decode jdk_68_method_22_code 25 = .ok (.aload_n 0, 1) := by decide +kernel
theorem d21_26 : decode jdk_68_method_22_code 26 = .ok (.getfield 79, 3) := by decide +kernel
theorem d21_29 : decode jdk_68_method_22_code 29 = .ok (.aload_n 1, 1) := by decide +kernel
theorem d21_30 : decode jdk_68_method_22_code 30 = .ok (.invokevirtual 208, 3) := by decide +kernel
theorem d21_33 : decode jdk_68_method_22_code 33 = .ok (.aload_n 0, 1) := by decide +kernel
theorem d21_34 : decode jdk_68_method_22_code 34 = .ok (.dup, 1) := by decide +kernel
theorem d21_35 : decode jdk_68_method_22_code 35 = .ok (.getfield 79, 3) := by decide +kernel
theorem d21_38 : decode jdk_68_method_22_code 38 = .ok (.iload_n 2, 1) := by decide +kernel
theorem d21_39 : decode jdk_68_method_22_code 39 = .ok (.iadd, 1) := by decide +kernel
theorem d21_40 : decode jdk_68_method_22_code 40 = .ok (.putfield 79, 3) := by decide +kernel
theorem d21_43 : decode jdk_68_method_22_code 43 = .ok (.aload_n 0, 1) := by decide +kernel
theorem d21_44 : decode jdk_68_method_22_code 44 = .ok (.areturn, 1) := by decide +kernel
theorem d22_0 : decode jdk_42_method_54_code 0 = .ok (.aload_n 0, 1) := by decide +kernel
theorem d22_1 : decode jdk_42_method_54_code 1 = .ok (.getfield 9, 3) := by decide +kernel
theorem d22_4 : decode jdk_42_method_54_code 4 = .ok (.arraylength, 1) := by decide +kernel
theorem d22_5 : decode jdk_42_method_54_code 5 = .ok (.aload_n 0, 1) := by decide +kernel
theorem d22_6 : decode jdk_42_method_54_code 6 = .ok (.invokevirtual 335, 3) := by decide +kernel
theorem d22_9 : decode jdk_42_method_54_code 9 = .ok (.ishr, 1) := by decide +kernel
theorem d22_10 : decode jdk_42_method_54_code 10 = .ok (.ireturn, 1) := by decide +kernel
theorem d23_0 : decode jdk_68_method_9_code 0 = .ok (.aload_n 0, 1) := by decide +kernel
theorem d23_1 : decode jdk_68_method_9_code 1 = .ok (.getfield 15, 3) := by decide +kernel
theorem d23_4 : decode jdk_68_method_9_code 4 = .ok (.arraylength, 1) := by decide +kernel
theorem d23_5 : decode jdk_68_method_9_code 5 = .ok (.aload_n 0, 1) := by decide +kernel
theorem d23_6 : decode jdk_68_method_9_code 6 = .ok (.getfield 22, 3) := by decide +kernel
theorem d23_9 : decode jdk_68_method_9_code 9 = .ok (.ishr, 1) := by decide +kernel
theorem d23_10 : decode jdk_68_method_9_code 10 = .ok (.istore_n 2, 1) := by decide +kernel
theorem d23_11 : decode jdk_68_method_9_code 11 = .ok (.iload_n 1, 1) := by decide +kernel
theorem d23_12 : decode jdk_68_method_9_code 12 = .ok (.iload_n 2, 1) := by decide +kernel
theorem d23_13 : decode jdk_68_method_9_code 13 = .ok (.isub, 1) := by decide +kernel
theorem d23_14 : decode jdk_68_method_9_code 14 = .ok (.ifCond .le 24, 3) := by decide +kernel
theorem d23_17 : decode jdk_68_method_9_code 17 = .ok (.aload_n 0, 1) := by decide +kernel
theorem d23_18 : decode jdk_68_method_9_code 18 = .ok (.aload_n 0, 1) := by decide +kernel
theorem d23_19 : decode jdk_68_method_9_code 19 = .ok (.getfield 15, 3) := by decide +kernel
theorem d23_22 : decode jdk_68_method_9_code 22 = .ok (.aload_n 0, 1) := by decide +kernel
theorem d23_23 : decode jdk_68_method_9_code 23 = .ok (.iload_n 1, 1) := by decide +kernel
theorem d23_24 : decode jdk_68_method_9_code 24 = .ok (.invokevirtual 104, 3) := by decide +kernel
theorem d23_27 : decode jdk_68_method_9_code 27 = .ok (.aload_n 0, 1) := by decide +kernel
theorem d23_28 : decode jdk_68_method_9_code 28 = .ok (.getfield 22, 3) := by decide +kernel
theorem d23_31 : decode jdk_68_method_9_code 31 = .ok (.ishl, 1) := by decide +kernel
theorem d23_32 : decode jdk_68_method_9_code 32 = .ok (.invokestatic 108, 3) := by decide +kernel
theorem d23_35 : decode jdk_68_method_9_code 35 = .ok (.putfield 15, 3) := by decide +kernel
theorem d23_38 : decode jdk_68_method_9_code 38 = .ok (.return_, 1) := by decide +kernel
theorem d24_0 : decode jdk_68_method_73_code 0 = .ok (.aload_n 0, 1) := by decide +kernel
theorem d24_1 : decode jdk_68_method_73_code 1 = .ok (.aload_n 2, 1) := by decide +kernel
theorem d24_2 : decode jdk_68_method_73_code 2 = .ok (.invokevirtual 397, 3) := by decide +kernel
theorem d24_5 : decode jdk_68_method_73_code 5 = .ok (.aload_n 2, 1) := by decide +kernel
theorem d24_6 : decode jdk_68_method_73_code 6 = .ok (.aload_n 0, 1) := by decide +kernel
theorem d24_7 : decode jdk_68_method_73_code 7 = .ok (.getfield 15, 3) := by decide +kernel
theorem d24_10 : decode jdk_68_method_73_code 10 = .ok (.iload_n 1, 1) := by decide +kernel
theorem d24_11 : decode jdk_68_method_73_code 11 = .ok (.aload_n 0, 1) := by decide +kernel
theorem d24_12 : decode jdk_68_method_73_code 12 = .ok (.getfield 22, 3) := by decide +kernel
theorem d24_15 : decode jdk_68_method_73_code 15 = .ok (.invokevirtual 399, 3) := by decide +kernel
theorem d24_18 : decode jdk_68_method_73_code 18 = .ok (.return_, 1) := by decide +kernel
theorem d25_0 : decode jdk_68_method_71_code 0 = .ok (.getstatic 18, 3) := by decide +kernel
theorem d25_3 : decode jdk_68_method_71_code 3 = .ok (.ifCond .eq 18, 3) := by decide +kernel
theorem d25_6 : decode jdk_68_method_71_code 6 = .ok (.aload_n 0, 1) := by decide +kernel
theorem d25_7 : decode jdk_68_method_71_code 7 = .ok (.getfield 22, 3) := by decide +kernel
theorem d25_10 : decode jdk_68_method_71_code 10 = .ok (.aload_n 1, 1) := by decide +kernel
theorem d25_11 : decode jdk_68_method_71_code 11 = .ok (.invokevirtual 40, 3) := by decide +kernel
theorem d25_14 : decode jdk_68_method_71_code 14 = .ok (.if_icmp .eq 7, 3) := by decide +kernel
theorem d25_21 : decode jdk_68_method_71_code 21 = .ok (.return_, 1) := by decide +kernel
theorem d26_0 : decode jdk_42_method_147_code 0 = .ok (.aload_n 0, 1) := by decide +kernel
theorem d26_1 : decode jdk_42_method_147_code 1 = .ok (.invokevirtual 335, 3) := by decide +kernel
theorem d26_4 : decode jdk_42_method_147_code 4 = .ok (.iload_n 3, 1) := by decide +kernel
theorem d26_5 : decode jdk_42_method_147_code 5 = .ok (.if_icmp .ne 23, 3) := by decide +kernel
theorem d26_8 : decode jdk_42_method_147_code 8 = .ok (.aload_n 0, 1) := by decide +kernel
theorem d26_9 : decode jdk_42_method_147_code 9 = .ok (.getfield 9, 3) := by decide +kernel
theorem d26_12 : decode jdk_42_method_147_code 12 = .ok (.iconst 0, 1) := by decide +kernel
theorem d26_13 : decode jdk_42_method_147_code 13 = .ok (.aload_n 1, 1) := by decide +kernel
theorem d26_14 : decode jdk_42_method_147_code 14 = .ok (.iload_n 2, 1) := by decide +kernel
theorem d26_15 : decode jdk_42_method_147_code 15 = .ok (.iload_n 3, 1) := by decide +kernel
theorem d26_16 : decode jdk_42_method_147_code 16 = .ok (.ishl, 1) := by decide +kernel
theorem d26_17 : decode jdk_42_method_147_code 17 = .ok (.aload_n 0, 1) := by decide +kernel
theorem d26_18 : decode jdk_42_method_147_code 18 = .ok (.getfield 9, 3) := by decide +kernel
theorem d26_21 : decode jdk_42_method_147_code 21 = .ok (.arraylength, 1) := by decide +kernel
theorem d26_22 : decode jdk_42_method_147_code 22 = .ok (.invokestatic 212, 3) := by decide +kernel
theorem d26_25 : decode jdk_42_method_147_code 25 = .ok (.goto 18, 3) := by decide +kernel
theorem d26_43 : decode jdk_42_method_147_code 43 = .ok (.return_, 1) := by decide +kernel
theorem d27_0 : decode jdk_68_method_10_code 0 = .ok (.aload_n 0, 1) := by decide +kernel
theorem d27_1 : decode jdk_68_method_10_code 1 = .ok (.getfield 15, 3) := by decide +kernel
theorem d27_4 : decode jdk_68_method_10_code 4 = .ok (.arraylength, 1) := by decide +kernel
theorem d27_5 : decode jdk_68_method_10_code 5 = .ok (.istore_n 2, 1) := by decide +kernel
theorem d27_6 : decode jdk_68_method_10_code 6 = .ok (.iload_n 1, 1) := by decide +kernel
theorem d27_7 : decode jdk_68_method_10_code 7 = .ok (.aload_n 0, 1) := by decide +kernel
theorem d27_8 : decode jdk_68_method_10_code 8 = .ok (.getfield 22, 3) := by decide +kernel
theorem d27_11 : decode jdk_68_method_10_code 11 = .ok (.ishl, 1) := by decide +kernel
theorem d27_12 : decode jdk_68_method_10_code 12 = .ok (.istore_n 3, 1) := by decide +kernel
theorem d27_13 : decode jdk_68_method_10_code 13 = .ok (.iload_n 3, 1) := by decide +kernel
theorem d27_14 : decode jdk_68_method_10_code 14 = .ok (.iload_n 2, 1) := by decide +kernel
theorem d27_15 : decode jdk_68_method_10_code 15 = .ok (.isub, 1) := by decide +kernel
theorem d27_16 : decode jdk_68_method_10_code 16 = .ok (.istore 4, 2) := by decide +kernel
theorem d27_18 : decode jdk_68_method_10_code 18 = .ok (.iload_n 2, 1) := by decide +kernel
theorem d27_19 : decode jdk_68_method_10_code 19 = .ok (.iload 4, 2) := by decide +kernel
theorem d27_21 : decode jdk_68_method_10_code 21 = .ok (.iload_n 2, 1) := by decide +kernel
theorem d27_22 : decode jdk_68_method_10_code 22 = .ok (.iconst 2, 1) := by decide +kernel
theorem d27_23 : decode jdk_68_method_10_code 23 = .ok (.aload_n 0, 1) := by decide +kernel
theorem d27_24 : decode jdk_68_method_10_code 24 = .ok (.getfield 22, 3) := by decide +kernel
theorem d27_27 : decode jdk_68_method_10_code 27 = .ok (.ishl, 1) := by decide +kernel
theorem d27_28 : decode jdk_68_method_10_code 28 = .ok (.iadd, 1) := by decide +kernel
theorem d27_29 : decode jdk_68_method_10_code 29 = .ok (.invokestatic 114, 3) := by decide +kernel
theorem d27_32 : decode jdk_68_method_10_code 32 = .ok (.istore 5, 2) := by decide +kernel
theorem d27_34 : decode jdk_68_method_10_code 34 = .ok (.iload 5, 2) := by decide +kernel
theorem d27_36 : decode jdk_68_method_10_code 36 = .ok (.ldc 39, 2) := by decide +kernel
theorem d27_38 : decode jdk_68_method_10_code 38 = .ok (.if_icmp .ne 13, 3) := by decide +kernel
theorem d27_51 : decode jdk_68_method_10_code 51 = .ok (.iload 5, 2) := by decide +kernel
theorem d27_53 : decode jdk_68_method_10_code 53 = .ok (.aload_n 0, 1) := by decide +kernel
theorem d27_54 : decode jdk_68_method_10_code 54 = .ok (.getfield 22, 3) := by decide +kernel
theorem d27_57 : decode jdk_68_method_10_code 57 = .ok (.ishr, 1) := by decide +kernel
theorem d27_58 : decode jdk_68_method_10_code 58 = .ok (.ireturn, 1) := by decide +kernel
theorem d28_0 : decode jdk_48_method_27_code 0 = .ok (.iload_n 0, 1) := by decide +kernel
theorem d28_1 : decode jdk_48_method_27_code 1 = .ok (.iload_n 1, 1) := by decide +kernel
theorem d28_2 : decode jdk_48_method_27_code 2 = .ok (.iload_n 2, 1) := by decide +kernel
theorem d28_3 : decode jdk_48_method_27_code 3 = .ok (.invokestatic 194, 3) := by decide +kernel
theorem d28_6 : decode jdk_48_method_27_code 6 = .ok (.iadd, 1) := by decide +kernel
theorem d28_7 : decode jdk_48_method_27_code 7 = .ok (.istore_n 3, 1) := by decide +kernel
theorem d28_8 : decode jdk_48_method_27_code 8 = .ok (.iconst 0, 1) := by decide +kernel
theorem d28_9 : decode jdk_48_method_27_code 9 = .ok (.iload_n 3, 1) := by decide +kernel
theorem d28_10 : decode jdk_48_method_27_code 10 = .ok (.if_icmp .ge 11, 3) := by decide +kernel
theorem d28_13 : decode jdk_48_method_27_code 13 = .ok (.iload_n 3, 1) := by decide +kernel
theorem d28_14 : decode jdk_48_method_27_code 14 = .ok (.ldc 200, 2) := by decide +kernel
theorem d28_16 : decode jdk_48_method_27_code 16 = .ok (.if_icmp .gt 5, 3) := by decide +kernel
theorem d28_19 : decode jdk_48_method_27_code 19 = .ok (.iload_n 3, 1) := by decide +kernel
theorem d28_20 : decode jdk_48_method_27_code 20 = .ok (.ireturn, 1) := by decide +kernel
theorem d29_0 : decode jdk_29_method_65_code 0 = .ok (.iload_n 0, 1) := by decide +kernel
theorem d29_1 : decode jdk_29_method_65_code 1 = .ok (.iload_n 1, 1) := by decide +kernel
theorem d29_2 : decode jdk_29_method_65_code 2 = .ok (.if_icmp .lt 7, 3) := by decide +kernel
theorem d29_5 : decode jdk_29_method_65_code 5 = .ok (.iload_n 0, 1) := by decide +kernel
theorem d29_6 : decode jdk_29_method_65_code 6 = .ok (.goto 4, 3) := by decide +kernel
theorem d29_9 : decode jdk_29_method_65_code 9 = .ok (.iload_n 1, 1) := by decide +kernel
theorem d29_10 : decode jdk_29_method_65_code 10 = .ok (.ireturn, 1) := by decide +kernel
theorem d30_0 : decode jdk_65_method_121_code 0 = .ok (.iload_n 1, 1) := by decide +kernel
theorem d30_1 : decode jdk_65_method_121_code 1 = .ok (.aload_n 0, 1) := by decide +kernel
theorem d30_2 : decode jdk_65_method_121_code 2 = .ok (.arraylength, 1) := by decide +kernel
theorem d30_3 : decode jdk_65_method_121_code 3 = .ok (.if_icmp .ne 11, 3) := by decide +kernel
theorem d30_14 : decode jdk_65_method_121_code 14 = .ok (.iload_n 1, 1) := by decide +kernel
theorem d30_15 : decode jdk_65_method_121_code 15 = .ok (.newarray .byte, 2) := by decide +kernel
theorem d30_17 : decode jdk_65_method_121_code 17 = .ok (.astore_n 2, 1) := by decide +kernel
theorem d30_18 : decode jdk_65_method_121_code 18 = .ok (.aload_n 0, 1) := by decide +kernel
theorem d30_19 : decode jdk_65_method_121_code 19 = .ok (.iconst 0, 1) := by decide +kernel
theorem d30_20 : decode jdk_65_method_121_code 20 = .ok (.aload_n 2, 1) := by decide +kernel
theorem d30_21 : decode jdk_65_method_121_code 21 = .ok (.iconst 0, 1) := by decide +kernel
theorem d30_22 : decode jdk_65_method_121_code 22 = .ok (.aload_n 0, 1) := by decide +kernel
theorem d30_23 : decode jdk_65_method_121_code 23 = .ok (.arraylength, 1) := by decide +kernel
theorem d30_24 : decode jdk_65_method_121_code 24 = .ok (.iload_n 1, 1) := by decide +kernel
theorem d30_25 : decode jdk_65_method_121_code 25 = .ok (.invokestatic 304, 3) := by decide +kernel
theorem d30_28 : decode jdk_65_method_121_code 28 = .ok (.invokestatic 150, 3) := by decide +kernel
theorem d30_31 : decode jdk_65_method_121_code 31 = .ok (.aload_n 2, 1) := by decide +kernel
theorem d30_32 : decode jdk_65_method_121_code 32 = .ok (.areturn, 1) := by decide +kernel
theorem d31_0 : decode jdk_29_method_69_code 0 = .ok (.iload_n 0, 1) := by decide +kernel
theorem d31_1 : decode jdk_29_method_69_code 1 = .ok (.iload_n 1, 1) := by decide +kernel
theorem d31_2 : decode jdk_29_method_69_code 2 = .ok (.if_icmp .gt 7, 3) := by decide +kernel
theorem d31_5 : decode jdk_29_method_69_code 5 = .ok (.iload_n 0, 1) := by decide +kernel
theorem d31_6 : decode jdk_29_method_69_code 6 = .ok (.goto 4, 3) := by decide +kernel
theorem d31_9 : decode jdk_29_method_69_code 9 = .ok (.iload_n 1, 1) := by decide +kernel
theorem d31_10 : decode jdk_29_method_69_code 10 = .ok (.ireturn, 1) := by decide +kernel
theorem d32_0 : decode jdk_67_method_42_code 0 = .ok (.new 18, 3) := by decide +kernel
theorem d32_3 : decode jdk_67_method_42_code 3 = .ok (.dup, 1) := by decide +kernel
theorem d32_4 : decode jdk_67_method_42_code 4 = .ok (.aload_n 0, 1) := by decide +kernel
theorem d32_5 : decode jdk_67_method_42_code 5 = .ok (.invokespecial 137, 3) := by decide +kernel
theorem d32_8 : decode jdk_67_method_42_code 8 = .ok (.areturn, 1) := by decide +kernel
theorem d33_0 : decode jdk_42_method_53_code 0 = .ok (.aload_n 0, 1) := by decide +kernel
theorem d33_1 : decode jdk_42_method_53_code 1 = .ok (.aload_n 1, 1) := by decide +kernel
theorem d33_2 : decode jdk_42_method_53_code 2 = .ok (.aconst_null, 1) := by decide +kernel
theorem d33_3 : decode jdk_42_method_53_code 3 = .ok (.invokespecial 489, 3) := by decide +kernel
theorem d33_6 : decode jdk_42_method_53_code 6 = .ok (.return_, 1) := by decide +kernel
theorem d34_0 : decode jdk_42_method_150_code 0 = .ok (.aload_n 0, 1) := by decide +kernel
theorem d34_1 : decode jdk_42_method_150_code 1 = .ok (.invokespecial 1, 3) := by decide +kernel
theorem d34_4 : decode jdk_42_method_150_code 4 = .ok (.aload_n 1, 1) := by decide +kernel
theorem d34_5 : decode jdk_42_method_150_code 5 = .ok (.invokevirtual 552, 3) := by decide +kernel
theorem d34_8 : decode jdk_42_method_150_code 8 = .ok (.astore_n 3, 1) := by decide +kernel
theorem d34_9 : decode jdk_42_method_150_code 9 = .ok (.aload_n 1, 1) := by decide +kernel
theorem d34_10 : decode jdk_42_method_150_code 10 = .ok (.invokevirtual 549, 3) := by decide +kernel
theorem d34_13 : decode jdk_42_method_150_code 13 = .ok (.istore 4, 2) := by decide +kernel
theorem d34_15 : decode jdk_42_method_150_code 15 = .ok (.aload_n 1, 1) := by decide +kernel
theorem d34_16 : decode jdk_42_method_150_code 16 = .ok (.invokevirtual 1047, 3) := by decide +kernel
theorem d34_19 : decode jdk_42_method_150_code 19 = .ok (.ifCond .eq 22, 3) := by decide +kernel
theorem d34_22 : decode jdk_42_method_150_code 22 = .ok (.aload_n 0, 1) := by decide +kernel
theorem d34_23 : decode jdk_42_method_150_code 23 = .ok (.iconst 0, 1) := by decide +kernel
theorem d34_24 : decode jdk_42_method_150_code 24 = .ok (.putfield 15, 3) := by decide +kernel
theorem d34_27 : decode jdk_42_method_150_code 27 = .ok (.aload_n 0, 1) := by decide +kernel
theorem d34_28 : decode jdk_42_method_150_code 28 = .ok (.aload_n 3, 1) := by decide +kernel
theorem d34_29 : decode jdk_42_method_150_code 29 = .ok (.iconst 0, 1) := by decide +kernel
theorem d34_30 : decode jdk_42_method_150_code 30 = .ok (.iload 4, 2) := by decide +kernel
theorem d34_32 : decode jdk_42_method_150_code 32 = .ok (.invokestatic 54, 3) := by decide +kernel
theorem d34_35 : decode jdk_42_method_150_code 35 = .ok (.putfield 9, 3) := by decide +kernel
theorem d34_38 : decode jdk_42_method_150_code 38 = .ok (.goto 59, 3) := by decide +kernel
theorem d34_97 : decode jdk_42_method_150_code 97 = .ok (.return_, 1) := by decide +kernel
theorem d35_0 : decode jdk_68_method_64_code 0 = .ok (.aload_n 0, 1) := by decide +kernel
theorem d35_1 : decode jdk_68_method_64_code 1 = .ok (.getfield 15, 3) := by decide +kernel
theorem d35_4 : decode jdk_68_method_64_code 4 = .ok (.areturn, 1) := by decide +kernel
theorem d36_0 : decode jdk_67_method_93_code 0 = .ok (.aload_n 0, 1) := by decide +kernel
theorem d36_1 : decode jdk_67_method_93_code 1 = .ok (.invokespecial 343, 3) := by decide +kernel
theorem d36_4 : decode jdk_67_method_93_code 4 = .ok (.ireturn, 1) := by decide +kernel
theorem d37_0 : decode jdk_68_method_6_code 0 = .ok (.aload_n 0, 1) := by decide +kernel
theorem d37_1 : decode jdk_68_method_6_code 1 = .ok (.getfield 79, 3) := by decide +kernel
theorem d37_4 : decode jdk_68_method_6_code 4 = .ok (.ireturn, 1) := by decide +kernel
theorem d38_0 : decode jdk_68_method_68_code 0 = .ok (.getstatic 18, 3) := by decide +kernel
theorem d38_3 : decode jdk_68_method_68_code 3 = .ok (.ifCond .eq 14, 3) := by decide +kernel
theorem d38_6 : decode jdk_68_method_68_code 6 = .ok (.aload_n 0, 1) := by decide +kernel
theorem d38_7 : decode jdk_68_method_68_code 7 = .ok (.getfield 22, 3) := by decide +kernel
theorem d38_10 : decode jdk_68_method_68_code 10 = .ok (.ifCond .ne 7, 3) := by decide +kernel
theorem d38_13 : decode jdk_68_method_68_code 13 = .ok (.iconst 1, 1) := by decide +kernel
theorem d38_14 : decode jdk_68_method_68_code 14 = .ok (.goto 4, 3) := by decide +kernel
theorem d38_18 : decode jdk_68_method_68_code 18 = .ok (.ireturn, 1) := by decide +kernel
theorem d39_0 : decode jdk_65_method_132_code 0 = .ok (.iload_n 1, 1) := by decide +kernel
theorem d39_1 : decode jdk_65_method_132_code 1 = .ok (.ifCond .ne 9, 3) := by decide +kernel
theorem d39_4 : decode jdk_65_method_132_code 4 = .ok (.iload_n 2, 1) := by decide +kernel
theorem d39_5 : decode jdk_65_method_132_code 5 = .ok (.aload_n 0, 1) := by decide +kernel
theorem d39_6 : decode jdk_65_method_132_code 6 = .ok (.arraylength, 1) := by decide +kernel
theorem d39_7 : decode jdk_65_method_132_code 7 = .ok (.if_icmp .eq 10, 3) := by decide +kernel
theorem d39_10 : decode jdk_65_method_132_code 10 = .ok (.aload_n 0, 1) := by decide +kernel
theorem d39_11 : decode jdk_65_method_132_code 11 = .ok (.iload_n 1, 1) := by decide +kernel
theorem d39_12 : decode jdk_65_method_132_code 12 = .ok (.iload_n 2, 1) := by decide +kernel
theorem d39_13 : decode jdk_65_method_132_code 13 = .ok (.invokestatic 339, 3) := by decide +kernel
theorem d39_16 : decode jdk_65_method_132_code 16 = .ok (.areturn, 1) := by decide +kernel
theorem d40_0 : decode jdk_65_method_133_code 0 = .ok (.iload_n 1, 1) := by decide +kernel
theorem d40_1 : decode jdk_65_method_133_code 1 = .ok (.iload_n 2, 1) := by decide +kernel
theorem d40_2 : decode jdk_65_method_133_code 2 = .ok (.invokestatic 343, 3) := by decide +kernel
theorem d40_5 : decode jdk_65_method_133_code 5 = .ok (.iload_n 2, 1) := by decide +kernel
theorem d40_6 : decode jdk_65_method_133_code 6 = .ok (.iload_n 1, 1) := by decide +kernel
theorem d40_7 : decode jdk_65_method_133_code 7 = .ok (.isub, 1) := by decide +kernel
theorem d40_8 : decode jdk_65_method_133_code 8 = .ok (.istore_n 3, 1) := by decide +kernel
theorem d40_9 : decode jdk_65_method_133_code 9 = .ok (.iload_n 3, 1) := by decide +kernel
theorem d40_10 : decode jdk_65_method_133_code 10 = .ok (.newarray .byte, 2) := by decide +kernel
theorem d40_12 : decode jdk_65_method_133_code 12 = .ok (.astore 4, 2) := by decide +kernel
theorem d40_14 : decode jdk_65_method_133_code 14 = .ok (.aload_n 0, 1) := by decide +kernel
theorem d40_15 : decode jdk_65_method_133_code 15 = .ok (.iload_n 1, 1) := by decide +kernel
theorem d40_16 : decode jdk_65_method_133_code 16 = .ok (.aload 4, 2) := by decide +kernel
theorem d40_18 : decode jdk_65_method_133_code 18 = .ok (.iconst 0, 1) := by decide +kernel
theorem d40_19 : decode jdk_65_method_133_code 19 = .ok (.aload_n 0, 1) := by decide +kernel
theorem d40_20 : decode jdk_65_method_133_code 20 = .ok (.arraylength, 1) := by decide +kernel
theorem d40_21 : decode jdk_65_method_133_code 21 = .ok (.iload_n 1, 1) := by decide +kernel
theorem d40_22 : decode jdk_65_method_133_code 22 = .ok (.isub, 1) := by decide +kernel
theorem d40_23 : decode jdk_65_method_133_code 23 = .ok (.iload_n 3, 1) := by decide +kernel
theorem d40_24 : decode jdk_65_method_133_code 24 = .ok (.invokestatic 304, 3) := by decide +kernel
theorem d40_27 : decode jdk_65_method_133_code 27 = .ok (.invokestatic 150, 3) := by decide +kernel
theorem d40_30 : decode jdk_65_method_133_code 30 = .ok (.aload 4, 2) := by decide +kernel
theorem d40_32 : decode jdk_65_method_133_code 32 = .ok (.areturn, 1) := by decide +kernel
theorem d41_0 : decode jdk_65_method_131_code 0 = .ok (.iload_n 1, 1) := by decide +kernel
theorem d41_1 : decode jdk_65_method_131_code 1 = .ok (.iload_n 0, 1) := by decide +kernel
theorem d41_2 : decode jdk_65_method_131_code 2 = .ok (.if_icmp .ge 35, 3) := by decide +kernel
theorem d41_37 : decode jdk_65_method_131_code 37 = .ok (.return_, 1) := by decide +kernel
theorem pd_0 : parseMethodDescriptor "()B" = some ⟨[], (some .byte)⟩ := by decide +kernel
theorem pd_1 : parseMethodDescriptor "(I)V" = some ⟨[.int], none⟩ := by decide +kernel
theorem pd_2 : parseMethodDescriptor "([BI[BII)I" = some ⟨[(.array .byte), .int, (.array .byte), .int, .int], (some .int)⟩ := by decide +kernel
theorem pd_3 : parseMethodDescriptor "()Z" = some ⟨[], (some .boolean)⟩ := by decide +kernel
theorem pd_4 : parseMethodDescriptor "([B[B)I" = some ⟨[(.array .byte), (.array .byte)], (some .int)⟩ := by decide +kernel
theorem pd_5 : parseMethodDescriptor "()Ljava/lang/String;" = some ⟨[], (some (.object "java/lang/String"))⟩ := by decide +kernel
theorem pd_6 : parseMethodDescriptor "(Ljava/lang/String;)I" = some ⟨[(.object "java/lang/String")], (some .int)⟩ := by decide +kernel
theorem pd_7 : parseMethodDescriptor "(Ljava/lang/CharSequence;)Z" = some ⟨[(.object "java/lang/CharSequence")], (some .boolean)⟩ := by decide +kernel
theorem pd_8 : parseMethodDescriptor "()V" = some ⟨[], none⟩ := by decide +kernel
theorem pd_9 : parseMethodDescriptor "(Ljava/lang/String;)V" = some ⟨[(.object "java/lang/String")], none⟩ := by decide +kernel
theorem pd_10 : parseMethodDescriptor "([BIB)V" = some ⟨[(.array .byte), .int, .byte], none⟩ := by decide +kernel
theorem pd_11 : parseMethodDescriptor "()I" = some ⟨[], (some .int)⟩ := by decide +kernel
theorem pd_12 : parseMethodDescriptor "(ILjava/lang/String;)V" = some ⟨[.int, (.object "java/lang/String")], none⟩ := by decide +kernel
theorem pd_13 : parseMethodDescriptor "(Ljava/lang/String;)Ljava/lang/AbstractStringBuilder;" = some ⟨[(.object "java/lang/String")], (some (.object "java/lang/AbstractStringBuilder"))⟩ := by decide +kernel
theorem pd_14 : parseMethodDescriptor "(Ljava/lang/String;)Ljava/lang/StringBuilder;" = some ⟨[(.object "java/lang/String")], (some (.object "java/lang/StringBuilder"))⟩ := by decide +kernel
theorem pd_15 : parseMethodDescriptor "(II)I" = some ⟨[.int, .int], (some .int)⟩ := by decide +kernel
theorem pd_16 : parseMethodDescriptor "(III)I" = some ⟨[.int, .int, .int], (some .int)⟩ := by decide +kernel
theorem pd_17 : parseMethodDescriptor "(I)I" = some ⟨[.int], (some .int)⟩ := by decide +kernel
theorem pd_18 : parseMethodDescriptor "([BI)[B" = some ⟨[(.array .byte), .int], (some (.array .byte))⟩ := by decide +kernel
theorem pd_19 : parseMethodDescriptor "(II)V" = some ⟨[.int, .int], none⟩ := by decide +kernel
theorem pd_20 : parseMethodDescriptor "([BII)[B" = some ⟨[(.array .byte), .int, .int], (some (.array .byte))⟩ := by decide +kernel
theorem pd_21 : parseMethodDescriptor "()[B" = some ⟨[], (some (.array .byte))⟩ := by decide +kernel
theorem pd_22 : parseMethodDescriptor "(Ljava/lang/AbstractStringBuilder;Ljava/lang/Void;)V" = some ⟨[(.object "java/lang/AbstractStringBuilder"), (.object "java/lang/Void")], none⟩ := by decide +kernel
theorem pd_23 : parseMethodDescriptor "(Ljava/lang/StringBuilder;)V" = some ⟨[(.object "java/lang/StringBuilder")], none⟩ := by decide +kernel
theorem pd_24 : parseMethodDescriptor "(I)C" = some ⟨[.int], (some .char)⟩ := by decide +kernel
theorem pd_25 : parseMethodDescriptor "(IIIJ)C" = some ⟨[.int, .int, .int, .long], (some .char)⟩ := by decide +kernel
theorem pd_26 : parseMethodDescriptor "([CI)V" = some ⟨[(.array .char), .int], none⟩ := by decide +kernel
theorem pd_27 : parseMethodDescriptor "([C)V" = some ⟨[(.array .char)], none⟩ := by decide +kernel
theorem pd_28 : parseMethodDescriptor "(Ljava/lang/String;)Ljava/lang/String;" = some ⟨[(.object "java/lang/String")], (some (.object "java/lang/String"))⟩ := by decide +kernel
theorem pd_29 : parseMethodDescriptor "(Ljava/lang/Object;)Z" = some ⟨[(.object "java/lang/Object")], (some .boolean)⟩ := by decide +kernel
theorem pd_30 : parseMethodDescriptor "([CI)Z" = some ⟨[(.array .char), .int], (some .boolean)⟩ := by decide +kernel
theorem pf_0 : plainFor (⟨"java/lang/Math", "max", "(II)I"⟩ : MethodName) = true := by decide +kernel
theorem pf_1 : plainFor (⟨"jdk/internal/util/ArraysSupport", "newLength", "(III)I"⟩ : MethodName) = true := by decide +kernel
theorem pf_2 : plainFor (⟨"java/lang/Math", "min", "(II)I"⟩ : MethodName) = true := by decide +kernel
theorem pn_0 : plainName "java/lang/String" = true := by first | (simp [plainName, overriddenIn]; done) | decide +kernel
theorem pn_1 : plainName "java/lang/AbstractStringBuilder" = true := by first | (simp [plainName, overriddenIn]; done) | decide +kernel
theorem pn_2 : plainName "java/lang/StringLatin1" = true := by first | (simp [plainName, overriddenIn]; done) | decide +kernel
theorem pn_3 : plainName "java/lang/StringBuilder" = true := by first | (simp [plainName, overriddenIn]; done) | decide +kernel
theorem pn_4 : plainName "java/util/Arrays" = true := by first | (simp [plainName, overriddenIn]; done) | decide +kernel
theorem pn_5 : plainName "com/example/tugas/tugas/store/ListingListedOnlyPinLaw" = true := by first | (simp [plainName, overriddenIn]; done) | decide +kernel
theorem pn_6 : plainName "com/example/tugas/tugas/store/Listing" = true := by first | (simp [plainName, overriddenIn]; done) | decide +kernel
theorem hws {a0 : Array Value} {Z : State} (hw : HW a0 Z) : ∀ d ∈ StrChars.Road.words, d.before a0 Z = true := fun d hd => hw d ((by decide +kernel : ∀ d ∈ StrChars.Road.words, d ∈ tables_1) d hd)
theorem hch {a0 : Array Value} {Z : State} (hw : HW a0 Z) : ∀ d ∈ StrChars.Road.wordsChN, d.before a0 Z = true := fun d hd => hw d ((by decide +kernel : ∀ d ∈ StrChars.Road.wordsChN, d ∈ tables_1) d hd)
theorem heq {a0 : Array Value} {Z : State} (hw : HW a0 Z) : ∀ d ∈ StrChars.Road.wordsEq, d.before a0 Z = true := fun d hd => hw d ((by decide +kernel : ∀ d ∈ StrChars.Road.wordsEq, d ∈ tables_1) d hd)
theorem ew {a0 : Array Value} {Z : State} (hw : HW a0 Z) : EW Z a0 consts_1 := (EW.cons (w45 hw) (by decide) (EW.cons (w233 hw) (by decide) (EW.cons (w144 hw) (by decide) (EW.cons (w216 hw) (by decide) EW.nil))))
theorem wS {a0 : Array Value} {Z : State} (hw : HW a0 Z) : ∀ a ∈ Bundle.stringAtoms, a.before a0 Z = true := fun d hd => hw d ((by decide +kernel : ∀ d ∈ Bundle.stringAtoms, d ∈ tables_1) d hd)
def WB (y0 y1 y2 y3 y4 y5 y6 y7 : Int32) : Prop := (y0 = (32 : Int32) ∧ y1 = (87 : Int32) ∧ y2 = (72 : Int32) ∧ y3 = (69 : Int32) ∧ y4 = (82 : Int32) ∧ y5 = (69 : Int32) ∧ y6 = (32 : Int32)) ∨ (y1 = (32 : Int32) ∧ y2 = (87 : Int32) ∧ y3 = (72 : Int32) ∧ y4 = (69 : Int32) ∧ y5 = (82 : Int32) ∧ y6 = (69 : Int32) ∧ y7 = (32 : Int32))
theorem wb_no {r : Int32} {P : Prop} (h : (¬ r < 0 ∧ P) ∨ (r < 0 ∧ ¬ P)) (q : r < 0) : ¬ P := h.elim (fun z => absurd q z.1) (fun z => z.2)
theorem wb_yes {r : Int32} {P : Prop} (h : (¬ r < 0 ∧ P) ∨ (r < 0 ∧ ¬ P)) (q : ¬ r < 0) : P := h.elim (fun z => z.2) (fun z => absurd z.1 q)
theorem lo_eq {c p : Int32} (q : ¬ c < 0 ∧ ¬ (255 : Int32) < c) (hp : 0 ≤ p.toInt ∧ p.toInt ≤ 127) : c.toInt8.toInt32 = p ↔ c = p := by
  have q' := lat_iff.mp q
  have b := c_i2b c
  rw [← Int32.toInt_inj, ← Int32.toInt_inj]
  omega
theorem wb_lo {c0 c1 c2 c3 c4 c5 c6 c7 : Int32} (b_c0 : ¬ c0 < 0 ∧ ¬ (255 : Int32) < c0) (b_c1 : ¬ c1 < 0 ∧ ¬ (255 : Int32) < c1) (b_c2 : ¬ c2 < 0 ∧ ¬ (255 : Int32) < c2) (b_c3 : ¬ c3 < 0 ∧ ¬ (255 : Int32) < c3) (b_c4 : ¬ c4 < 0 ∧ ¬ (255 : Int32) < c4) (b_c5 : ¬ c5 < 0 ∧ ¬ (255 : Int32) < c5) (b_c6 : ¬ c6 < 0 ∧ ¬ (255 : Int32) < c6) (b_c7 : ¬ c7 < 0 ∧ ¬ (255 : Int32) < c7)  : WB (c0.toInt8.toInt32) (c1.toInt8.toInt32) (c2.toInt8.toInt32) (c3.toInt8.toInt32) (c4.toInt8.toInt32) (c5.toInt8.toInt32) (c6.toInt8.toInt32) (c7.toInt8.toInt32) = WB c0 c1 c2 c3 c4 c5 c6 c7 := by
  unfold WB
  simp only [lo_eq b_c0 (by decide : 0 ≤ (32 : Int32).toInt ∧ (32 : Int32).toInt ≤ 127), lo_eq b_c1 (by decide : 0 ≤ (32 : Int32).toInt ∧ (32 : Int32).toInt ≤ 127), lo_eq b_c1 (by decide : 0 ≤ (87 : Int32).toInt ∧ (87 : Int32).toInt ≤ 127), lo_eq b_c2 (by decide : 0 ≤ (72 : Int32).toInt ∧ (72 : Int32).toInt ≤ 127), lo_eq b_c2 (by decide : 0 ≤ (87 : Int32).toInt ∧ (87 : Int32).toInt ≤ 127), lo_eq b_c3 (by decide : 0 ≤ (69 : Int32).toInt ∧ (69 : Int32).toInt ≤ 127), lo_eq b_c3 (by decide : 0 ≤ (72 : Int32).toInt ∧ (72 : Int32).toInt ≤ 127), lo_eq b_c4 (by decide : 0 ≤ (69 : Int32).toInt ∧ (69 : Int32).toInt ≤ 127), lo_eq b_c4 (by decide : 0 ≤ (82 : Int32).toInt ∧ (82 : Int32).toInt ≤ 127), lo_eq b_c5 (by decide : 0 ≤ (69 : Int32).toInt ∧ (69 : Int32).toInt ≤ 127), lo_eq b_c5 (by decide : 0 ≤ (82 : Int32).toInt ∧ (82 : Int32).toInt ≤ 127), lo_eq b_c6 (by decide : 0 ≤ (32 : Int32).toInt ∧ (32 : Int32).toInt ≤ 127), lo_eq b_c6 (by decide : 0 ≤ (69 : Int32).toInt ∧ (69 : Int32).toInt ≤ 127), lo_eq b_c7 (by decide : 0 ≤ (32 : Int32).toInt ∧ (32 : Int32).toInt ≤ 127)]
theorem arr_ne {Z : State} {h : Heap} {t a : Addr} {ty : FieldType} {vs : List Value} {C : String} {k : Nat} {a0 : Array Value} (A : Ary Z h t ty vs) (E : Exa Z h a C) (wi : (Jvm.Cond.instantiable C k).before a0 Z = true) : t ≠ a := by obtain ⟨c, A, -⟩ := A; exact Ne.symm (ne_arr E wi A)
theorem pick_lat (x : Int64) (y : Int32) : ¬ chr (((ushrL x y) &&& (255 : Int64)).toInt32) < 0 ∧ ¬ (255 : Int32) < chr (((ushrL x y) &&& (255 : Int64)).toInt32) := by
  have h1 : ((ushrL x y) &&& (255 : Int64)).toInt = (ushrL x y).toInt % (2 ^ 8 : Nat) := c_maskL _ 255 8 (by decide) (by decide)
  have h2 := c_l2i ((ushrL x y) &&& (255 : Int64))
  have h3 := rng32 (((ushrL x y) &&& (255 : Int64)).toInt32)
  have h4 : 0 ≤ (((ushrL x y) &&& (255 : Int64)).toInt32).toInt ∧ (((ushrL x y) &&& (255 : Int64)).toInt32).toInt ≤ 255 := by omega
  rw [chr_id (by omega)]
  exact lat_iff.mpr h4
theorem pick_ix {k : Int32} (h : ¬ k < 0) (q : k < (7 : Int32)) : k.toInt = ((k.toInt.toNat : Nat) : Int) := by
  rw [toInt_lt] at h
  have e : (0 : Int32).toInt = 0 := rfl
  omega
theorem pick_lt {k : Int32} (h : ¬ k < 0) (q : k < (7 : Int32)) : k.toInt.toNat < List.length (α := Int32) [(32 : Int32), (87 : Int32), (72 : Int32), (69 : Int32), (82 : Int32), (69 : Int32), (32 : Int32)] := by
  rw [toInt_lt] at h q
  have e : (0 : Int32).toInt = 0 := rfl
  have e7 : (7 : Int32).toInt = 7 := rfl
  show k.toInt.toNat < 7
  omega
theorem pick_c (i : Nat) : ¬ (List.getD (α := Int32) [(32 : Int32), (87 : Int32), (72 : Int32), (69 : Int32), (82 : Int32), (69 : Int32), (32 : Int32)] i 0) < 0 ∧ ¬ (255 : Int32) < (List.getD (α := Int32) [(32 : Int32), (87 : Int32), (72 : Int32), (69 : Int32), (82 : Int32), (69 : Int32), (32 : Int32)] i 0) := by
  match i with
  | 0 | 1 | 2 | 3 | 4 | 5 | 6 => decide
  | n + 7 => simp [List.getD]
abbrev G_coder (md : Md) (l : Launch) (Z : State) (n0 : Nat) (x : Addr) (z cd : Int32) (h0 : Heap) := Go md l Z n0 ({ frames := 0, cells := 0, slots := 0, locals := 0 } : Room) jdk_42_method_152_code 1 (some .byte) "java/lang/String" "coder" (fun v h' _ => h0 = h' ∧ v = some (.int cd))
theorem ef_coder (mid : MethodId) (x : Addr) (z cd : Int32)  : entryFrame mid #[(.ref x)] 1 = mkF mid 0 #[.val (.ref x)] [] := by first | (simp [entryFrame, mkF, argsToLocals, Value.category]; done) | rfl
set_option maxRecDepth 65536 in
set_option maxHeartbeats 40000000 in
theorem c_coder {md : Md} {l : Launch} {Z : State} {n0 : Nat} {a0 : Array Value} (hw : HW a0 Z) (x : Addr) (z cd : Int32) {h0 : Heap} (C : Fld Z h0 x "java/lang/String" "coder" "B" (.int cd)) (hcd : nar .byte cd = cd) (SC : Sta Z Z.heap "java/lang/String" "COMPACT_STRINGS" "Z" (.int z)) (hz : ¬ z = 0)  : G_coder md l Z n0 x z cd h0 0 0 [] h0 0 #[.val (.ref x)] [] := by
  refine Go.getS 3 d14_0 rfl (w25 hw) Via.refl SC ?_
  refine Go.ifN 6 d14_3 rfl (feq hz).1 ?_
  refine Go.aloadN 7 d14_6 rfl rfl rfl ?_
  refine Go.getF 10 d14_7 rfl (w37 hw) Via.refl C ?_
  refine Go.goto 14 d14_10 (by decide) (by decide) ?_
  exact Go.retN cd d14_14 rfl (t := .byte) (by simp) hcd (sf' := []) (⟨rfl, rfl⟩) (fun _ q => nomatch q) (Nat.le_of_ble_eq_true rfl) (Nat.le_of_ble_eq_true rfl)
abbrev G_glen (md : Md) (l : Launch) (Z : State) (n0 : Nat) (x t : Addr) (z cd : Int32) (vs : List Value) (h0 : Heap) := Go md l Z n0 ({ frames := 1, cells := 0, slots := 0, locals := 13 } : Room) jdk_42_method_54_code 1 (some .int) "java/lang/String" "length" (fun v h' _ => h0 = h' ∧ v = some (.int ((Int32.ofNat vs.length) >>> (cd &&& 31))))
theorem ef_glen (mid : MethodId) (x t : Addr) (z cd : Int32) (vs : List Value)  : entryFrame mid #[(.ref x)] 1 = mkF mid 0 #[.val (.ref x)] [] := by first | (simp [entryFrame, mkF, argsToLocals, Value.category]; done) | rfl
set_option maxRecDepth 65536 in
set_option maxHeartbeats 40000000 in
theorem c_glen {md : Md} {l : Launch} {Z : State} {n0 : Nat} {a0 : Array Value} (hw : HW a0 Z) (x t : Addr) (z cd : Int32) (vs : List Value) {h0 : Heap} (E : Exa Z h0 x "java/lang/String") (C : Fld Z h0 x "java/lang/String" "coder" "B" (.int cd)) (V : Fld Z h0 x "java/lang/String" "value" "[B" (.ref t)) (A : Ary Z h0 t .byte vs) (hcd : nar .byte cd = cd) (SC : Sta Z Z.heap "java/lang/String" "COMPACT_STRINGS" "Z" (.int z)) (hz : ¬ z = 0)  : G_glen md l Z n0 x t z cd vs h0 0 0 [] h0 0 #[.val (.ref x)] [] := by
  refine Go.aloadN 1 d22_0 rfl rfl rfl ?_
  refine Go.getF 4 d22_1 rfl (w39 hw) Via.refl V ?_
  refine Go.alen 5 (Int32.ofNat vs.length) d22_4 rfl A rfl ?_
  refine Go.aloadN 6 d22_5 rfl rfl rfl ?_
  refine Go.callV (S := [(.int (Int32.ofNat vs.length))]) (a := x) 9 [] d22_6 rfl rfl (w67 hw) (w68 hw) (w70 hw) (w69 hw) (fun _ q => notFace_of_selects (args := #[]) (mvT q (w70 hw))) (by decide) E (call_of_go (R := _) (len := 3) (W := 1) (plainFor_of_name pn_0) (fun mid => ef_coder mid x z cd ) (c_coder hw x z cd C hcd SC hz) (w71 hw) (w14 hw) (by decide) (by decide)) (lenOf pd_0 rfl) (Nat.le_of_ble_eq_true rfl) rfl (Nat.le_of_ble_eq_true rfl) (Nat.le_of_ble_eq_true rfl) (fun _ q => nomatch q) (fun v h_1 sf_2 hq => ?_)
  obtain ⟨rfl, rfl⟩ := hq
  refine Go.more (sf' := []) ?_ (Nat.le_refl _) (Nat.le_refl _) (fun _ q => List.mem_append_right _ q)
  show G_glen md l Z n0 x t z cd vs h0 0 0 [] h0 9 #[.val (.ref x)] [(.int cd), (.int (Int32.ofNat vs.length))]
  refine Go.ishr 10 d22_9 rfl ?_
  exact Go.retI d22_10 rfl (sf' := []) (⟨rfl, rfl⟩) (fun _ q => nomatch q) (Nat.le_of_ble_eq_true rfl) (Nat.le_of_ble_eq_true rfl)
abbrev G_min (md : Md) (l : Launch) (Z : State) (n0 : Nat) (x y : Int32) (h0 : Heap) := Go md l Z n0 ({ frames := 0, cells := 0, slots := 0, locals := 0 } : Room) jdk_29_method_69_code 2 (some .int) "java/lang/Math" "min" (fun v h' _ => h0 = h' ∧ v = some (.int (if y < x then y else x)))
theorem ef_min (mid : MethodId) (x y : Int32)  : entryFrame mid #[(.int x), (.int y)] 2 = mkF mid 0 #[.val (.int x), .val (.int y)] [] := by first | (simp [entryFrame, mkF, argsToLocals, Value.category]; done) | rfl
set_option maxRecDepth 65536 in
set_option maxHeartbeats 40000000 in
theorem c_min {md : Md} {l : Launch} {Z : State} {n0 : Nat} {a0 : Array Value} (hw : HW a0 Z) (x y : Int32) {h0 : Heap}  : G_min md l Z n0 x y h0 0 0 [] h0 0 #[.val (.int x), .val (.int y)] [] := by
  refine Go.iloadN 1 d31_0 rfl rfl ?_
  refine Go.iloadN 2 d31_1 rfl rfl ?_
  by_cases hc2 : y < x
  · skip
    refine Go.icmpY 9 d31_2 (by decide) (by decide) (tlt hc2).2.2.1 ?_
    refine Go.iloadN 10 d31_9 rfl rfl ?_
    exact Go.retI d31_10 rfl (sf' := []) (⟨rfl, by rw [if_pos hc2]⟩) (fun _ q => nomatch q) (Nat.le_of_ble_eq_true rfl) (Nat.le_of_ble_eq_true rfl)
  · skip
    refine Go.icmpN 5 d31_2 rfl (flt hc2).2.2.1 ?_
    refine Go.iloadN 6 d31_5 rfl rfl ?_
    refine Go.goto 10 d31_6 (by decide) (by decide) ?_
    exact Go.retI d31_10 rfl (sf' := []) (⟨rfl, by rw [if_neg hc2]⟩) (fun _ q => nomatch q) (Nat.le_of_ble_eq_true rfl) (Nat.le_of_ble_eq_true rfl)
abbrev G_max (md : Md) (l : Launch) (Z : State) (n0 : Nat) (x y : Int32) (h0 : Heap) := Go md l Z n0 ({ frames := 0, cells := 0, slots := 0, locals := 0 } : Room) jdk_29_method_65_code 2 (some .int) "java/lang/Math" "max" (fun v h' _ => h0 = h' ∧ v = some (.int (if x < y then y else x)))
theorem ef_max (mid : MethodId) (x y : Int32)  : entryFrame mid #[(.int x), (.int y)] 2 = mkF mid 0 #[.val (.int x), .val (.int y)] [] := by first | (simp [entryFrame, mkF, argsToLocals, Value.category]; done) | rfl
set_option maxRecDepth 65536 in
set_option maxHeartbeats 40000000 in
theorem c_max {md : Md} {l : Launch} {Z : State} {n0 : Nat} {a0 : Array Value} (hw : HW a0 Z) (x y : Int32) {h0 : Heap}  : G_max md l Z n0 x y h0 0 0 [] h0 0 #[.val (.int x), .val (.int y)] [] := by
  refine Go.iloadN 1 d29_0 rfl rfl ?_
  refine Go.iloadN 2 d29_1 rfl rfl ?_
  by_cases hc2 : x < y
  · skip
    refine Go.icmpY 9 d29_2 (by decide) (by decide) (tlt hc2).1 ?_
    refine Go.iloadN 10 d29_9 rfl rfl ?_
    exact Go.retI d29_10 rfl (sf' := []) (⟨rfl, by rw [if_pos hc2]⟩) (fun _ q => nomatch q) (Nat.le_of_ble_eq_true rfl) (Nat.le_of_ble_eq_true rfl)
  · skip
    refine Go.icmpN 5 d29_2 rfl (flt hc2).1 ?_
    refine Go.iloadN 6 d29_5 rfl rfl ?_
    refine Go.goto 10 d29_6 (by decide) (by decide) ?_
    exact Go.retI d29_10 rfl (sf' := []) (⟨rfl, by rw [if_neg hc2]⟩) (fun _ q => nomatch q) (Nat.le_of_ble_eq_true rfl) (Nat.le_of_ble_eq_true rfl)
abbrev G_asbinit (md : Md) (l : Launch) (Z : State) (n0 : Nat) (x : Addr) (z : Int32) (h0 : Heap) := Go md l Z n0 ({ frames := 1, cells := 1, slots := 16, locals := 12 } : Room) jdk_68_method_2_code 2 none "java/lang/AbstractStringBuilder" "<init>" (fun v h' sf' => ∃ b, v = none ∧ Keep h0 h' [x] ∧ Exa Z h' x "java/lang/StringBuilder" ∧ h0.size ≤ b ∧ n0 ≤ b ∧ b ≠ x ∧ Fld Z h' x "java/lang/AbstractStringBuilder" "value" "[B" (.ref b) ∧ Fld Z h' x "java/lang/AbstractStringBuilder" "coder" "B" (.int 0) ∧ Fld Z h' x "java/lang/AbstractStringBuilder" "count" "I" (.int 0) ∧ Ary Z h' b .byte (List.replicate 16 (.int 0)) ∧ sf' = [b])
theorem ef_asbinit (mid : MethodId) (x : Addr) (z : Int32)  : entryFrame mid #[(.ref x), (.int (16 : Int32))] 2 = mkF mid 0 #[.val (.ref x), .val (.int (16 : Int32))] [] := by first | (simp [entryFrame, mkF, argsToLocals, Value.category]; done) | rfl
set_option maxRecDepth 65536 in
set_option maxHeartbeats 40000000 in
theorem c_asbinit {md : Md} {l : Launch} {Z : State} {n0 : Nat} {a0 : Array Value} (hw : HW a0 Z) (x : Addr) (z : Int32) {h0 : Heap} (E : Exa Z h0 x "java/lang/StringBuilder") (n0x : n0 ≤ x) {u1 : Value} (F1 : Fld Z h0 x "java/lang/AbstractStringBuilder" "value" "[B" u1) (Fn : Fld Z h0 x "java/lang/AbstractStringBuilder" "count" "I" (.int 0)) (SC : Sta Z Z.heap "java/lang/String" "COMPACT_STRINGS" "Z" (.int z)) (hz : ¬ z = 0)  : G_asbinit md l Z n0 x z h0 0 0 [x] h0 0 #[.val (.ref x), .val (.int (16 : Int32))] [] := by
  refine Go.aloadN 1 d19_0 rfl rfl rfl ?_
  refine Go.initO (W := 0) 4 d19_1 rfl (w96 hw) (w23 hw) (w24 hw) rfl (by decide) (Nat.le_of_ble_eq_true rfl) (by decide) ?_
  refine Go.getS 7 d19_4 rfl (w97 hw) Via.refl SC ?_
  refine Go.ifN 10 d19_7 rfl (feq hz).1 ?_
  refine Go.aloadN 11 d19_10 rfl rfl rfl ?_
  refine Go.iloadN 12 d19_11 rfl rfl ?_
  refine Go.newA 16 14 d19_12 rfl rfl (w30 hw) (by decide) 16 (Nat.le_refl _) (by decide) (Nat.le_of_ble_eq_true rfl) (Nat.le_of_ble_eq_true rfl) (fun h_1 b_2 g_3 q_4 E_5 lt_6 A_7 => ?_)
  have A_8 : Ary Z h_1 b_2 .byte (List.replicate 16 (.int 0)) := A_7
  have nbx : b_2 ≠ x := Nat.ne_of_gt (Nat.lt_of_lt_of_le E.lt (Nat.le_of_eq g_3))
  show G_asbinit md l Z n0 x z h0 1 16 [b_2, x] h_1 14 #[.val (.ref x), .val (.int (16 : Int32))] [(.ref b_2), (.ref x)]
  have f_9 := E.ext E_5
  have f_10 := F1.ext E_5
  refine Go.putF 17 (.ref b_2) d19_14 rfl (w98 hw) Via.refl f_10 f_9 (Or.inl (w99 hw)) (w85 hw) (ty := (.array .byte)) (by decide) rfl rfl (List.mem_of_getElem? (i := 1) rfl) n0x (fun h_11 W_12 => ?_)
  refine Go.aloadN 18 d19_17 rfl rfl rfl ?_
  refine Go.iconst 19 (0 : Int32) d19_18 rfl rfl ?_
  have f_13 := (f_9.wr W_12)
  obtain ⟨o_14, fo_15⟩ := Fld.any (f_10.same W_12) f_13 (w85 hw) (Or.inl (w101 hw))
  refine Go.putF 22 (.int (0 : Int32)) d19_19 rfl (w100 hw) Via.refl fo_15 f_13 (Or.inl (w101 hw)) (w85 hw) (ty := .byte) (by decide) rfl rfl (List.mem_of_getElem? (i := 1) rfl) n0x (fun h_16 W_17 => ?_)
  refine Go.goto 38 d19_22 (by decide) (by decide) ?_
  have f_18 := (f_13.wr W_17)
  have f_19 := ((f_10.same W_12).other W_17 (Or.inr (slot_ne (Or.inl (w99 hw)) (Or.inl (w101 hw)) (by decide) (t := (.array .byte)) (t' := .byte) (by decide) (by decide))))
  have f_20 := (((Fn.ext E_5).other W_12 (Or.inr (slot_ne (Or.inl (w118 hw)) (Or.inl (w99 hw)) (by decide) (t := .int) (t' := (.array .byte)) (by decide) (by decide)))).other W_17 (Or.inr (slot_ne (Or.inl (w118 hw)) (Or.inl (w101 hw)) (by decide) (t := .int) (t' := .byte) (by decide) (by decide))))
  have f_21 := ((A_8.other W_12 nbx).other W_17 nbx)
  exact Go.ret0 d19_38 rfl (sf' := [b_2]) (⟨b_2, rfl, ((((Keep.refl h0 [x]).ext E_5).wr W_12 (Or.inl (List.mem_of_getElem? (i := 0) rfl))).wr W_17 (Or.inl (List.mem_of_getElem? (i := 0) rfl))), f_18, (Nat.le_of_eq g_3), q_4, nbx, f_19, (fo_15.same W_17), f_20, f_21, rfl⟩) (sub1 (List.mem_of_getElem? (i := 0) rfl)) (Nat.le_of_ble_eq_true rfl) (Nat.le_of_ble_eq_true rfl)
abbrev G_sbinit (md : Md) (l : Launch) (Z : State) (n0 : Nat) (x : Addr) (z : Int32) (h0 : Heap) := Go md l Z n0 ({ frames := 2, cells := 1, slots := 16, locals := 25 } : Room) jdk_67_method_1_code 1 none "java/lang/StringBuilder" "<init>" (fun v h' sf' => ∃ b, v = none ∧ Keep h0 h' [x] ∧ Exa Z h' x "java/lang/StringBuilder" ∧ h0.size ≤ b ∧ n0 ≤ b ∧ b ≠ x ∧ Fld Z h' x "java/lang/AbstractStringBuilder" "value" "[B" (.ref b) ∧ Fld Z h' x "java/lang/AbstractStringBuilder" "coder" "B" (.int 0) ∧ Fld Z h' x "java/lang/AbstractStringBuilder" "count" "I" (.int 0) ∧ Ary Z h' b .byte (List.replicate 16 (.int 0)) ∧ sf' = [b])
theorem ef_sbinit (mid : MethodId) (x : Addr) (z : Int32)  : entryFrame mid #[(.ref x)] 1 = mkF mid 0 #[.val (.ref x)] [] := by first | (simp [entryFrame, mkF, argsToLocals, Value.category]; done) | rfl
set_option maxRecDepth 65536 in
set_option maxHeartbeats 40000000 in
theorem c_sbinit {md : Md} {l : Launch} {Z : State} {n0 : Nat} {a0 : Array Value} (hw : HW a0 Z) (x : Addr) (z : Int32) {h0 : Heap} (E : Exa Z h0 x "java/lang/StringBuilder") (n0x : n0 ≤ x) {u1 : Value} (F1 : Fld Z h0 x "java/lang/AbstractStringBuilder" "value" "[B" u1) (Fn : Fld Z h0 x "java/lang/AbstractStringBuilder" "count" "I" (.int 0)) (SC : Sta Z Z.heap "java/lang/String" "COMPACT_STRINGS" "Z" (.int z)) (hz : ¬ z = 0)  : G_sbinit md l Z n0 x z h0 0 0 [x] h0 0 #[.val (.ref x)] [] := by
  refine Go.aloadN 1 d18_0 rfl rfl rfl ?_
  refine Go.bipush 3 (16 : Int32) d18_1 rfl rfl ?_
  refine Go.callC (S := []) (a := x) 6 [(.int (16 : Int32))] d18_3 rfl rfl rfl (w90 hw) (w91 hw) (w95 hw) (by decide) (call_of_go (R := _) (len := 3) (W := 0) (plainFor_of_name pn_1) (fun mid => ef_asbinit mid x z ) (c_asbinit hw x z E n0x F1 Fn SC hz) (w95 hw) (w94 hw) (by decide) (by decide)) (lenOf pd_1 rfl) (Nat.le_of_ble_eq_true rfl) rfl (Nat.le_of_ble_eq_true rfl) (Nat.le_of_ble_eq_true rfl) (fun _ q => q) (fun v h_1 sf_2 hq => ?_)
  obtain ⟨b, rfl, Kb, Eb, le_b, n0b, nbx, Fb, Fc, Fn', Ab, rfl⟩ := hq
  show G_sbinit md l Z n0 x z h0 1 16 [b, x] h_1 6 #[.val (.ref x)] []
  exact Go.ret0 d18_6 rfl (sf' := [b]) (⟨b, rfl, Kb, Eb, le_b, n0b, nbx, Fb, Fc, Fn', Ab, rfl⟩) (sub1 (List.mem_of_getElem? (i := 0) rfl)) (Nat.le_of_ble_eq_true rfl) (Nat.le_of_ble_eq_true rfl)
abbrev G_inflate (md : Md) (l : Launch) (Z : State) (n0 : Nat) (x y t : Addr) (z : Int32) (us : List Value) (h0 : Heap) := Go md l Z n0 ({ frames := 1, cells := 0, slots := 0, locals := 13 } : Room) jdk_68_method_71_code 2 none "java/lang/AbstractStringBuilder" "inflateIfNeededFor" (fun v h' _ => h0 = h' ∧ v = none)
theorem ef_inflate (mid : MethodId) (x y t : Addr) (z : Int32) (us : List Value)  : entryFrame mid #[(.ref x), (.ref y)] 2 = mkF mid 0 #[.val (.ref x), .val (.ref y)] [] := by first | (simp [entryFrame, mkF, argsToLocals, Value.category]; done) | rfl
set_option maxRecDepth 65536 in
set_option maxHeartbeats 40000000 in
theorem c_inflate {md : Md} {l : Launch} {Z : State} {n0 : Nat} {a0 : Array Value} (hw : HW a0 Z) (x y t : Addr) (z : Int32) (us : List Value) {h0 : Heap} (Fc : Fld Z h0 x "java/lang/AbstractStringBuilder" "coder" "B" (.int 0)) (Ey : Exa Z h0 y "java/lang/String") (Cy : Fld Z h0 y "java/lang/String" "coder" "B" (.int 0)) (Vy : Fld Z h0 y "java/lang/String" "value" "[B" (.ref t)) (Uy : Ary Z h0 t .byte us) (SC : Sta Z Z.heap "java/lang/String" "COMPACT_STRINGS" "Z" (.int z)) (hz : ¬ z = 0)  : G_inflate md l Z n0 x y t z us h0 0 0 [] h0 0 #[.val (.ref x), .val (.ref y)] [] := by
  refine Go.getS 3 d25_0 rfl (w97 hw) Via.refl SC ?_
  refine Go.ifN 6 d25_3 rfl (feq hz).1 ?_
  refine Go.aloadN 7 d25_6 rfl rfl rfl ?_
  refine Go.getF 10 d25_7 rfl (w100 hw) Via.refl Fc ?_
  refine Go.aloadN 11 d25_10 rfl rfl rfl ?_
  refine Go.callV (S := [(.int (0 : Int32))]) (a := y) 14 [] d25_11 rfl rfl (w134 hw) (w68 hw) (w70 hw) (w69 hw) (fun _ q => notFace_of_selects (args := #[]) (mvT q (w70 hw))) (by decide) Ey (call_of_go (R := _) (len := 3) (W := 1) (plainFor_of_name pn_0) (fun mid => ef_coder mid y z (0 : Int32) ) (c_coder hw y z (0 : Int32) Cy rfl SC hz) (w71 hw) (w14 hw) (by decide) (by decide)) (lenOf pd_0 rfl) (Nat.le_of_ble_eq_true rfl) rfl (Nat.le_of_ble_eq_true rfl) (Nat.le_of_ble_eq_true rfl) (fun _ q => nomatch q) (fun v h_1 sf_2 hq => ?_)
  obtain ⟨rfl, rfl⟩ := hq
  refine Go.more (sf' := []) ?_ (Nat.le_refl _) (Nat.le_refl _) (fun _ q => List.mem_append_right _ q)
  show G_inflate md l Z n0 x y t z us h0 0 0 [] h0 14 #[.val (.ref x), .val (.ref y)] [(.int (0 : Int32)), (.int (0 : Int32))]
  refine Go.icmpY 21 d25_14 (by decide) (by decide) (teq (by decide)).1 ?_
  exact Go.ret0 d25_21 rfl (sf' := []) (⟨rfl, rfl⟩) (fun _ q => nomatch q) (Nat.le_of_ble_eq_true rfl) (Nat.le_of_ble_eq_true rfl)
abbrev G_lidx (md : Md) (l : Launch) (Z : State) (n0 : Nat) (a b : Addr) (y0 y1 y2 y3 y4 y5 y6 y7 : Int32) (h0 : Heap) := Go md l Z n0 ({ frames := 0, cells := 0, slots := 0, locals := 0 } : Room) jdk_43_method_25_code 11 (some .int) "java/lang/StringLatin1" "indexOf" (fun v h' _ => h0 = h' ∧ ∃ r : Int32, v = some (.int r) ∧ ((¬ r < 0 ∧ WB y0 y1 y2 y3 y4 y5 y6 y7) ∨ (r < 0 ∧ ¬ WB y0 y1 y2 y3 y4 y5 y6 y7)))
theorem ef_lidx (mid : MethodId) (a b : Addr) (y0 y1 y2 y3 y4 y5 y6 y7 : Int32)  : entryFrame mid #[(.ref a), (.int (8 : Int32)), (.ref b), (.int (7 : Int32)), (.int (0 : Int32))] 11 = mkF mid 0 #[.val (.ref a), .val (.int (8 : Int32)), .val (.ref b), .val (.int (7 : Int32)), .val (.int (0 : Int32)), .unset, .unset, .unset, .unset, .unset, .unset] [] := by first | (simp [entryFrame, mkF, argsToLocals, Value.category]; done) | rfl
set_option maxRecDepth 65536 in
set_option maxHeartbeats 40000000 in
theorem c_lidx {md : Md} {l : Launch} {Z : State} {n0 : Nat} {a0 : Array Value} (hw : HW a0 Z) (a b : Addr) (y0 y1 y2 y3 y4 y5 y6 y7 : Int32) {h0 : Heap} (A : Ary Z h0 a .byte [(.int y0), (.int y1), (.int y2), (.int y3), (.int y4), (.int y5), (.int y6), (.int y7)]) (P : Ary Z h0 b .byte [(.int (32 : Int32)), (.int (87 : Int32)), (.int (72 : Int32)), (.int (69 : Int32)), (.int (82 : Int32)), (.int (69 : Int32)), (.int (32 : Int32))]) : G_lidx md l Z n0 a b y0 y1 y2 y3 y4 y5 y6 y7 h0 0 0 [] h0 0 #[.val (.ref a), .val (.int (8 : Int32)), .val (.ref b), .val (.int (7 : Int32)), .val (.int (0 : Int32)), .unset, .unset, .unset, .unset, .unset, .unset] [] := by
  refine Go.aloadN 1 d17_0 rfl rfl rfl ?_
  refine Go.iconst 2 (0 : Int32) d17_1 rfl rfl ?_
  refine Go.baload 0 3 d17_2 rfl P (by decide) rfl ?_
  refine Go.istore 5 #[.val (.ref a), .val (.int (8 : Int32)), .val (.ref b), .val (.int (7 : Int32)), .val (.int (0 : Int32)), .val (.int (32 : Int32)), .unset, .unset, .unset, .unset, .unset] d17_3 rfl rfl ?_
  refine Go.iloadN 6 d17_5 rfl rfl ?_
  refine Go.iloadN 7 d17_6 rfl rfl ?_
  refine Go.isub 8 d17_7 rfl ?_
  rw [show ((8 : Int32) - (7 : Int32)) = (1 : Int32) from by decide]
  refine Go.istore 10 #[.val (.ref a), .val (.int (8 : Int32)), .val (.ref b), .val (.int (7 : Int32)), .val (.int (0 : Int32)), .val (.int (32 : Int32)), .val (.int (1 : Int32)), .unset, .unset, .unset, .unset] d17_8 rfl rfl ?_
  refine Go.iload 12 d17_10 rfl rfl ?_
  refine Go.istore 14 #[.val (.ref a), .val (.int (8 : Int32)), .val (.ref b), .val (.int (7 : Int32)), .val (.int (0 : Int32)), .val (.int (32 : Int32)), .val (.int (1 : Int32)), .val (.int (0 : Int32)), .unset, .unset, .unset] d17_12 rfl rfl ?_
  have cut14 : ∀ (s8 s9 s10 : Int32) (hno : ¬ (y0 = (32 : Int32) ∧ y1 = (87 : Int32) ∧ y2 = (72 : Int32) ∧ y3 = (69 : Int32) ∧ y4 = (82 : Int32) ∧ y5 = (69 : Int32) ∧ y6 = (32 : Int32))), G_lidx md l Z n0 a b y0 y1 y2 y3 y4 y5 y6 y7 h0 0 0 [] h0 14 #[.val (.ref a), .val (.int (8 : Int32)), .val (.ref b), .val (.int (7 : Int32)), .val (.int (0 : Int32)), .val (.int (32 : Int32)), .val (.int (1 : Int32)), .val (.int (1 : Int32)), .val (.int s8), .val (.int s9), .val (.int s10)] [] := by
    intro s8 s9 s10 hno
    refine Go.iload 16 d17_14 rfl rfl ?_
    refine Go.iload 18 d17_16 rfl rfl ?_
    refine Go.icmpN 21 d17_18 rfl (flt (by decide)).2.2.1 ?_
    refine Go.aloadN 22 d17_21 rfl rfl rfl ?_
    refine Go.iload 24 d17_22 rfl rfl ?_
    refine Go.baload 1 25 d17_24 rfl A (by decide) rfl ?_
    refine Go.iload 27 d17_25 rfl rfl ?_
    by_cases hx_1_0 : y1 = (32 : Int32)
    · skip
      refine Go.icmpY 52 d17_27 (by decide) (by decide) (teq hx_1_0).1 ?_
      refine Go.iload 54 d17_52 rfl rfl ?_
      refine Go.iload 56 d17_54 rfl rfl ?_
      refine Go.icmpN 59 d17_56 rfl (flt (by decide)).2.2.1 ?_
      refine Go.iload 61 d17_59 rfl rfl ?_
      refine Go.iconst 62 (1 : Int32) d17_61 rfl rfl ?_
      refine Go.iadd 63 d17_62 rfl ?_
      rw [show ((1 : Int32) + (1 : Int32)) = (2 : Int32) from by decide]
      refine Go.istore 65 #[.val (.ref a), .val (.int (8 : Int32)), .val (.ref b), .val (.int (7 : Int32)), .val (.int (0 : Int32)), .val (.int (32 : Int32)), .val (.int (1 : Int32)), .val (.int (1 : Int32)), .val (.int (2 : Int32)), .val (.int s9), .val (.int s10)] d17_63 rfl rfl ?_
      refine Go.iload 67 d17_65 rfl rfl ?_
      refine Go.iloadN 68 d17_67 rfl rfl ?_
      refine Go.iadd 69 d17_68 rfl ?_
      rw [show ((2 : Int32) + (7 : Int32)) = (9 : Int32) from by decide]
      refine Go.iconst 70 (1 : Int32) d17_69 rfl rfl ?_
      refine Go.isub 71 d17_70 rfl ?_
      rw [show ((9 : Int32) - (1 : Int32)) = (8 : Int32) from by decide]
      refine Go.istore 73 #[.val (.ref a), .val (.int (8 : Int32)), .val (.ref b), .val (.int (7 : Int32)), .val (.int (0 : Int32)), .val (.int (32 : Int32)), .val (.int (1 : Int32)), .val (.int (1 : Int32)), .val (.int (2 : Int32)), .val (.int (8 : Int32)), .val (.int s10)] d17_71 rfl rfl ?_
      refine Go.iconst 74 (1 : Int32) d17_73 rfl rfl ?_
      refine Go.istore 76 #[.val (.ref a), .val (.int (8 : Int32)), .val (.ref b), .val (.int (7 : Int32)), .val (.int (0 : Int32)), .val (.int (32 : Int32)), .val (.int (1 : Int32)), .val (.int (1 : Int32)), .val (.int (2 : Int32)), .val (.int (8 : Int32)), .val (.int (1 : Int32))] d17_74 rfl rfl ?_
      refine Go.iload 78 d17_76 rfl rfl ?_
      refine Go.iload 80 d17_78 rfl rfl ?_
      refine Go.icmpN 83 d17_80 rfl (tlt (by decide)).2.1 ?_
      refine Go.aloadN 84 d17_83 rfl rfl rfl ?_
      refine Go.iload 86 d17_84 rfl rfl ?_
      refine Go.baload 2 87 d17_86 rfl A (by decide) rfl ?_
      refine Go.aloadN 88 d17_87 rfl rfl rfl ?_
      refine Go.iload 90 d17_88 rfl rfl ?_
      refine Go.baload 1 91 d17_90 rfl P (by decide) rfl ?_
      by_cases hx_1_1 : y2 = (87 : Int32)
      · skip
        refine Go.icmpN 94 d17_91 rfl (teq hx_1_1).2 ?_
        refine Go.iinc 97 #[.val (.ref a), .val (.int (8 : Int32)), .val (.ref b), .val (.int (7 : Int32)), .val (.int (0 : Int32)), .val (.int (32 : Int32)), .val (.int (1 : Int32)), .val (.int (1 : Int32)), .val (.int ((2 : Int32) + (1 : Int32))), .val (.int (8 : Int32)), .val (.int (1 : Int32))] (1 : Int32) d17_94 rfl rfl rfl rfl ?_
        rw [show ((2 : Int32) + (1 : Int32)) = (3 : Int32) from by decide]
        refine Go.iinc 100 #[.val (.ref a), .val (.int (8 : Int32)), .val (.ref b), .val (.int (7 : Int32)), .val (.int (0 : Int32)), .val (.int (32 : Int32)), .val (.int (1 : Int32)), .val (.int (1 : Int32)), .val (.int (3 : Int32)), .val (.int (8 : Int32)), .val (.int ((1 : Int32) + (1 : Int32)))] (1 : Int32) d17_97 rfl rfl rfl rfl ?_
        rw [show ((1 : Int32) + (1 : Int32)) = (2 : Int32) from by decide]
        refine Go.goto 76 d17_100 (by decide) (by decide) ?_
        refine Go.iload 78 d17_76 rfl rfl ?_
        refine Go.iload 80 d17_78 rfl rfl ?_
        refine Go.icmpN 83 d17_80 rfl (tlt (by decide)).2.1 ?_
        refine Go.aloadN 84 d17_83 rfl rfl rfl ?_
        refine Go.iload 86 d17_84 rfl rfl ?_
        refine Go.baload 3 87 d17_86 rfl A (by decide) rfl ?_
        refine Go.aloadN 88 d17_87 rfl rfl rfl ?_
        refine Go.iload 90 d17_88 rfl rfl ?_
        refine Go.baload 2 91 d17_90 rfl P (by decide) rfl ?_
        by_cases hx_1_2 : y3 = (72 : Int32)
        · skip
          refine Go.icmpN 94 d17_91 rfl (teq hx_1_2).2 ?_
          refine Go.iinc 97 #[.val (.ref a), .val (.int (8 : Int32)), .val (.ref b), .val (.int (7 : Int32)), .val (.int (0 : Int32)), .val (.int (32 : Int32)), .val (.int (1 : Int32)), .val (.int (1 : Int32)), .val (.int ((3 : Int32) + (1 : Int32))), .val (.int (8 : Int32)), .val (.int (2 : Int32))] (1 : Int32) d17_94 rfl rfl rfl rfl ?_
          rw [show ((3 : Int32) + (1 : Int32)) = (4 : Int32) from by decide]
          refine Go.iinc 100 #[.val (.ref a), .val (.int (8 : Int32)), .val (.ref b), .val (.int (7 : Int32)), .val (.int (0 : Int32)), .val (.int (32 : Int32)), .val (.int (1 : Int32)), .val (.int (1 : Int32)), .val (.int (4 : Int32)), .val (.int (8 : Int32)), .val (.int ((2 : Int32) + (1 : Int32)))] (1 : Int32) d17_97 rfl rfl rfl rfl ?_
          rw [show ((2 : Int32) + (1 : Int32)) = (3 : Int32) from by decide]
          refine Go.goto 76 d17_100 (by decide) (by decide) ?_
          refine Go.iload 78 d17_76 rfl rfl ?_
          refine Go.iload 80 d17_78 rfl rfl ?_
          refine Go.icmpN 83 d17_80 rfl (tlt (by decide)).2.1 ?_
          refine Go.aloadN 84 d17_83 rfl rfl rfl ?_
          refine Go.iload 86 d17_84 rfl rfl ?_
          refine Go.baload 4 87 d17_86 rfl A (by decide) rfl ?_
          refine Go.aloadN 88 d17_87 rfl rfl rfl ?_
          refine Go.iload 90 d17_88 rfl rfl ?_
          refine Go.baload 3 91 d17_90 rfl P (by decide) rfl ?_
          by_cases hx_1_3 : y4 = (69 : Int32)
          · skip
            refine Go.icmpN 94 d17_91 rfl (teq hx_1_3).2 ?_
            refine Go.iinc 97 #[.val (.ref a), .val (.int (8 : Int32)), .val (.ref b), .val (.int (7 : Int32)), .val (.int (0 : Int32)), .val (.int (32 : Int32)), .val (.int (1 : Int32)), .val (.int (1 : Int32)), .val (.int ((4 : Int32) + (1 : Int32))), .val (.int (8 : Int32)), .val (.int (3 : Int32))] (1 : Int32) d17_94 rfl rfl rfl rfl ?_
            rw [show ((4 : Int32) + (1 : Int32)) = (5 : Int32) from by decide]
            refine Go.iinc 100 #[.val (.ref a), .val (.int (8 : Int32)), .val (.ref b), .val (.int (7 : Int32)), .val (.int (0 : Int32)), .val (.int (32 : Int32)), .val (.int (1 : Int32)), .val (.int (1 : Int32)), .val (.int (5 : Int32)), .val (.int (8 : Int32)), .val (.int ((3 : Int32) + (1 : Int32)))] (1 : Int32) d17_97 rfl rfl rfl rfl ?_
            rw [show ((3 : Int32) + (1 : Int32)) = (4 : Int32) from by decide]
            refine Go.goto 76 d17_100 (by decide) (by decide) ?_
            refine Go.iload 78 d17_76 rfl rfl ?_
            refine Go.iload 80 d17_78 rfl rfl ?_
            refine Go.icmpN 83 d17_80 rfl (tlt (by decide)).2.1 ?_
            refine Go.aloadN 84 d17_83 rfl rfl rfl ?_
            refine Go.iload 86 d17_84 rfl rfl ?_
            refine Go.baload 5 87 d17_86 rfl A (by decide) rfl ?_
            refine Go.aloadN 88 d17_87 rfl rfl rfl ?_
            refine Go.iload 90 d17_88 rfl rfl ?_
            refine Go.baload 4 91 d17_90 rfl P (by decide) rfl ?_
            by_cases hx_1_4 : y5 = (82 : Int32)
            · skip
              refine Go.icmpN 94 d17_91 rfl (teq hx_1_4).2 ?_
              refine Go.iinc 97 #[.val (.ref a), .val (.int (8 : Int32)), .val (.ref b), .val (.int (7 : Int32)), .val (.int (0 : Int32)), .val (.int (32 : Int32)), .val (.int (1 : Int32)), .val (.int (1 : Int32)), .val (.int ((5 : Int32) + (1 : Int32))), .val (.int (8 : Int32)), .val (.int (4 : Int32))] (1 : Int32) d17_94 rfl rfl rfl rfl ?_
              rw [show ((5 : Int32) + (1 : Int32)) = (6 : Int32) from by decide]
              refine Go.iinc 100 #[.val (.ref a), .val (.int (8 : Int32)), .val (.ref b), .val (.int (7 : Int32)), .val (.int (0 : Int32)), .val (.int (32 : Int32)), .val (.int (1 : Int32)), .val (.int (1 : Int32)), .val (.int (6 : Int32)), .val (.int (8 : Int32)), .val (.int ((4 : Int32) + (1 : Int32)))] (1 : Int32) d17_97 rfl rfl rfl rfl ?_
              rw [show ((4 : Int32) + (1 : Int32)) = (5 : Int32) from by decide]
              refine Go.goto 76 d17_100 (by decide) (by decide) ?_
              refine Go.iload 78 d17_76 rfl rfl ?_
              refine Go.iload 80 d17_78 rfl rfl ?_
              refine Go.icmpN 83 d17_80 rfl (tlt (by decide)).2.1 ?_
              refine Go.aloadN 84 d17_83 rfl rfl rfl ?_
              refine Go.iload 86 d17_84 rfl rfl ?_
              refine Go.baload 6 87 d17_86 rfl A (by decide) rfl ?_
              refine Go.aloadN 88 d17_87 rfl rfl rfl ?_
              refine Go.iload 90 d17_88 rfl rfl ?_
              refine Go.baload 5 91 d17_90 rfl P (by decide) rfl ?_
              by_cases hx_1_5 : y6 = (69 : Int32)
              · skip
                refine Go.icmpN 94 d17_91 rfl (teq hx_1_5).2 ?_
                refine Go.iinc 97 #[.val (.ref a), .val (.int (8 : Int32)), .val (.ref b), .val (.int (7 : Int32)), .val (.int (0 : Int32)), .val (.int (32 : Int32)), .val (.int (1 : Int32)), .val (.int (1 : Int32)), .val (.int ((6 : Int32) + (1 : Int32))), .val (.int (8 : Int32)), .val (.int (5 : Int32))] (1 : Int32) d17_94 rfl rfl rfl rfl ?_
                rw [show ((6 : Int32) + (1 : Int32)) = (7 : Int32) from by decide]
                refine Go.iinc 100 #[.val (.ref a), .val (.int (8 : Int32)), .val (.ref b), .val (.int (7 : Int32)), .val (.int (0 : Int32)), .val (.int (32 : Int32)), .val (.int (1 : Int32)), .val (.int (1 : Int32)), .val (.int (7 : Int32)), .val (.int (8 : Int32)), .val (.int ((5 : Int32) + (1 : Int32)))] (1 : Int32) d17_97 rfl rfl rfl rfl ?_
                rw [show ((5 : Int32) + (1 : Int32)) = (6 : Int32) from by decide]
                refine Go.goto 76 d17_100 (by decide) (by decide) ?_
                refine Go.iload 78 d17_76 rfl rfl ?_
                refine Go.iload 80 d17_78 rfl rfl ?_
                refine Go.icmpN 83 d17_80 rfl (tlt (by decide)).2.1 ?_
                refine Go.aloadN 84 d17_83 rfl rfl rfl ?_
                refine Go.iload 86 d17_84 rfl rfl ?_
                refine Go.baload 7 87 d17_86 rfl A (by decide) rfl ?_
                refine Go.aloadN 88 d17_87 rfl rfl rfl ?_
                refine Go.iload 90 d17_88 rfl rfl ?_
                refine Go.baload 6 91 d17_90 rfl P (by decide) rfl ?_
                by_cases hx_1_6 : y7 = (32 : Int32)
                · skip
                  refine Go.icmpN 94 d17_91 rfl (teq hx_1_6).2 ?_
                  refine Go.iinc 97 #[.val (.ref a), .val (.int (8 : Int32)), .val (.ref b), .val (.int (7 : Int32)), .val (.int (0 : Int32)), .val (.int (32 : Int32)), .val (.int (1 : Int32)), .val (.int (1 : Int32)), .val (.int ((7 : Int32) + (1 : Int32))), .val (.int (8 : Int32)), .val (.int (6 : Int32))] (1 : Int32) d17_94 rfl rfl rfl rfl ?_
                  rw [show ((7 : Int32) + (1 : Int32)) = (8 : Int32) from by decide]
                  refine Go.iinc 100 #[.val (.ref a), .val (.int (8 : Int32)), .val (.ref b), .val (.int (7 : Int32)), .val (.int (0 : Int32)), .val (.int (32 : Int32)), .val (.int (1 : Int32)), .val (.int (1 : Int32)), .val (.int (8 : Int32)), .val (.int (8 : Int32)), .val (.int ((6 : Int32) + (1 : Int32)))] (1 : Int32) d17_97 rfl rfl rfl rfl ?_
                  rw [show ((6 : Int32) + (1 : Int32)) = (7 : Int32) from by decide]
                  refine Go.goto 76 d17_100 (by decide) (by decide) ?_
                  refine Go.iload 78 d17_76 rfl rfl ?_
                  refine Go.iload 80 d17_78 rfl rfl ?_
                  refine Go.icmpY 103 d17_80 (by decide) (by decide) (flt (by decide)).2.1 ?_
                  refine Go.iload 105 d17_103 rfl rfl ?_
                  refine Go.iload 107 d17_105 rfl rfl ?_
                  refine Go.icmpN 110 d17_107 rfl (teq (by decide)).2 ?_
                  refine Go.iload 112 d17_110 rfl rfl ?_
                  exact Go.retI d17_112 rfl (sf' := []) (⟨rfl, _, rfl, Or.inl ⟨by decide, Or.inr ⟨hx_1_0, hx_1_1, hx_1_2, hx_1_3, hx_1_4, hx_1_5, hx_1_6⟩⟩⟩) (fun _ q => nomatch q) (Nat.le_of_ble_eq_true rfl) (Nat.le_of_ble_eq_true rfl)
                · skip
                  refine Go.icmpY 103 d17_91 (by decide) (by decide) (feq hx_1_6).2 ?_
                  refine Go.iload 105 d17_103 rfl rfl ?_
                  refine Go.iload 107 d17_105 rfl rfl ?_
                  refine Go.icmpY 113 d17_107 (by decide) (by decide) (feq (by decide)).2 ?_
                  refine Go.iinc 116 #[.val (.ref a), .val (.int (8 : Int32)), .val (.ref b), .val (.int (7 : Int32)), .val (.int (0 : Int32)), .val (.int (32 : Int32)), .val (.int (1 : Int32)), .val (.int ((1 : Int32) + (1 : Int32))), .val (.int (7 : Int32)), .val (.int (8 : Int32)), .val (.int (6 : Int32))] (1 : Int32) d17_113 rfl rfl rfl rfl ?_
                  rw [show ((1 : Int32) + (1 : Int32)) = (2 : Int32) from by decide]
                  refine Go.goto 14 d17_116 (by decide) (by decide) ?_
                  refine Go.iload 16 d17_14 rfl rfl ?_
                  refine Go.iload 18 d17_16 rfl rfl ?_
                  refine Go.icmpY 119 d17_18 (by decide) (by decide) (tlt (by decide)).2.2.1 ?_
                  refine Go.iconst 120 (-1 : Int32) d17_119 rfl rfl ?_
                  exact Go.retI d17_120 rfl (sf' := []) (⟨rfl, _, rfl, Or.inr ⟨by decide, fun q => q.elim hno (fun q => hx_1_6 q.2.2.2.2.2.2)⟩⟩) (fun _ q => nomatch q) (Nat.le_of_ble_eq_true rfl) (Nat.le_of_ble_eq_true rfl)
              · skip
                refine Go.icmpY 103 d17_91 (by decide) (by decide) (feq hx_1_5).2 ?_
                refine Go.iload 105 d17_103 rfl rfl ?_
                refine Go.iload 107 d17_105 rfl rfl ?_
                refine Go.icmpY 113 d17_107 (by decide) (by decide) (feq (by decide)).2 ?_
                refine Go.iinc 116 #[.val (.ref a), .val (.int (8 : Int32)), .val (.ref b), .val (.int (7 : Int32)), .val (.int (0 : Int32)), .val (.int (32 : Int32)), .val (.int (1 : Int32)), .val (.int ((1 : Int32) + (1 : Int32))), .val (.int (6 : Int32)), .val (.int (8 : Int32)), .val (.int (5 : Int32))] (1 : Int32) d17_113 rfl rfl rfl rfl ?_
                rw [show ((1 : Int32) + (1 : Int32)) = (2 : Int32) from by decide]
                refine Go.goto 14 d17_116 (by decide) (by decide) ?_
                refine Go.iload 16 d17_14 rfl rfl ?_
                refine Go.iload 18 d17_16 rfl rfl ?_
                refine Go.icmpY 119 d17_18 (by decide) (by decide) (tlt (by decide)).2.2.1 ?_
                refine Go.iconst 120 (-1 : Int32) d17_119 rfl rfl ?_
                exact Go.retI d17_120 rfl (sf' := []) (⟨rfl, _, rfl, Or.inr ⟨by decide, fun q => q.elim hno (fun q => hx_1_5 q.2.2.2.2.2.1)⟩⟩) (fun _ q => nomatch q) (Nat.le_of_ble_eq_true rfl) (Nat.le_of_ble_eq_true rfl)
            · skip
              refine Go.icmpY 103 d17_91 (by decide) (by decide) (feq hx_1_4).2 ?_
              refine Go.iload 105 d17_103 rfl rfl ?_
              refine Go.iload 107 d17_105 rfl rfl ?_
              refine Go.icmpY 113 d17_107 (by decide) (by decide) (feq (by decide)).2 ?_
              refine Go.iinc 116 #[.val (.ref a), .val (.int (8 : Int32)), .val (.ref b), .val (.int (7 : Int32)), .val (.int (0 : Int32)), .val (.int (32 : Int32)), .val (.int (1 : Int32)), .val (.int ((1 : Int32) + (1 : Int32))), .val (.int (5 : Int32)), .val (.int (8 : Int32)), .val (.int (4 : Int32))] (1 : Int32) d17_113 rfl rfl rfl rfl ?_
              rw [show ((1 : Int32) + (1 : Int32)) = (2 : Int32) from by decide]
              refine Go.goto 14 d17_116 (by decide) (by decide) ?_
              refine Go.iload 16 d17_14 rfl rfl ?_
              refine Go.iload 18 d17_16 rfl rfl ?_
              refine Go.icmpY 119 d17_18 (by decide) (by decide) (tlt (by decide)).2.2.1 ?_
              refine Go.iconst 120 (-1 : Int32) d17_119 rfl rfl ?_
              exact Go.retI d17_120 rfl (sf' := []) (⟨rfl, _, rfl, Or.inr ⟨by decide, fun q => q.elim hno (fun q => hx_1_4 q.2.2.2.2.1)⟩⟩) (fun _ q => nomatch q) (Nat.le_of_ble_eq_true rfl) (Nat.le_of_ble_eq_true rfl)
          · skip
            refine Go.icmpY 103 d17_91 (by decide) (by decide) (feq hx_1_3).2 ?_
            refine Go.iload 105 d17_103 rfl rfl ?_
            refine Go.iload 107 d17_105 rfl rfl ?_
            refine Go.icmpY 113 d17_107 (by decide) (by decide) (feq (by decide)).2 ?_
            refine Go.iinc 116 #[.val (.ref a), .val (.int (8 : Int32)), .val (.ref b), .val (.int (7 : Int32)), .val (.int (0 : Int32)), .val (.int (32 : Int32)), .val (.int (1 : Int32)), .val (.int ((1 : Int32) + (1 : Int32))), .val (.int (4 : Int32)), .val (.int (8 : Int32)), .val (.int (3 : Int32))] (1 : Int32) d17_113 rfl rfl rfl rfl ?_
            rw [show ((1 : Int32) + (1 : Int32)) = (2 : Int32) from by decide]
            refine Go.goto 14 d17_116 (by decide) (by decide) ?_
            refine Go.iload 16 d17_14 rfl rfl ?_
            refine Go.iload 18 d17_16 rfl rfl ?_
            refine Go.icmpY 119 d17_18 (by decide) (by decide) (tlt (by decide)).2.2.1 ?_
            refine Go.iconst 120 (-1 : Int32) d17_119 rfl rfl ?_
            exact Go.retI d17_120 rfl (sf' := []) (⟨rfl, _, rfl, Or.inr ⟨by decide, fun q => q.elim hno (fun q => hx_1_3 q.2.2.2.1)⟩⟩) (fun _ q => nomatch q) (Nat.le_of_ble_eq_true rfl) (Nat.le_of_ble_eq_true rfl)
        · skip
          refine Go.icmpY 103 d17_91 (by decide) (by decide) (feq hx_1_2).2 ?_
          refine Go.iload 105 d17_103 rfl rfl ?_
          refine Go.iload 107 d17_105 rfl rfl ?_
          refine Go.icmpY 113 d17_107 (by decide) (by decide) (feq (by decide)).2 ?_
          refine Go.iinc 116 #[.val (.ref a), .val (.int (8 : Int32)), .val (.ref b), .val (.int (7 : Int32)), .val (.int (0 : Int32)), .val (.int (32 : Int32)), .val (.int (1 : Int32)), .val (.int ((1 : Int32) + (1 : Int32))), .val (.int (3 : Int32)), .val (.int (8 : Int32)), .val (.int (2 : Int32))] (1 : Int32) d17_113 rfl rfl rfl rfl ?_
          rw [show ((1 : Int32) + (1 : Int32)) = (2 : Int32) from by decide]
          refine Go.goto 14 d17_116 (by decide) (by decide) ?_
          refine Go.iload 16 d17_14 rfl rfl ?_
          refine Go.iload 18 d17_16 rfl rfl ?_
          refine Go.icmpY 119 d17_18 (by decide) (by decide) (tlt (by decide)).2.2.1 ?_
          refine Go.iconst 120 (-1 : Int32) d17_119 rfl rfl ?_
          exact Go.retI d17_120 rfl (sf' := []) (⟨rfl, _, rfl, Or.inr ⟨by decide, fun q => q.elim hno (fun q => hx_1_2 q.2.2.1)⟩⟩) (fun _ q => nomatch q) (Nat.le_of_ble_eq_true rfl) (Nat.le_of_ble_eq_true rfl)
      · skip
        refine Go.icmpY 103 d17_91 (by decide) (by decide) (feq hx_1_1).2 ?_
        refine Go.iload 105 d17_103 rfl rfl ?_
        refine Go.iload 107 d17_105 rfl rfl ?_
        refine Go.icmpY 113 d17_107 (by decide) (by decide) (feq (by decide)).2 ?_
        refine Go.iinc 116 #[.val (.ref a), .val (.int (8 : Int32)), .val (.ref b), .val (.int (7 : Int32)), .val (.int (0 : Int32)), .val (.int (32 : Int32)), .val (.int (1 : Int32)), .val (.int ((1 : Int32) + (1 : Int32))), .val (.int (2 : Int32)), .val (.int (8 : Int32)), .val (.int (1 : Int32))] (1 : Int32) d17_113 rfl rfl rfl rfl ?_
        rw [show ((1 : Int32) + (1 : Int32)) = (2 : Int32) from by decide]
        refine Go.goto 14 d17_116 (by decide) (by decide) ?_
        refine Go.iload 16 d17_14 rfl rfl ?_
        refine Go.iload 18 d17_16 rfl rfl ?_
        refine Go.icmpY 119 d17_18 (by decide) (by decide) (tlt (by decide)).2.2.1 ?_
        refine Go.iconst 120 (-1 : Int32) d17_119 rfl rfl ?_
        exact Go.retI d17_120 rfl (sf' := []) (⟨rfl, _, rfl, Or.inr ⟨by decide, fun q => q.elim hno (fun q => hx_1_1 q.2.1)⟩⟩) (fun _ q => nomatch q) (Nat.le_of_ble_eq_true rfl) (Nat.le_of_ble_eq_true rfl)
    · skip
      refine Go.icmpN 30 d17_27 rfl (feq hx_1_0).1 ?_
      refine Go.iinc 33 #[.val (.ref a), .val (.int (8 : Int32)), .val (.ref b), .val (.int (7 : Int32)), .val (.int (0 : Int32)), .val (.int (32 : Int32)), .val (.int (1 : Int32)), .val (.int ((1 : Int32) + (1 : Int32))), .val (.int s8), .val (.int s9), .val (.int s10)] (1 : Int32) d17_30 rfl rfl rfl rfl ?_
      rw [show ((1 : Int32) + (1 : Int32)) = (2 : Int32) from by decide]
      refine Go.iload 35 d17_33 rfl rfl ?_
      refine Go.iload 37 d17_35 rfl rfl ?_
      refine Go.icmpY 52 d17_37 (by decide) (by decide) (tlt (by decide)).2.2.1 ?_
      refine Go.iload 54 d17_52 rfl rfl ?_
      refine Go.iload 56 d17_54 rfl rfl ?_
      refine Go.icmpY 113 d17_56 (by decide) (by decide) (tlt (by decide)).2.2.1 ?_
      refine Go.iinc 116 #[.val (.ref a), .val (.int (8 : Int32)), .val (.ref b), .val (.int (7 : Int32)), .val (.int (0 : Int32)), .val (.int (32 : Int32)), .val (.int (1 : Int32)), .val (.int ((2 : Int32) + (1 : Int32))), .val (.int s8), .val (.int s9), .val (.int s10)] (1 : Int32) d17_113 rfl rfl rfl rfl ?_
      rw [show ((2 : Int32) + (1 : Int32)) = (3 : Int32) from by decide]
      refine Go.goto 14 d17_116 (by decide) (by decide) ?_
      refine Go.iload 16 d17_14 rfl rfl ?_
      refine Go.iload 18 d17_16 rfl rfl ?_
      refine Go.icmpY 119 d17_18 (by decide) (by decide) (tlt (by decide)).2.2.1 ?_
      refine Go.iconst 120 (-1 : Int32) d17_119 rfl rfl ?_
      exact Go.retI d17_120 rfl (sf' := []) (⟨rfl, _, rfl, Or.inr ⟨by decide, fun q => q.elim hno (fun q => hx_1_0 q.1)⟩⟩) (fun _ q => nomatch q) (Nat.le_of_ble_eq_true rfl) (Nat.le_of_ble_eq_true rfl)
  refine Go.iload 16 d17_14 rfl rfl ?_
  refine Go.iload 18 d17_16 rfl rfl ?_
  refine Go.icmpN 21 d17_18 rfl (flt (by decide)).2.2.1 ?_
  refine Go.aloadN 22 d17_21 rfl rfl rfl ?_
  refine Go.iload 24 d17_22 rfl rfl ?_
  refine Go.baload 0 25 d17_24 rfl A (by decide) rfl ?_
  refine Go.iload 27 d17_25 rfl rfl ?_
  by_cases hx_0_0 : y0 = (32 : Int32)
  · skip
    refine Go.icmpY 52 d17_27 (by decide) (by decide) (teq hx_0_0).1 ?_
    refine Go.iload 54 d17_52 rfl rfl ?_
    refine Go.iload 56 d17_54 rfl rfl ?_
    refine Go.icmpN 59 d17_56 rfl (flt (by decide)).2.2.1 ?_
    refine Go.iload 61 d17_59 rfl rfl ?_
    refine Go.iconst 62 (1 : Int32) d17_61 rfl rfl ?_
    refine Go.iadd 63 d17_62 rfl ?_
    rw [show ((0 : Int32) + (1 : Int32)) = (1 : Int32) from by decide]
    refine Go.istore 65 #[.val (.ref a), .val (.int (8 : Int32)), .val (.ref b), .val (.int (7 : Int32)), .val (.int (0 : Int32)), .val (.int (32 : Int32)), .val (.int (1 : Int32)), .val (.int (0 : Int32)), .val (.int (1 : Int32)), .unset, .unset] d17_63 rfl rfl ?_
    refine Go.iload 67 d17_65 rfl rfl ?_
    refine Go.iloadN 68 d17_67 rfl rfl ?_
    refine Go.iadd 69 d17_68 rfl ?_
    rw [show ((1 : Int32) + (7 : Int32)) = (8 : Int32) from by decide]
    refine Go.iconst 70 (1 : Int32) d17_69 rfl rfl ?_
    refine Go.isub 71 d17_70 rfl ?_
    rw [show ((8 : Int32) - (1 : Int32)) = (7 : Int32) from by decide]
    refine Go.istore 73 #[.val (.ref a), .val (.int (8 : Int32)), .val (.ref b), .val (.int (7 : Int32)), .val (.int (0 : Int32)), .val (.int (32 : Int32)), .val (.int (1 : Int32)), .val (.int (0 : Int32)), .val (.int (1 : Int32)), .val (.int (7 : Int32)), .unset] d17_71 rfl rfl ?_
    refine Go.iconst 74 (1 : Int32) d17_73 rfl rfl ?_
    refine Go.istore 76 #[.val (.ref a), .val (.int (8 : Int32)), .val (.ref b), .val (.int (7 : Int32)), .val (.int (0 : Int32)), .val (.int (32 : Int32)), .val (.int (1 : Int32)), .val (.int (0 : Int32)), .val (.int (1 : Int32)), .val (.int (7 : Int32)), .val (.int (1 : Int32))] d17_74 rfl rfl ?_
    refine Go.iload 78 d17_76 rfl rfl ?_
    refine Go.iload 80 d17_78 rfl rfl ?_
    refine Go.icmpN 83 d17_80 rfl (tlt (by decide)).2.1 ?_
    refine Go.aloadN 84 d17_83 rfl rfl rfl ?_
    refine Go.iload 86 d17_84 rfl rfl ?_
    refine Go.baload 1 87 d17_86 rfl A (by decide) rfl ?_
    refine Go.aloadN 88 d17_87 rfl rfl rfl ?_
    refine Go.iload 90 d17_88 rfl rfl ?_
    refine Go.baload 1 91 d17_90 rfl P (by decide) rfl ?_
    by_cases hx_0_1 : y1 = (87 : Int32)
    · skip
      refine Go.icmpN 94 d17_91 rfl (teq hx_0_1).2 ?_
      refine Go.iinc 97 #[.val (.ref a), .val (.int (8 : Int32)), .val (.ref b), .val (.int (7 : Int32)), .val (.int (0 : Int32)), .val (.int (32 : Int32)), .val (.int (1 : Int32)), .val (.int (0 : Int32)), .val (.int ((1 : Int32) + (1 : Int32))), .val (.int (7 : Int32)), .val (.int (1 : Int32))] (1 : Int32) d17_94 rfl rfl rfl rfl ?_
      rw [show ((1 : Int32) + (1 : Int32)) = (2 : Int32) from by decide]
      refine Go.iinc 100 #[.val (.ref a), .val (.int (8 : Int32)), .val (.ref b), .val (.int (7 : Int32)), .val (.int (0 : Int32)), .val (.int (32 : Int32)), .val (.int (1 : Int32)), .val (.int (0 : Int32)), .val (.int (2 : Int32)), .val (.int (7 : Int32)), .val (.int ((1 : Int32) + (1 : Int32)))] (1 : Int32) d17_97 rfl rfl rfl rfl ?_
      rw [show ((1 : Int32) + (1 : Int32)) = (2 : Int32) from by decide]
      refine Go.goto 76 d17_100 (by decide) (by decide) ?_
      refine Go.iload 78 d17_76 rfl rfl ?_
      refine Go.iload 80 d17_78 rfl rfl ?_
      refine Go.icmpN 83 d17_80 rfl (tlt (by decide)).2.1 ?_
      refine Go.aloadN 84 d17_83 rfl rfl rfl ?_
      refine Go.iload 86 d17_84 rfl rfl ?_
      refine Go.baload 2 87 d17_86 rfl A (by decide) rfl ?_
      refine Go.aloadN 88 d17_87 rfl rfl rfl ?_
      refine Go.iload 90 d17_88 rfl rfl ?_
      refine Go.baload 2 91 d17_90 rfl P (by decide) rfl ?_
      by_cases hx_0_2 : y2 = (72 : Int32)
      · skip
        refine Go.icmpN 94 d17_91 rfl (teq hx_0_2).2 ?_
        refine Go.iinc 97 #[.val (.ref a), .val (.int (8 : Int32)), .val (.ref b), .val (.int (7 : Int32)), .val (.int (0 : Int32)), .val (.int (32 : Int32)), .val (.int (1 : Int32)), .val (.int (0 : Int32)), .val (.int ((2 : Int32) + (1 : Int32))), .val (.int (7 : Int32)), .val (.int (2 : Int32))] (1 : Int32) d17_94 rfl rfl rfl rfl ?_
        rw [show ((2 : Int32) + (1 : Int32)) = (3 : Int32) from by decide]
        refine Go.iinc 100 #[.val (.ref a), .val (.int (8 : Int32)), .val (.ref b), .val (.int (7 : Int32)), .val (.int (0 : Int32)), .val (.int (32 : Int32)), .val (.int (1 : Int32)), .val (.int (0 : Int32)), .val (.int (3 : Int32)), .val (.int (7 : Int32)), .val (.int ((2 : Int32) + (1 : Int32)))] (1 : Int32) d17_97 rfl rfl rfl rfl ?_
        rw [show ((2 : Int32) + (1 : Int32)) = (3 : Int32) from by decide]
        refine Go.goto 76 d17_100 (by decide) (by decide) ?_
        refine Go.iload 78 d17_76 rfl rfl ?_
        refine Go.iload 80 d17_78 rfl rfl ?_
        refine Go.icmpN 83 d17_80 rfl (tlt (by decide)).2.1 ?_
        refine Go.aloadN 84 d17_83 rfl rfl rfl ?_
        refine Go.iload 86 d17_84 rfl rfl ?_
        refine Go.baload 3 87 d17_86 rfl A (by decide) rfl ?_
        refine Go.aloadN 88 d17_87 rfl rfl rfl ?_
        refine Go.iload 90 d17_88 rfl rfl ?_
        refine Go.baload 3 91 d17_90 rfl P (by decide) rfl ?_
        by_cases hx_0_3 : y3 = (69 : Int32)
        · skip
          refine Go.icmpN 94 d17_91 rfl (teq hx_0_3).2 ?_
          refine Go.iinc 97 #[.val (.ref a), .val (.int (8 : Int32)), .val (.ref b), .val (.int (7 : Int32)), .val (.int (0 : Int32)), .val (.int (32 : Int32)), .val (.int (1 : Int32)), .val (.int (0 : Int32)), .val (.int ((3 : Int32) + (1 : Int32))), .val (.int (7 : Int32)), .val (.int (3 : Int32))] (1 : Int32) d17_94 rfl rfl rfl rfl ?_
          rw [show ((3 : Int32) + (1 : Int32)) = (4 : Int32) from by decide]
          refine Go.iinc 100 #[.val (.ref a), .val (.int (8 : Int32)), .val (.ref b), .val (.int (7 : Int32)), .val (.int (0 : Int32)), .val (.int (32 : Int32)), .val (.int (1 : Int32)), .val (.int (0 : Int32)), .val (.int (4 : Int32)), .val (.int (7 : Int32)), .val (.int ((3 : Int32) + (1 : Int32)))] (1 : Int32) d17_97 rfl rfl rfl rfl ?_
          rw [show ((3 : Int32) + (1 : Int32)) = (4 : Int32) from by decide]
          refine Go.goto 76 d17_100 (by decide) (by decide) ?_
          refine Go.iload 78 d17_76 rfl rfl ?_
          refine Go.iload 80 d17_78 rfl rfl ?_
          refine Go.icmpN 83 d17_80 rfl (tlt (by decide)).2.1 ?_
          refine Go.aloadN 84 d17_83 rfl rfl rfl ?_
          refine Go.iload 86 d17_84 rfl rfl ?_
          refine Go.baload 4 87 d17_86 rfl A (by decide) rfl ?_
          refine Go.aloadN 88 d17_87 rfl rfl rfl ?_
          refine Go.iload 90 d17_88 rfl rfl ?_
          refine Go.baload 4 91 d17_90 rfl P (by decide) rfl ?_
          by_cases hx_0_4 : y4 = (82 : Int32)
          · skip
            refine Go.icmpN 94 d17_91 rfl (teq hx_0_4).2 ?_
            refine Go.iinc 97 #[.val (.ref a), .val (.int (8 : Int32)), .val (.ref b), .val (.int (7 : Int32)), .val (.int (0 : Int32)), .val (.int (32 : Int32)), .val (.int (1 : Int32)), .val (.int (0 : Int32)), .val (.int ((4 : Int32) + (1 : Int32))), .val (.int (7 : Int32)), .val (.int (4 : Int32))] (1 : Int32) d17_94 rfl rfl rfl rfl ?_
            rw [show ((4 : Int32) + (1 : Int32)) = (5 : Int32) from by decide]
            refine Go.iinc 100 #[.val (.ref a), .val (.int (8 : Int32)), .val (.ref b), .val (.int (7 : Int32)), .val (.int (0 : Int32)), .val (.int (32 : Int32)), .val (.int (1 : Int32)), .val (.int (0 : Int32)), .val (.int (5 : Int32)), .val (.int (7 : Int32)), .val (.int ((4 : Int32) + (1 : Int32)))] (1 : Int32) d17_97 rfl rfl rfl rfl ?_
            rw [show ((4 : Int32) + (1 : Int32)) = (5 : Int32) from by decide]
            refine Go.goto 76 d17_100 (by decide) (by decide) ?_
            refine Go.iload 78 d17_76 rfl rfl ?_
            refine Go.iload 80 d17_78 rfl rfl ?_
            refine Go.icmpN 83 d17_80 rfl (tlt (by decide)).2.1 ?_
            refine Go.aloadN 84 d17_83 rfl rfl rfl ?_
            refine Go.iload 86 d17_84 rfl rfl ?_
            refine Go.baload 5 87 d17_86 rfl A (by decide) rfl ?_
            refine Go.aloadN 88 d17_87 rfl rfl rfl ?_
            refine Go.iload 90 d17_88 rfl rfl ?_
            refine Go.baload 5 91 d17_90 rfl P (by decide) rfl ?_
            by_cases hx_0_5 : y5 = (69 : Int32)
            · skip
              refine Go.icmpN 94 d17_91 rfl (teq hx_0_5).2 ?_
              refine Go.iinc 97 #[.val (.ref a), .val (.int (8 : Int32)), .val (.ref b), .val (.int (7 : Int32)), .val (.int (0 : Int32)), .val (.int (32 : Int32)), .val (.int (1 : Int32)), .val (.int (0 : Int32)), .val (.int ((5 : Int32) + (1 : Int32))), .val (.int (7 : Int32)), .val (.int (5 : Int32))] (1 : Int32) d17_94 rfl rfl rfl rfl ?_
              rw [show ((5 : Int32) + (1 : Int32)) = (6 : Int32) from by decide]
              refine Go.iinc 100 #[.val (.ref a), .val (.int (8 : Int32)), .val (.ref b), .val (.int (7 : Int32)), .val (.int (0 : Int32)), .val (.int (32 : Int32)), .val (.int (1 : Int32)), .val (.int (0 : Int32)), .val (.int (6 : Int32)), .val (.int (7 : Int32)), .val (.int ((5 : Int32) + (1 : Int32)))] (1 : Int32) d17_97 rfl rfl rfl rfl ?_
              rw [show ((5 : Int32) + (1 : Int32)) = (6 : Int32) from by decide]
              refine Go.goto 76 d17_100 (by decide) (by decide) ?_
              refine Go.iload 78 d17_76 rfl rfl ?_
              refine Go.iload 80 d17_78 rfl rfl ?_
              refine Go.icmpN 83 d17_80 rfl (tlt (by decide)).2.1 ?_
              refine Go.aloadN 84 d17_83 rfl rfl rfl ?_
              refine Go.iload 86 d17_84 rfl rfl ?_
              refine Go.baload 6 87 d17_86 rfl A (by decide) rfl ?_
              refine Go.aloadN 88 d17_87 rfl rfl rfl ?_
              refine Go.iload 90 d17_88 rfl rfl ?_
              refine Go.baload 6 91 d17_90 rfl P (by decide) rfl ?_
              by_cases hx_0_6 : y6 = (32 : Int32)
              · skip
                refine Go.icmpN 94 d17_91 rfl (teq hx_0_6).2 ?_
                refine Go.iinc 97 #[.val (.ref a), .val (.int (8 : Int32)), .val (.ref b), .val (.int (7 : Int32)), .val (.int (0 : Int32)), .val (.int (32 : Int32)), .val (.int (1 : Int32)), .val (.int (0 : Int32)), .val (.int ((6 : Int32) + (1 : Int32))), .val (.int (7 : Int32)), .val (.int (6 : Int32))] (1 : Int32) d17_94 rfl rfl rfl rfl ?_
                rw [show ((6 : Int32) + (1 : Int32)) = (7 : Int32) from by decide]
                refine Go.iinc 100 #[.val (.ref a), .val (.int (8 : Int32)), .val (.ref b), .val (.int (7 : Int32)), .val (.int (0 : Int32)), .val (.int (32 : Int32)), .val (.int (1 : Int32)), .val (.int (0 : Int32)), .val (.int (7 : Int32)), .val (.int (7 : Int32)), .val (.int ((6 : Int32) + (1 : Int32)))] (1 : Int32) d17_97 rfl rfl rfl rfl ?_
                rw [show ((6 : Int32) + (1 : Int32)) = (7 : Int32) from by decide]
                refine Go.goto 76 d17_100 (by decide) (by decide) ?_
                refine Go.iload 78 d17_76 rfl rfl ?_
                refine Go.iload 80 d17_78 rfl rfl ?_
                refine Go.icmpY 103 d17_80 (by decide) (by decide) (flt (by decide)).2.1 ?_
                refine Go.iload 105 d17_103 rfl rfl ?_
                refine Go.iload 107 d17_105 rfl rfl ?_
                refine Go.icmpN 110 d17_107 rfl (teq (by decide)).2 ?_
                refine Go.iload 112 d17_110 rfl rfl ?_
                exact Go.retI d17_112 rfl (sf' := []) (⟨rfl, _, rfl, Or.inl ⟨by decide, Or.inl ⟨hx_0_0, hx_0_1, hx_0_2, hx_0_3, hx_0_4, hx_0_5, hx_0_6⟩⟩⟩) (fun _ q => nomatch q) (Nat.le_of_ble_eq_true rfl) (Nat.le_of_ble_eq_true rfl)
              · skip
                refine Go.icmpY 103 d17_91 (by decide) (by decide) (feq hx_0_6).2 ?_
                refine Go.iload 105 d17_103 rfl rfl ?_
                refine Go.iload 107 d17_105 rfl rfl ?_
                refine Go.icmpY 113 d17_107 (by decide) (by decide) (feq (by decide)).2 ?_
                refine Go.iinc 116 #[.val (.ref a), .val (.int (8 : Int32)), .val (.ref b), .val (.int (7 : Int32)), .val (.int (0 : Int32)), .val (.int (32 : Int32)), .val (.int (1 : Int32)), .val (.int ((0 : Int32) + (1 : Int32))), .val (.int (6 : Int32)), .val (.int (7 : Int32)), .val (.int (6 : Int32))] (1 : Int32) d17_113 rfl rfl rfl rfl ?_
                rw [show ((0 : Int32) + (1 : Int32)) = (1 : Int32) from by decide]
                refine Go.goto 14 d17_116 (by decide) (by decide) ?_
                exact cut14 _ _ _ (fun q => hx_0_6 q.2.2.2.2.2.2)
            · skip
              refine Go.icmpY 103 d17_91 (by decide) (by decide) (feq hx_0_5).2 ?_
              refine Go.iload 105 d17_103 rfl rfl ?_
              refine Go.iload 107 d17_105 rfl rfl ?_
              refine Go.icmpY 113 d17_107 (by decide) (by decide) (feq (by decide)).2 ?_
              refine Go.iinc 116 #[.val (.ref a), .val (.int (8 : Int32)), .val (.ref b), .val (.int (7 : Int32)), .val (.int (0 : Int32)), .val (.int (32 : Int32)), .val (.int (1 : Int32)), .val (.int ((0 : Int32) + (1 : Int32))), .val (.int (5 : Int32)), .val (.int (7 : Int32)), .val (.int (5 : Int32))] (1 : Int32) d17_113 rfl rfl rfl rfl ?_
              rw [show ((0 : Int32) + (1 : Int32)) = (1 : Int32) from by decide]
              refine Go.goto 14 d17_116 (by decide) (by decide) ?_
              exact cut14 _ _ _ (fun q => hx_0_5 q.2.2.2.2.2.1)
          · skip
            refine Go.icmpY 103 d17_91 (by decide) (by decide) (feq hx_0_4).2 ?_
            refine Go.iload 105 d17_103 rfl rfl ?_
            refine Go.iload 107 d17_105 rfl rfl ?_
            refine Go.icmpY 113 d17_107 (by decide) (by decide) (feq (by decide)).2 ?_
            refine Go.iinc 116 #[.val (.ref a), .val (.int (8 : Int32)), .val (.ref b), .val (.int (7 : Int32)), .val (.int (0 : Int32)), .val (.int (32 : Int32)), .val (.int (1 : Int32)), .val (.int ((0 : Int32) + (1 : Int32))), .val (.int (4 : Int32)), .val (.int (7 : Int32)), .val (.int (4 : Int32))] (1 : Int32) d17_113 rfl rfl rfl rfl ?_
            rw [show ((0 : Int32) + (1 : Int32)) = (1 : Int32) from by decide]
            refine Go.goto 14 d17_116 (by decide) (by decide) ?_
            exact cut14 _ _ _ (fun q => hx_0_4 q.2.2.2.2.1)
        · skip
          refine Go.icmpY 103 d17_91 (by decide) (by decide) (feq hx_0_3).2 ?_
          refine Go.iload 105 d17_103 rfl rfl ?_
          refine Go.iload 107 d17_105 rfl rfl ?_
          refine Go.icmpY 113 d17_107 (by decide) (by decide) (feq (by decide)).2 ?_
          refine Go.iinc 116 #[.val (.ref a), .val (.int (8 : Int32)), .val (.ref b), .val (.int (7 : Int32)), .val (.int (0 : Int32)), .val (.int (32 : Int32)), .val (.int (1 : Int32)), .val (.int ((0 : Int32) + (1 : Int32))), .val (.int (3 : Int32)), .val (.int (7 : Int32)), .val (.int (3 : Int32))] (1 : Int32) d17_113 rfl rfl rfl rfl ?_
          rw [show ((0 : Int32) + (1 : Int32)) = (1 : Int32) from by decide]
          refine Go.goto 14 d17_116 (by decide) (by decide) ?_
          exact cut14 _ _ _ (fun q => hx_0_3 q.2.2.2.1)
      · skip
        refine Go.icmpY 103 d17_91 (by decide) (by decide) (feq hx_0_2).2 ?_
        refine Go.iload 105 d17_103 rfl rfl ?_
        refine Go.iload 107 d17_105 rfl rfl ?_
        refine Go.icmpY 113 d17_107 (by decide) (by decide) (feq (by decide)).2 ?_
        refine Go.iinc 116 #[.val (.ref a), .val (.int (8 : Int32)), .val (.ref b), .val (.int (7 : Int32)), .val (.int (0 : Int32)), .val (.int (32 : Int32)), .val (.int (1 : Int32)), .val (.int ((0 : Int32) + (1 : Int32))), .val (.int (2 : Int32)), .val (.int (7 : Int32)), .val (.int (2 : Int32))] (1 : Int32) d17_113 rfl rfl rfl rfl ?_
        rw [show ((0 : Int32) + (1 : Int32)) = (1 : Int32) from by decide]
        refine Go.goto 14 d17_116 (by decide) (by decide) ?_
        exact cut14 _ _ _ (fun q => hx_0_2 q.2.2.1)
    · skip
      refine Go.icmpY 103 d17_91 (by decide) (by decide) (feq hx_0_1).2 ?_
      refine Go.iload 105 d17_103 rfl rfl ?_
      refine Go.iload 107 d17_105 rfl rfl ?_
      refine Go.icmpY 113 d17_107 (by decide) (by decide) (feq (by decide)).2 ?_
      refine Go.iinc 116 #[.val (.ref a), .val (.int (8 : Int32)), .val (.ref b), .val (.int (7 : Int32)), .val (.int (0 : Int32)), .val (.int (32 : Int32)), .val (.int (1 : Int32)), .val (.int ((0 : Int32) + (1 : Int32))), .val (.int (1 : Int32)), .val (.int (7 : Int32)), .val (.int (1 : Int32))] (1 : Int32) d17_113 rfl rfl rfl rfl ?_
      rw [show ((0 : Int32) + (1 : Int32)) = (1 : Int32) from by decide]
      refine Go.goto 14 d17_116 (by decide) (by decide) ?_
      exact cut14 _ _ _ (fun q => hx_0_1 q.2.1)
  · skip
    refine Go.icmpN 30 d17_27 rfl (feq hx_0_0).1 ?_
    refine Go.iinc 33 #[.val (.ref a), .val (.int (8 : Int32)), .val (.ref b), .val (.int (7 : Int32)), .val (.int (0 : Int32)), .val (.int (32 : Int32)), .val (.int (1 : Int32)), .val (.int ((0 : Int32) + (1 : Int32))), .unset, .unset, .unset] (1 : Int32) d17_30 rfl rfl rfl rfl ?_
    rw [show ((0 : Int32) + (1 : Int32)) = (1 : Int32) from by decide]
    refine Go.iload 35 d17_33 rfl rfl ?_
    refine Go.iload 37 d17_35 rfl rfl ?_
    refine Go.icmpN 40 d17_37 rfl (flt (by decide)).2.2.1 ?_
    refine Go.aloadN 41 d17_40 rfl rfl rfl ?_
    refine Go.iload 43 d17_41 rfl rfl ?_
    refine Go.baload 1 44 d17_43 rfl A (by decide) rfl ?_
    refine Go.iload 46 d17_44 rfl rfl ?_
    by_cases hx_1_0 : y1 = (32 : Int32)
    · skip
      refine Go.icmpY 52 d17_46 (by decide) (by decide) (teq hx_1_0).1 ?_
      refine Go.iload 54 d17_52 rfl rfl ?_
      refine Go.iload 56 d17_54 rfl rfl ?_
      refine Go.icmpN 59 d17_56 rfl (flt (by decide)).2.2.1 ?_
      refine Go.iload 61 d17_59 rfl rfl ?_
      refine Go.iconst 62 (1 : Int32) d17_61 rfl rfl ?_
      refine Go.iadd 63 d17_62 rfl ?_
      rw [show ((1 : Int32) + (1 : Int32)) = (2 : Int32) from by decide]
      refine Go.istore 65 #[.val (.ref a), .val (.int (8 : Int32)), .val (.ref b), .val (.int (7 : Int32)), .val (.int (0 : Int32)), .val (.int (32 : Int32)), .val (.int (1 : Int32)), .val (.int (1 : Int32)), .val (.int (2 : Int32)), .unset, .unset] d17_63 rfl rfl ?_
      refine Go.iload 67 d17_65 rfl rfl ?_
      refine Go.iloadN 68 d17_67 rfl rfl ?_
      refine Go.iadd 69 d17_68 rfl ?_
      rw [show ((2 : Int32) + (7 : Int32)) = (9 : Int32) from by decide]
      refine Go.iconst 70 (1 : Int32) d17_69 rfl rfl ?_
      refine Go.isub 71 d17_70 rfl ?_
      rw [show ((9 : Int32) - (1 : Int32)) = (8 : Int32) from by decide]
      refine Go.istore 73 #[.val (.ref a), .val (.int (8 : Int32)), .val (.ref b), .val (.int (7 : Int32)), .val (.int (0 : Int32)), .val (.int (32 : Int32)), .val (.int (1 : Int32)), .val (.int (1 : Int32)), .val (.int (2 : Int32)), .val (.int (8 : Int32)), .unset] d17_71 rfl rfl ?_
      refine Go.iconst 74 (1 : Int32) d17_73 rfl rfl ?_
      refine Go.istore 76 #[.val (.ref a), .val (.int (8 : Int32)), .val (.ref b), .val (.int (7 : Int32)), .val (.int (0 : Int32)), .val (.int (32 : Int32)), .val (.int (1 : Int32)), .val (.int (1 : Int32)), .val (.int (2 : Int32)), .val (.int (8 : Int32)), .val (.int (1 : Int32))] d17_74 rfl rfl ?_
      refine Go.iload 78 d17_76 rfl rfl ?_
      refine Go.iload 80 d17_78 rfl rfl ?_
      refine Go.icmpN 83 d17_80 rfl (tlt (by decide)).2.1 ?_
      refine Go.aloadN 84 d17_83 rfl rfl rfl ?_
      refine Go.iload 86 d17_84 rfl rfl ?_
      refine Go.baload 2 87 d17_86 rfl A (by decide) rfl ?_
      refine Go.aloadN 88 d17_87 rfl rfl rfl ?_
      refine Go.iload 90 d17_88 rfl rfl ?_
      refine Go.baload 1 91 d17_90 rfl P (by decide) rfl ?_
      by_cases hx_1_1 : y2 = (87 : Int32)
      · skip
        refine Go.icmpN 94 d17_91 rfl (teq hx_1_1).2 ?_
        refine Go.iinc 97 #[.val (.ref a), .val (.int (8 : Int32)), .val (.ref b), .val (.int (7 : Int32)), .val (.int (0 : Int32)), .val (.int (32 : Int32)), .val (.int (1 : Int32)), .val (.int (1 : Int32)), .val (.int ((2 : Int32) + (1 : Int32))), .val (.int (8 : Int32)), .val (.int (1 : Int32))] (1 : Int32) d17_94 rfl rfl rfl rfl ?_
        rw [show ((2 : Int32) + (1 : Int32)) = (3 : Int32) from by decide]
        refine Go.iinc 100 #[.val (.ref a), .val (.int (8 : Int32)), .val (.ref b), .val (.int (7 : Int32)), .val (.int (0 : Int32)), .val (.int (32 : Int32)), .val (.int (1 : Int32)), .val (.int (1 : Int32)), .val (.int (3 : Int32)), .val (.int (8 : Int32)), .val (.int ((1 : Int32) + (1 : Int32)))] (1 : Int32) d17_97 rfl rfl rfl rfl ?_
        rw [show ((1 : Int32) + (1 : Int32)) = (2 : Int32) from by decide]
        refine Go.goto 76 d17_100 (by decide) (by decide) ?_
        refine Go.iload 78 d17_76 rfl rfl ?_
        refine Go.iload 80 d17_78 rfl rfl ?_
        refine Go.icmpN 83 d17_80 rfl (tlt (by decide)).2.1 ?_
        refine Go.aloadN 84 d17_83 rfl rfl rfl ?_
        refine Go.iload 86 d17_84 rfl rfl ?_
        refine Go.baload 3 87 d17_86 rfl A (by decide) rfl ?_
        refine Go.aloadN 88 d17_87 rfl rfl rfl ?_
        refine Go.iload 90 d17_88 rfl rfl ?_
        refine Go.baload 2 91 d17_90 rfl P (by decide) rfl ?_
        by_cases hx_1_2 : y3 = (72 : Int32)
        · skip
          refine Go.icmpN 94 d17_91 rfl (teq hx_1_2).2 ?_
          refine Go.iinc 97 #[.val (.ref a), .val (.int (8 : Int32)), .val (.ref b), .val (.int (7 : Int32)), .val (.int (0 : Int32)), .val (.int (32 : Int32)), .val (.int (1 : Int32)), .val (.int (1 : Int32)), .val (.int ((3 : Int32) + (1 : Int32))), .val (.int (8 : Int32)), .val (.int (2 : Int32))] (1 : Int32) d17_94 rfl rfl rfl rfl ?_
          rw [show ((3 : Int32) + (1 : Int32)) = (4 : Int32) from by decide]
          refine Go.iinc 100 #[.val (.ref a), .val (.int (8 : Int32)), .val (.ref b), .val (.int (7 : Int32)), .val (.int (0 : Int32)), .val (.int (32 : Int32)), .val (.int (1 : Int32)), .val (.int (1 : Int32)), .val (.int (4 : Int32)), .val (.int (8 : Int32)), .val (.int ((2 : Int32) + (1 : Int32)))] (1 : Int32) d17_97 rfl rfl rfl rfl ?_
          rw [show ((2 : Int32) + (1 : Int32)) = (3 : Int32) from by decide]
          refine Go.goto 76 d17_100 (by decide) (by decide) ?_
          refine Go.iload 78 d17_76 rfl rfl ?_
          refine Go.iload 80 d17_78 rfl rfl ?_
          refine Go.icmpN 83 d17_80 rfl (tlt (by decide)).2.1 ?_
          refine Go.aloadN 84 d17_83 rfl rfl rfl ?_
          refine Go.iload 86 d17_84 rfl rfl ?_
          refine Go.baload 4 87 d17_86 rfl A (by decide) rfl ?_
          refine Go.aloadN 88 d17_87 rfl rfl rfl ?_
          refine Go.iload 90 d17_88 rfl rfl ?_
          refine Go.baload 3 91 d17_90 rfl P (by decide) rfl ?_
          by_cases hx_1_3 : y4 = (69 : Int32)
          · skip
            refine Go.icmpN 94 d17_91 rfl (teq hx_1_3).2 ?_
            refine Go.iinc 97 #[.val (.ref a), .val (.int (8 : Int32)), .val (.ref b), .val (.int (7 : Int32)), .val (.int (0 : Int32)), .val (.int (32 : Int32)), .val (.int (1 : Int32)), .val (.int (1 : Int32)), .val (.int ((4 : Int32) + (1 : Int32))), .val (.int (8 : Int32)), .val (.int (3 : Int32))] (1 : Int32) d17_94 rfl rfl rfl rfl ?_
            rw [show ((4 : Int32) + (1 : Int32)) = (5 : Int32) from by decide]
            refine Go.iinc 100 #[.val (.ref a), .val (.int (8 : Int32)), .val (.ref b), .val (.int (7 : Int32)), .val (.int (0 : Int32)), .val (.int (32 : Int32)), .val (.int (1 : Int32)), .val (.int (1 : Int32)), .val (.int (5 : Int32)), .val (.int (8 : Int32)), .val (.int ((3 : Int32) + (1 : Int32)))] (1 : Int32) d17_97 rfl rfl rfl rfl ?_
            rw [show ((3 : Int32) + (1 : Int32)) = (4 : Int32) from by decide]
            refine Go.goto 76 d17_100 (by decide) (by decide) ?_
            refine Go.iload 78 d17_76 rfl rfl ?_
            refine Go.iload 80 d17_78 rfl rfl ?_
            refine Go.icmpN 83 d17_80 rfl (tlt (by decide)).2.1 ?_
            refine Go.aloadN 84 d17_83 rfl rfl rfl ?_
            refine Go.iload 86 d17_84 rfl rfl ?_
            refine Go.baload 5 87 d17_86 rfl A (by decide) rfl ?_
            refine Go.aloadN 88 d17_87 rfl rfl rfl ?_
            refine Go.iload 90 d17_88 rfl rfl ?_
            refine Go.baload 4 91 d17_90 rfl P (by decide) rfl ?_
            by_cases hx_1_4 : y5 = (82 : Int32)
            · skip
              refine Go.icmpN 94 d17_91 rfl (teq hx_1_4).2 ?_
              refine Go.iinc 97 #[.val (.ref a), .val (.int (8 : Int32)), .val (.ref b), .val (.int (7 : Int32)), .val (.int (0 : Int32)), .val (.int (32 : Int32)), .val (.int (1 : Int32)), .val (.int (1 : Int32)), .val (.int ((5 : Int32) + (1 : Int32))), .val (.int (8 : Int32)), .val (.int (4 : Int32))] (1 : Int32) d17_94 rfl rfl rfl rfl ?_
              rw [show ((5 : Int32) + (1 : Int32)) = (6 : Int32) from by decide]
              refine Go.iinc 100 #[.val (.ref a), .val (.int (8 : Int32)), .val (.ref b), .val (.int (7 : Int32)), .val (.int (0 : Int32)), .val (.int (32 : Int32)), .val (.int (1 : Int32)), .val (.int (1 : Int32)), .val (.int (6 : Int32)), .val (.int (8 : Int32)), .val (.int ((4 : Int32) + (1 : Int32)))] (1 : Int32) d17_97 rfl rfl rfl rfl ?_
              rw [show ((4 : Int32) + (1 : Int32)) = (5 : Int32) from by decide]
              refine Go.goto 76 d17_100 (by decide) (by decide) ?_
              refine Go.iload 78 d17_76 rfl rfl ?_
              refine Go.iload 80 d17_78 rfl rfl ?_
              refine Go.icmpN 83 d17_80 rfl (tlt (by decide)).2.1 ?_
              refine Go.aloadN 84 d17_83 rfl rfl rfl ?_
              refine Go.iload 86 d17_84 rfl rfl ?_
              refine Go.baload 6 87 d17_86 rfl A (by decide) rfl ?_
              refine Go.aloadN 88 d17_87 rfl rfl rfl ?_
              refine Go.iload 90 d17_88 rfl rfl ?_
              refine Go.baload 5 91 d17_90 rfl P (by decide) rfl ?_
              by_cases hx_1_5 : y6 = (69 : Int32)
              · skip
                refine Go.icmpN 94 d17_91 rfl (teq hx_1_5).2 ?_
                refine Go.iinc 97 #[.val (.ref a), .val (.int (8 : Int32)), .val (.ref b), .val (.int (7 : Int32)), .val (.int (0 : Int32)), .val (.int (32 : Int32)), .val (.int (1 : Int32)), .val (.int (1 : Int32)), .val (.int ((6 : Int32) + (1 : Int32))), .val (.int (8 : Int32)), .val (.int (5 : Int32))] (1 : Int32) d17_94 rfl rfl rfl rfl ?_
                rw [show ((6 : Int32) + (1 : Int32)) = (7 : Int32) from by decide]
                refine Go.iinc 100 #[.val (.ref a), .val (.int (8 : Int32)), .val (.ref b), .val (.int (7 : Int32)), .val (.int (0 : Int32)), .val (.int (32 : Int32)), .val (.int (1 : Int32)), .val (.int (1 : Int32)), .val (.int (7 : Int32)), .val (.int (8 : Int32)), .val (.int ((5 : Int32) + (1 : Int32)))] (1 : Int32) d17_97 rfl rfl rfl rfl ?_
                rw [show ((5 : Int32) + (1 : Int32)) = (6 : Int32) from by decide]
                refine Go.goto 76 d17_100 (by decide) (by decide) ?_
                refine Go.iload 78 d17_76 rfl rfl ?_
                refine Go.iload 80 d17_78 rfl rfl ?_
                refine Go.icmpN 83 d17_80 rfl (tlt (by decide)).2.1 ?_
                refine Go.aloadN 84 d17_83 rfl rfl rfl ?_
                refine Go.iload 86 d17_84 rfl rfl ?_
                refine Go.baload 7 87 d17_86 rfl A (by decide) rfl ?_
                refine Go.aloadN 88 d17_87 rfl rfl rfl ?_
                refine Go.iload 90 d17_88 rfl rfl ?_
                refine Go.baload 6 91 d17_90 rfl P (by decide) rfl ?_
                by_cases hx_1_6 : y7 = (32 : Int32)
                · skip
                  refine Go.icmpN 94 d17_91 rfl (teq hx_1_6).2 ?_
                  refine Go.iinc 97 #[.val (.ref a), .val (.int (8 : Int32)), .val (.ref b), .val (.int (7 : Int32)), .val (.int (0 : Int32)), .val (.int (32 : Int32)), .val (.int (1 : Int32)), .val (.int (1 : Int32)), .val (.int ((7 : Int32) + (1 : Int32))), .val (.int (8 : Int32)), .val (.int (6 : Int32))] (1 : Int32) d17_94 rfl rfl rfl rfl ?_
                  rw [show ((7 : Int32) + (1 : Int32)) = (8 : Int32) from by decide]
                  refine Go.iinc 100 #[.val (.ref a), .val (.int (8 : Int32)), .val (.ref b), .val (.int (7 : Int32)), .val (.int (0 : Int32)), .val (.int (32 : Int32)), .val (.int (1 : Int32)), .val (.int (1 : Int32)), .val (.int (8 : Int32)), .val (.int (8 : Int32)), .val (.int ((6 : Int32) + (1 : Int32)))] (1 : Int32) d17_97 rfl rfl rfl rfl ?_
                  rw [show ((6 : Int32) + (1 : Int32)) = (7 : Int32) from by decide]
                  refine Go.goto 76 d17_100 (by decide) (by decide) ?_
                  refine Go.iload 78 d17_76 rfl rfl ?_
                  refine Go.iload 80 d17_78 rfl rfl ?_
                  refine Go.icmpY 103 d17_80 (by decide) (by decide) (flt (by decide)).2.1 ?_
                  refine Go.iload 105 d17_103 rfl rfl ?_
                  refine Go.iload 107 d17_105 rfl rfl ?_
                  refine Go.icmpN 110 d17_107 rfl (teq (by decide)).2 ?_
                  refine Go.iload 112 d17_110 rfl rfl ?_
                  exact Go.retI d17_112 rfl (sf' := []) (⟨rfl, _, rfl, Or.inl ⟨by decide, Or.inr ⟨hx_1_0, hx_1_1, hx_1_2, hx_1_3, hx_1_4, hx_1_5, hx_1_6⟩⟩⟩) (fun _ q => nomatch q) (Nat.le_of_ble_eq_true rfl) (Nat.le_of_ble_eq_true rfl)
                · skip
                  refine Go.icmpY 103 d17_91 (by decide) (by decide) (feq hx_1_6).2 ?_
                  refine Go.iload 105 d17_103 rfl rfl ?_
                  refine Go.iload 107 d17_105 rfl rfl ?_
                  refine Go.icmpY 113 d17_107 (by decide) (by decide) (feq (by decide)).2 ?_
                  refine Go.iinc 116 #[.val (.ref a), .val (.int (8 : Int32)), .val (.ref b), .val (.int (7 : Int32)), .val (.int (0 : Int32)), .val (.int (32 : Int32)), .val (.int (1 : Int32)), .val (.int ((1 : Int32) + (1 : Int32))), .val (.int (7 : Int32)), .val (.int (8 : Int32)), .val (.int (6 : Int32))] (1 : Int32) d17_113 rfl rfl rfl rfl ?_
                  rw [show ((1 : Int32) + (1 : Int32)) = (2 : Int32) from by decide]
                  refine Go.goto 14 d17_116 (by decide) (by decide) ?_
                  refine Go.iload 16 d17_14 rfl rfl ?_
                  refine Go.iload 18 d17_16 rfl rfl ?_
                  refine Go.icmpY 119 d17_18 (by decide) (by decide) (tlt (by decide)).2.2.1 ?_
                  refine Go.iconst 120 (-1 : Int32) d17_119 rfl rfl ?_
                  exact Go.retI d17_120 rfl (sf' := []) (⟨rfl, _, rfl, Or.inr ⟨by decide, fun q => q.elim (fun q => hx_0_0 q.1) (fun q => hx_1_6 q.2.2.2.2.2.2)⟩⟩) (fun _ q => nomatch q) (Nat.le_of_ble_eq_true rfl) (Nat.le_of_ble_eq_true rfl)
              · skip
                refine Go.icmpY 103 d17_91 (by decide) (by decide) (feq hx_1_5).2 ?_
                refine Go.iload 105 d17_103 rfl rfl ?_
                refine Go.iload 107 d17_105 rfl rfl ?_
                refine Go.icmpY 113 d17_107 (by decide) (by decide) (feq (by decide)).2 ?_
                refine Go.iinc 116 #[.val (.ref a), .val (.int (8 : Int32)), .val (.ref b), .val (.int (7 : Int32)), .val (.int (0 : Int32)), .val (.int (32 : Int32)), .val (.int (1 : Int32)), .val (.int ((1 : Int32) + (1 : Int32))), .val (.int (6 : Int32)), .val (.int (8 : Int32)), .val (.int (5 : Int32))] (1 : Int32) d17_113 rfl rfl rfl rfl ?_
                rw [show ((1 : Int32) + (1 : Int32)) = (2 : Int32) from by decide]
                refine Go.goto 14 d17_116 (by decide) (by decide) ?_
                refine Go.iload 16 d17_14 rfl rfl ?_
                refine Go.iload 18 d17_16 rfl rfl ?_
                refine Go.icmpY 119 d17_18 (by decide) (by decide) (tlt (by decide)).2.2.1 ?_
                refine Go.iconst 120 (-1 : Int32) d17_119 rfl rfl ?_
                exact Go.retI d17_120 rfl (sf' := []) (⟨rfl, _, rfl, Or.inr ⟨by decide, fun q => q.elim (fun q => hx_0_0 q.1) (fun q => hx_1_5 q.2.2.2.2.2.1)⟩⟩) (fun _ q => nomatch q) (Nat.le_of_ble_eq_true rfl) (Nat.le_of_ble_eq_true rfl)
            · skip
              refine Go.icmpY 103 d17_91 (by decide) (by decide) (feq hx_1_4).2 ?_
              refine Go.iload 105 d17_103 rfl rfl ?_
              refine Go.iload 107 d17_105 rfl rfl ?_
              refine Go.icmpY 113 d17_107 (by decide) (by decide) (feq (by decide)).2 ?_
              refine Go.iinc 116 #[.val (.ref a), .val (.int (8 : Int32)), .val (.ref b), .val (.int (7 : Int32)), .val (.int (0 : Int32)), .val (.int (32 : Int32)), .val (.int (1 : Int32)), .val (.int ((1 : Int32) + (1 : Int32))), .val (.int (5 : Int32)), .val (.int (8 : Int32)), .val (.int (4 : Int32))] (1 : Int32) d17_113 rfl rfl rfl rfl ?_
              rw [show ((1 : Int32) + (1 : Int32)) = (2 : Int32) from by decide]
              refine Go.goto 14 d17_116 (by decide) (by decide) ?_
              refine Go.iload 16 d17_14 rfl rfl ?_
              refine Go.iload 18 d17_16 rfl rfl ?_
              refine Go.icmpY 119 d17_18 (by decide) (by decide) (tlt (by decide)).2.2.1 ?_
              refine Go.iconst 120 (-1 : Int32) d17_119 rfl rfl ?_
              exact Go.retI d17_120 rfl (sf' := []) (⟨rfl, _, rfl, Or.inr ⟨by decide, fun q => q.elim (fun q => hx_0_0 q.1) (fun q => hx_1_4 q.2.2.2.2.1)⟩⟩) (fun _ q => nomatch q) (Nat.le_of_ble_eq_true rfl) (Nat.le_of_ble_eq_true rfl)
          · skip
            refine Go.icmpY 103 d17_91 (by decide) (by decide) (feq hx_1_3).2 ?_
            refine Go.iload 105 d17_103 rfl rfl ?_
            refine Go.iload 107 d17_105 rfl rfl ?_
            refine Go.icmpY 113 d17_107 (by decide) (by decide) (feq (by decide)).2 ?_
            refine Go.iinc 116 #[.val (.ref a), .val (.int (8 : Int32)), .val (.ref b), .val (.int (7 : Int32)), .val (.int (0 : Int32)), .val (.int (32 : Int32)), .val (.int (1 : Int32)), .val (.int ((1 : Int32) + (1 : Int32))), .val (.int (4 : Int32)), .val (.int (8 : Int32)), .val (.int (3 : Int32))] (1 : Int32) d17_113 rfl rfl rfl rfl ?_
            rw [show ((1 : Int32) + (1 : Int32)) = (2 : Int32) from by decide]
            refine Go.goto 14 d17_116 (by decide) (by decide) ?_
            refine Go.iload 16 d17_14 rfl rfl ?_
            refine Go.iload 18 d17_16 rfl rfl ?_
            refine Go.icmpY 119 d17_18 (by decide) (by decide) (tlt (by decide)).2.2.1 ?_
            refine Go.iconst 120 (-1 : Int32) d17_119 rfl rfl ?_
            exact Go.retI d17_120 rfl (sf' := []) (⟨rfl, _, rfl, Or.inr ⟨by decide, fun q => q.elim (fun q => hx_0_0 q.1) (fun q => hx_1_3 q.2.2.2.1)⟩⟩) (fun _ q => nomatch q) (Nat.le_of_ble_eq_true rfl) (Nat.le_of_ble_eq_true rfl)
        · skip
          refine Go.icmpY 103 d17_91 (by decide) (by decide) (feq hx_1_2).2 ?_
          refine Go.iload 105 d17_103 rfl rfl ?_
          refine Go.iload 107 d17_105 rfl rfl ?_
          refine Go.icmpY 113 d17_107 (by decide) (by decide) (feq (by decide)).2 ?_
          refine Go.iinc 116 #[.val (.ref a), .val (.int (8 : Int32)), .val (.ref b), .val (.int (7 : Int32)), .val (.int (0 : Int32)), .val (.int (32 : Int32)), .val (.int (1 : Int32)), .val (.int ((1 : Int32) + (1 : Int32))), .val (.int (3 : Int32)), .val (.int (8 : Int32)), .val (.int (2 : Int32))] (1 : Int32) d17_113 rfl rfl rfl rfl ?_
          rw [show ((1 : Int32) + (1 : Int32)) = (2 : Int32) from by decide]
          refine Go.goto 14 d17_116 (by decide) (by decide) ?_
          refine Go.iload 16 d17_14 rfl rfl ?_
          refine Go.iload 18 d17_16 rfl rfl ?_
          refine Go.icmpY 119 d17_18 (by decide) (by decide) (tlt (by decide)).2.2.1 ?_
          refine Go.iconst 120 (-1 : Int32) d17_119 rfl rfl ?_
          exact Go.retI d17_120 rfl (sf' := []) (⟨rfl, _, rfl, Or.inr ⟨by decide, fun q => q.elim (fun q => hx_0_0 q.1) (fun q => hx_1_2 q.2.2.1)⟩⟩) (fun _ q => nomatch q) (Nat.le_of_ble_eq_true rfl) (Nat.le_of_ble_eq_true rfl)
      · skip
        refine Go.icmpY 103 d17_91 (by decide) (by decide) (feq hx_1_1).2 ?_
        refine Go.iload 105 d17_103 rfl rfl ?_
        refine Go.iload 107 d17_105 rfl rfl ?_
        refine Go.icmpY 113 d17_107 (by decide) (by decide) (feq (by decide)).2 ?_
        refine Go.iinc 116 #[.val (.ref a), .val (.int (8 : Int32)), .val (.ref b), .val (.int (7 : Int32)), .val (.int (0 : Int32)), .val (.int (32 : Int32)), .val (.int (1 : Int32)), .val (.int ((1 : Int32) + (1 : Int32))), .val (.int (2 : Int32)), .val (.int (8 : Int32)), .val (.int (1 : Int32))] (1 : Int32) d17_113 rfl rfl rfl rfl ?_
        rw [show ((1 : Int32) + (1 : Int32)) = (2 : Int32) from by decide]
        refine Go.goto 14 d17_116 (by decide) (by decide) ?_
        refine Go.iload 16 d17_14 rfl rfl ?_
        refine Go.iload 18 d17_16 rfl rfl ?_
        refine Go.icmpY 119 d17_18 (by decide) (by decide) (tlt (by decide)).2.2.1 ?_
        refine Go.iconst 120 (-1 : Int32) d17_119 rfl rfl ?_
        exact Go.retI d17_120 rfl (sf' := []) (⟨rfl, _, rfl, Or.inr ⟨by decide, fun q => q.elim (fun q => hx_0_0 q.1) (fun q => hx_1_1 q.2.1)⟩⟩) (fun _ q => nomatch q) (Nat.le_of_ble_eq_true rfl) (Nat.le_of_ble_eq_true rfl)
    · skip
      refine Go.icmpN 49 d17_46 rfl (feq hx_1_0).1 ?_
      refine Go.goto 30 d17_49 (by decide) (by decide) ?_
      refine Go.iinc 33 #[.val (.ref a), .val (.int (8 : Int32)), .val (.ref b), .val (.int (7 : Int32)), .val (.int (0 : Int32)), .val (.int (32 : Int32)), .val (.int (1 : Int32)), .val (.int ((1 : Int32) + (1 : Int32))), .unset, .unset, .unset] (1 : Int32) d17_30 rfl rfl rfl rfl ?_
      rw [show ((1 : Int32) + (1 : Int32)) = (2 : Int32) from by decide]
      refine Go.iload 35 d17_33 rfl rfl ?_
      refine Go.iload 37 d17_35 rfl rfl ?_
      refine Go.icmpY 52 d17_37 (by decide) (by decide) (tlt (by decide)).2.2.1 ?_
      refine Go.iload 54 d17_52 rfl rfl ?_
      refine Go.iload 56 d17_54 rfl rfl ?_
      refine Go.icmpY 113 d17_56 (by decide) (by decide) (tlt (by decide)).2.2.1 ?_
      refine Go.iinc 116 #[.val (.ref a), .val (.int (8 : Int32)), .val (.ref b), .val (.int (7 : Int32)), .val (.int (0 : Int32)), .val (.int (32 : Int32)), .val (.int (1 : Int32)), .val (.int ((2 : Int32) + (1 : Int32))), .unset, .unset, .unset] (1 : Int32) d17_113 rfl rfl rfl rfl ?_
      rw [show ((2 : Int32) + (1 : Int32)) = (3 : Int32) from by decide]
      refine Go.goto 14 d17_116 (by decide) (by decide) ?_
      refine Go.iload 16 d17_14 rfl rfl ?_
      refine Go.iload 18 d17_16 rfl rfl ?_
      refine Go.icmpY 119 d17_18 (by decide) (by decide) (tlt (by decide)).2.2.1 ?_
      refine Go.iconst 120 (-1 : Int32) d17_119 rfl rfl ?_
      exact Go.retI d17_120 rfl (sf' := []) (⟨rfl, _, rfl, Or.inr ⟨by decide, fun q => q.elim (fun q => hx_0_0 q.1) (fun q => hx_1_0 q.1)⟩⟩) (fun _ q => nomatch q) (Nat.le_of_ble_eq_true rfl) (Nat.le_of_ble_eq_true rfl)
abbrev G_lidx2 (md : Md) (l : Launch) (Z : State) (n0 : Nat) (a b : Addr) (y0 y1 y2 y3 y4 y5 y6 y7 : Int32) (h0 : Heap) := Go md l Z n0 ({ frames := 1, cells := 0, slots := 0, locals := 22 } : Room) jdk_43_method_24_code 2 (some .int) "java/lang/StringLatin1" "indexOf" (fun v h' _ => h0 = h' ∧ ∃ r : Int32, v = some (.int r) ∧ ((¬ r < 0 ∧ WB y0 y1 y2 y3 y4 y5 y6 y7) ∨ (r < 0 ∧ ¬ WB y0 y1 y2 y3 y4 y5 y6 y7)))
theorem ef_lidx2 (mid : MethodId) (a b : Addr) (y0 y1 y2 y3 y4 y5 y6 y7 : Int32)  : entryFrame mid #[(.ref a), (.ref b)] 2 = mkF mid 0 #[.val (.ref a), .val (.ref b)] [] := by first | (simp [entryFrame, mkF, argsToLocals, Value.category]; done) | rfl
set_option maxRecDepth 65536 in
set_option maxHeartbeats 40000000 in
theorem c_lidx2 {md : Md} {l : Launch} {Z : State} {n0 : Nat} {a0 : Array Value} (hw : HW a0 Z) (a b : Addr) (y0 y1 y2 y3 y4 y5 y6 y7 : Int32) {h0 : Heap} (A : Ary Z h0 a .byte [(.int y0), (.int y1), (.int y2), (.int y3), (.int y4), (.int y5), (.int y6), (.int y7)]) (P : Ary Z h0 b .byte [(.int (32 : Int32)), (.int (87 : Int32)), (.int (72 : Int32)), (.int (69 : Int32)), (.int (82 : Int32)), (.int (69 : Int32)), (.int (32 : Int32))]) : G_lidx2 md l Z n0 a b y0 y1 y2 y3 y4 y5 y6 y7 h0 0 0 [] h0 0 #[.val (.ref a), .val (.ref b)] [] := by
  refine Go.aloadN 1 d16_0 rfl rfl rfl ?_
  refine Go.alen 2 (7 : Int32) d16_1 rfl P rfl ?_
  refine Go.ifY 7 d16_2 (by decide) (by decide) (feq (by decide)).2 ?_
  refine Go.aloadN 8 d16_7 rfl rfl rfl ?_
  refine Go.alen 9 (8 : Int32) d16_8 rfl A rfl ?_
  refine Go.ifY 14 d16_9 (by decide) (by decide) (feq (by decide)).2 ?_
  refine Go.aloadN 15 d16_14 rfl rfl rfl ?_
  refine Go.aloadN 16 d16_15 rfl rfl rfl ?_
  refine Go.alen 17 (8 : Int32) d16_16 rfl A rfl ?_
  refine Go.aloadN 18 d16_17 rfl rfl rfl ?_
  refine Go.aloadN 19 d16_18 rfl rfl rfl ?_
  refine Go.alen 20 (7 : Int32) d16_19 rfl P rfl ?_
  refine Go.iconst 21 (0 : Int32) d16_20 rfl rfl ?_
  refine Go.callS (S := []) 24 [(.ref a), (.int (8 : Int32)), (.ref b), (.int (7 : Int32)), (.int (0 : Int32))] d16_21 rfl rfl (w81 hw) (w82 hw) (w79 hw) (w83 hw) (by decide) (call_of_go (R := _) (len := 3) (W := 0) (plainFor_of_name pn_2) (fun mid => ef_lidx mid a b y0 y1 y2 y3 y4 y5 y6 y7 ) (c_lidx hw a b y0 y1 y2 y3 y4 y5 y6 y7 A P) (w83 hw) (w79 hw) (by decide) (by decide)) (lenOf pd_2 rfl) (Nat.le_of_ble_eq_true rfl) rfl (Nat.le_of_ble_eq_true rfl) (Nat.le_of_ble_eq_true rfl) (fun _ q => nomatch q) (fun v h_1 sf_2 hq => ?_)
  obtain ⟨rfl, r, rfl, hr⟩ := hq
  refine Go.more (sf' := []) ?_ (Nat.le_refl _) (Nat.le_refl _) (fun _ q => List.mem_append_right _ q)
  show G_lidx2 md l Z n0 a b y0 y1 y2 y3 y4 y5 y6 y7 h0 0 0 [] h0 24 #[.val (.ref a), .val (.ref b)] [(.int r)]
  exact Go.retI d16_24 rfl (sf' := []) (⟨rfl, _, rfl, hr⟩) (fun _ q => nomatch q) (Nat.le_of_ble_eq_true rfl) (Nat.le_of_ble_eq_true rfl)
abbrev G_isl (md : Md) (l : Launch) (Z : State) (n0 : Nat) (x : Addr) (z : Int32) (h0 : Heap) := Go md l Z n0 ({ frames := 0, cells := 0, slots := 0, locals := 0 } : Room) jdk_42_method_154_code 1 (some .boolean) "java/lang/String" "isLatin1" (fun v h' _ => h0 = h' ∧ v = some (.int 1))
theorem ef_isl (mid : MethodId) (x : Addr) (z : Int32)  : entryFrame mid #[(.ref x)] 1 = mkF mid 0 #[.val (.ref x)] [] := by first | (simp [entryFrame, mkF, argsToLocals, Value.category]; done) | rfl
set_option maxRecDepth 65536 in
set_option maxHeartbeats 40000000 in
theorem c_isl {md : Md} {l : Launch} {Z : State} {n0 : Nat} {a0 : Array Value} (hw : HW a0 Z) (x : Addr) (z : Int32) {h0 : Heap} (C : Fld Z h0 x "java/lang/String" "coder" "B" (.int 0)) (SC : Sta Z Z.heap "java/lang/String" "COMPACT_STRINGS" "Z" (.int z)) (hz : ¬ z = 0)  : G_isl md l Z n0 x z h0 0 0 [] h0 0 #[.val (.ref x)] [] := by
  refine Go.getS 3 d15_0 rfl (w25 hw) Via.refl SC ?_
  refine Go.ifN 6 d15_3 rfl (feq hz).1 ?_
  refine Go.aloadN 7 d15_6 rfl rfl rfl ?_
  refine Go.getF 10 d15_7 rfl (w37 hw) Via.refl C ?_
  refine Go.ifN 13 d15_10 rfl (teq (by decide)).2 ?_
  refine Go.iconst 14 (1 : Int32) d15_13 rfl rfl ?_
  refine Go.goto 18 d15_14 (by decide) (by decide) ?_
  exact Go.retN (1 : Int32) d15_18 rfl (t := .boolean) (by simp) rfl (sf' := []) (⟨rfl, rfl⟩) (fun _ q => nomatch q) (Nat.le_of_ble_eq_true rfl) (Nat.le_of_ble_eq_true rfl)
abbrev G_sidx (md : Md) (l : Launch) (Z : State) (n0 : Nat) (x y a b : Addr) (z : Int32) (y0 y1 y2 y3 y4 y5 y6 y7 : Int32) (h0 : Heap) := Go md l Z n0 ({ frames := 2, cells := 0, slots := 0, locals := 35 } : Room) jdk_42_method_84_code 3 (some .int) "java/lang/String" "indexOf" (fun v h' _ => h0 = h' ∧ ∃ r : Int32, v = some (.int r) ∧ ((¬ r < 0 ∧ WB y0 y1 y2 y3 y4 y5 y6 y7) ∨ (r < 0 ∧ ¬ WB y0 y1 y2 y3 y4 y5 y6 y7)))
theorem ef_sidx (mid : MethodId) (x y a b : Addr) (z : Int32) (y0 y1 y2 y3 y4 y5 y6 y7 : Int32)  : entryFrame mid #[(.ref x), (.ref y)] 3 = mkF mid 0 #[.val (.ref x), .val (.ref y), .unset] [] := by first | (simp [entryFrame, mkF, argsToLocals, Value.category]; done) | rfl
set_option maxRecDepth 65536 in
set_option maxHeartbeats 40000000 in
theorem c_sidx {md : Md} {l : Launch} {Z : State} {n0 : Nat} {a0 : Array Value} (hw : HW a0 Z) (x y a b : Addr) (z : Int32) (y0 y1 y2 y3 y4 y5 y6 y7 : Int32) {h0 : Heap} (Ex : Exa Z h0 x "java/lang/String") (Cx : Fld Z h0 x "java/lang/String" "coder" "B" (.int 0)) (Vx : Fld Z h0 x "java/lang/String" "value" "[B" (.ref a)) (Ey : Exa Z h0 y "java/lang/String") (Cy : Fld Z h0 y "java/lang/String" "coder" "B" (.int 0)) (Vy : Fld Z h0 y "java/lang/String" "value" "[B" (.ref b)) (A : Ary Z h0 a .byte [(.int y0), (.int y1), (.int y2), (.int y3), (.int y4), (.int y5), (.int y6), (.int y7)]) (P : Ary Z h0 b .byte [(.int (32 : Int32)), (.int (87 : Int32)), (.int (72 : Int32)), (.int (69 : Int32)), (.int (82 : Int32)), (.int (69 : Int32)), (.int (32 : Int32))]) (SC : Sta Z Z.heap "java/lang/String" "COMPACT_STRINGS" "Z" (.int z)) (hz : ¬ z = 0)  : G_sidx md l Z n0 x y a b z y0 y1 y2 y3 y4 y5 y6 y7 h0 0 0 [] h0 0 #[.val (.ref x), .val (.ref y), .unset] [] := by
  refine Go.aloadN 1 d13_0 rfl rfl rfl ?_
  refine Go.callV (S := []) (a := x) 4 [] d13_1 rfl rfl (w67 hw) (w68 hw) (w70 hw) (w69 hw) (fun _ q => notFace_of_selects (args := #[]) (mvT q (w70 hw))) (by decide) Ex (call_of_go (R := _) (len := 3) (W := 0) (plainFor_of_name pn_0) (fun mid => ef_coder mid x z (0 : Int32) ) (c_coder hw x z (0 : Int32) Cx rfl SC hz) (w71 hw) (w14 hw) (by decide) (by decide)) (lenOf pd_0 rfl) (Nat.le_of_ble_eq_true rfl) rfl (Nat.le_of_ble_eq_true rfl) (Nat.le_of_ble_eq_true rfl) (fun _ q => nomatch q) (fun v h_1 sf_2 hq => ?_)
  obtain ⟨rfl, rfl⟩ := hq
  refine Go.more (sf' := []) ?_ (Nat.le_refl _) (Nat.le_refl _) (fun _ q => List.mem_append_right _ q)
  show G_sidx md l Z n0 x y a b z y0 y1 y2 y3 y4 y5 y6 y7 h0 0 0 [] h0 4 #[.val (.ref x), .val (.ref y), .unset] [(.int (0 : Int32))]
  refine Go.istoreN 5 #[.val (.ref x), .val (.ref y), .val (.int (0 : Int32))] d13_4 rfl rfl ?_
  refine Go.iloadN 6 d13_5 rfl rfl ?_
  refine Go.aloadN 7 d13_6 rfl rfl rfl ?_
  refine Go.callV (S := [(.int (0 : Int32))]) (a := y) 10 [] d13_7 rfl rfl (w67 hw) (w68 hw) (w70 hw) (w69 hw) (fun _ q => notFace_of_selects (args := #[]) (mvT q (w70 hw))) (by decide) Ey (call_of_go (R := _) (len := 3) (W := 1) (plainFor_of_name pn_0) (fun mid => ef_coder mid y z (0 : Int32) ) (c_coder hw y z (0 : Int32) Cy rfl SC hz) (w71 hw) (w14 hw) (by decide) (by decide)) (lenOf pd_0 rfl) (Nat.le_of_ble_eq_true rfl) rfl (Nat.le_of_ble_eq_true rfl) (Nat.le_of_ble_eq_true rfl) (fun _ q => nomatch q) (fun v h_3 sf_4 hq => ?_)
  obtain ⟨rfl, rfl⟩ := hq
  refine Go.more (sf' := []) ?_ (Nat.le_refl _) (Nat.le_refl _) (fun _ q => List.mem_append_right _ q)
  show G_sidx md l Z n0 x y a b z y0 y1 y2 y3 y4 y5 y6 y7 h0 0 0 [] h0 10 #[.val (.ref x), .val (.ref y), .val (.int (0 : Int32))] [(.int (0 : Int32)), (.int (0 : Int32))]
  refine Go.icmpN 13 d13_10 rfl (teq (by decide)).2 ?_
  refine Go.aloadN 14 d13_13 rfl rfl rfl ?_
  refine Go.callV (S := []) (a := x) 17 [] d13_14 rfl rfl (w72 hw) (w73 hw) (w75 hw) (w74 hw) (fun _ q => notFace_of_selects (args := #[]) (mvT q (w75 hw))) (by decide) Ex (call_of_go (R := _) (len := 3) (W := 0) (plainFor_of_name pn_0) (fun mid => ef_isl mid x z ) (c_isl hw x z Cx SC hz) (w76 hw) (w14 hw) (by decide) (by decide)) (lenOf pd_3 rfl) (Nat.le_of_ble_eq_true rfl) rfl (Nat.le_of_ble_eq_true rfl) (Nat.le_of_ble_eq_true rfl) (fun _ q => nomatch q) (fun v h_5 sf_6 hq => ?_)
  obtain ⟨rfl, rfl⟩ := hq
  refine Go.more (sf' := []) ?_ (Nat.le_refl _) (Nat.le_refl _) (fun _ q => List.mem_append_right _ q)
  show G_sidx md l Z n0 x y a b z y0 y1 y2 y3 y4 y5 y6 y7 h0 0 0 [] h0 17 #[.val (.ref x), .val (.ref y), .val (.int (0 : Int32))] [(.int (1 : Int32))]
  refine Go.ifN 20 d13_17 rfl (feq (by decide)).1 ?_
  refine Go.aloadN 21 d13_20 rfl rfl rfl ?_
  refine Go.getF 24 d13_21 rfl (w39 hw) Via.refl Vx ?_
  refine Go.aloadN 25 d13_24 rfl rfl rfl ?_
  refine Go.getF 28 d13_25 rfl (w39 hw) Via.refl Vy ?_
  refine Go.callS (S := []) 31 [(.ref a), (.ref b)] d13_28 rfl rfl (w77 hw) (w78 hw) (w79 hw) (w80 hw) (by decide) (call_of_go (R := _) (len := 3) (W := 0) (plainFor_of_name pn_2) (fun mid => ef_lidx2 mid a b y0 y1 y2 y3 y4 y5 y6 y7 ) (c_lidx2 hw a b y0 y1 y2 y3 y4 y5 y6 y7 A P) (w80 hw) (w79 hw) (by decide) (by decide)) (lenOf pd_4 rfl) (Nat.le_of_ble_eq_true rfl) rfl (Nat.le_of_ble_eq_true rfl) (Nat.le_of_ble_eq_true rfl) (fun _ q => nomatch q) (fun v h_7 sf_8 hq => ?_)
  obtain ⟨rfl, r, rfl, hr⟩ := hq
  refine Go.more (sf' := []) ?_ (Nat.le_refl _) (Nat.le_refl _) (fun _ q => List.mem_append_right _ q)
  show G_sidx md l Z n0 x y a b z y0 y1 y2 y3 y4 y5 y6 y7 h0 0 0 [] h0 31 #[.val (.ref x), .val (.ref y), .val (.int (0 : Int32))] [(.int r)]
  refine Go.goto 45 d13_31 (by decide) (by decide) ?_
  exact Go.retI d13_45 rfl (sf' := []) (⟨rfl, _, rfl, hr⟩) (fun _ q => nomatch q) (Nat.le_of_ble_eq_true rfl) (Nat.le_of_ble_eq_true rfl)
abbrev G_strts (md : Md) (l : Launch) (Z : State) (n0 : Nat) (x : Addr) (h0 : Heap) := Go md l Z n0 ({ frames := 0, cells := 0, slots := 0, locals := 0 } : Room) jdk_42_method_126_code 1 (some (.object "java/lang/String")) "java/lang/String" "toString" (fun v h' _ => h0 = h' ∧ v = some (.ref x))
theorem ef_strts (mid : MethodId) (x : Addr)  : entryFrame mid #[(.ref x)] 1 = mkF mid 0 #[.val (.ref x)] [] := by first | (simp [entryFrame, mkF, argsToLocals, Value.category]; done) | rfl
set_option maxRecDepth 65536 in
set_option maxHeartbeats 40000000 in
theorem c_strts {md : Md} {l : Launch} {Z : State} {n0 : Nat} {a0 : Array Value} (hw : HW a0 Z) (x : Addr) {h0 : Heap}  : G_strts md l Z n0 x h0 0 0 [] h0 0 #[.val (.ref x)] [] := by
  refine Go.aloadN 1 d12_0 rfl rfl rfl ?_
  exact Go.retA d12_1 rfl rfl rfl (sf' := []) (⟨rfl, rfl⟩) (fun _ q => nomatch q) (Nat.le_of_ble_eq_true rfl) (Nat.le_of_ble_eq_true rfl)
abbrev G_scont (md : Md) (l : Launch) (Z : State) (n0 : Nat) (x y a b : Addr) (z : Int32) (y0 y1 y2 y3 y4 y5 y6 y7 : Int32) (h0 : Heap) := Go md l Z n0 ({ frames := 3, cells := 0, slots := 0, locals := 49 } : Room) jdk_42_method_97_code 2 (some .boolean) "java/lang/String" "contains" (fun v h' _ => h0 = h' ∧ ∃ r : Int32, v = some (.int r) ∧ ((r = 1 ∧ WB y0 y1 y2 y3 y4 y5 y6 y7) ∨ (r = 0 ∧ ¬ WB y0 y1 y2 y3 y4 y5 y6 y7)))
theorem ef_scont (mid : MethodId) (x y a b : Addr) (z : Int32) (y0 y1 y2 y3 y4 y5 y6 y7 : Int32)  : entryFrame mid #[(.ref x), (.ref y)] 2 = mkF mid 0 #[.val (.ref x), .val (.ref y)] [] := by first | (simp [entryFrame, mkF, argsToLocals, Value.category]; done) | rfl
set_option maxRecDepth 65536 in
set_option maxHeartbeats 40000000 in
theorem c_scont {l : Launch} {Z : State} {n0 : Nat} {a0 : Array Value} (hw : HW a0 Z) (x y a b : Addr) (z : Int32) (y0 y1 y2 y3 y4 y5 y6 y7 : Int32) {h0 : Heap} (Ex : Exa Z h0 x "java/lang/String") (Cx : Fld Z h0 x "java/lang/String" "coder" "B" (.int 0)) (Vx : Fld Z h0 x "java/lang/String" "value" "[B" (.ref a)) (Ey : Exa Z h0 y "java/lang/String") (Cy : Fld Z h0 y "java/lang/String" "coder" "B" (.int 0)) (Vy : Fld Z h0 y "java/lang/String" "value" "[B" (.ref b)) (A : Ary Z h0 a .byte [(.int y0), (.int y1), (.int y2), (.int y3), (.int y4), (.int y5), (.int y6), (.int y7)]) (P : Ary Z h0 b .byte [(.int (32 : Int32)), (.int (87 : Int32)), (.int (72 : Int32)), (.int (69 : Int32)), (.int (82 : Int32)), (.int (69 : Int32)), (.int (32 : Int32))]) (SC : Sta Z Z.heap "java/lang/String" "COMPACT_STRINGS" "Z" (.int z)) (hz : ¬ z = 0)  : G_scont (some consts_1) l Z n0 x y a b z y0 y1 y2 y3 y4 y5 y6 y7 h0 0 0 [] h0 0 #[.val (.ref x), .val (.ref y)] [] := by
  refine Go.aloadN 1 d11_0 rfl rfl rfl ?_
  refine Go.aloadN 2 d11_1 rfl rfl rfl ?_
  refine Go.callI (S := [(.ref x)]) (a := y) 7 [] d11_2 rfl rfl (w53 hw) (w54 hw) (w55 hw) (w56 hw) (w57 hw) (w58 hw) (w59 hw) (w60 hw) (by decide) Ey (call_of_go (R := _) (len := 5) (W := 1) (plainFor_of_name pn_0) (fun mid => ef_strts mid y ) (c_strts hw y ) (w61 hw) (w14 hw) (by decide) (by decide)) (lenOf pd_5 rfl) (Nat.le_of_ble_eq_true rfl) rfl (Nat.le_of_ble_eq_true rfl) (Nat.le_of_ble_eq_true rfl) (fun _ q => nomatch q) (fun v h_1 sf_2 hq => ?_)
  obtain ⟨rfl, rfl⟩ := hq
  refine Go.more (sf' := []) ?_ (Nat.le_refl _) (Nat.le_refl _) (fun _ q => List.mem_append_right _ q)
  show G_scont (some consts_1) l Z n0 x y a b z y0 y1 y2 y3 y4 y5 y6 y7 h0 0 0 [] h0 7 #[.val (.ref x), .val (.ref y)] [(.ref y), (.ref x)]
  refine Go.callV (S := []) (a := x) 10 [(.ref y)] d11_7 rfl rfl (w62 hw) (w63 hw) (w65 hw) (w64 hw) (fun _ q => notFace_of_selects (args := #[]) (mvT q (w65 hw))) (by decide) Ex (call_of_go (R := _) (len := 3) (W := 0) (plainFor_of_name pn_0) (fun mid => ef_sidx mid x y a b z y0 y1 y2 y3 y4 y5 y6 y7 ) (c_sidx hw x y a b z y0 y1 y2 y3 y4 y5 y6 y7 Ex Cx Vx Ey Cy Vy A P SC hz) (w66 hw) (w14 hw) (by decide) (by decide)) (lenOf pd_6 rfl) (Nat.le_of_ble_eq_true rfl) rfl (Nat.le_of_ble_eq_true rfl) (Nat.le_of_ble_eq_true rfl) (fun _ q => nomatch q) (fun v h_3 sf_4 hq => ?_)
  obtain ⟨rfl, r, rfl, hr⟩ := hq
  refine Go.more (sf' := []) ?_ (Nat.le_refl _) (Nat.le_refl _) (fun _ q => List.mem_append_right _ q)
  show G_scont (some consts_1) l Z n0 x y a b z y0 y1 y2 y3 y4 y5 y6 y7 h0 0 0 [] h0 10 #[.val (.ref x), .val (.ref y)] [(.int r)]
  by_cases hc10 : r < (0 : Int32)
  · skip
    refine Go.ifY 17 d11_10 (by decide) (by decide) (tlt hc10).1 ?_
    refine Go.iconst 18 (0 : Int32) d11_17 rfl rfl ?_
    exact Go.retN (0 : Int32) d11_18 rfl (t := .boolean) (by simp) rfl (sf' := []) (⟨rfl, _, rfl, Or.inr ⟨rfl, wb_no hr hc10⟩⟩) (fun _ q => nomatch q) (Nat.le_of_ble_eq_true rfl) (Nat.le_of_ble_eq_true rfl)
  · skip
    refine Go.ifN 13 d11_10 rfl (flt hc10).1 ?_
    refine Go.iconst 14 (1 : Int32) d11_13 rfl rfl ?_
    refine Go.goto 18 d11_14 (by decide) (by decide) ?_
    exact Go.retN (1 : Int32) d11_18 rfl (t := .boolean) (by simp) rfl (sf' := []) (⟨rfl, _, rfl, Or.inl ⟨rfl, wb_yes hr hc10⟩⟩) (fun _ q => nomatch q) (Nat.le_of_ble_eq_true rfl) (Nat.le_of_ble_eq_true rfl)
abbrev G_enss8_16 (md : Md) (l : Launch) (Z : State) (n0 : Nat) (x b : Addr) (vs : List Value) (h0 : Heap) := Go md l Z n0 ({ frames := 0, cells := 0, slots := 0, locals := 0 } : Room) jdk_68_method_9_code 3 none "java/lang/AbstractStringBuilder" "ensureCapacityInternal" (fun v h' _ => h0 = h' ∧ v = none)
theorem ef_enss8_16 (mid : MethodId) (x b : Addr) (vs : List Value)  : entryFrame mid #[(.ref x), (.int (8 : Int32))] 3 = mkF mid 0 #[.val (.ref x), .val (.int (8 : Int32)), .unset] [] := by first | (simp [entryFrame, mkF, argsToLocals, Value.category]; done) | rfl
set_option maxRecDepth 65536 in
set_option maxHeartbeats 40000000 in
theorem c_enss8_16 {md : Md} {l : Launch} {Z : State} {n0 : Nat} {a0 : Array Value} (hw : HW a0 Z) (x b : Addr) (vs : List Value) {h0 : Heap} (Fb : Fld Z h0 x "java/lang/AbstractStringBuilder" "value" "[B" (.ref b)) (Fc : Fld Z h0 x "java/lang/AbstractStringBuilder" "coder" "B" (.int 0)) (A : Ary Z h0 b .byte vs) (hl : vs.length = 16) : G_enss8_16 md l Z n0 x b vs h0 0 0 [] h0 0 #[.val (.ref x), .val (.int (8 : Int32)), .unset] [] := by
  refine Go.aloadN 1 d23_0 rfl rfl rfl ?_
  refine Go.getF 4 d23_1 rfl (w98 hw) Via.refl Fb ?_
  refine Go.alen 5 (16 : Int32) d23_4 rfl A (by rw [hl]; rfl) ?_
  refine Go.aloadN 6 d23_5 rfl rfl rfl ?_
  refine Go.getF 9 d23_6 rfl (w100 hw) Via.refl Fc ?_
  refine Go.ishr 10 d23_9 rfl ?_
  rw [show ((16 : Int32) >>> ((0 : Int32) &&& 31)) = (16 : Int32) from by decide]
  refine Go.istoreN 11 #[.val (.ref x), .val (.int (8 : Int32)), .val (.int (16 : Int32))] d23_10 rfl rfl ?_
  refine Go.iloadN 12 d23_11 rfl rfl ?_
  refine Go.iloadN 13 d23_12 rfl rfl ?_
  refine Go.isub 14 d23_13 rfl ?_
  rw [show ((8 : Int32) - (16 : Int32)) = (-8 : Int32) from by decide]
  refine Go.ifY 38 d23_14 (by decide) (by decide) (flt (by decide)).2.2.2 ?_
  exact Go.ret0 d23_38 rfl (sf' := []) (⟨rfl, rfl⟩) (fun _ q => nomatch q) (Nat.le_of_ble_eq_true rfl) (Nat.le_of_ble_eq_true rfl)
abbrev G_getb0_8_16 (md : Md) (l : Launch) (Z : State) (n0 : Nat) (y t b : Addr) (z : Int32) (us vs : List Value) (h0 : Heap) := Go md l Z n0 ({ frames := 1, cells := 0, slots := 0, locals := 18 } : Room) jdk_42_method_147_code 4 none "java/lang/String" "getBytes" (fun v h' _ => v = none ∧ Keep h0 h' [b] ∧ Ary Z h' b .byte (vs.take 0 ++ us ++ vs.drop 8))
theorem ef_getb0_8_16 (mid : MethodId) (y t b : Addr) (z : Int32) (us vs : List Value)  : entryFrame mid #[(.ref y), (.ref b), (.int (0 : Int32)), (.int (0 : Int32))] 4 = mkF mid 0 #[.val (.ref y), .val (.ref b), .val (.int (0 : Int32)), .val (.int (0 : Int32))] [] := by first | (simp [entryFrame, mkF, argsToLocals, Value.category]; done) | rfl
set_option maxRecDepth 65536 in
set_option maxHeartbeats 40000000 in
theorem c_getb0_8_16 {md : Md} {l : Launch} {Z : State} {n0 : Nat} {a0 : Array Value} (hw : HW a0 Z) (y t b : Addr) (z : Int32) (us vs : List Value) {h0 : Heap} (Ey : Exa Z h0 y "java/lang/String") (Cy : Fld Z h0 y "java/lang/String" "coder" "B" (.int 0)) (Vy : Fld Z h0 y "java/lang/String" "value" "[B" (.ref t)) (Uy : Ary Z h0 t .byte us) (A : Ary Z h0 b .byte vs) (n0b : n0 ≤ b) (ntb : t ≠ b) (hm : us.length = 8) (hl : vs.length = 16) (SC : Sta Z Z.heap "java/lang/String" "COMPACT_STRINGS" "Z" (.int z)) (hz : ¬ z = 0)  : G_getb0_8_16 md l Z n0 y t b z us vs h0 0 0 [b] h0 0 #[.val (.ref y), .val (.ref b), .val (.int (0 : Int32)), .val (.int (0 : Int32))] [] := by
  refine Go.aloadN 1 d26_0 rfl rfl rfl ?_
  refine Go.callV (S := []) (a := y) 4 [] d26_1 rfl rfl (w67 hw) (w68 hw) (w70 hw) (w69 hw) (fun _ q => notFace_of_selects (args := #[]) (mvT q (w70 hw))) (by decide) Ey (call_of_go (R := _) (len := 3) (W := 0) (plainFor_of_name pn_0) (fun mid => ef_coder mid y z (0 : Int32) ) (c_coder hw y z (0 : Int32) Cy rfl SC hz) (w71 hw) (w14 hw) (by decide) (by decide)) (lenOf pd_0 rfl) (Nat.le_of_ble_eq_true rfl) rfl (Nat.le_of_ble_eq_true rfl) (Nat.le_of_ble_eq_true rfl) (fun _ q => nomatch q) (fun v h_1 sf_2 hq => ?_)
  obtain ⟨rfl, rfl⟩ := hq
  refine Go.more (sf' := [b]) ?_ (Nat.le_refl _) (Nat.le_refl _) (fun _ q => List.mem_append_right _ q)
  show G_getb0_8_16 md l Z n0 y t b z us vs h0 0 0 [b] h0 4 #[.val (.ref y), .val (.ref b), .val (.int (0 : Int32)), .val (.int (0 : Int32))] [(.int (0 : Int32))]
  refine Go.iloadN 5 d26_4 rfl rfl ?_
  refine Go.icmpN 8 d26_5 rfl (teq (by decide)).2 ?_
  refine Go.aloadN 9 d26_8 rfl rfl rfl ?_
  refine Go.getF 12 d26_9 rfl (w39 hw) Via.refl Vy ?_
  refine Go.iconst 13 (0 : Int32) d26_12 rfl rfl ?_
  refine Go.aloadN 14 d26_13 rfl rfl rfl ?_
  refine Go.iloadN 15 d26_14 rfl rfl ?_
  refine Go.iloadN 16 d26_15 rfl rfl ?_
  refine Go.ishl 17 d26_16 rfl ?_
  rw [show ((0 : Int32) <<< ((0 : Int32) &&& 31)) = (0 : Int32) from by decide]
  refine Go.aloadN 18 d26_17 rfl rfl rfl ?_
  refine Go.getF 21 d26_18 rfl (w39 hw) Via.refl Vy ?_
  refine Go.alen 22 (8 : Int32) d26_21 rfl Uy (by rw [hm]; rfl) ?_
  refine Go.acopy (W := 0) 0 0 8 25 d26_22 rfl (w140 hw) (w143 hw) (w141 hw) (w142 hw) Uy A rfl (by decide) (by decide) (by decide) (by rw [hm]; decide) (by rw [hl]; decide) (List.mem_of_getElem? (i := 0) rfl) n0b rfl (by decide) (Nat.le_of_ble_eq_true rfl) (by decide) (fun h_3 K_4 B_5 => ?_)
  have B_6 : Ary Z h_3 b .byte (vs.take 0 ++ us ++ vs.drop 8) := by have q_ := B_5; rw [show (us.drop 0).take 8 = us from by rw [List.drop_zero, ← hm, List.take_length]] at q_; exact q_
  show G_getb0_8_16 md l Z n0 y t b z us vs h0 0 0 [b] h_3 25 #[.val (.ref y), .val (.ref b), .val (.int (0 : Int32)), .val (.int (0 : Int32))] []
  refine Go.goto 43 d26_25 (by decide) (by decide) ?_
  exact Go.ret0 d26_43 rfl (sf' := []) (⟨rfl, ((Keep.refl h0 [b]).trans K_4 (allS (Or.inl (List.mem_of_getElem? (i := 0) rfl)) all0)), B_6⟩) (fun _ q => nomatch q) (Nat.le_of_ble_eq_true rfl) (Nat.le_of_ble_eq_true rfl)
abbrev G_puts0_8_16 (md : Md) (l : Launch) (Z : State) (n0 : Nat) (x y t b : Addr) (z : Int32) (us vs : List Value) (h0 : Heap) := Go md l Z n0 ({ frames := 2, cells := 0, slots := 0, locals := 33 } : Room) jdk_68_method_73_code 3 none "java/lang/AbstractStringBuilder" "putStringAt" (fun v h' _ => v = none ∧ Keep h0 h' [b] ∧ Ary Z h' b .byte (vs.take 0 ++ us ++ vs.drop 8))
theorem ef_puts0_8_16 (mid : MethodId) (x y t b : Addr) (z : Int32) (us vs : List Value)  : entryFrame mid #[(.ref x), (.int (0 : Int32)), (.ref y)] 3 = mkF mid 0 #[.val (.ref x), .val (.int (0 : Int32)), .val (.ref y)] [] := by first | (simp [entryFrame, mkF, argsToLocals, Value.category]; done) | rfl
set_option maxRecDepth 65536 in
set_option maxHeartbeats 40000000 in
theorem c_puts0_8_16 {l : Launch} {Z : State} {n0 : Nat} {a0 : Array Value} (hw : HW a0 Z) (x y t b : Addr) (z : Int32) (us vs : List Value) {h0 : Heap} (Ex : Exa Z h0 x "java/lang/StringBuilder") (n0x : n0 ≤ x) (Fb : Fld Z h0 x "java/lang/AbstractStringBuilder" "value" "[B" (.ref b)) (Fc : Fld Z h0 x "java/lang/AbstractStringBuilder" "coder" "B" (.int 0)) (Fn : Fld Z h0 x "java/lang/AbstractStringBuilder" "count" "I" (.int 0)) (A : Ary Z h0 b .byte vs) (n0b : n0 ≤ b) (nbx : b ≠ x) (Ey : Exa Z h0 y "java/lang/String") (Cy : Fld Z h0 y "java/lang/String" "coder" "B" (.int 0)) (Vy : Fld Z h0 y "java/lang/String" "value" "[B" (.ref t)) (Uy : Ary Z h0 t .byte us) (ntb : t ≠ b) (hm : us.length = 8) (hl : vs.length = 16) (SC : Sta Z Z.heap "java/lang/String" "COMPACT_STRINGS" "Z" (.int z)) (hz : ¬ z = 0)  : G_puts0_8_16 (some consts_1) l Z n0 x y t b z us vs h0 0 0 [b] h0 0 #[.val (.ref x), .val (.int (0 : Int32)), .val (.ref y)] [] := by
  refine Go.aloadN 1 d24_0 rfl rfl rfl ?_
  refine Go.aloadN 2 d24_1 rfl rfl rfl ?_
  refine Go.callQ (S := []) (a := x) 5 [(.ref y)] d24_2 rfl rfl (w129 hw) (w130 hw) (w132 hw) (w131 hw) (w133 hw) (by decide) Ex (call_of_go (R := _) (len := 3) (W := 0) (plainFor_of_name pn_1) (fun mid => ef_inflate mid x y t z us ) (c_inflate hw x y t z us Fc Ey Cy Vy Uy SC hz) (w133 hw) (w94 hw) (by decide) (by decide)) (lenOf pd_9 rfl) (Nat.le_of_ble_eq_true rfl) rfl (Nat.le_of_ble_eq_true rfl) (Nat.le_of_ble_eq_true rfl) (fun _ q => nomatch q) (fun v h_1 sf_2 hq => ?_)
  obtain ⟨rfl, rfl⟩ := hq
  refine Go.more (sf' := [b]) ?_ (Nat.le_refl _) (Nat.le_refl _) (fun _ q => List.mem_append_right _ q)
  show G_puts0_8_16 (some consts_1) l Z n0 x y t b z us vs h0 0 0 [b] h0 5 #[.val (.ref x), .val (.int (0 : Int32)), .val (.ref y)] []
  refine Go.aloadN 6 d24_5 rfl rfl rfl ?_
  refine Go.aloadN 7 d24_6 rfl rfl rfl ?_
  refine Go.getF 10 d24_7 rfl (w98 hw) Via.refl Fb ?_
  refine Go.iloadN 11 d24_10 rfl rfl ?_
  refine Go.aloadN 12 d24_11 rfl rfl rfl ?_
  refine Go.getF 15 d24_12 rfl (w100 hw) Via.refl Fc ?_
  refine Go.callV (S := []) (a := y) 18 [(.ref b), (.int (0 : Int32)), (.int (0 : Int32))] d24_15 rfl rfl (w135 hw) (w136 hw) (w138 hw) (w137 hw) (fun _ q => notFace_of_selects (args := #[]) (mvT q (w138 hw))) (by decide) Ey (call_of_go (R := _) (len := 3) (W := 0) (plainFor_of_name pn_0) (fun mid => ef_getb0_8_16 mid y t b z us vs ) (c_getb0_8_16 hw y t b z us vs Ey Cy Vy Uy A n0b ntb hm hl SC hz) (w139 hw) (w14 hw) (by decide) (by decide)) (lenOf pd_10 rfl) (Nat.le_of_ble_eq_true rfl) rfl (Nat.le_of_ble_eq_true rfl) (Nat.le_of_ble_eq_true rfl) (fun _ q => q) (fun v h_3 sf_4 hq => ?_)
  obtain ⟨rfl, K2, A2⟩ := hq
  refine Go.more (sf' := [b]) ?_ (Nat.le_refl _) (Nat.le_refl _) (fun _ q => List.mem_append_right _ q)
  show G_puts0_8_16 (some consts_1) l Z n0 x y t b z us vs h0 0 0 [b] h_3 18 #[.val (.ref x), .val (.int (0 : Int32)), .val (.ref y)] []
  exact Go.ret0 d24_18 rfl (sf' := []) (⟨rfl, K2, A2⟩) (fun _ q => nomatch q) (Nat.le_of_ble_eq_true rfl) (Nat.le_of_ble_eq_true rfl)
abbrev G_asbapp0_8_16 (md : Md) (l : Launch) (Z : State) (n0 : Nat) (x y t b : Addr) (z : Int32) (us vs : List Value) (h0 : Heap) := Go md l Z n0 ({ frames := 3, cells := 0, slots := 0, locals := 47 } : Room) jdk_68_method_22_code 3 (some (.object "java/lang/AbstractStringBuilder")) "java/lang/AbstractStringBuilder" "append" (fun v h' sf' => ∃ q, v = some (.ref x) ∧ Keep h0 h' [x, b] ∧ Exa Z h' x "java/lang/StringBuilder" ∧ n0 ≤ q ∧ q ≠ x ∧ Fld Z h' x "java/lang/AbstractStringBuilder" "value" "[B" (.ref q) ∧ Fld Z h' x "java/lang/AbstractStringBuilder" "coder" "B" (.int 0) ∧ Fld Z h' x "java/lang/AbstractStringBuilder" "count" "I" (.int 8) ∧ Ary Z h' q .byte (vs.take 0 ++ us ++ vs.drop 8) ∧ sf' = [q] ∧ (q = b ∨ h0.size ≤ q))
theorem ef_asbapp0_8_16 (mid : MethodId) (x y t b : Addr) (z : Int32) (us vs : List Value)  : entryFrame mid #[(.ref x), (.ref y)] 3 = mkF mid 0 #[.val (.ref x), .val (.ref y), .unset] [] := by first | (simp [entryFrame, mkF, argsToLocals, Value.category]; done) | rfl
set_option maxRecDepth 65536 in
set_option maxHeartbeats 40000000 in
theorem c_asbapp0_8_16 {l : Launch} {Z : State} {n0 : Nat} {a0 : Array Value} (hw : HW a0 Z) (x y t b : Addr) (z : Int32) (us vs : List Value) {h0 : Heap} (Ex : Exa Z h0 x "java/lang/StringBuilder") (n0x : n0 ≤ x) (Fb : Fld Z h0 x "java/lang/AbstractStringBuilder" "value" "[B" (.ref b)) (Fc : Fld Z h0 x "java/lang/AbstractStringBuilder" "coder" "B" (.int 0)) (Fn : Fld Z h0 x "java/lang/AbstractStringBuilder" "count" "I" (.int 0)) (A : Ary Z h0 b .byte vs) (n0b : n0 ≤ b) (nbx : b ≠ x) (Ey : Exa Z h0 y "java/lang/String") (Cy : Fld Z h0 y "java/lang/String" "coder" "B" (.int 0)) (Vy : Fld Z h0 y "java/lang/String" "value" "[B" (.ref t)) (Uy : Ary Z h0 t .byte us) (ntb : t ≠ b) (nyx : y ≠ x) (ntx : t ≠ x) (nyb : y ≠ b) (hm : us.length = 8) (hl : vs.length = 16) (SC : Sta Z Z.heap "java/lang/String" "COMPACT_STRINGS" "Z" (.int z)) (hz : ¬ z = 0)  : G_asbapp0_8_16 (some consts_1) l Z n0 x y t b z us vs h0 0 0 [x, b] h0 0 #[.val (.ref x), .val (.ref y), .unset] [] := by
  refine Go.aloadN 1 d21_0 rfl rfl rfl ?_
  refine Go.nonnullY 9 d21_1 (by decide) (by decide) ?_
  refine Go.aloadN 10 d21_9 rfl rfl rfl ?_
  refine Go.callV (S := []) (a := y) 13 [] d21_10 rfl rfl (w112 hw) (w113 hw) (w115 hw) (w114 hw) (fun _ q => notFace_of_selects (args := #[]) (mvT q (w115 hw))) (by decide) Ey (call_of_go (R := _) (len := 3) (W := 0) (plainFor_of_name pn_0) (fun mid => ef_glen mid y t z (0 : Int32) us ) (c_glen hw y t z (0 : Int32) us Ey Cy Vy Uy rfl SC hz) (w116 hw) (w14 hw) (by decide) (by decide)) (lenOf pd_11 rfl) (Nat.le_of_ble_eq_true rfl) rfl (Nat.le_of_ble_eq_true rfl) (Nat.le_of_ble_eq_true rfl) (fun _ q => nomatch q) (fun v h_1 sf_2 hq => ?_)
  obtain ⟨rfl, rfl⟩ := hq
  rw [show (Int32.ofNat us.length) >>> ((0 : Int32) &&& 31) = (8 : Int32) from by rw [hm]; rfl]
  refine Go.more (sf' := [x, b]) ?_ (Nat.le_refl _) (Nat.le_refl _) (fun _ q => List.mem_append_right _ q)
  show G_asbapp0_8_16 (some consts_1) l Z n0 x y t b z us vs h0 0 0 [x, b] h0 13 #[.val (.ref x), .val (.ref y), .unset] [(.int (8 : Int32))]
  refine Go.istoreN 14 #[.val (.ref x), .val (.ref y), .val (.int (8 : Int32))] d21_13 rfl rfl ?_
  refine Go.aloadN 15 d21_14 rfl rfl rfl ?_
  refine Go.aloadN 16 d21_15 rfl rfl rfl ?_
  refine Go.getF 19 d21_16 rfl (w117 hw) Via.refl Fn ?_
  refine Go.iloadN 20 d21_19 rfl rfl ?_
  refine Go.iadd 21 d21_20 rfl ?_
  rw [show ((0 : Int32) + (8 : Int32)) = (8 : Int32) from by decide]
  refine Go.callQ (S := []) (a := x) 24 [(.int (8 : Int32))] d21_21 rfl rfl (w119 hw) (w120 hw) (w122 hw) (w121 hw) (w123 hw) (by decide) Ex (call_of_go (R := _) (len := 3) (W := 0) (plainFor_of_name pn_1) (fun mid => ef_enss8_16 mid x b vs ) (c_enss8_16 hw x b vs Fb Fc A hl) (w123 hw) (w94 hw) (by decide) (by decide)) (lenOf pd_1 rfl) (Nat.le_of_ble_eq_true rfl) rfl (Nat.le_of_ble_eq_true rfl) (Nat.le_of_ble_eq_true rfl) (fun _ q => nomatch q) (fun v h_3 sf_4 hq => ?_)
  obtain ⟨rfl, rfl⟩ := hq
  refine Go.more (sf' := [x, b]) ?_ (Nat.le_refl _) (Nat.le_refl _) (fun _ q => List.mem_append_right _ q)
  show G_asbapp0_8_16 (some consts_1) l Z n0 x y t b z us vs h0 0 0 [x, b] h0 24 #[.val (.ref x), .val (.ref y), .val (.int (8 : Int32))] []
  refine Go.aloadN 25 d21_24 rfl rfl rfl ?_
  refine Go.aloadN 26 d21_25 rfl rfl rfl ?_
  refine Go.getF 29 d21_26 rfl (w117 hw) Via.refl Fn ?_
  refine Go.aloadN 30 d21_29 rfl rfl rfl ?_
  refine Go.callQ (S := []) (a := x) 33 [(.int (0 : Int32)), (.ref y)] d21_30 rfl rfl (w124 hw) (w125 hw) (w127 hw) (w126 hw) (w128 hw) (by decide) Ex (call_of_go (R := _) (len := 3) (W := 0) (plainFor_of_name pn_1) (fun mid => ef_puts0_8_16 mid x y t b z us vs ) (c_puts0_8_16 hw x y t b z us vs Ex n0x Fb Fc Fn A n0b nbx Ey Cy Vy Uy ntb hm hl SC hz) (w128 hw) (w94 hw) (by decide) (by decide)) (lenOf pd_12 rfl) (Nat.le_of_ble_eq_true rfl) rfl (Nat.le_of_ble_eq_true rfl) (Nat.le_of_ble_eq_true rfl) (sub1 (List.mem_of_getElem? (i := 1) rfl)) (fun v h_5 sf_6 hq => ?_)
  obtain ⟨rfl, Kp, Ap⟩ := hq
  refine Go.more (sf' := [x, b]) ?_ (Nat.le_refl _) (Nat.le_refl _) (fun _ q => List.mem_append_right _ q)
  show G_asbapp0_8_16 (some consts_1) l Z n0 x y t b z us vs h0 0 0 [x, b] h_5 33 #[.val (.ref x), .val (.ref y), .val (.int (8 : Int32))] []
  refine Go.aloadN 34 d21_33 rfl rfl rfl ?_
  refine Go.dup 35 d21_34 rfl rfl ?_
  have f_7 := (Fn.keep Kp (ninS (Ne.symm nbx) nin0))
  refine Go.getF 38 d21_35 rfl (w117 hw) Via.refl f_7 ?_
  refine Go.iloadN 39 d21_38 rfl rfl ?_
  refine Go.iadd 40 d21_39 rfl ?_
  rw [show ((0 : Int32) + (8 : Int32)) = (8 : Int32) from by decide]
  have f_8 := (Ex.keep Kp)
  refine Go.putF 43 (.int (8 : Int32)) d21_40 rfl (w117 hw) Via.refl f_7 f_8 (Or.inl (w118 hw)) (w85 hw) (ty := .int) (by decide) rfl rfl (List.mem_of_getElem? (i := 0) rfl) n0x (fun h_9 W_10 => ?_)
  refine Go.aloadN 44 d21_43 rfl rfl rfl ?_
  have f_11 := (f_8.wr W_10)
  have f_12 := ((Fb.keep Kp (ninS (Ne.symm nbx) nin0)).other W_10 (Or.inr (slot_ne (Or.inl (w99 hw)) (Or.inl (w118 hw)) (by decide) (t := (.array .byte)) (t' := .int) (by decide) (by decide))))
  have f_13 := ((Fc.keep Kp (ninS (Ne.symm nbx) nin0)).other W_10 (Or.inr (slot_ne (Or.inl (w101 hw)) (Or.inl (w118 hw)) (by decide) (t := .byte) (t' := .int) (by decide) (by decide))))
  have f_14 := (Ap.other W_10 nbx)
  exact Go.retA d21_44 rfl rfl rfl (sf' := [b]) (⟨b, rfl, (((Keep.refl h0 [x, b]).trans Kp (allS (Or.inl (List.mem_of_getElem? (i := 1) rfl)) all0)).wr W_10 (Or.inl (List.mem_of_getElem? (i := 0) rfl))), f_11, n0b, nbx, f_12, f_13, (f_7.same W_10), f_14, rfl, Or.inl rfl⟩) (sub1 (List.mem_of_getElem? (i := 1) rfl)) (Nat.le_of_ble_eq_true rfl) (Nat.le_of_ble_eq_true rfl)
abbrev G_sbapp0_8_16 (md : Md) (l : Launch) (Z : State) (n0 : Nat) (x y t b : Addr) (z : Int32) (us vs : List Value) (h0 : Heap) := Go md l Z n0 ({ frames := 4, cells := 0, slots := 0, locals := 61 } : Room) jdk_67_method_7_code 2 (some (.object "java/lang/StringBuilder")) "java/lang/StringBuilder" "append" (fun v h' sf' => ∃ q, v = some (.ref x) ∧ Keep h0 h' [x, b] ∧ Exa Z h' x "java/lang/StringBuilder" ∧ n0 ≤ q ∧ q ≠ x ∧ Fld Z h' x "java/lang/AbstractStringBuilder" "value" "[B" (.ref q) ∧ Fld Z h' x "java/lang/AbstractStringBuilder" "coder" "B" (.int 0) ∧ Fld Z h' x "java/lang/AbstractStringBuilder" "count" "I" (.int 8) ∧ Ary Z h' q .byte (vs.take 0 ++ us ++ vs.drop 8) ∧ sf' = [q] ∧ (q = b ∨ h0.size ≤ q))
theorem ef_sbapp0_8_16 (mid : MethodId) (x y t b : Addr) (z : Int32) (us vs : List Value)  : entryFrame mid #[(.ref x), (.ref y)] 2 = mkF mid 0 #[.val (.ref x), .val (.ref y)] [] := by first | (simp [entryFrame, mkF, argsToLocals, Value.category]; done) | rfl
set_option maxRecDepth 65536 in
set_option maxHeartbeats 40000000 in
theorem c_sbapp0_8_16 {l : Launch} {Z : State} {n0 : Nat} {a0 : Array Value} (hw : HW a0 Z) (x y t b : Addr) (z : Int32) (us vs : List Value) {h0 : Heap} (Ex : Exa Z h0 x "java/lang/StringBuilder") (n0x : n0 ≤ x) (Fb : Fld Z h0 x "java/lang/AbstractStringBuilder" "value" "[B" (.ref b)) (Fc : Fld Z h0 x "java/lang/AbstractStringBuilder" "coder" "B" (.int 0)) (Fn : Fld Z h0 x "java/lang/AbstractStringBuilder" "count" "I" (.int 0)) (A : Ary Z h0 b .byte vs) (n0b : n0 ≤ b) (nbx : b ≠ x) (Ey : Exa Z h0 y "java/lang/String") (Cy : Fld Z h0 y "java/lang/String" "coder" "B" (.int 0)) (Vy : Fld Z h0 y "java/lang/String" "value" "[B" (.ref t)) (Uy : Ary Z h0 t .byte us) (ntb : t ≠ b) (nyx : y ≠ x) (ntx : t ≠ x) (nyb : y ≠ b) (hm : us.length = 8) (hl : vs.length = 16) (SC : Sta Z Z.heap "java/lang/String" "COMPACT_STRINGS" "Z" (.int z)) (hz : ¬ z = 0)  : G_sbapp0_8_16 (some consts_1) l Z n0 x y t b z us vs h0 0 0 [x, b] h0 0 #[.val (.ref x), .val (.ref y)] [] := by
  refine Go.aloadN 1 d20_0 rfl rfl rfl ?_
  refine Go.aloadN 2 d20_1 rfl rfl rfl ?_
  refine Go.callSup (S := []) (a := x) 5 [(.ref y)] d20_2 rfl rfl (w107 hw) (w108 hw) (w122 hw) rfl (w109 hw) (by decide) (w111 hw) (by decide) Ex (call_of_go (R := _) (len := 3) (W := 0) (plainFor_of_name pn_1) (fun mid => ef_asbapp0_8_16 mid x y t b z us vs ) (c_asbapp0_8_16 hw x y t b z us vs Ex n0x Fb Fc Fn A n0b nbx Ey Cy Vy Uy ntb nyx ntx nyb hm hl SC hz) (w111 hw) (w94 hw) (by decide) (by decide)) (lenOf pd_13 rfl) (Nat.le_of_ble_eq_true rfl) rfl (Nat.le_of_ble_eq_true rfl) (Nat.le_of_ble_eq_true rfl) (fun _ q => q) (fun v h_1 sf_2 hq => ?_)
  obtain ⟨q, rfl, Kq, Eq, n0q, nqx, Fbq, Fcq, Fnq, Aq, rfl, dq⟩ := hq
  show G_sbapp0_8_16 (some consts_1) l Z n0 x y t b z us vs h0 0 0 [q, x, b] h_1 5 #[.val (.ref x), .val (.ref y)] [(.ref x)]
  refine Go.pop 6 d20_5 rfl rfl ?_
  refine Go.aloadN 7 d20_6 rfl rfl rfl ?_
  exact Go.retA d20_7 rfl rfl rfl (sf' := [q]) (⟨q, rfl, Kq, Eq, n0q, nqx, Fbq, Fcq, Fnq, Aq, rfl, dq⟩) (sub1 (List.mem_of_getElem? (i := 0) rfl)) (Nat.le_of_ble_eq_true rfl) (Nat.le_of_ble_eq_true rfl)
abbrev G_enss13_16 (md : Md) (l : Launch) (Z : State) (n0 : Nat) (x b : Addr) (vs : List Value) (h0 : Heap) := Go md l Z n0 ({ frames := 0, cells := 0, slots := 0, locals := 0 } : Room) jdk_68_method_9_code 3 none "java/lang/AbstractStringBuilder" "ensureCapacityInternal" (fun v h' _ => h0 = h' ∧ v = none)
theorem ef_enss13_16 (mid : MethodId) (x b : Addr) (vs : List Value)  : entryFrame mid #[(.ref x), (.int (13 : Int32))] 3 = mkF mid 0 #[.val (.ref x), .val (.int (13 : Int32)), .unset] [] := by first | (simp [entryFrame, mkF, argsToLocals, Value.category]; done) | rfl
set_option maxRecDepth 65536 in
set_option maxHeartbeats 40000000 in
theorem c_enss13_16 {md : Md} {l : Launch} {Z : State} {n0 : Nat} {a0 : Array Value} (hw : HW a0 Z) (x b : Addr) (vs : List Value) {h0 : Heap} (Fb : Fld Z h0 x "java/lang/AbstractStringBuilder" "value" "[B" (.ref b)) (Fc : Fld Z h0 x "java/lang/AbstractStringBuilder" "coder" "B" (.int 0)) (A : Ary Z h0 b .byte vs) (hl : vs.length = 16) : G_enss13_16 md l Z n0 x b vs h0 0 0 [] h0 0 #[.val (.ref x), .val (.int (13 : Int32)), .unset] [] := by
  refine Go.aloadN 1 d23_0 rfl rfl rfl ?_
  refine Go.getF 4 d23_1 rfl (w98 hw) Via.refl Fb ?_
  refine Go.alen 5 (16 : Int32) d23_4 rfl A (by rw [hl]; rfl) ?_
  refine Go.aloadN 6 d23_5 rfl rfl rfl ?_
  refine Go.getF 9 d23_6 rfl (w100 hw) Via.refl Fc ?_
  refine Go.ishr 10 d23_9 rfl ?_
  rw [show ((16 : Int32) >>> ((0 : Int32) &&& 31)) = (16 : Int32) from by decide]
  refine Go.istoreN 11 #[.val (.ref x), .val (.int (13 : Int32)), .val (.int (16 : Int32))] d23_10 rfl rfl ?_
  refine Go.iloadN 12 d23_11 rfl rfl ?_
  refine Go.iloadN 13 d23_12 rfl rfl ?_
  refine Go.isub 14 d23_13 rfl ?_
  rw [show ((13 : Int32) - (16 : Int32)) = (-3 : Int32) from by decide]
  refine Go.ifY 38 d23_14 (by decide) (by decide) (flt (by decide)).2.2.2 ?_
  exact Go.ret0 d23_38 rfl (sf' := []) (⟨rfl, rfl⟩) (fun _ q => nomatch q) (Nat.le_of_ble_eq_true rfl) (Nat.le_of_ble_eq_true rfl)
abbrev G_getb8_5_16 (md : Md) (l : Launch) (Z : State) (n0 : Nat) (y t b : Addr) (z : Int32) (us vs : List Value) (h0 : Heap) := Go md l Z n0 ({ frames := 1, cells := 0, slots := 0, locals := 18 } : Room) jdk_42_method_147_code 4 none "java/lang/String" "getBytes" (fun v h' _ => v = none ∧ Keep h0 h' [b] ∧ Ary Z h' b .byte (vs.take 8 ++ us ++ vs.drop 13))
theorem ef_getb8_5_16 (mid : MethodId) (y t b : Addr) (z : Int32) (us vs : List Value)  : entryFrame mid #[(.ref y), (.ref b), (.int (8 : Int32)), (.int (0 : Int32))] 4 = mkF mid 0 #[.val (.ref y), .val (.ref b), .val (.int (8 : Int32)), .val (.int (0 : Int32))] [] := by first | (simp [entryFrame, mkF, argsToLocals, Value.category]; done) | rfl
set_option maxRecDepth 65536 in
set_option maxHeartbeats 40000000 in
theorem c_getb8_5_16 {md : Md} {l : Launch} {Z : State} {n0 : Nat} {a0 : Array Value} (hw : HW a0 Z) (y t b : Addr) (z : Int32) (us vs : List Value) {h0 : Heap} (Ey : Exa Z h0 y "java/lang/String") (Cy : Fld Z h0 y "java/lang/String" "coder" "B" (.int 0)) (Vy : Fld Z h0 y "java/lang/String" "value" "[B" (.ref t)) (Uy : Ary Z h0 t .byte us) (A : Ary Z h0 b .byte vs) (n0b : n0 ≤ b) (ntb : t ≠ b) (hm : us.length = 5) (hl : vs.length = 16) (SC : Sta Z Z.heap "java/lang/String" "COMPACT_STRINGS" "Z" (.int z)) (hz : ¬ z = 0)  : G_getb8_5_16 md l Z n0 y t b z us vs h0 0 0 [b] h0 0 #[.val (.ref y), .val (.ref b), .val (.int (8 : Int32)), .val (.int (0 : Int32))] [] := by
  refine Go.aloadN 1 d26_0 rfl rfl rfl ?_
  refine Go.callV (S := []) (a := y) 4 [] d26_1 rfl rfl (w67 hw) (w68 hw) (w70 hw) (w69 hw) (fun _ q => notFace_of_selects (args := #[]) (mvT q (w70 hw))) (by decide) Ey (call_of_go (R := _) (len := 3) (W := 0) (plainFor_of_name pn_0) (fun mid => ef_coder mid y z (0 : Int32) ) (c_coder hw y z (0 : Int32) Cy rfl SC hz) (w71 hw) (w14 hw) (by decide) (by decide)) (lenOf pd_0 rfl) (Nat.le_of_ble_eq_true rfl) rfl (Nat.le_of_ble_eq_true rfl) (Nat.le_of_ble_eq_true rfl) (fun _ q => nomatch q) (fun v h_1 sf_2 hq => ?_)
  obtain ⟨rfl, rfl⟩ := hq
  refine Go.more (sf' := [b]) ?_ (Nat.le_refl _) (Nat.le_refl _) (fun _ q => List.mem_append_right _ q)
  show G_getb8_5_16 md l Z n0 y t b z us vs h0 0 0 [b] h0 4 #[.val (.ref y), .val (.ref b), .val (.int (8 : Int32)), .val (.int (0 : Int32))] [(.int (0 : Int32))]
  refine Go.iloadN 5 d26_4 rfl rfl ?_
  refine Go.icmpN 8 d26_5 rfl (teq (by decide)).2 ?_
  refine Go.aloadN 9 d26_8 rfl rfl rfl ?_
  refine Go.getF 12 d26_9 rfl (w39 hw) Via.refl Vy ?_
  refine Go.iconst 13 (0 : Int32) d26_12 rfl rfl ?_
  refine Go.aloadN 14 d26_13 rfl rfl rfl ?_
  refine Go.iloadN 15 d26_14 rfl rfl ?_
  refine Go.iloadN 16 d26_15 rfl rfl ?_
  refine Go.ishl 17 d26_16 rfl ?_
  rw [show ((8 : Int32) <<< ((0 : Int32) &&& 31)) = (8 : Int32) from by decide]
  refine Go.aloadN 18 d26_17 rfl rfl rfl ?_
  refine Go.getF 21 d26_18 rfl (w39 hw) Via.refl Vy ?_
  refine Go.alen 22 (5 : Int32) d26_21 rfl Uy (by rw [hm]; rfl) ?_
  refine Go.acopy (W := 0) 0 8 5 25 d26_22 rfl (w140 hw) (w143 hw) (w141 hw) (w142 hw) Uy A rfl (by decide) (by decide) (by decide) (by rw [hm]; decide) (by rw [hl]; decide) (List.mem_of_getElem? (i := 0) rfl) n0b rfl (by decide) (Nat.le_of_ble_eq_true rfl) (by decide) (fun h_3 K_4 B_5 => ?_)
  have B_6 : Ary Z h_3 b .byte (vs.take 8 ++ us ++ vs.drop 13) := by have q_ := B_5; rw [show (us.drop 0).take 5 = us from by rw [List.drop_zero, ← hm, List.take_length]] at q_; exact q_
  show G_getb8_5_16 md l Z n0 y t b z us vs h0 0 0 [b] h_3 25 #[.val (.ref y), .val (.ref b), .val (.int (8 : Int32)), .val (.int (0 : Int32))] []
  refine Go.goto 43 d26_25 (by decide) (by decide) ?_
  exact Go.ret0 d26_43 rfl (sf' := []) (⟨rfl, ((Keep.refl h0 [b]).trans K_4 (allS (Or.inl (List.mem_of_getElem? (i := 0) rfl)) all0)), B_6⟩) (fun _ q => nomatch q) (Nat.le_of_ble_eq_true rfl) (Nat.le_of_ble_eq_true rfl)
abbrev G_puts8_5_16 (md : Md) (l : Launch) (Z : State) (n0 : Nat) (x y t b : Addr) (z : Int32) (us vs : List Value) (h0 : Heap) := Go md l Z n0 ({ frames := 2, cells := 0, slots := 0, locals := 33 } : Room) jdk_68_method_73_code 3 none "java/lang/AbstractStringBuilder" "putStringAt" (fun v h' _ => v = none ∧ Keep h0 h' [b] ∧ Ary Z h' b .byte (vs.take 8 ++ us ++ vs.drop 13))
theorem ef_puts8_5_16 (mid : MethodId) (x y t b : Addr) (z : Int32) (us vs : List Value)  : entryFrame mid #[(.ref x), (.int (8 : Int32)), (.ref y)] 3 = mkF mid 0 #[.val (.ref x), .val (.int (8 : Int32)), .val (.ref y)] [] := by first | (simp [entryFrame, mkF, argsToLocals, Value.category]; done) | rfl
set_option maxRecDepth 65536 in
set_option maxHeartbeats 40000000 in
theorem c_puts8_5_16 {l : Launch} {Z : State} {n0 : Nat} {a0 : Array Value} (hw : HW a0 Z) (x y t b : Addr) (z : Int32) (us vs : List Value) {h0 : Heap} (Ex : Exa Z h0 x "java/lang/StringBuilder") (n0x : n0 ≤ x) (Fb : Fld Z h0 x "java/lang/AbstractStringBuilder" "value" "[B" (.ref b)) (Fc : Fld Z h0 x "java/lang/AbstractStringBuilder" "coder" "B" (.int 0)) (Fn : Fld Z h0 x "java/lang/AbstractStringBuilder" "count" "I" (.int 8)) (A : Ary Z h0 b .byte vs) (n0b : n0 ≤ b) (nbx : b ≠ x) (Ey : Exa Z h0 y "java/lang/String") (Cy : Fld Z h0 y "java/lang/String" "coder" "B" (.int 0)) (Vy : Fld Z h0 y "java/lang/String" "value" "[B" (.ref t)) (Uy : Ary Z h0 t .byte us) (ntb : t ≠ b) (hm : us.length = 5) (hl : vs.length = 16) (SC : Sta Z Z.heap "java/lang/String" "COMPACT_STRINGS" "Z" (.int z)) (hz : ¬ z = 0)  : G_puts8_5_16 (some consts_1) l Z n0 x y t b z us vs h0 0 0 [b] h0 0 #[.val (.ref x), .val (.int (8 : Int32)), .val (.ref y)] [] := by
  refine Go.aloadN 1 d24_0 rfl rfl rfl ?_
  refine Go.aloadN 2 d24_1 rfl rfl rfl ?_
  refine Go.callQ (S := []) (a := x) 5 [(.ref y)] d24_2 rfl rfl (w129 hw) (w130 hw) (w132 hw) (w131 hw) (w133 hw) (by decide) Ex (call_of_go (R := _) (len := 3) (W := 0) (plainFor_of_name pn_1) (fun mid => ef_inflate mid x y t z us ) (c_inflate hw x y t z us Fc Ey Cy Vy Uy SC hz) (w133 hw) (w94 hw) (by decide) (by decide)) (lenOf pd_9 rfl) (Nat.le_of_ble_eq_true rfl) rfl (Nat.le_of_ble_eq_true rfl) (Nat.le_of_ble_eq_true rfl) (fun _ q => nomatch q) (fun v h_1 sf_2 hq => ?_)
  obtain ⟨rfl, rfl⟩ := hq
  refine Go.more (sf' := [b]) ?_ (Nat.le_refl _) (Nat.le_refl _) (fun _ q => List.mem_append_right _ q)
  show G_puts8_5_16 (some consts_1) l Z n0 x y t b z us vs h0 0 0 [b] h0 5 #[.val (.ref x), .val (.int (8 : Int32)), .val (.ref y)] []
  refine Go.aloadN 6 d24_5 rfl rfl rfl ?_
  refine Go.aloadN 7 d24_6 rfl rfl rfl ?_
  refine Go.getF 10 d24_7 rfl (w98 hw) Via.refl Fb ?_
  refine Go.iloadN 11 d24_10 rfl rfl ?_
  refine Go.aloadN 12 d24_11 rfl rfl rfl ?_
  refine Go.getF 15 d24_12 rfl (w100 hw) Via.refl Fc ?_
  refine Go.callV (S := []) (a := y) 18 [(.ref b), (.int (8 : Int32)), (.int (0 : Int32))] d24_15 rfl rfl (w135 hw) (w136 hw) (w138 hw) (w137 hw) (fun _ q => notFace_of_selects (args := #[]) (mvT q (w138 hw))) (by decide) Ey (call_of_go (R := _) (len := 3) (W := 0) (plainFor_of_name pn_0) (fun mid => ef_getb8_5_16 mid y t b z us vs ) (c_getb8_5_16 hw y t b z us vs Ey Cy Vy Uy A n0b ntb hm hl SC hz) (w139 hw) (w14 hw) (by decide) (by decide)) (lenOf pd_10 rfl) (Nat.le_of_ble_eq_true rfl) rfl (Nat.le_of_ble_eq_true rfl) (Nat.le_of_ble_eq_true rfl) (fun _ q => q) (fun v h_3 sf_4 hq => ?_)
  obtain ⟨rfl, K2, A2⟩ := hq
  refine Go.more (sf' := [b]) ?_ (Nat.le_refl _) (Nat.le_refl _) (fun _ q => List.mem_append_right _ q)
  show G_puts8_5_16 (some consts_1) l Z n0 x y t b z us vs h0 0 0 [b] h_3 18 #[.val (.ref x), .val (.int (8 : Int32)), .val (.ref y)] []
  exact Go.ret0 d24_18 rfl (sf' := []) (⟨rfl, K2, A2⟩) (fun _ q => nomatch q) (Nat.le_of_ble_eq_true rfl) (Nat.le_of_ble_eq_true rfl)
abbrev G_asbapp8_5_16 (md : Md) (l : Launch) (Z : State) (n0 : Nat) (x y t b : Addr) (z : Int32) (us vs : List Value) (h0 : Heap) := Go md l Z n0 ({ frames := 3, cells := 0, slots := 0, locals := 47 } : Room) jdk_68_method_22_code 3 (some (.object "java/lang/AbstractStringBuilder")) "java/lang/AbstractStringBuilder" "append" (fun v h' sf' => ∃ q, v = some (.ref x) ∧ Keep h0 h' [x, b] ∧ Exa Z h' x "java/lang/StringBuilder" ∧ n0 ≤ q ∧ q ≠ x ∧ Fld Z h' x "java/lang/AbstractStringBuilder" "value" "[B" (.ref q) ∧ Fld Z h' x "java/lang/AbstractStringBuilder" "coder" "B" (.int 0) ∧ Fld Z h' x "java/lang/AbstractStringBuilder" "count" "I" (.int 13) ∧ Ary Z h' q .byte (vs.take 8 ++ us ++ vs.drop 13) ∧ sf' = [q] ∧ (q = b ∨ h0.size ≤ q))
theorem ef_asbapp8_5_16 (mid : MethodId) (x y t b : Addr) (z : Int32) (us vs : List Value)  : entryFrame mid #[(.ref x), (.ref y)] 3 = mkF mid 0 #[.val (.ref x), .val (.ref y), .unset] [] := by first | (simp [entryFrame, mkF, argsToLocals, Value.category]; done) | rfl
set_option maxRecDepth 65536 in
set_option maxHeartbeats 40000000 in
theorem c_asbapp8_5_16 {l : Launch} {Z : State} {n0 : Nat} {a0 : Array Value} (hw : HW a0 Z) (x y t b : Addr) (z : Int32) (us vs : List Value) {h0 : Heap} (Ex : Exa Z h0 x "java/lang/StringBuilder") (n0x : n0 ≤ x) (Fb : Fld Z h0 x "java/lang/AbstractStringBuilder" "value" "[B" (.ref b)) (Fc : Fld Z h0 x "java/lang/AbstractStringBuilder" "coder" "B" (.int 0)) (Fn : Fld Z h0 x "java/lang/AbstractStringBuilder" "count" "I" (.int 8)) (A : Ary Z h0 b .byte vs) (n0b : n0 ≤ b) (nbx : b ≠ x) (Ey : Exa Z h0 y "java/lang/String") (Cy : Fld Z h0 y "java/lang/String" "coder" "B" (.int 0)) (Vy : Fld Z h0 y "java/lang/String" "value" "[B" (.ref t)) (Uy : Ary Z h0 t .byte us) (ntb : t ≠ b) (nyx : y ≠ x) (ntx : t ≠ x) (nyb : y ≠ b) (hm : us.length = 5) (hl : vs.length = 16) (SC : Sta Z Z.heap "java/lang/String" "COMPACT_STRINGS" "Z" (.int z)) (hz : ¬ z = 0)  : G_asbapp8_5_16 (some consts_1) l Z n0 x y t b z us vs h0 0 0 [x, b] h0 0 #[.val (.ref x), .val (.ref y), .unset] [] := by
  refine Go.aloadN 1 d21_0 rfl rfl rfl ?_
  refine Go.nonnullY 9 d21_1 (by decide) (by decide) ?_
  refine Go.aloadN 10 d21_9 rfl rfl rfl ?_
  refine Go.callV (S := []) (a := y) 13 [] d21_10 rfl rfl (w112 hw) (w113 hw) (w115 hw) (w114 hw) (fun _ q => notFace_of_selects (args := #[]) (mvT q (w115 hw))) (by decide) Ey (call_of_go (R := _) (len := 3) (W := 0) (plainFor_of_name pn_0) (fun mid => ef_glen mid y t z (0 : Int32) us ) (c_glen hw y t z (0 : Int32) us Ey Cy Vy Uy rfl SC hz) (w116 hw) (w14 hw) (by decide) (by decide)) (lenOf pd_11 rfl) (Nat.le_of_ble_eq_true rfl) rfl (Nat.le_of_ble_eq_true rfl) (Nat.le_of_ble_eq_true rfl) (fun _ q => nomatch q) (fun v h_1 sf_2 hq => ?_)
  obtain ⟨rfl, rfl⟩ := hq
  rw [show (Int32.ofNat us.length) >>> ((0 : Int32) &&& 31) = (5 : Int32) from by rw [hm]; rfl]
  refine Go.more (sf' := [x, b]) ?_ (Nat.le_refl _) (Nat.le_refl _) (fun _ q => List.mem_append_right _ q)
  show G_asbapp8_5_16 (some consts_1) l Z n0 x y t b z us vs h0 0 0 [x, b] h0 13 #[.val (.ref x), .val (.ref y), .unset] [(.int (5 : Int32))]
  refine Go.istoreN 14 #[.val (.ref x), .val (.ref y), .val (.int (5 : Int32))] d21_13 rfl rfl ?_
  refine Go.aloadN 15 d21_14 rfl rfl rfl ?_
  refine Go.aloadN 16 d21_15 rfl rfl rfl ?_
  refine Go.getF 19 d21_16 rfl (w117 hw) Via.refl Fn ?_
  refine Go.iloadN 20 d21_19 rfl rfl ?_
  refine Go.iadd 21 d21_20 rfl ?_
  rw [show ((8 : Int32) + (5 : Int32)) = (13 : Int32) from by decide]
  refine Go.callQ (S := []) (a := x) 24 [(.int (13 : Int32))] d21_21 rfl rfl (w119 hw) (w120 hw) (w122 hw) (w121 hw) (w123 hw) (by decide) Ex (call_of_go (R := _) (len := 3) (W := 0) (plainFor_of_name pn_1) (fun mid => ef_enss13_16 mid x b vs ) (c_enss13_16 hw x b vs Fb Fc A hl) (w123 hw) (w94 hw) (by decide) (by decide)) (lenOf pd_1 rfl) (Nat.le_of_ble_eq_true rfl) rfl (Nat.le_of_ble_eq_true rfl) (Nat.le_of_ble_eq_true rfl) (fun _ q => nomatch q) (fun v h_3 sf_4 hq => ?_)
  obtain ⟨rfl, rfl⟩ := hq
  refine Go.more (sf' := [x, b]) ?_ (Nat.le_refl _) (Nat.le_refl _) (fun _ q => List.mem_append_right _ q)
  show G_asbapp8_5_16 (some consts_1) l Z n0 x y t b z us vs h0 0 0 [x, b] h0 24 #[.val (.ref x), .val (.ref y), .val (.int (5 : Int32))] []
  refine Go.aloadN 25 d21_24 rfl rfl rfl ?_
  refine Go.aloadN 26 d21_25 rfl rfl rfl ?_
  refine Go.getF 29 d21_26 rfl (w117 hw) Via.refl Fn ?_
  refine Go.aloadN 30 d21_29 rfl rfl rfl ?_
  refine Go.callQ (S := []) (a := x) 33 [(.int (8 : Int32)), (.ref y)] d21_30 rfl rfl (w124 hw) (w125 hw) (w127 hw) (w126 hw) (w128 hw) (by decide) Ex (call_of_go (R := _) (len := 3) (W := 0) (plainFor_of_name pn_1) (fun mid => ef_puts8_5_16 mid x y t b z us vs ) (c_puts8_5_16 hw x y t b z us vs Ex n0x Fb Fc Fn A n0b nbx Ey Cy Vy Uy ntb hm hl SC hz) (w128 hw) (w94 hw) (by decide) (by decide)) (lenOf pd_12 rfl) (Nat.le_of_ble_eq_true rfl) rfl (Nat.le_of_ble_eq_true rfl) (Nat.le_of_ble_eq_true rfl) (sub1 (List.mem_of_getElem? (i := 1) rfl)) (fun v h_5 sf_6 hq => ?_)
  obtain ⟨rfl, Kp, Ap⟩ := hq
  refine Go.more (sf' := [x, b]) ?_ (Nat.le_refl _) (Nat.le_refl _) (fun _ q => List.mem_append_right _ q)
  show G_asbapp8_5_16 (some consts_1) l Z n0 x y t b z us vs h0 0 0 [x, b] h_5 33 #[.val (.ref x), .val (.ref y), .val (.int (5 : Int32))] []
  refine Go.aloadN 34 d21_33 rfl rfl rfl ?_
  refine Go.dup 35 d21_34 rfl rfl ?_
  have f_7 := (Fn.keep Kp (ninS (Ne.symm nbx) nin0))
  refine Go.getF 38 d21_35 rfl (w117 hw) Via.refl f_7 ?_
  refine Go.iloadN 39 d21_38 rfl rfl ?_
  refine Go.iadd 40 d21_39 rfl ?_
  rw [show ((8 : Int32) + (5 : Int32)) = (13 : Int32) from by decide]
  have f_8 := (Ex.keep Kp)
  refine Go.putF 43 (.int (13 : Int32)) d21_40 rfl (w117 hw) Via.refl f_7 f_8 (Or.inl (w118 hw)) (w85 hw) (ty := .int) (by decide) rfl rfl (List.mem_of_getElem? (i := 0) rfl) n0x (fun h_9 W_10 => ?_)
  refine Go.aloadN 44 d21_43 rfl rfl rfl ?_
  have f_11 := (f_8.wr W_10)
  have f_12 := ((Fb.keep Kp (ninS (Ne.symm nbx) nin0)).other W_10 (Or.inr (slot_ne (Or.inl (w99 hw)) (Or.inl (w118 hw)) (by decide) (t := (.array .byte)) (t' := .int) (by decide) (by decide))))
  have f_13 := ((Fc.keep Kp (ninS (Ne.symm nbx) nin0)).other W_10 (Or.inr (slot_ne (Or.inl (w101 hw)) (Or.inl (w118 hw)) (by decide) (t := .byte) (t' := .int) (by decide) (by decide))))
  have f_14 := (Ap.other W_10 nbx)
  exact Go.retA d21_44 rfl rfl rfl (sf' := [b]) (⟨b, rfl, (((Keep.refl h0 [x, b]).trans Kp (allS (Or.inl (List.mem_of_getElem? (i := 1) rfl)) all0)).wr W_10 (Or.inl (List.mem_of_getElem? (i := 0) rfl))), f_11, n0b, nbx, f_12, f_13, (f_7.same W_10), f_14, rfl, Or.inl rfl⟩) (sub1 (List.mem_of_getElem? (i := 1) rfl)) (Nat.le_of_ble_eq_true rfl) (Nat.le_of_ble_eq_true rfl)
abbrev G_sbapp8_5_16 (md : Md) (l : Launch) (Z : State) (n0 : Nat) (x y t b : Addr) (z : Int32) (us vs : List Value) (h0 : Heap) := Go md l Z n0 ({ frames := 4, cells := 0, slots := 0, locals := 61 } : Room) jdk_67_method_7_code 2 (some (.object "java/lang/StringBuilder")) "java/lang/StringBuilder" "append" (fun v h' sf' => ∃ q, v = some (.ref x) ∧ Keep h0 h' [x, b] ∧ Exa Z h' x "java/lang/StringBuilder" ∧ n0 ≤ q ∧ q ≠ x ∧ Fld Z h' x "java/lang/AbstractStringBuilder" "value" "[B" (.ref q) ∧ Fld Z h' x "java/lang/AbstractStringBuilder" "coder" "B" (.int 0) ∧ Fld Z h' x "java/lang/AbstractStringBuilder" "count" "I" (.int 13) ∧ Ary Z h' q .byte (vs.take 8 ++ us ++ vs.drop 13) ∧ sf' = [q] ∧ (q = b ∨ h0.size ≤ q))
theorem ef_sbapp8_5_16 (mid : MethodId) (x y t b : Addr) (z : Int32) (us vs : List Value)  : entryFrame mid #[(.ref x), (.ref y)] 2 = mkF mid 0 #[.val (.ref x), .val (.ref y)] [] := by first | (simp [entryFrame, mkF, argsToLocals, Value.category]; done) | rfl
set_option maxRecDepth 65536 in
set_option maxHeartbeats 40000000 in
theorem c_sbapp8_5_16 {l : Launch} {Z : State} {n0 : Nat} {a0 : Array Value} (hw : HW a0 Z) (x y t b : Addr) (z : Int32) (us vs : List Value) {h0 : Heap} (Ex : Exa Z h0 x "java/lang/StringBuilder") (n0x : n0 ≤ x) (Fb : Fld Z h0 x "java/lang/AbstractStringBuilder" "value" "[B" (.ref b)) (Fc : Fld Z h0 x "java/lang/AbstractStringBuilder" "coder" "B" (.int 0)) (Fn : Fld Z h0 x "java/lang/AbstractStringBuilder" "count" "I" (.int 8)) (A : Ary Z h0 b .byte vs) (n0b : n0 ≤ b) (nbx : b ≠ x) (Ey : Exa Z h0 y "java/lang/String") (Cy : Fld Z h0 y "java/lang/String" "coder" "B" (.int 0)) (Vy : Fld Z h0 y "java/lang/String" "value" "[B" (.ref t)) (Uy : Ary Z h0 t .byte us) (ntb : t ≠ b) (nyx : y ≠ x) (ntx : t ≠ x) (nyb : y ≠ b) (hm : us.length = 5) (hl : vs.length = 16) (SC : Sta Z Z.heap "java/lang/String" "COMPACT_STRINGS" "Z" (.int z)) (hz : ¬ z = 0)  : G_sbapp8_5_16 (some consts_1) l Z n0 x y t b z us vs h0 0 0 [x, b] h0 0 #[.val (.ref x), .val (.ref y)] [] := by
  refine Go.aloadN 1 d20_0 rfl rfl rfl ?_
  refine Go.aloadN 2 d20_1 rfl rfl rfl ?_
  refine Go.callSup (S := []) (a := x) 5 [(.ref y)] d20_2 rfl rfl (w107 hw) (w108 hw) (w122 hw) rfl (w109 hw) (by decide) (w111 hw) (by decide) Ex (call_of_go (R := _) (len := 3) (W := 0) (plainFor_of_name pn_1) (fun mid => ef_asbapp8_5_16 mid x y t b z us vs ) (c_asbapp8_5_16 hw x y t b z us vs Ex n0x Fb Fc Fn A n0b nbx Ey Cy Vy Uy ntb nyx ntx nyb hm hl SC hz) (w111 hw) (w94 hw) (by decide) (by decide)) (lenOf pd_13 rfl) (Nat.le_of_ble_eq_true rfl) rfl (Nat.le_of_ble_eq_true rfl) (Nat.le_of_ble_eq_true rfl) (fun _ q => q) (fun v h_1 sf_2 hq => ?_)
  obtain ⟨q, rfl, Kq, Eq, n0q, nqx, Fbq, Fcq, Fnq, Aq, rfl, dq⟩ := hq
  show G_sbapp8_5_16 (some consts_1) l Z n0 x y t b z us vs h0 0 0 [q, x, b] h_1 5 #[.val (.ref x), .val (.ref y)] [(.ref x)]
  refine Go.pop 6 d20_5 rfl rfl ?_
  refine Go.aloadN 7 d20_6 rfl rfl rfl ?_
  exact Go.retA d20_7 rfl rfl rfl (sf' := [q]) (⟨q, rfl, Kq, Eq, n0q, nqx, Fbq, Fcq, Fnq, Aq, rfl, dq⟩) (sub1 (List.mem_of_getElem? (i := 0) rfl)) (Nat.le_of_ble_eq_true rfl) (Nat.le_of_ble_eq_true rfl)
abbrev G_newlen19 (md : Md) (l : Launch) (Z : State) (n0 : Nat)  (h0 : Heap) := Go md l Z n0 ({ frames := 1, cells := 0, slots := 0, locals := 14 } : Room) jdk_48_method_27_code 4 (some .int) "jdk/internal/util/ArraysSupport" "newLength" (fun v h' _ => h0 = h' ∧ v = some (.int 34))
theorem ef_newlen19 (mid : MethodId)   : entryFrame mid #[(.int (16 : Int32)), (.int (3 : Int32)), (.int (18 : Int32))] 4 = mkF mid 0 #[.val (.int (16 : Int32)), .val (.int (3 : Int32)), .val (.int (18 : Int32)), .unset] [] := by first | (simp [entryFrame, mkF, argsToLocals, Value.category]; done) | rfl
set_option maxRecDepth 65536 in
set_option maxHeartbeats 40000000 in
theorem c_newlen19 {md : Md} {l : Launch} {Z : State} {n0 : Nat} {a0 : Array Value} (hw : HW a0 Z)  {h0 : Heap}  : G_newlen19 md l Z n0  h0 0 0 [] h0 0 #[.val (.int (16 : Int32)), .val (.int (3 : Int32)), .val (.int (18 : Int32)), .unset] [] := by
  refine Go.iloadN 1 d28_0 rfl rfl ?_
  refine Go.iloadN 2 d28_1 rfl rfl ?_
  refine Go.iloadN 3 d28_2 rfl rfl ?_
  refine Go.callS (S := [(.int (16 : Int32))]) 6 [(.int (3 : Int32)), (.int (18 : Int32))] d28_3 rfl rfl (w154 hw) (w155 hw) (w156 hw) (w157 hw) (by decide) (call_of_go (R := _) (len := 3) (W := 1) pf_0 (fun mid => ef_max mid (3 : Int32) (18 : Int32) ) (c_max hw (3 : Int32) (18 : Int32) ) (w157 hw) (w156 hw) (by decide) (by decide)) (lenOf pd_15 rfl) (Nat.le_of_ble_eq_true rfl) rfl (Nat.le_of_ble_eq_true rfl) (Nat.le_of_ble_eq_true rfl) (fun _ q => nomatch q) (fun v h_1 sf_2 hq => ?_)
  obtain ⟨rfl, rfl⟩ := hq
  refine Go.more (sf' := []) ?_ (Nat.le_refl _) (Nat.le_refl _) (fun _ q => List.mem_append_right _ q)
  show G_newlen19 md l Z n0  h0 0 0 [] h0 6 #[.val (.int (16 : Int32)), .val (.int (3 : Int32)), .val (.int (18 : Int32)), .unset] [(.int (if (3 : Int32) < (18 : Int32) then (18 : Int32) else (3 : Int32))), (.int (16 : Int32))]
  rw [show (if (3 : Int32) < (18 : Int32) then (18 : Int32) else (3 : Int32)) = (18 : Int32) from by decide]
  show G_newlen19 md l Z n0  h0 0 0 [] h0 6 #[.val (.int (16 : Int32)), .val (.int (3 : Int32)), .val (.int (18 : Int32)), .unset] [(.int (18 : Int32)), (.int (16 : Int32))]
  refine Go.iadd 7 d28_6 rfl ?_
  rw [show ((16 : Int32) + (18 : Int32)) = (34 : Int32) from by decide]
  refine Go.istoreN 8 #[.val (.int (16 : Int32)), .val (.int (3 : Int32)), .val (.int (18 : Int32)), .val (.int (34 : Int32))] d28_7 rfl rfl ?_
  refine Go.iconst 9 (0 : Int32) d28_8 rfl rfl ?_
  refine Go.iloadN 10 d28_9 rfl rfl ?_
  refine Go.icmpN 13 d28_10 rfl (tlt (by decide)).2.1 ?_
  refine Go.iloadN 14 d28_13 rfl rfl ?_
  refine Go.ldcI 16 d28_14 rfl (w158 hw) ?_
  refine Go.icmpN 19 d28_16 rfl (flt (by decide)).2.2.1 ?_
  refine Go.iloadN 20 d28_19 rfl rfl ?_
  exact Go.retI d28_20 rfl (sf' := []) (⟨rfl, rfl⟩) (fun _ q => nomatch q) (Nat.le_of_ble_eq_true rfl) (Nat.le_of_ble_eq_true rfl)
abbrev G_newcap19 (md : Md) (l : Launch) (Z : State) (n0 : Nat) (x b : Addr) (vs : List Value) (h0 : Heap) := Go md l Z n0 ({ frames := 2, cells := 0, slots := 0, locals := 29 } : Room) jdk_68_method_10_code 6 (some .int) "java/lang/AbstractStringBuilder" "newCapacity" (fun v h' _ => h0 = h' ∧ v = some (.int 34))
theorem ef_newcap19 (mid : MethodId) (x b : Addr) (vs : List Value)  : entryFrame mid #[(.ref x), (.int (19 : Int32))] 6 = mkF mid 0 #[.val (.ref x), .val (.int (19 : Int32)), .unset, .unset, .unset, .unset] [] := by first | (simp [entryFrame, mkF, argsToLocals, Value.category]; done) | rfl
set_option maxRecDepth 65536 in
set_option maxHeartbeats 40000000 in
theorem c_newcap19 {md : Md} {l : Launch} {Z : State} {n0 : Nat} {a0 : Array Value} (hw : HW a0 Z) (x b : Addr) (vs : List Value) {h0 : Heap} (Fb : Fld Z h0 x "java/lang/AbstractStringBuilder" "value" "[B" (.ref b)) (Fc : Fld Z h0 x "java/lang/AbstractStringBuilder" "coder" "B" (.int 0)) (A : Ary Z h0 b .byte vs) (hl : vs.length = 16) : G_newcap19 md l Z n0 x b vs h0 0 0 [] h0 0 #[.val (.ref x), .val (.int (19 : Int32)), .unset, .unset, .unset, .unset] [] := by
  refine Go.aloadN 1 d27_0 rfl rfl rfl ?_
  refine Go.getF 4 d27_1 rfl (w98 hw) Via.refl Fb ?_
  refine Go.alen 5 (16 : Int32) d27_4 rfl A (by rw [hl]; rfl) ?_
  refine Go.istoreN 6 #[.val (.ref x), .val (.int (19 : Int32)), .val (.int (16 : Int32)), .unset, .unset, .unset] d27_5 rfl rfl ?_
  refine Go.iloadN 7 d27_6 rfl rfl ?_
  refine Go.aloadN 8 d27_7 rfl rfl rfl ?_
  refine Go.getF 11 d27_8 rfl (w100 hw) Via.refl Fc ?_
  refine Go.ishl 12 d27_11 rfl ?_
  rw [show ((19 : Int32) <<< ((0 : Int32) &&& 31)) = (19 : Int32) from by decide]
  refine Go.istoreN 13 #[.val (.ref x), .val (.int (19 : Int32)), .val (.int (16 : Int32)), .val (.int (19 : Int32)), .unset, .unset] d27_12 rfl rfl ?_
  refine Go.iloadN 14 d27_13 rfl rfl ?_
  refine Go.iloadN 15 d27_14 rfl rfl ?_
  refine Go.isub 16 d27_15 rfl ?_
  rw [show ((19 : Int32) - (16 : Int32)) = (3 : Int32) from by decide]
  refine Go.istore 18 #[.val (.ref x), .val (.int (19 : Int32)), .val (.int (16 : Int32)), .val (.int (19 : Int32)), .val (.int (3 : Int32)), .unset] d27_16 rfl rfl ?_
  refine Go.iloadN 19 d27_18 rfl rfl ?_
  refine Go.iload 21 d27_19 rfl rfl ?_
  refine Go.iloadN 22 d27_21 rfl rfl ?_
  refine Go.iconst 23 (2 : Int32) d27_22 rfl rfl ?_
  refine Go.aloadN 24 d27_23 rfl rfl rfl ?_
  refine Go.getF 27 d27_24 rfl (w100 hw) Via.refl Fc ?_
  refine Go.ishl 28 d27_27 rfl ?_
  rw [show ((2 : Int32) <<< ((0 : Int32) &&& 31)) = (2 : Int32) from by decide]
  refine Go.iadd 29 d27_28 rfl ?_
  rw [show ((16 : Int32) + (2 : Int32)) = (18 : Int32) from by decide]
  refine Go.callS (S := []) 32 [(.int (16 : Int32)), (.int (3 : Int32)), (.int (18 : Int32))] d27_29 rfl rfl (w150 hw) (w151 hw) (w152 hw) (w153 hw) (by decide) (call_of_go (R := _) (len := 3) (W := 0) pf_1 (fun mid => ef_newlen19 mid  ) (c_newlen19 hw  ) (w153 hw) (w152 hw) (by decide) (by decide)) (lenOf pd_16 rfl) (Nat.le_of_ble_eq_true rfl) rfl (Nat.le_of_ble_eq_true rfl) (Nat.le_of_ble_eq_true rfl) (fun _ q => nomatch q) (fun v h_1 sf_2 hq => ?_)
  obtain ⟨rfl, rfl⟩ := hq
  refine Go.more (sf' := []) ?_ (Nat.le_refl _) (Nat.le_refl _) (fun _ q => List.mem_append_right _ q)
  show G_newcap19 md l Z n0 x b vs h0 0 0 [] h0 32 #[.val (.ref x), .val (.int (19 : Int32)), .val (.int (16 : Int32)), .val (.int (19 : Int32)), .val (.int (3 : Int32)), .unset] [(.int (34 : Int32))]
  refine Go.istore 34 #[.val (.ref x), .val (.int (19 : Int32)), .val (.int (16 : Int32)), .val (.int (19 : Int32)), .val (.int (3 : Int32)), .val (.int (34 : Int32))] d27_32 rfl rfl ?_
  refine Go.iload 36 d27_34 rfl rfl ?_
  refine Go.ldcI 38 d27_36 rfl (w159 hw) ?_
  refine Go.icmpY 51 d27_38 (by decide) (by decide) (feq (by decide)).2 ?_
  refine Go.iload 53 d27_51 rfl rfl ?_
  refine Go.aloadN 54 d27_53 rfl rfl rfl ?_
  refine Go.getF 57 d27_54 rfl (w100 hw) Via.refl Fc ?_
  refine Go.ishr 58 d27_57 rfl ?_
  rw [show ((34 : Int32) >>> ((0 : Int32) &&& 31)) = (34 : Int32) from by decide]
  exact Go.retI d27_58 rfl (sf' := []) (⟨rfl, rfl⟩) (fun _ q => nomatch q) (Nat.le_of_ble_eq_true rfl) (Nat.le_of_ble_eq_true rfl)
abbrev G_copyof (md : Md) (l : Launch) (Z : State) (n0 : Nat) (b : Addr) (vs : List Value) (h0 : Heap) := Go md l Z n0 ({ frames := 1, cells := 1, slots := 34, locals := 18 } : Room) jdk_65_method_121_code 3 (some (.array .byte)) "java/util/Arrays" "copyOf" (fun v h' sf' => ∃ r, v = some (.ref r) ∧ Ext h0 h' ∧ h0.size ≤ r ∧ n0 ≤ r ∧ Ary Z h' r .byte (vs ++ List.replicate 18 (.int 0)) ∧ sf' = [r])
theorem ef_copyof (mid : MethodId) (b : Addr) (vs : List Value)  : entryFrame mid #[(.ref b), (.int (34 : Int32))] 3 = mkF mid 0 #[.val (.ref b), .val (.int (34 : Int32)), .unset] [] := by first | (simp [entryFrame, mkF, argsToLocals, Value.category]; done) | rfl
set_option maxRecDepth 65536 in
set_option maxHeartbeats 40000000 in
theorem c_copyof {md : Md} {l : Launch} {Z : State} {n0 : Nat} {a0 : Array Value} (hw : HW a0 Z) (b : Addr) (vs : List Value) {h0 : Heap} (A : Ary Z h0 b .byte vs) (hl : vs.length = 16) : G_copyof md l Z n0 b vs h0 0 0 [] h0 0 #[.val (.ref b), .val (.int (34 : Int32)), .unset] [] := by
  refine Go.iloadN 1 d30_0 rfl rfl ?_
  refine Go.aloadN 2 d30_1 rfl rfl rfl ?_
  refine Go.alen 3 (16 : Int32) d30_2 rfl A (by rw [hl]; rfl) ?_
  refine Go.icmpY 14 d30_3 (by decide) (by decide) (feq (by decide)).2 ?_
  refine Go.iloadN 15 d30_14 rfl rfl ?_
  refine Go.newA 34 17 d30_15 rfl rfl (w30 hw) (by decide) 34 (Nat.le_refl _) (by decide) (Nat.le_of_ble_eq_true rfl) (Nat.le_of_ble_eq_true rfl) (fun h_1 r_2 g_3 q_4 E_5 lt_6 A_7 => ?_)
  have A_8 : Ary Z h_1 r_2 .byte (List.replicate 34 (.int 0)) := A_7
  show G_copyof md l Z n0 b vs h0 1 34 [r_2] h_1 17 #[.val (.ref b), .val (.int (34 : Int32)), .unset] [(.ref r_2)]
  refine Go.astoreN 18 #[.val (.ref b), .val (.int (34 : Int32)), .val (.ref r_2)] d30_17 rfl rfl rfl ?_
  refine Go.aloadN 19 d30_18 rfl rfl rfl ?_
  refine Go.iconst 20 (0 : Int32) d30_19 rfl rfl ?_
  refine Go.aloadN 21 d30_20 rfl rfl rfl ?_
  refine Go.iconst 22 (0 : Int32) d30_21 rfl rfl ?_
  refine Go.aloadN 23 d30_22 rfl rfl rfl ?_
  have f_9 := A.ext E_5
  refine Go.alen 24 (16 : Int32) d30_23 rfl f_9 (by rw [hl]; rfl) ?_
  refine Go.iloadN 25 d30_24 rfl rfl ?_
  refine Go.callS (S := [(.int (0 : Int32)), (.ref r_2), (.int (0 : Int32)), (.ref b)]) 28 [(.int (16 : Int32)), (.int (34 : Int32))] d30_25 rfl rfl (w164 hw) (w165 hw) (w156 hw) (w166 hw) (by decide) (call_of_go (R := _) (len := 3) (W := 4) pf_2 (fun mid => ef_min mid (16 : Int32) (34 : Int32) ) (c_min hw (16 : Int32) (34 : Int32) ) (w166 hw) (w156 hw) (by decide) (by decide)) (lenOf pd_15 rfl) (Nat.le_of_ble_eq_true rfl) rfl (Nat.le_of_ble_eq_true rfl) (Nat.le_of_ble_eq_true rfl) (fun _ q => nomatch q) (fun v h_10 sf_11 hq => ?_)
  obtain ⟨rfl, rfl⟩ := hq
  refine Go.more (sf' := [r_2]) ?_ (Nat.le_refl _) (Nat.le_refl _) (fun _ q => List.mem_append_right _ q)
  show G_copyof md l Z n0 b vs h0 1 34 [r_2] h_1 28 #[.val (.ref b), .val (.int (34 : Int32)), .val (.ref r_2)] [(.int (if (34 : Int32) < (16 : Int32) then (34 : Int32) else (16 : Int32))), (.int (0 : Int32)), (.ref r_2), (.int (0 : Int32)), (.ref b)]
  rw [show (if (34 : Int32) < (16 : Int32) then (34 : Int32) else (16 : Int32)) = (16 : Int32) from by decide]
  show G_copyof md l Z n0 b vs h0 1 34 [r_2] h_1 28 #[.val (.ref b), .val (.int (34 : Int32)), .val (.ref r_2)] [(.int (16 : Int32)), (.int (0 : Int32)), (.ref r_2), (.int (0 : Int32)), (.ref b)]
  refine Go.acopy (W := 0) 0 0 16 31 d30_28 rfl (w167 hw) (w143 hw) (w141 hw) (w142 hw) f_9 A_8 rfl (by decide) (by decide) (by decide) (by rw [hl]; decide) (by decide) (List.mem_of_getElem? (i := 0) rfl) q_4 rfl (by decide) (Nat.le_of_ble_eq_true rfl) (by decide) (fun h_12 K_13 B_14 => ?_)
  have B_15 : Ary Z h_12 r_2 .byte (vs ++ List.replicate 18 (.int 0)) := by have q_ := B_14; rw [show (vs.drop 0).take 16 = vs from by rw [List.drop_zero, ← hl, List.take_length]] at q_; exact q_
  show G_copyof md l Z n0 b vs h0 1 34 [r_2] h_12 31 #[.val (.ref b), .val (.int (34 : Int32)), .val (.ref r_2)] []
  refine Go.aloadN 32 d30_31 rfl rfl rfl ?_
  have X_16 : Ext h0 h_12 := extK E_5 K_13 (allS (Nat.le_of_eq g_3) all0)
  exact Go.retA d30_32 rfl rfl rfl (sf' := [r_2]) (⟨_, rfl, X_16, (Nat.le_of_eq g_3), q_4, B_15, rfl⟩) (sub1 (List.mem_of_getElem? (i := 0) rfl)) (Nat.le_of_ble_eq_true rfl) (Nat.le_of_ble_eq_true rfl)
abbrev G_ensg13_19 (md : Md) (l : Launch) (Z : State) (n0 : Nat) (x b : Addr) (vs : List Value) (h0 : Heap) := Go md l Z n0 ({ frames := 3, cells := 1, slots := 34, locals := 48 } : Room) jdk_68_method_9_code 3 none "java/lang/AbstractStringBuilder" "ensureCapacityInternal" (fun v h' sf' => ∃ r, v = none ∧ Keep h0 h' [x] ∧ Exa Z h' x "java/lang/StringBuilder" ∧ h0.size ≤ r ∧ n0 ≤ r ∧ r ≠ x ∧ Fld Z h' x "java/lang/AbstractStringBuilder" "value" "[B" (.ref r) ∧ Fld Z h' x "java/lang/AbstractStringBuilder" "coder" "B" (.int 0) ∧ Fld Z h' x "java/lang/AbstractStringBuilder" "count" "I" (.int 13) ∧ Ary Z h' r .byte (vs ++ List.replicate 18 (.int 0)) ∧ sf' = [r])
theorem ef_ensg13_19 (mid : MethodId) (x b : Addr) (vs : List Value)  : entryFrame mid #[(.ref x), (.int (19 : Int32))] 3 = mkF mid 0 #[.val (.ref x), .val (.int (19 : Int32)), .unset] [] := by first | (simp [entryFrame, mkF, argsToLocals, Value.category]; done) | rfl
set_option maxRecDepth 65536 in
set_option maxHeartbeats 40000000 in
theorem c_ensg13_19 {l : Launch} {Z : State} {n0 : Nat} {a0 : Array Value} (hw : HW a0 Z) (x b : Addr) (vs : List Value) {h0 : Heap} (Ex : Exa Z h0 x "java/lang/StringBuilder") (n0x : n0 ≤ x) (Fb : Fld Z h0 x "java/lang/AbstractStringBuilder" "value" "[B" (.ref b)) (Fc : Fld Z h0 x "java/lang/AbstractStringBuilder" "coder" "B" (.int 0)) (Fn : Fld Z h0 x "java/lang/AbstractStringBuilder" "count" "I" (.int 13)) (A : Ary Z h0 b .byte vs) (n0b : n0 ≤ b) (nbx : b ≠ x) (hl : vs.length = 16) : G_ensg13_19 (some consts_1) l Z n0 x b vs h0 0 0 [x] h0 0 #[.val (.ref x), .val (.int (19 : Int32)), .unset] [] := by
  refine Go.aloadN 1 d23_0 rfl rfl rfl ?_
  refine Go.getF 4 d23_1 rfl (w98 hw) Via.refl Fb ?_
  refine Go.alen 5 (16 : Int32) d23_4 rfl A (by rw [hl]; rfl) ?_
  refine Go.aloadN 6 d23_5 rfl rfl rfl ?_
  refine Go.getF 9 d23_6 rfl (w100 hw) Via.refl Fc ?_
  refine Go.ishr 10 d23_9 rfl ?_
  rw [show ((16 : Int32) >>> ((0 : Int32) &&& 31)) = (16 : Int32) from by decide]
  refine Go.istoreN 11 #[.val (.ref x), .val (.int (19 : Int32)), .val (.int (16 : Int32))] d23_10 rfl rfl ?_
  refine Go.iloadN 12 d23_11 rfl rfl ?_
  refine Go.iloadN 13 d23_12 rfl rfl ?_
  refine Go.isub 14 d23_13 rfl ?_
  rw [show ((19 : Int32) - (16 : Int32)) = (3 : Int32) from by decide]
  refine Go.ifN 17 d23_14 rfl (tlt (by decide)).2.2.2 ?_
  refine Go.aloadN 18 d23_17 rfl rfl rfl ?_
  refine Go.aloadN 19 d23_18 rfl rfl rfl ?_
  refine Go.getF 22 d23_19 rfl (w98 hw) Via.refl Fb ?_
  refine Go.aloadN 23 d23_22 rfl rfl rfl ?_
  refine Go.iloadN 24 d23_23 rfl rfl ?_
  refine Go.callQ (S := [(.ref b), (.ref x)]) (a := x) 27 [(.int (19 : Int32))] d23_24 rfl rfl (w145 hw) (w146 hw) (w148 hw) (w147 hw) (w149 hw) (by decide) Ex (call_of_go (R := _) (len := 3) (W := 2) (plainFor_of_name pn_1) (fun mid => ef_newcap19 mid x b vs ) (c_newcap19 hw x b vs Fb Fc A hl) (w149 hw) (w94 hw) (by decide) (by decide)) (lenOf pd_17 rfl) (Nat.le_of_ble_eq_true rfl) rfl (Nat.le_of_ble_eq_true rfl) (Nat.le_of_ble_eq_true rfl) (fun _ q => nomatch q) (fun v h_1 sf_2 hq => ?_)
  obtain ⟨rfl, rfl⟩ := hq
  refine Go.more (sf' := [x]) ?_ (Nat.le_refl _) (Nat.le_refl _) (fun _ q => List.mem_append_right _ q)
  show G_ensg13_19 (some consts_1) l Z n0 x b vs h0 0 0 [x] h0 27 #[.val (.ref x), .val (.int (19 : Int32)), .val (.int (16 : Int32))] [(.int (34 : Int32)), (.ref b), (.ref x)]
  refine Go.aloadN 28 d23_27 rfl rfl rfl ?_
  refine Go.getF 31 d23_28 rfl (w100 hw) Via.refl Fc ?_
  refine Go.ishl 32 d23_31 rfl ?_
  rw [show ((34 : Int32) <<< ((0 : Int32) &&& 31)) = (34 : Int32) from by decide]
  refine Go.callS (S := [(.ref x)]) 35 [(.ref b), (.int (34 : Int32))] d23_32 rfl rfl (w160 hw) (w161 hw) (w162 hw) (w163 hw) (by decide) (call_of_go (R := _) (len := 3) (W := 1) (plainFor_of_name pn_4) (fun mid => ef_copyof mid b vs ) (c_copyof hw b vs A hl) (w163 hw) (w162 hw) (by decide) (by decide)) (lenOf pd_18 rfl) (Nat.le_of_ble_eq_true rfl) rfl (Nat.le_of_ble_eq_true rfl) (Nat.le_of_ble_eq_true rfl) (fun _ q => nomatch q) (fun v h_3 sf_4 hq => ?_)
  obtain ⟨r, rfl, Xr, le_r, n0r, Ar, rfl⟩ := hq
  have nrx : r ≠ x := Nat.ne_of_gt (Nat.lt_of_lt_of_le Ex.lt le_r)
  show G_ensg13_19 (some consts_1) l Z n0 x b vs h0 1 34 [r, x] h_3 35 #[.val (.ref x), .val (.int (19 : Int32)), .val (.int (16 : Int32))] [(.ref r), (.ref x)]
  have f_5 := Ex.ext Xr
  have f_6 := Fb.ext Xr
  refine Go.putF 38 (.ref r) d23_35 rfl (w98 hw) Via.refl f_6 f_5 (Or.inl (w99 hw)) (w85 hw) (ty := (.array .byte)) (by decide) rfl rfl (List.mem_of_getElem? (i := 1) rfl) n0x (fun h_7 W_8 => ?_)
  have f_9 := (f_5.wr W_8)
  have f_10 := ((Fc.ext Xr).other W_8 (Or.inr (slot_ne (Or.inl (w101 hw)) (Or.inl (w99 hw)) (by decide) (t := .byte) (t' := (.array .byte)) (by decide) (by decide))))
  have f_11 := ((Fn.ext Xr).other W_8 (Or.inr (slot_ne (Or.inl (w118 hw)) (Or.inl (w99 hw)) (by decide) (t := .int) (t' := (.array .byte)) (by decide) (by decide))))
  have f_12 := (Ar.other W_8 nrx)
  exact Go.ret0 d23_38 rfl (sf' := [r]) (⟨r, rfl, (((Keep.refl h0 [x]).ext Xr).wr W_8 (Or.inl (List.mem_of_getElem? (i := 0) rfl))), f_9, le_r, n0r, nrx, (f_6.same W_8), f_10, f_11, f_12, rfl⟩) (sub1 (List.mem_of_getElem? (i := 0) rfl)) (Nat.le_of_ble_eq_true rfl) (Nat.le_of_ble_eq_true rfl)
abbrev G_getb13_6_34 (md : Md) (l : Launch) (Z : State) (n0 : Nat) (y t b : Addr) (z : Int32) (us vs : List Value) (h0 : Heap) := Go md l Z n0 ({ frames := 1, cells := 0, slots := 0, locals := 18 } : Room) jdk_42_method_147_code 4 none "java/lang/String" "getBytes" (fun v h' _ => v = none ∧ Keep h0 h' [b] ∧ Ary Z h' b .byte (vs.take 13 ++ us ++ vs.drop 19))
theorem ef_getb13_6_34 (mid : MethodId) (y t b : Addr) (z : Int32) (us vs : List Value)  : entryFrame mid #[(.ref y), (.ref b), (.int (13 : Int32)), (.int (0 : Int32))] 4 = mkF mid 0 #[.val (.ref y), .val (.ref b), .val (.int (13 : Int32)), .val (.int (0 : Int32))] [] := by first | (simp [entryFrame, mkF, argsToLocals, Value.category]; done) | rfl
set_option maxRecDepth 65536 in
set_option maxHeartbeats 40000000 in
theorem c_getb13_6_34 {md : Md} {l : Launch} {Z : State} {n0 : Nat} {a0 : Array Value} (hw : HW a0 Z) (y t b : Addr) (z : Int32) (us vs : List Value) {h0 : Heap} (Ey : Exa Z h0 y "java/lang/String") (Cy : Fld Z h0 y "java/lang/String" "coder" "B" (.int 0)) (Vy : Fld Z h0 y "java/lang/String" "value" "[B" (.ref t)) (Uy : Ary Z h0 t .byte us) (A : Ary Z h0 b .byte vs) (n0b : n0 ≤ b) (ntb : t ≠ b) (hm : us.length = 6) (hl : vs.length = 34) (SC : Sta Z Z.heap "java/lang/String" "COMPACT_STRINGS" "Z" (.int z)) (hz : ¬ z = 0)  : G_getb13_6_34 md l Z n0 y t b z us vs h0 0 0 [b] h0 0 #[.val (.ref y), .val (.ref b), .val (.int (13 : Int32)), .val (.int (0 : Int32))] [] := by
  refine Go.aloadN 1 d26_0 rfl rfl rfl ?_
  refine Go.callV (S := []) (a := y) 4 [] d26_1 rfl rfl (w67 hw) (w68 hw) (w70 hw) (w69 hw) (fun _ q => notFace_of_selects (args := #[]) (mvT q (w70 hw))) (by decide) Ey (call_of_go (R := _) (len := 3) (W := 0) (plainFor_of_name pn_0) (fun mid => ef_coder mid y z (0 : Int32) ) (c_coder hw y z (0 : Int32) Cy rfl SC hz) (w71 hw) (w14 hw) (by decide) (by decide)) (lenOf pd_0 rfl) (Nat.le_of_ble_eq_true rfl) rfl (Nat.le_of_ble_eq_true rfl) (Nat.le_of_ble_eq_true rfl) (fun _ q => nomatch q) (fun v h_1 sf_2 hq => ?_)
  obtain ⟨rfl, rfl⟩ := hq
  refine Go.more (sf' := [b]) ?_ (Nat.le_refl _) (Nat.le_refl _) (fun _ q => List.mem_append_right _ q)
  show G_getb13_6_34 md l Z n0 y t b z us vs h0 0 0 [b] h0 4 #[.val (.ref y), .val (.ref b), .val (.int (13 : Int32)), .val (.int (0 : Int32))] [(.int (0 : Int32))]
  refine Go.iloadN 5 d26_4 rfl rfl ?_
  refine Go.icmpN 8 d26_5 rfl (teq (by decide)).2 ?_
  refine Go.aloadN 9 d26_8 rfl rfl rfl ?_
  refine Go.getF 12 d26_9 rfl (w39 hw) Via.refl Vy ?_
  refine Go.iconst 13 (0 : Int32) d26_12 rfl rfl ?_
  refine Go.aloadN 14 d26_13 rfl rfl rfl ?_
  refine Go.iloadN 15 d26_14 rfl rfl ?_
  refine Go.iloadN 16 d26_15 rfl rfl ?_
  refine Go.ishl 17 d26_16 rfl ?_
  rw [show ((13 : Int32) <<< ((0 : Int32) &&& 31)) = (13 : Int32) from by decide]
  refine Go.aloadN 18 d26_17 rfl rfl rfl ?_
  refine Go.getF 21 d26_18 rfl (w39 hw) Via.refl Vy ?_
  refine Go.alen 22 (6 : Int32) d26_21 rfl Uy (by rw [hm]; rfl) ?_
  refine Go.acopy (W := 0) 0 13 6 25 d26_22 rfl (w140 hw) (w143 hw) (w141 hw) (w142 hw) Uy A rfl (by decide) (by decide) (by decide) (by rw [hm]; decide) (by rw [hl]; decide) (List.mem_of_getElem? (i := 0) rfl) n0b rfl (by decide) (Nat.le_of_ble_eq_true rfl) (by decide) (fun h_3 K_4 B_5 => ?_)
  have B_6 : Ary Z h_3 b .byte (vs.take 13 ++ us ++ vs.drop 19) := by have q_ := B_5; rw [show (us.drop 0).take 6 = us from by rw [List.drop_zero, ← hm, List.take_length]] at q_; exact q_
  show G_getb13_6_34 md l Z n0 y t b z us vs h0 0 0 [b] h_3 25 #[.val (.ref y), .val (.ref b), .val (.int (13 : Int32)), .val (.int (0 : Int32))] []
  refine Go.goto 43 d26_25 (by decide) (by decide) ?_
  exact Go.ret0 d26_43 rfl (sf' := []) (⟨rfl, ((Keep.refl h0 [b]).trans K_4 (allS (Or.inl (List.mem_of_getElem? (i := 0) rfl)) all0)), B_6⟩) (fun _ q => nomatch q) (Nat.le_of_ble_eq_true rfl) (Nat.le_of_ble_eq_true rfl)
abbrev G_puts13_6_34 (md : Md) (l : Launch) (Z : State) (n0 : Nat) (x y t b : Addr) (z : Int32) (us vs : List Value) (h0 : Heap) := Go md l Z n0 ({ frames := 2, cells := 0, slots := 0, locals := 33 } : Room) jdk_68_method_73_code 3 none "java/lang/AbstractStringBuilder" "putStringAt" (fun v h' _ => v = none ∧ Keep h0 h' [b] ∧ Ary Z h' b .byte (vs.take 13 ++ us ++ vs.drop 19))
theorem ef_puts13_6_34 (mid : MethodId) (x y t b : Addr) (z : Int32) (us vs : List Value)  : entryFrame mid #[(.ref x), (.int (13 : Int32)), (.ref y)] 3 = mkF mid 0 #[.val (.ref x), .val (.int (13 : Int32)), .val (.ref y)] [] := by first | (simp [entryFrame, mkF, argsToLocals, Value.category]; done) | rfl
set_option maxRecDepth 65536 in
set_option maxHeartbeats 40000000 in
theorem c_puts13_6_34 {l : Launch} {Z : State} {n0 : Nat} {a0 : Array Value} (hw : HW a0 Z) (x y t b : Addr) (z : Int32) (us vs : List Value) {h0 : Heap} (Ex : Exa Z h0 x "java/lang/StringBuilder") (n0x : n0 ≤ x) (Fb : Fld Z h0 x "java/lang/AbstractStringBuilder" "value" "[B" (.ref b)) (Fc : Fld Z h0 x "java/lang/AbstractStringBuilder" "coder" "B" (.int 0)) (Fn : Fld Z h0 x "java/lang/AbstractStringBuilder" "count" "I" (.int 13)) (A : Ary Z h0 b .byte vs) (n0b : n0 ≤ b) (nbx : b ≠ x) (Ey : Exa Z h0 y "java/lang/String") (Cy : Fld Z h0 y "java/lang/String" "coder" "B" (.int 0)) (Vy : Fld Z h0 y "java/lang/String" "value" "[B" (.ref t)) (Uy : Ary Z h0 t .byte us) (ntb : t ≠ b) (hm : us.length = 6) (hl : vs.length = 34) (SC : Sta Z Z.heap "java/lang/String" "COMPACT_STRINGS" "Z" (.int z)) (hz : ¬ z = 0)  : G_puts13_6_34 (some consts_1) l Z n0 x y t b z us vs h0 0 0 [b] h0 0 #[.val (.ref x), .val (.int (13 : Int32)), .val (.ref y)] [] := by
  refine Go.aloadN 1 d24_0 rfl rfl rfl ?_
  refine Go.aloadN 2 d24_1 rfl rfl rfl ?_
  refine Go.callQ (S := []) (a := x) 5 [(.ref y)] d24_2 rfl rfl (w129 hw) (w130 hw) (w132 hw) (w131 hw) (w133 hw) (by decide) Ex (call_of_go (R := _) (len := 3) (W := 0) (plainFor_of_name pn_1) (fun mid => ef_inflate mid x y t z us ) (c_inflate hw x y t z us Fc Ey Cy Vy Uy SC hz) (w133 hw) (w94 hw) (by decide) (by decide)) (lenOf pd_9 rfl) (Nat.le_of_ble_eq_true rfl) rfl (Nat.le_of_ble_eq_true rfl) (Nat.le_of_ble_eq_true rfl) (fun _ q => nomatch q) (fun v h_1 sf_2 hq => ?_)
  obtain ⟨rfl, rfl⟩ := hq
  refine Go.more (sf' := [b]) ?_ (Nat.le_refl _) (Nat.le_refl _) (fun _ q => List.mem_append_right _ q)
  show G_puts13_6_34 (some consts_1) l Z n0 x y t b z us vs h0 0 0 [b] h0 5 #[.val (.ref x), .val (.int (13 : Int32)), .val (.ref y)] []
  refine Go.aloadN 6 d24_5 rfl rfl rfl ?_
  refine Go.aloadN 7 d24_6 rfl rfl rfl ?_
  refine Go.getF 10 d24_7 rfl (w98 hw) Via.refl Fb ?_
  refine Go.iloadN 11 d24_10 rfl rfl ?_
  refine Go.aloadN 12 d24_11 rfl rfl rfl ?_
  refine Go.getF 15 d24_12 rfl (w100 hw) Via.refl Fc ?_
  refine Go.callV (S := []) (a := y) 18 [(.ref b), (.int (13 : Int32)), (.int (0 : Int32))] d24_15 rfl rfl (w135 hw) (w136 hw) (w138 hw) (w137 hw) (fun _ q => notFace_of_selects (args := #[]) (mvT q (w138 hw))) (by decide) Ey (call_of_go (R := _) (len := 3) (W := 0) (plainFor_of_name pn_0) (fun mid => ef_getb13_6_34 mid y t b z us vs ) (c_getb13_6_34 hw y t b z us vs Ey Cy Vy Uy A n0b ntb hm hl SC hz) (w139 hw) (w14 hw) (by decide) (by decide)) (lenOf pd_10 rfl) (Nat.le_of_ble_eq_true rfl) rfl (Nat.le_of_ble_eq_true rfl) (Nat.le_of_ble_eq_true rfl) (fun _ q => q) (fun v h_3 sf_4 hq => ?_)
  obtain ⟨rfl, K2, A2⟩ := hq
  refine Go.more (sf' := [b]) ?_ (Nat.le_refl _) (Nat.le_refl _) (fun _ q => List.mem_append_right _ q)
  show G_puts13_6_34 (some consts_1) l Z n0 x y t b z us vs h0 0 0 [b] h_3 18 #[.val (.ref x), .val (.int (13 : Int32)), .val (.ref y)] []
  exact Go.ret0 d24_18 rfl (sf' := []) (⟨rfl, K2, A2⟩) (fun _ q => nomatch q) (Nat.le_of_ble_eq_true rfl) (Nat.le_of_ble_eq_true rfl)
abbrev G_asbapp13_6_16 (md : Md) (l : Launch) (Z : State) (n0 : Nat) (x y t b : Addr) (z : Int32) (us vs : List Value) (h0 : Heap) := Go md l Z n0 ({ frames := 4, cells := 1, slots := 34, locals := 62 } : Room) jdk_68_method_22_code 3 (some (.object "java/lang/AbstractStringBuilder")) "java/lang/AbstractStringBuilder" "append" (fun v h' sf' => ∃ q, v = some (.ref x) ∧ Keep h0 h' [x, b] ∧ Exa Z h' x "java/lang/StringBuilder" ∧ n0 ≤ q ∧ q ≠ x ∧ Fld Z h' x "java/lang/AbstractStringBuilder" "value" "[B" (.ref q) ∧ Fld Z h' x "java/lang/AbstractStringBuilder" "coder" "B" (.int 0) ∧ Fld Z h' x "java/lang/AbstractStringBuilder" "count" "I" (.int 19) ∧ Ary Z h' q .byte ((vs ++ List.replicate 18 (Value.int 0)).take 13 ++ us ++ (vs ++ List.replicate 18 (Value.int 0)).drop 19) ∧ sf' = [q] ∧ (q = b ∨ h0.size ≤ q))
theorem ef_asbapp13_6_16 (mid : MethodId) (x y t b : Addr) (z : Int32) (us vs : List Value)  : entryFrame mid #[(.ref x), (.ref y)] 3 = mkF mid 0 #[.val (.ref x), .val (.ref y), .unset] [] := by first | (simp [entryFrame, mkF, argsToLocals, Value.category]; done) | rfl
set_option maxRecDepth 65536 in
set_option maxHeartbeats 40000000 in
theorem c_asbapp13_6_16 {l : Launch} {Z : State} {n0 : Nat} {a0 : Array Value} (hw : HW a0 Z) (x y t b : Addr) (z : Int32) (us vs : List Value) {h0 : Heap} (Ex : Exa Z h0 x "java/lang/StringBuilder") (n0x : n0 ≤ x) (Fb : Fld Z h0 x "java/lang/AbstractStringBuilder" "value" "[B" (.ref b)) (Fc : Fld Z h0 x "java/lang/AbstractStringBuilder" "coder" "B" (.int 0)) (Fn : Fld Z h0 x "java/lang/AbstractStringBuilder" "count" "I" (.int 13)) (A : Ary Z h0 b .byte vs) (n0b : n0 ≤ b) (nbx : b ≠ x) (Ey : Exa Z h0 y "java/lang/String") (Cy : Fld Z h0 y "java/lang/String" "coder" "B" (.int 0)) (Vy : Fld Z h0 y "java/lang/String" "value" "[B" (.ref t)) (Uy : Ary Z h0 t .byte us) (ntb : t ≠ b) (nyx : y ≠ x) (ntx : t ≠ x) (nyb : y ≠ b) (hm : us.length = 6) (hl : vs.length = 16) (SC : Sta Z Z.heap "java/lang/String" "COMPACT_STRINGS" "Z" (.int z)) (hz : ¬ z = 0)  : G_asbapp13_6_16 (some consts_1) l Z n0 x y t b z us vs h0 0 0 [x, b] h0 0 #[.val (.ref x), .val (.ref y), .unset] [] := by
  refine Go.aloadN 1 d21_0 rfl rfl rfl ?_
  refine Go.nonnullY 9 d21_1 (by decide) (by decide) ?_
  refine Go.aloadN 10 d21_9 rfl rfl rfl ?_
  refine Go.callV (S := []) (a := y) 13 [] d21_10 rfl rfl (w112 hw) (w113 hw) (w115 hw) (w114 hw) (fun _ q => notFace_of_selects (args := #[]) (mvT q (w115 hw))) (by decide) Ey (call_of_go (R := _) (len := 3) (W := 0) (plainFor_of_name pn_0) (fun mid => ef_glen mid y t z (0 : Int32) us ) (c_glen hw y t z (0 : Int32) us Ey Cy Vy Uy rfl SC hz) (w116 hw) (w14 hw) (by decide) (by decide)) (lenOf pd_11 rfl) (Nat.le_of_ble_eq_true rfl) rfl (Nat.le_of_ble_eq_true rfl) (Nat.le_of_ble_eq_true rfl) (fun _ q => nomatch q) (fun v h_1 sf_2 hq => ?_)
  obtain ⟨rfl, rfl⟩ := hq
  rw [show (Int32.ofNat us.length) >>> ((0 : Int32) &&& 31) = (6 : Int32) from by rw [hm]; rfl]
  refine Go.more (sf' := [x, b]) ?_ (Nat.le_refl _) (Nat.le_refl _) (fun _ q => List.mem_append_right _ q)
  show G_asbapp13_6_16 (some consts_1) l Z n0 x y t b z us vs h0 0 0 [x, b] h0 13 #[.val (.ref x), .val (.ref y), .unset] [(.int (6 : Int32))]
  refine Go.istoreN 14 #[.val (.ref x), .val (.ref y), .val (.int (6 : Int32))] d21_13 rfl rfl ?_
  refine Go.aloadN 15 d21_14 rfl rfl rfl ?_
  refine Go.aloadN 16 d21_15 rfl rfl rfl ?_
  refine Go.getF 19 d21_16 rfl (w117 hw) Via.refl Fn ?_
  refine Go.iloadN 20 d21_19 rfl rfl ?_
  refine Go.iadd 21 d21_20 rfl ?_
  rw [show ((13 : Int32) + (6 : Int32)) = (19 : Int32) from by decide]
  refine Go.callQ (S := []) (a := x) 24 [(.int (19 : Int32))] d21_21 rfl rfl (w119 hw) (w120 hw) (w122 hw) (w121 hw) (w123 hw) (by decide) Ex (call_of_go (R := _) (len := 3) (W := 0) (plainFor_of_name pn_1) (fun mid => ef_ensg13_19 mid x b vs ) (c_ensg13_19 hw x b vs Ex n0x Fb Fc Fn A n0b nbx hl) (w123 hw) (w94 hw) (by decide) (by decide)) (lenOf pd_1 rfl) (Nat.le_of_ble_eq_true rfl) rfl (Nat.le_of_ble_eq_true rfl) (Nat.le_of_ble_eq_true rfl) (sub1 (List.mem_of_getElem? (i := 0) rfl)) (fun v h_3 sf_4 hq => ?_)
  obtain ⟨r, rfl, Kr, Er, le_r, n0r, nrx, Fbr, Fcr, Fnr, Ar, rfl⟩ := hq
  have ntr : t ≠ r := Nat.ne_of_lt (Nat.lt_of_lt_of_le Uy.lt le_r)
  have nyr : y ≠ r := Nat.ne_of_lt (Nat.lt_of_lt_of_le Ey.lt le_r)
  show G_asbapp13_6_16 (some consts_1) l Z n0 x y t b z us vs h0 1 34 [r, x, b] h_3 24 #[.val (.ref x), .val (.ref y), .val (.int (6 : Int32))] []
  refine Go.aloadN 25 d21_24 rfl rfl rfl ?_
  refine Go.aloadN 26 d21_25 rfl rfl rfl ?_
  refine Go.getF 29 d21_26 rfl (w117 hw) Via.refl Fnr ?_
  refine Go.aloadN 30 d21_29 rfl rfl rfl ?_
  have f_5 := (Ey.keep Kr)
  have f_6 := (Cy.keep Kr (ninS nyx nin0))
  have f_7 := (Vy.keep Kr (ninS nyx nin0))
  have f_8 := (Ary.keep Kr Uy (ninS ntx nin0))
  refine Go.callQ (S := []) (a := x) 33 [(.int (13 : Int32)), (.ref y)] d21_30 rfl rfl (w124 hw) (w125 hw) (w127 hw) (w126 hw) (w128 hw) (by decide) Er (call_of_go (R := _) (len := 3) (W := 0) (plainFor_of_name pn_1) (fun mid => ef_puts13_6_34 mid x y t r z us (vs ++ List.replicate 18 (Value.int 0)) ) (c_puts13_6_34 hw x y t r z us (vs ++ List.replicate 18 (Value.int 0)) Er n0x Fbr Fcr Fnr Ar n0r nrx f_5 f_6 f_7 f_8 ntr hm (by rw [List.length_append, hl]; rfl) SC hz) (w128 hw) (w94 hw) (by decide) (by decide)) (lenOf pd_12 rfl) (Nat.le_of_ble_eq_true rfl) rfl (Nat.le_of_ble_eq_true rfl) (Nat.le_of_ble_eq_true rfl) (sub1 (List.mem_of_getElem? (i := 0) rfl)) (fun v h_9 sf_10 hq => ?_)
  obtain ⟨rfl, Kp, Ap⟩ := hq
  refine Go.more (sf' := [r, x, b]) ?_ (Nat.le_refl _) (Nat.le_refl _) (fun _ q => List.mem_append_right _ q)
  show G_asbapp13_6_16 (some consts_1) l Z n0 x y t b z us vs h0 1 34 [r, x, b] h_9 33 #[.val (.ref x), .val (.ref y), .val (.int (6 : Int32))] []
  refine Go.aloadN 34 d21_33 rfl rfl rfl ?_
  refine Go.dup 35 d21_34 rfl rfl ?_
  have f_11 := (Fnr.keep Kp (ninS (Ne.symm nrx) nin0))
  refine Go.getF 38 d21_35 rfl (w117 hw) Via.refl f_11 ?_
  refine Go.iloadN 39 d21_38 rfl rfl ?_
  refine Go.iadd 40 d21_39 rfl ?_
  rw [show ((13 : Int32) + (6 : Int32)) = (19 : Int32) from by decide]
  have f_12 := (Er.keep Kp)
  refine Go.putF 43 (.int (19 : Int32)) d21_40 rfl (w117 hw) Via.refl f_11 f_12 (Or.inl (w118 hw)) (w85 hw) (ty := .int) (by decide) rfl rfl (List.mem_of_getElem? (i := 1) rfl) n0x (fun h_13 W_14 => ?_)
  refine Go.aloadN 44 d21_43 rfl rfl rfl ?_
  have f_15 := (f_12.wr W_14)
  have f_16 := ((Fbr.keep Kp (ninS (Ne.symm nrx) nin0)).other W_14 (Or.inr (slot_ne (Or.inl (w99 hw)) (Or.inl (w118 hw)) (by decide) (t := (.array .byte)) (t' := .int) (by decide) (by decide))))
  have f_17 := ((Fcr.keep Kp (ninS (Ne.symm nrx) nin0)).other W_14 (Or.inr (slot_ne (Or.inl (w101 hw)) (Or.inl (w118 hw)) (by decide) (t := .byte) (t' := .int) (by decide) (by decide))))
  have f_18 := (Ap.other W_14 nrx)
  exact Go.retA d21_44 rfl rfl rfl (sf' := [r]) (⟨r, rfl, ((((Keep.refl h0 [x, b]).trans Kr (allS (Or.inl (List.mem_of_getElem? (i := 0) rfl)) all0)).trans Kp (allS (Or.inr le_r) all0)).wr W_14 (Or.inl (List.mem_of_getElem? (i := 0) rfl))), f_15, n0r, nrx, f_16, f_17, (f_11.same W_14), f_18, rfl, Or.inr le_r⟩) (sub1 (List.mem_of_getElem? (i := 0) rfl)) (Nat.le_of_ble_eq_true rfl) (Nat.le_of_ble_eq_true rfl)
abbrev G_sbapp13_6_16 (md : Md) (l : Launch) (Z : State) (n0 : Nat) (x y t b : Addr) (z : Int32) (us vs : List Value) (h0 : Heap) := Go md l Z n0 ({ frames := 5, cells := 1, slots := 34, locals := 76 } : Room) jdk_67_method_7_code 2 (some (.object "java/lang/StringBuilder")) "java/lang/StringBuilder" "append" (fun v h' sf' => ∃ q, v = some (.ref x) ∧ Keep h0 h' [x, b] ∧ Exa Z h' x "java/lang/StringBuilder" ∧ n0 ≤ q ∧ q ≠ x ∧ Fld Z h' x "java/lang/AbstractStringBuilder" "value" "[B" (.ref q) ∧ Fld Z h' x "java/lang/AbstractStringBuilder" "coder" "B" (.int 0) ∧ Fld Z h' x "java/lang/AbstractStringBuilder" "count" "I" (.int 19) ∧ Ary Z h' q .byte ((vs ++ List.replicate 18 (Value.int 0)).take 13 ++ us ++ (vs ++ List.replicate 18 (Value.int 0)).drop 19) ∧ sf' = [q] ∧ (q = b ∨ h0.size ≤ q))
theorem ef_sbapp13_6_16 (mid : MethodId) (x y t b : Addr) (z : Int32) (us vs : List Value)  : entryFrame mid #[(.ref x), (.ref y)] 2 = mkF mid 0 #[.val (.ref x), .val (.ref y)] [] := by first | (simp [entryFrame, mkF, argsToLocals, Value.category]; done) | rfl
set_option maxRecDepth 65536 in
set_option maxHeartbeats 40000000 in
theorem c_sbapp13_6_16 {l : Launch} {Z : State} {n0 : Nat} {a0 : Array Value} (hw : HW a0 Z) (x y t b : Addr) (z : Int32) (us vs : List Value) {h0 : Heap} (Ex : Exa Z h0 x "java/lang/StringBuilder") (n0x : n0 ≤ x) (Fb : Fld Z h0 x "java/lang/AbstractStringBuilder" "value" "[B" (.ref b)) (Fc : Fld Z h0 x "java/lang/AbstractStringBuilder" "coder" "B" (.int 0)) (Fn : Fld Z h0 x "java/lang/AbstractStringBuilder" "count" "I" (.int 13)) (A : Ary Z h0 b .byte vs) (n0b : n0 ≤ b) (nbx : b ≠ x) (Ey : Exa Z h0 y "java/lang/String") (Cy : Fld Z h0 y "java/lang/String" "coder" "B" (.int 0)) (Vy : Fld Z h0 y "java/lang/String" "value" "[B" (.ref t)) (Uy : Ary Z h0 t .byte us) (ntb : t ≠ b) (nyx : y ≠ x) (ntx : t ≠ x) (nyb : y ≠ b) (hm : us.length = 6) (hl : vs.length = 16) (SC : Sta Z Z.heap "java/lang/String" "COMPACT_STRINGS" "Z" (.int z)) (hz : ¬ z = 0)  : G_sbapp13_6_16 (some consts_1) l Z n0 x y t b z us vs h0 0 0 [x, b] h0 0 #[.val (.ref x), .val (.ref y)] [] := by
  refine Go.aloadN 1 d20_0 rfl rfl rfl ?_
  refine Go.aloadN 2 d20_1 rfl rfl rfl ?_
  refine Go.callSup (S := []) (a := x) 5 [(.ref y)] d20_2 rfl rfl (w107 hw) (w108 hw) (w122 hw) rfl (w109 hw) (by decide) (w111 hw) (by decide) Ex (call_of_go (R := _) (len := 3) (W := 0) (plainFor_of_name pn_1) (fun mid => ef_asbapp13_6_16 mid x y t b z us vs ) (c_asbapp13_6_16 hw x y t b z us vs Ex n0x Fb Fc Fn A n0b nbx Ey Cy Vy Uy ntb nyx ntx nyb hm hl SC hz) (w111 hw) (w94 hw) (by decide) (by decide)) (lenOf pd_13 rfl) (Nat.le_of_ble_eq_true rfl) rfl (Nat.le_of_ble_eq_true rfl) (Nat.le_of_ble_eq_true rfl) (fun _ q => q) (fun v h_1 sf_2 hq => ?_)
  obtain ⟨q, rfl, Kq, Eq, n0q, nqx, Fbq, Fcq, Fnq, Aq, rfl, dq⟩ := hq
  show G_sbapp13_6_16 (some consts_1) l Z n0 x y t b z us vs h0 1 34 [q, x, b] h_1 5 #[.val (.ref x), .val (.ref y)] [(.ref x)]
  refine Go.pop 6 d20_5 rfl rfl ?_
  refine Go.aloadN 7 d20_6 rfl rfl rfl ?_
  exact Go.retA d20_7 rfl rfl rfl (sf' := [q]) (⟨q, rfl, Kq, Eq, n0q, nqx, Fbq, Fcq, Fnq, Aq, rfl, dq⟩) (sub1 (List.mem_of_getElem? (i := 0) rfl)) (Nat.le_of_ble_eq_true rfl) (Nat.le_of_ble_eq_true rfl)
abbrev G_checklen (md : Md) (l : Launch) (Z : State) (n0 : Nat) (p q : Int32) (h0 : Heap) := Go md l Z n0 ({ frames := 0, cells := 0, slots := 0, locals := 0 } : Room) jdk_65_method_131_code 2 none "java/util/Arrays" "checkLength" (fun v h' _ => h0 = h' ∧ v = none)
theorem ef_checklen (mid : MethodId) (p q : Int32)  : entryFrame mid #[(.int p), (.int q)] 2 = mkF mid 0 #[.val (.int p), .val (.int q)] [] := by first | (simp [entryFrame, mkF, argsToLocals, Value.category]; done) | rfl
set_option maxRecDepth 65536 in
set_option maxHeartbeats 40000000 in
theorem c_checklen {md : Md} {l : Launch} {Z : State} {n0 : Nat} {a0 : Array Value} (hw : HW a0 Z) (p q : Int32) {h0 : Heap} (hle : ¬ q < p) : G_checklen md l Z n0 p q h0 0 0 [] h0 0 #[.val (.int p), .val (.int q)] [] := by
  refine Go.iloadN 1 d41_0 rfl rfl ?_
  refine Go.iloadN 2 d41_1 rfl rfl ?_
  refine Go.icmpY 37 d41_2 (by decide) (by decide) (flt hle).2.1 ?_
  exact Go.ret0 d41_37 rfl (sf' := []) (⟨rfl, rfl⟩) (fun _ q => nomatch q) (Nat.le_of_ble_eq_true rfl) (Nat.le_of_ble_eq_true rfl)
abbrev G_corb19 (md : Md) (l : Launch) (Z : State) (n0 : Nat) (b : Addr) (vs : List Value) (h0 : Heap) := Go md l Z n0 ({ frames := 1, cells := 1, slots := 19, locals := 18 } : Room) jdk_65_method_133_code 5 (some (.array .byte)) "java/util/Arrays" "copyOfRangeByte" (fun v h' _ => ∃ r, v = some (.ref r) ∧ Ext h0 h' ∧ h0.size ≤ r ∧ Ary Z h' r .byte (vs.take 19))
theorem ef_corb19 (mid : MethodId) (b : Addr) (vs : List Value)  : entryFrame mid #[(.ref b), (.int (0 : Int32)), (.int (19 : Int32))] 5 = mkF mid 0 #[.val (.ref b), .val (.int (0 : Int32)), .val (.int (19 : Int32)), .unset, .unset] [] := by first | (simp [entryFrame, mkF, argsToLocals, Value.category]; done) | rfl
set_option maxRecDepth 65536 in
set_option maxHeartbeats 40000000 in
theorem c_corb19 {md : Md} {l : Launch} {Z : State} {n0 : Nat} {a0 : Array Value} (hw : HW a0 Z) (b : Addr) (vs : List Value) {h0 : Heap} (A : Ary Z h0 b .byte vs) (hl : vs.length = 34)  : G_corb19 md l Z n0 b vs h0 0 0 [] h0 0 #[.val (.ref b), .val (.int (0 : Int32)), .val (.int (19 : Int32)), .unset, .unset] [] := by
  refine Go.iloadN 1 d40_0 rfl rfl ?_
  refine Go.iloadN 2 d40_1 rfl rfl ?_
  refine Go.callS (S := []) 5 [(.int (0 : Int32)), (.int (19 : Int32))] d40_2 rfl rfl (w204 hw) (w205 hw) (w162 hw) (w206 hw) (by decide) (call_of_go (R := _) (len := 3) (W := 0) (plainFor_of_name pn_4) (fun mid => ef_checklen mid (0 : Int32) (19 : Int32) ) (c_checklen hw (0 : Int32) (19 : Int32) (by decide)) (w206 hw) (w162 hw) (by decide) (by decide)) (lenOf pd_19 rfl) (Nat.le_of_ble_eq_true rfl) rfl (Nat.le_of_ble_eq_true rfl) (Nat.le_of_ble_eq_true rfl) (fun _ q => nomatch q) (fun v h_1 sf_2 hq => ?_)
  obtain ⟨rfl, rfl⟩ := hq
  refine Go.more (sf' := []) ?_ (Nat.le_refl _) (Nat.le_refl _) (fun _ q => List.mem_append_right _ q)
  show G_corb19 md l Z n0 b vs h0 0 0 [] h0 5 #[.val (.ref b), .val (.int (0 : Int32)), .val (.int (19 : Int32)), .unset, .unset] []
  refine Go.iloadN 6 d40_5 rfl rfl ?_
  refine Go.iloadN 7 d40_6 rfl rfl ?_
  refine Go.isub 8 d40_7 rfl ?_
  rw [show ((19 : Int32) - (0 : Int32)) = (19 : Int32) from by decide]
  refine Go.istoreN 9 #[.val (.ref b), .val (.int (0 : Int32)), .val (.int (19 : Int32)), .val (.int (19 : Int32)), .unset] d40_8 rfl rfl ?_
  refine Go.iloadN 10 d40_9 rfl rfl ?_
  refine Go.newA 19 12 d40_10 rfl rfl (w30 hw) (by decide) 19 (Nat.le_refl _) (by decide) (Nat.le_of_ble_eq_true rfl) (Nat.le_of_ble_eq_true rfl) (fun h_3 r_4 g_5 q_6 E_7 lt_8 A_9 => ?_)
  have A_10 : Ary Z h_3 r_4 .byte (List.replicate 19 (.int 0)) := A_9
  show G_corb19 md l Z n0 b vs h0 1 19 [r_4] h_3 12 #[.val (.ref b), .val (.int (0 : Int32)), .val (.int (19 : Int32)), .val (.int (19 : Int32)), .unset] [(.ref r_4)]
  refine Go.astore 14 #[.val (.ref b), .val (.int (0 : Int32)), .val (.int (19 : Int32)), .val (.int (19 : Int32)), .val (.ref r_4)] d40_12 rfl rfl rfl ?_
  refine Go.aloadN 15 d40_14 rfl rfl rfl ?_
  refine Go.iloadN 16 d40_15 rfl rfl ?_
  refine Go.aload 18 d40_16 rfl rfl rfl ?_
  refine Go.iconst 19 (0 : Int32) d40_18 rfl rfl ?_
  refine Go.aloadN 20 d40_19 rfl rfl rfl ?_
  have f_11 := A.ext E_7
  refine Go.alen 21 (34 : Int32) d40_20 rfl f_11 (by rw [hl]; rfl) ?_
  refine Go.iloadN 22 d40_21 rfl rfl ?_
  refine Go.isub 23 d40_22 rfl ?_
  rw [show ((34 : Int32) - (0 : Int32)) = (34 : Int32) from by decide]
  refine Go.iloadN 24 d40_23 rfl rfl ?_
  refine Go.callS (S := [(.int (0 : Int32)), (.ref r_4), (.int (0 : Int32)), (.ref b)]) 27 [(.int (34 : Int32)), (.int (19 : Int32))] d40_24 rfl rfl (w164 hw) (w165 hw) (w156 hw) (w166 hw) (by decide) (call_of_go (R := _) (len := 3) (W := 4) pf_2 (fun mid => ef_min mid (34 : Int32) (19 : Int32) ) (c_min hw (34 : Int32) (19 : Int32) ) (w166 hw) (w156 hw) (by decide) (by decide)) (lenOf pd_15 rfl) (Nat.le_of_ble_eq_true rfl) rfl (Nat.le_of_ble_eq_true rfl) (Nat.le_of_ble_eq_true rfl) (fun _ q => nomatch q) (fun v h_12 sf_13 hq => ?_)
  obtain ⟨rfl, rfl⟩ := hq
  refine Go.more (sf' := [r_4]) ?_ (Nat.le_refl _) (Nat.le_refl _) (fun _ q => List.mem_append_right _ q)
  show G_corb19 md l Z n0 b vs h0 1 19 [r_4] h_3 27 #[.val (.ref b), .val (.int (0 : Int32)), .val (.int (19 : Int32)), .val (.int (19 : Int32)), .val (.ref r_4)] [(.int (if (19 : Int32) < (34 : Int32) then (19 : Int32) else (34 : Int32))), (.int (0 : Int32)), (.ref r_4), (.int (0 : Int32)), (.ref b)]
  rw [show (if (19 : Int32) < (34 : Int32) then (19 : Int32) else (34 : Int32)) = (19 : Int32) from by decide]
  show G_corb19 md l Z n0 b vs h0 1 19 [r_4] h_3 27 #[.val (.ref b), .val (.int (0 : Int32)), .val (.int (19 : Int32)), .val (.int (19 : Int32)), .val (.ref r_4)] [(.int (19 : Int32)), (.int (0 : Int32)), (.ref r_4), (.int (0 : Int32)), (.ref b)]
  refine Go.acopy (W := 0) 0 0 19 30 d40_27 rfl (w167 hw) (w143 hw) (w141 hw) (w142 hw) f_11 A_10 rfl (by decide) (by decide) (by decide) (by rw [hl]; decide) (by decide) (List.mem_of_getElem? (i := 0) rfl) q_6 rfl (by decide) (Nat.le_of_ble_eq_true rfl) (by decide) (fun h_14 K_15 B_16 => ?_)
  have B_17 : Ary Z h_14 r_4 .byte (vs.take 19) := by have q_ := B_16; rw [show (List.replicate 19 (Value.int 0)).take 0 ++ (vs.drop 0).take 19 ++ (List.replicate 19 (Value.int 0)).drop (0 + 19) = vs.take 19 from by simp] at q_; exact q_
  show G_corb19 md l Z n0 b vs h0 1 19 [r_4] h_14 30 #[.val (.ref b), .val (.int (0 : Int32)), .val (.int (19 : Int32)), .val (.int (19 : Int32)), .val (.ref r_4)] []
  refine Go.aload 32 d40_30 rfl rfl rfl ?_
  have X_18 : Ext h0 h_14 := extK E_7 K_15 (allS (Nat.le_of_eq g_5) all0)
  exact Go.retA d40_32 rfl rfl rfl (sf' := []) (⟨_, rfl, X_18, (Nat.le_of_eq g_5), B_17⟩) (fun _ q => nomatch q) (Nat.le_of_ble_eq_true rfl) (Nat.le_of_ble_eq_true rfl)
abbrev G_cor19 (md : Md) (l : Launch) (Z : State) (n0 : Nat) (b : Addr) (vs : List Value) (h0 : Heap) := Go md l Z n0 ({ frames := 2, cells := 1, slots := 19, locals := 34 } : Room) jdk_65_method_132_code 3 (some (.array .byte)) "java/util/Arrays" "copyOfRange" (fun v h' _ => ∃ r, v = some (.ref r) ∧ Ext h0 h' ∧ h0.size ≤ r ∧ Ary Z h' r .byte (vs.take 19))
theorem ef_cor19 (mid : MethodId) (b : Addr) (vs : List Value)  : entryFrame mid #[(.ref b), (.int (0 : Int32)), (.int (19 : Int32))] 3 = mkF mid 0 #[.val (.ref b), .val (.int (0 : Int32)), .val (.int (19 : Int32))] [] := by first | (simp [entryFrame, mkF, argsToLocals, Value.category]; done) | rfl
set_option maxRecDepth 65536 in
set_option maxHeartbeats 40000000 in
theorem c_cor19 {md : Md} {l : Launch} {Z : State} {n0 : Nat} {a0 : Array Value} (hw : HW a0 Z) (b : Addr) (vs : List Value) {h0 : Heap} (A : Ary Z h0 b .byte vs) (hl : vs.length = 34)  : G_cor19 md l Z n0 b vs h0 0 0 [] h0 0 #[.val (.ref b), .val (.int (0 : Int32)), .val (.int (19 : Int32))] [] := by
  refine Go.iloadN 1 d39_0 rfl rfl ?_
  refine Go.ifN 4 d39_1 rfl (teq (by decide)).2 ?_
  refine Go.iloadN 5 d39_4 rfl rfl ?_
  refine Go.aloadN 6 d39_5 rfl rfl rfl ?_
  refine Go.alen 7 (34 : Int32) d39_6 rfl A (by rw [hl]; rfl) ?_
  refine Go.icmpN 10 d39_7 rfl (feq (by decide)).1 ?_
  refine Go.aloadN 11 d39_10 rfl rfl rfl ?_
  refine Go.iloadN 12 d39_11 rfl rfl ?_
  refine Go.iloadN 13 d39_12 rfl rfl ?_
  refine Go.callS (S := []) 16 [(.ref b), (.int (0 : Int32)), (.int (19 : Int32))] d39_13 rfl rfl (w201 hw) (w202 hw) (w162 hw) (w203 hw) (by decide) (call_of_go (R := _) (len := 3) (W := 0) (plainFor_of_name pn_4) (fun mid => ef_corb19 mid b vs ) (c_corb19 hw b vs A hl) (w203 hw) (w162 hw) (by decide) (by decide)) (lenOf pd_20 rfl) (Nat.le_of_ble_eq_true rfl) rfl (Nat.le_of_ble_eq_true rfl) (Nat.le_of_ble_eq_true rfl) (fun _ q => nomatch q) (fun v h_1 sf_6 hq => ?_)
  obtain ⟨r_2, rfl, E_3, le_4, A_5⟩ := hq
  refine Go.more (sf' := []) ?_ (Nat.le_refl _) (Nat.le_refl _) (fun _ q => List.mem_append_right _ q)
  show G_cor19 md l Z n0 b vs h0 1 19 [] h_1 16 #[.val (.ref b), .val (.int (0 : Int32)), .val (.int (19 : Int32))] [(.ref r_2)]
  exact Go.retA d39_16 rfl rfl rfl (sf' := []) (⟨_, rfl, E_3, le_4, A_5⟩) (fun _ q => nomatch q) (Nat.le_of_ble_eq_true rfl) (Nat.le_of_ble_eq_true rfl)
abbrev G_getval (md : Md) (l : Launch) (Z : State) (n0 : Nat) (x b : Addr) (h0 : Heap) := Go md l Z n0 ({ frames := 0, cells := 0, slots := 0, locals := 0 } : Room) jdk_68_method_64_code 1 (some (.array .byte)) "java/lang/AbstractStringBuilder" "getValue" (fun v h' _ => h0 = h' ∧ v = some (.ref b))
theorem ef_getval (mid : MethodId) (x b : Addr)  : entryFrame mid #[(.ref x)] 1 = mkF mid 0 #[.val (.ref x)] [] := by first | (simp [entryFrame, mkF, argsToLocals, Value.category]; done) | rfl
set_option maxRecDepth 65536 in
set_option maxHeartbeats 40000000 in
theorem c_getval {md : Md} {l : Launch} {Z : State} {n0 : Nat} {a0 : Array Value} (hw : HW a0 Z) (x b : Addr) {h0 : Heap} (Fb : Fld Z h0 x "java/lang/AbstractStringBuilder" "value" "[B" (.ref b)) : G_getval md l Z n0 x b h0 0 0 [] h0 0 #[.val (.ref x)] [] := by
  refine Go.aloadN 1 d35_0 rfl rfl rfl ?_
  refine Go.getF 4 d35_1 rfl (w98 hw) Via.refl Fb ?_
  exact Go.retA d35_4 rfl rfl rfl (sf' := []) (⟨rfl, rfl⟩) (fun _ q => nomatch q) (Nat.le_of_ble_eq_true rfl) (Nat.le_of_ble_eq_true rfl)
abbrev G_asblen (md : Md) (l : Launch) (Z : State) (n0 : Nat) (x : Addr) (k : Int32) (h0 : Heap) := Go md l Z n0 ({ frames := 0, cells := 0, slots := 0, locals := 0 } : Room) jdk_68_method_6_code 1 (some .int) "java/lang/AbstractStringBuilder" "length" (fun v h' _ => h0 = h' ∧ v = some (.int k))
theorem ef_asblen (mid : MethodId) (x : Addr) (k : Int32)  : entryFrame mid #[(.ref x)] 1 = mkF mid 0 #[.val (.ref x)] [] := by first | (simp [entryFrame, mkF, argsToLocals, Value.category]; done) | rfl
set_option maxRecDepth 65536 in
set_option maxHeartbeats 40000000 in
theorem c_asblen {md : Md} {l : Launch} {Z : State} {n0 : Nat} {a0 : Array Value} (hw : HW a0 Z) (x : Addr) (k : Int32) {h0 : Heap} (Fn : Fld Z h0 x "java/lang/AbstractStringBuilder" "count" "I" (.int k)) : G_asblen md l Z n0 x k h0 0 0 [] h0 0 #[.val (.ref x)] [] := by
  refine Go.aloadN 1 d37_0 rfl rfl rfl ?_
  refine Go.getF 4 d37_1 rfl (w117 hw) Via.refl Fn ?_
  exact Go.retI d37_4 rfl (sf' := []) (⟨rfl, rfl⟩) (fun _ q => nomatch q) (Nat.le_of_ble_eq_true rfl) (Nat.le_of_ble_eq_true rfl)
abbrev G_sblen (md : Md) (l : Launch) (Z : State) (n0 : Nat) (x : Addr) (k : Int32) (h0 : Heap) := Go md l Z n0 ({ frames := 1, cells := 0, slots := 0, locals := 12 } : Room) jdk_67_method_93_code 1 (some .int) "java/lang/StringBuilder" "length" (fun v h' _ => h0 = h' ∧ v = some (.int k))
theorem ef_sblen (mid : MethodId) (x : Addr) (k : Int32)  : entryFrame mid #[(.ref x)] 1 = mkF mid 0 #[.val (.ref x)] [] := by first | (simp [entryFrame, mkF, argsToLocals, Value.category]; done) | rfl
set_option maxRecDepth 65536 in
set_option maxHeartbeats 40000000 in
theorem c_sblen {l : Launch} {Z : State} {n0 : Nat} {a0 : Array Value} (hw : HW a0 Z) (x : Addr) (k : Int32) {h0 : Heap} (Fn : Fld Z h0 x "java/lang/AbstractStringBuilder" "count" "I" (.int k)) (Ex : Exa Z h0 x "java/lang/StringBuilder") : G_sblen (some consts_1) l Z n0 x k h0 0 0 [] h0 0 #[.val (.ref x)] [] := by
  refine Go.aloadN 1 d36_0 rfl rfl rfl ?_
  refine Go.callSup (S := []) (a := x) 4 [] d36_1 rfl rfl (w191 hw) (w187 hw) (w122 hw) rfl (w109 hw) (by decide) (w192 hw) (by decide) Ex (call_of_go (R := _) (len := 3) (W := 0) (plainFor_of_name pn_1) (fun mid => ef_asblen mid x k ) (c_asblen hw x k Fn) (w192 hw) (w94 hw) (by decide) (by decide)) (lenOf pd_11 rfl) (Nat.le_of_ble_eq_true rfl) rfl (Nat.le_of_ble_eq_true rfl) (Nat.le_of_ble_eq_true rfl) (fun _ q => nomatch q) (fun v h_1 sf_2 hq => ?_)
  obtain ⟨rfl, rfl⟩ := hq
  refine Go.more (sf' := []) ?_ (Nat.le_refl _) (Nat.le_refl _) (fun _ q => List.mem_append_right _ q)
  show G_sblen (some consts_1) l Z n0 x k h0 0 0 [] h0 4 #[.val (.ref x)] [(.int k)]
  exact Go.retI d36_4 rfl (sf' := []) (⟨rfl, rfl⟩) (fun _ q => nomatch q) (Nat.le_of_ble_eq_true rfl) (Nat.le_of_ble_eq_true rfl)
abbrev G_asbil (md : Md) (l : Launch) (Z : State) (n0 : Nat) (x : Addr) (z : Int32) (h0 : Heap) := Go md l Z n0 ({ frames := 0, cells := 0, slots := 0, locals := 0 } : Room) jdk_68_method_68_code 1 (some .boolean) "java/lang/AbstractStringBuilder" "isLatin1" (fun v h' _ => h0 = h' ∧ v = some (.int 1))
theorem ef_asbil (mid : MethodId) (x : Addr) (z : Int32)  : entryFrame mid #[(.ref x)] 1 = mkF mid 0 #[.val (.ref x)] [] := by first | (simp [entryFrame, mkF, argsToLocals, Value.category]; done) | rfl
set_option maxRecDepth 65536 in
set_option maxHeartbeats 40000000 in
theorem c_asbil {md : Md} {l : Launch} {Z : State} {n0 : Nat} {a0 : Array Value} (hw : HW a0 Z) (x : Addr) (z : Int32) {h0 : Heap} (Fc : Fld Z h0 x "java/lang/AbstractStringBuilder" "coder" "B" (.int 0)) (SC : Sta Z Z.heap "java/lang/String" "COMPACT_STRINGS" "Z" (.int z)) (hz : ¬ z = 0)  : G_asbil md l Z n0 x z h0 0 0 [] h0 0 #[.val (.ref x)] [] := by
  refine Go.getS 3 d38_0 rfl (w97 hw) Via.refl SC ?_
  refine Go.ifN 6 d38_3 rfl (feq hz).1 ?_
  refine Go.aloadN 7 d38_6 rfl rfl rfl ?_
  refine Go.getF 10 d38_7 rfl (w100 hw) Via.refl Fc ?_
  refine Go.ifN 13 d38_10 rfl (teq (by decide)).2 ?_
  refine Go.iconst 14 (1 : Int32) d38_13 rfl rfl ?_
  refine Go.goto 18 d38_14 (by decide) (by decide) ?_
  exact Go.retN (1 : Int32) d38_18 rfl (t := .boolean) (by simp) rfl (sf' := []) (⟨rfl, rfl⟩) (fun _ q => nomatch q) (Nat.le_of_ble_eq_true rfl) (Nat.le_of_ble_eq_true rfl)
abbrev G_strasb19 (md : Md) (l : Launch) (Z : State) (n0 : Nat) (y x b : Addr) (z : Int32) (vs : List Value) (cs : List Int32) (h0 : Heap) := Go md l Z n0 ({ frames := 3, cells := 1, slots := 19, locals := 49 } : Room) jdk_42_method_150_code 5 none "java/lang/String" "<init>" (fun v h' _ => v = none ∧ Keep h0 h' [y] ∧ Str Z h' y cs)
theorem ef_strasb19 (mid : MethodId) (y x b : Addr) (z : Int32) (vs : List Value) (cs : List Int32)  : entryFrame mid #[(.ref y), (.ref x), .null] 5 = mkF mid 0 #[.val (.ref y), .val (.ref x), .val .null, .unset, .unset] [] := by first | (simp [entryFrame, mkF, argsToLocals, Value.category]; done) | rfl
set_option maxRecDepth 65536 in
set_option maxHeartbeats 40000000 in
theorem c_strasb19 {l : Launch} {Z : State} {n0 : Nat} {a0 : Array Value} (hw : HW a0 Z) (y x b : Addr) (z : Int32) (vs : List Value) (cs : List Int32) {h0 : Heap} (Ey : Exa Z h0 y "java/lang/String") (n0y : n0 ≤ y) {v0 u0 : Value} (Vy : Fld Z h0 y "java/lang/String" "value" "[B" v0) (Cy : Fld Z h0 y "java/lang/String" "coder" "B" u0) (Ex : Exa Z h0 x "java/lang/StringBuilder") (Fb : Fld Z h0 x "java/lang/AbstractStringBuilder" "value" "[B" (.ref b)) (Fc : Fld Z h0 x "java/lang/AbstractStringBuilder" "coder" "B" (.int 0)) (Fn : Fld Z h0 x "java/lang/AbstractStringBuilder" "count" "I" (.int 19)) (A : Ary Z h0 b .byte vs) (nbx : b ≠ x) (nyx : y ≠ x) (nby : b ≠ y) (hl : vs.length = 34) (hcs : vs.take 19 = ((cs.map fun c => c.toInt8.toInt32).map Value.int)) (hlat : Lat cs) (SC : Sta Z Z.heap "java/lang/String" "COMPACT_STRINGS" "Z" (.int z)) (hz : ¬ z = 0)  : G_strasb19 (some consts_1) l Z n0 y x b z vs cs h0 0 0 [y] h0 0 #[.val (.ref y), .val (.ref x), .val .null, .unset, .unset] [] := by
  refine Go.aloadN 1 d34_0 rfl rfl rfl ?_
  refine Go.initO (W := 0) 4 d34_1 rfl (w22 hw) (w23 hw) (w24 hw) rfl (by decide) (Nat.le_of_ble_eq_true rfl) (by decide) ?_
  refine Go.aloadN 5 d34_4 rfl rfl rfl ?_
  refine Go.callV (S := []) (a := x) 8 [] d34_5 rfl rfl (w180 hw) (w181 hw) (w183 hw) (w182 hw) (fun _ q => notFace_of_selects (args := #[]) (mvT q (w183 hw))) (by decide) Ex (call_of_go (R := _) (len := 3) (W := 0) (plainFor_of_name pn_1) (fun mid => ef_getval mid x b ) (c_getval hw x b Fb) (w184 hw) (w94 hw) (by decide) (by decide)) (lenOf pd_21 rfl) (Nat.le_of_ble_eq_true rfl) rfl (Nat.le_of_ble_eq_true rfl) (Nat.le_of_ble_eq_true rfl) (fun _ q => nomatch q) (fun v h_1 sf_2 hq => ?_)
  obtain ⟨rfl, rfl⟩ := hq
  refine Go.more (sf' := [y]) ?_ (Nat.le_refl _) (Nat.le_refl _) (fun _ q => List.mem_append_right _ q)
  show G_strasb19 (some consts_1) l Z n0 y x b z vs cs h0 0 0 [y] h0 8 #[.val (.ref y), .val (.ref x), .val .null, .unset, .unset] [(.ref b)]
  refine Go.astoreN 9 #[.val (.ref y), .val (.ref x), .val .null, .val (.ref b), .unset] d34_8 rfl rfl rfl ?_
  refine Go.aloadN 10 d34_9 rfl rfl rfl ?_
  refine Go.callV (S := []) (a := x) 13 [] d34_10 rfl rfl (w185 hw) (w186 hw) (w188 hw) (w189 hw) (fun _ q => notFace_cls (args := #[]) (mvT q (w122 hw)) rfl) (by decide) Ex (call_of_go (R := _) (len := 3) (W := 0) (plainFor_of_name pn_3) (fun mid => ef_sblen mid x (19 : Int32) ) (c_sblen hw x (19 : Int32) Fn Ex) (w190 hw) (w86 hw) (by decide) (by decide)) (lenOf pd_11 rfl) (Nat.le_of_ble_eq_true rfl) rfl (Nat.le_of_ble_eq_true rfl) (Nat.le_of_ble_eq_true rfl) (fun _ q => nomatch q) (fun v h_3 sf_4 hq => ?_)
  obtain ⟨rfl, rfl⟩ := hq
  refine Go.more (sf' := [y]) ?_ (Nat.le_refl _) (Nat.le_refl _) (fun _ q => List.mem_append_right _ q)
  show G_strasb19 (some consts_1) l Z n0 y x b z vs cs h0 0 0 [y] h0 13 #[.val (.ref y), .val (.ref x), .val .null, .val (.ref b), .unset] [(.int (19 : Int32))]
  refine Go.istore 15 #[.val (.ref y), .val (.ref x), .val .null, .val (.ref b), .val (.int (19 : Int32))] d34_13 rfl rfl ?_
  refine Go.aloadN 16 d34_15 rfl rfl rfl ?_
  refine Go.callV (S := []) (a := x) 19 [] d34_16 rfl rfl (w193 hw) (w194 hw) (w196 hw) (w195 hw) (fun _ q => notFace_of_selects (args := #[]) (mvT q (w196 hw))) (by decide) Ex (call_of_go (R := _) (len := 3) (W := 0) (plainFor_of_name pn_1) (fun mid => ef_asbil mid x z ) (c_asbil hw x z Fc SC hz) (w197 hw) (w94 hw) (by decide) (by decide)) (lenOf pd_3 rfl) (Nat.le_of_ble_eq_true rfl) rfl (Nat.le_of_ble_eq_true rfl) (Nat.le_of_ble_eq_true rfl) (fun _ q => nomatch q) (fun v h_5 sf_6 hq => ?_)
  obtain ⟨rfl, rfl⟩ := hq
  refine Go.more (sf' := [y]) ?_ (Nat.le_refl _) (Nat.le_refl _) (fun _ q => List.mem_append_right _ q)
  show G_strasb19 (some consts_1) l Z n0 y x b z vs cs h0 0 0 [y] h0 19 #[.val (.ref y), .val (.ref x), .val .null, .val (.ref b), .val (.int (19 : Int32))] [(.int (1 : Int32))]
  refine Go.ifN 22 d34_19 rfl (feq (by decide)).1 ?_
  refine Go.aloadN 23 d34_22 rfl rfl rfl ?_
  refine Go.iconst 24 (0 : Int32) d34_23 rfl rfl ?_
  refine Go.putF 27 (.int (0 : Int32)) d34_24 rfl (w37 hw) Via.refl Cy Ey (Or.inr ⟨(w38 hw), rfl, rfl⟩) (w13 hw) (ty := .byte) (by decide) rfl rfl (List.mem_of_getElem? (i := 0) rfl) n0y (fun h_7 W_8 => ?_)
  refine Go.aloadN 28 d34_27 rfl rfl rfl ?_
  refine Go.aloadN 29 d34_28 rfl rfl rfl ?_
  refine Go.iconst 30 (0 : Int32) d34_29 rfl rfl ?_
  refine Go.iload 32 d34_30 rfl rfl ?_
  have f_9 := (Ey.wr W_8)
  have f_10 := (A.other W_8 nby)
  refine Go.callS (S := [(.ref y)]) 35 [(.ref b), (.int (0 : Int32)), (.int (19 : Int32))] d34_32 rfl rfl (w198 hw) (w199 hw) (w162 hw) (w200 hw) (by decide) (call_of_go (R := _) (len := 3) (W := 1) (plainFor_of_name pn_4) (fun mid => ef_cor19 mid b vs ) (c_cor19 hw b vs f_10 hl) (w200 hw) (w162 hw) (by decide) (by decide)) (lenOf pd_20 rfl) (Nat.le_of_ble_eq_true rfl) rfl (Nat.le_of_ble_eq_true rfl) (Nat.le_of_ble_eq_true rfl) (fun _ q => nomatch q) (fun v h_11 sf_16 hq => ?_)
  obtain ⟨r_12, rfl, E_13, le_14, A_15⟩ := hq
  refine Go.more (sf' := [y]) ?_ (Nat.le_refl _) (Nat.le_refl _) (fun _ q => List.mem_append_right _ q)
  show G_strasb19 (some consts_1) l Z n0 y x b z vs cs h0 1 19 [y] h_11 35 #[.val (.ref y), .val (.ref x), .val .null, .val (.ref b), .val (.int (19 : Int32))] [(.ref r_12), (.ref y)]
  have n_ry : r_12 ≠ y := Nat.ne_of_gt (Nat.lt_of_lt_of_le f_9.lt le_14)
  have f_17 := f_9.ext E_13
  have f_18 := ((Vy.other W_8 (Or.inr (slot_ne (Or.inr (w40 hw)) (Or.inr (w38 hw)) (by decide) (t := (.array .byte)) (t' := .byte) (by decide) (by decide)))).ext E_13)
  refine Go.putF 38 (.ref r_12) d34_35 rfl (w39 hw) Via.refl f_18 f_17 (Or.inr ⟨(w40 hw), rfl, rfl⟩) (w13 hw) (ty := (.array .byte)) (by decide) rfl rfl (List.mem_of_getElem? (i := 0) rfl) n0y (fun h_19 W_20 => ?_)
  refine Go.goto 97 d34_38 (by decide) (by decide) ?_
  have f_21 := (f_17.wr W_20)
  have f_22 := (((Cy.same W_8).ext E_13).other W_20 (Or.inr (slot_ne (Or.inr (w38 hw)) (Or.inr (w40 hw)) (by decide) (t := .byte) (t' := (.array .byte)) (by decide) (by decide))))
  have f_23 := (A_15.other W_20 n_ry)
  exact Go.ret0 d34_97 rfl (sf' := []) (⟨rfl, ((((Keep.refl h0 [y]).wr W_8 (Or.inl (List.mem_of_getElem? (i := 0) rfl))).ext E_13).wr W_20 (Or.inl (List.mem_of_getElem? (i := 0) rfl))), r_12, f_21, f_22, (f_18.same W_20), by rw [← hcs]; exact f_23, hlat⟩) (fun _ q => nomatch q) (Nat.le_of_ble_eq_true rfl) (Nat.le_of_ble_eq_true rfl)
abbrev G_strsb19 (md : Md) (l : Launch) (Z : State) (n0 : Nat) (y x b : Addr) (z : Int32) (vs : List Value) (cs : List Int32) (h0 : Heap) := Go md l Z n0 ({ frames := 4, cells := 1, slots := 19, locals := 65 } : Room) jdk_42_method_53_code 2 none "java/lang/String" "<init>" (fun v h' _ => v = none ∧ Keep h0 h' [y] ∧ Str Z h' y cs)
theorem ef_strsb19 (mid : MethodId) (y x b : Addr) (z : Int32) (vs : List Value) (cs : List Int32)  : entryFrame mid #[(.ref y), (.ref x)] 2 = mkF mid 0 #[.val (.ref y), .val (.ref x)] [] := by first | (simp [entryFrame, mkF, argsToLocals, Value.category]; done) | rfl
set_option maxRecDepth 65536 in
set_option maxHeartbeats 40000000 in
theorem c_strsb19 {l : Launch} {Z : State} {n0 : Nat} {a0 : Array Value} (hw : HW a0 Z) (y x b : Addr) (z : Int32) (vs : List Value) (cs : List Int32) {h0 : Heap} (Ey : Exa Z h0 y "java/lang/String") (n0y : n0 ≤ y) {v0 u0 : Value} (Vy : Fld Z h0 y "java/lang/String" "value" "[B" v0) (Cy : Fld Z h0 y "java/lang/String" "coder" "B" u0) (Ex : Exa Z h0 x "java/lang/StringBuilder") (Fb : Fld Z h0 x "java/lang/AbstractStringBuilder" "value" "[B" (.ref b)) (Fc : Fld Z h0 x "java/lang/AbstractStringBuilder" "coder" "B" (.int 0)) (Fn : Fld Z h0 x "java/lang/AbstractStringBuilder" "count" "I" (.int 19)) (A : Ary Z h0 b .byte vs) (nbx : b ≠ x) (nyx : y ≠ x) (nby : b ≠ y) (hl : vs.length = 34) (hcs : vs.take 19 = ((cs.map fun c => c.toInt8.toInt32).map Value.int)) (hlat : Lat cs) (SC : Sta Z Z.heap "java/lang/String" "COMPACT_STRINGS" "Z" (.int z)) (hz : ¬ z = 0)  : G_strsb19 (some consts_1) l Z n0 y x b z vs cs h0 0 0 [y] h0 0 #[.val (.ref y), .val (.ref x)] [] := by
  refine Go.aloadN 1 d33_0 rfl rfl rfl ?_
  refine Go.aloadN 2 d33_1 rfl rfl rfl ?_
  refine Go.aconstNull 3 d33_2 rfl ?_
  refine Go.callC (S := []) (a := y) 6 [(.ref x), .null] d33_3 rfl rfl rfl (w177 hw) (w178 hw) (w179 hw) (by decide) (call_of_go (R := _) (len := 3) (W := 0) (plainFor_of_name pn_0) (fun mid => ef_strasb19 mid y x b z vs cs ) (c_strasb19 hw y x b z vs cs Ey n0y Vy Cy Ex Fb Fc Fn A nbx nyx nby hl hcs hlat SC hz) (w179 hw) (w14 hw) (by decide) (by decide)) (lenOf pd_22 rfl) (Nat.le_of_ble_eq_true rfl) rfl (Nat.le_of_ble_eq_true rfl) (Nat.le_of_ble_eq_true rfl) (fun _ q => q) (fun v h_1 sf_2 hq => ?_)
  obtain ⟨rfl, K2, S2⟩ := hq
  refine Go.more (sf' := [y]) ?_ (Nat.le_refl _) (Nat.le_refl _) (fun _ q => List.mem_append_right _ q)
  show G_strsb19 (some consts_1) l Z n0 y x b z vs cs h0 1 19 [y] h_1 6 #[.val (.ref y), .val (.ref x)] []
  exact Go.ret0 d33_6 rfl (sf' := []) (⟨rfl, K2, S2⟩) (fun _ q => nomatch q) (Nat.le_of_ble_eq_true rfl) (Nat.le_of_ble_eq_true rfl)
abbrev G_sbts19 (md : Md) (l : Launch) (Z : State) (n0 : Nat) (x b : Addr) (z : Int32) (vs : List Value) (cs : List Int32) (h0 : Heap) := Go md l Z n0 ({ frames := 5, cells := 2, slots := 23, locals := 79 } : Room) jdk_67_method_42_code 1 (some (.object "java/lang/String")) "java/lang/StringBuilder" "toString" (fun v h' _ => ∃ x, v = some (.ref x) ∧ Ext h0 h' ∧ h0.size ≤ x ∧ Str Z h' x (cs))
theorem ef_sbts19 (mid : MethodId) (x b : Addr) (z : Int32) (vs : List Value) (cs : List Int32)  : entryFrame mid #[(.ref x)] 1 = mkF mid 0 #[.val (.ref x)] [] := by first | (simp [entryFrame, mkF, argsToLocals, Value.category]; done) | rfl
set_option maxRecDepth 65536 in
set_option maxHeartbeats 40000000 in
theorem c_sbts19 {l : Launch} {Z : State} {n0 : Nat} {a0 : Array Value} (hw : HW a0 Z) (x b : Addr) (z : Int32) (vs : List Value) (cs : List Int32) {h0 : Heap} (Ex : Exa Z h0 x "java/lang/StringBuilder") (Fb : Fld Z h0 x "java/lang/AbstractStringBuilder" "value" "[B" (.ref b)) (Fc : Fld Z h0 x "java/lang/AbstractStringBuilder" "coder" "B" (.int 0)) (Fn : Fld Z h0 x "java/lang/AbstractStringBuilder" "count" "I" (.int 19)) (A : Ary Z h0 b .byte vs) (nbx : b ≠ x) (hl : vs.length = 34) (hcs : vs.take 19 = ((cs.map fun c => c.toInt8.toInt32).map Value.int)) (hlat : Lat cs) (SC : Sta Z Z.heap "java/lang/String" "COMPACT_STRINGS" "Z" (.int z)) (hz : ¬ z = 0)  : G_sbts19 (some consts_1) l Z n0 x b z vs cs h0 0 0 [] h0 0 #[.val (.ref x)] [] := by
  refine Go.new 3 d32_0 rfl (w173 hw) (w13 hw) (w14 hw) (Nat.le_of_ble_eq_true rfl) (Nat.le_of_ble_eq_true rfl) (fun h_1 x_2 g_3 q_4 E_5 lt_6 A_7 D_8 => ?_)
  show G_sbts19 (some consts_1) l Z n0 x b z vs cs h0 1 4 [x_2] h_1 3 #[.val (.ref x)] [(.ref x_2)]
  refine Go.dup 4 d32_3 rfl rfl ?_
  refine Go.aloadN 5 d32_4 rfl rfl rfl ?_
  have nyx : x_2 ≠ x := Nat.ne_of_gt (Nat.lt_of_lt_of_le Ex.lt (Nat.le_of_eq g_3))
  have nby : b ≠ x_2 := Nat.ne_of_lt (Nat.lt_of_lt_of_le A.lt (Nat.le_of_eq g_3))
  have f_9 := Ex.ext E_5
  have f_10 := Fb.ext E_5
  have f_11 := Fc.ext E_5
  have f_12 := Fn.ext E_5
  have f_13 := A.ext E_5
  refine Go.callC (S := [(.ref x_2)]) (a := x_2) 8 [(.ref x)] d32_5 rfl rfl rfl (w174 hw) (w175 hw) (w176 hw) (by decide) (call_of_go (R := _) (len := 3) (W := 1) (plainFor_of_name pn_0) (fun mid => ef_strsb19 mid x_2 x b z vs cs ) (c_strsb19 hw x_2 x b z vs cs A_7 q_4 (D_8 (Or.inr (w40 hw)) (ty := (.array .byte)) (by decide)) (D_8 (Or.inr (w38 hw)) (ty := .byte) (by decide)) f_9 f_10 f_11 f_12 f_13 nbx nyx nby hl hcs hlat SC hz) (w176 hw) (w14 hw) (by decide) (by decide)) (lenOf pd_23 rfl) (Nat.le_of_ble_eq_true rfl) rfl (Nat.le_of_ble_eq_true rfl) (Nat.le_of_ble_eq_true rfl) (fun _ q => q) (fun v h_14 sf_15 hq => ?_)
  obtain ⟨rfl, K2, S2⟩ := hq
  refine Go.more (sf' := [x_2]) ?_ (Nat.le_refl _) (Nat.le_refl _) (fun _ q => List.mem_append_right _ q)
  show G_sbts19 (some consts_1) l Z n0 x b z vs cs h0 2 23 [x_2] h_14 8 #[.val (.ref x)] [(.ref x_2)]
  have X_16 : Ext h0 h_14 := extK E_5 K2 (allS (Nat.le_of_eq g_3) all0)
  exact Go.retA d32_8 rfl rfl rfl (sf' := []) (⟨_, rfl, X_16, (Nat.le_of_eq g_3), S2⟩) (fun _ q => nomatch q) (Nat.le_of_ble_eq_true rfl) (Nat.le_of_ble_eq_true rfl)
abbrev G_enss15_16 (md : Md) (l : Launch) (Z : State) (n0 : Nat) (x b : Addr) (vs : List Value) (h0 : Heap) := Go md l Z n0 ({ frames := 0, cells := 0, slots := 0, locals := 0 } : Room) jdk_68_method_9_code 3 none "java/lang/AbstractStringBuilder" "ensureCapacityInternal" (fun v h' _ => h0 = h' ∧ v = none)
theorem ef_enss15_16 (mid : MethodId) (x b : Addr) (vs : List Value)  : entryFrame mid #[(.ref x), (.int (15 : Int32))] 3 = mkF mid 0 #[.val (.ref x), .val (.int (15 : Int32)), .unset] [] := by first | (simp [entryFrame, mkF, argsToLocals, Value.category]; done) | rfl
set_option maxRecDepth 65536 in
set_option maxHeartbeats 40000000 in
theorem c_enss15_16 {md : Md} {l : Launch} {Z : State} {n0 : Nat} {a0 : Array Value} (hw : HW a0 Z) (x b : Addr) (vs : List Value) {h0 : Heap} (Fb : Fld Z h0 x "java/lang/AbstractStringBuilder" "value" "[B" (.ref b)) (Fc : Fld Z h0 x "java/lang/AbstractStringBuilder" "coder" "B" (.int 0)) (A : Ary Z h0 b .byte vs) (hl : vs.length = 16) : G_enss15_16 md l Z n0 x b vs h0 0 0 [] h0 0 #[.val (.ref x), .val (.int (15 : Int32)), .unset] [] := by
  refine Go.aloadN 1 d23_0 rfl rfl rfl ?_
  refine Go.getF 4 d23_1 rfl (w98 hw) Via.refl Fb ?_
  refine Go.alen 5 (16 : Int32) d23_4 rfl A (by rw [hl]; rfl) ?_
  refine Go.aloadN 6 d23_5 rfl rfl rfl ?_
  refine Go.getF 9 d23_6 rfl (w100 hw) Via.refl Fc ?_
  refine Go.ishr 10 d23_9 rfl ?_
  rw [show ((16 : Int32) >>> ((0 : Int32) &&& 31)) = (16 : Int32) from by decide]
  refine Go.istoreN 11 #[.val (.ref x), .val (.int (15 : Int32)), .val (.int (16 : Int32))] d23_10 rfl rfl ?_
  refine Go.iloadN 12 d23_11 rfl rfl ?_
  refine Go.iloadN 13 d23_12 rfl rfl ?_
  refine Go.isub 14 d23_13 rfl ?_
  rw [show ((15 : Int32) - (16 : Int32)) = (-1 : Int32) from by decide]
  refine Go.ifY 38 d23_14 (by decide) (by decide) (flt (by decide)).2.2.2 ?_
  exact Go.ret0 d23_38 rfl (sf' := []) (⟨rfl, rfl⟩) (fun _ q => nomatch q) (Nat.le_of_ble_eq_true rfl) (Nat.le_of_ble_eq_true rfl)
abbrev G_getb8_7_16 (md : Md) (l : Launch) (Z : State) (n0 : Nat) (y t b : Addr) (z : Int32) (us vs : List Value) (h0 : Heap) := Go md l Z n0 ({ frames := 1, cells := 0, slots := 0, locals := 18 } : Room) jdk_42_method_147_code 4 none "java/lang/String" "getBytes" (fun v h' _ => v = none ∧ Keep h0 h' [b] ∧ Ary Z h' b .byte (vs.take 8 ++ us ++ vs.drop 15))
theorem ef_getb8_7_16 (mid : MethodId) (y t b : Addr) (z : Int32) (us vs : List Value)  : entryFrame mid #[(.ref y), (.ref b), (.int (8 : Int32)), (.int (0 : Int32))] 4 = mkF mid 0 #[.val (.ref y), .val (.ref b), .val (.int (8 : Int32)), .val (.int (0 : Int32))] [] := by first | (simp [entryFrame, mkF, argsToLocals, Value.category]; done) | rfl
set_option maxRecDepth 65536 in
set_option maxHeartbeats 40000000 in
theorem c_getb8_7_16 {md : Md} {l : Launch} {Z : State} {n0 : Nat} {a0 : Array Value} (hw : HW a0 Z) (y t b : Addr) (z : Int32) (us vs : List Value) {h0 : Heap} (Ey : Exa Z h0 y "java/lang/String") (Cy : Fld Z h0 y "java/lang/String" "coder" "B" (.int 0)) (Vy : Fld Z h0 y "java/lang/String" "value" "[B" (.ref t)) (Uy : Ary Z h0 t .byte us) (A : Ary Z h0 b .byte vs) (n0b : n0 ≤ b) (ntb : t ≠ b) (hm : us.length = 7) (hl : vs.length = 16) (SC : Sta Z Z.heap "java/lang/String" "COMPACT_STRINGS" "Z" (.int z)) (hz : ¬ z = 0)  : G_getb8_7_16 md l Z n0 y t b z us vs h0 0 0 [b] h0 0 #[.val (.ref y), .val (.ref b), .val (.int (8 : Int32)), .val (.int (0 : Int32))] [] := by
  refine Go.aloadN 1 d26_0 rfl rfl rfl ?_
  refine Go.callV (S := []) (a := y) 4 [] d26_1 rfl rfl (w67 hw) (w68 hw) (w70 hw) (w69 hw) (fun _ q => notFace_of_selects (args := #[]) (mvT q (w70 hw))) (by decide) Ey (call_of_go (R := _) (len := 3) (W := 0) (plainFor_of_name pn_0) (fun mid => ef_coder mid y z (0 : Int32) ) (c_coder hw y z (0 : Int32) Cy rfl SC hz) (w71 hw) (w14 hw) (by decide) (by decide)) (lenOf pd_0 rfl) (Nat.le_of_ble_eq_true rfl) rfl (Nat.le_of_ble_eq_true rfl) (Nat.le_of_ble_eq_true rfl) (fun _ q => nomatch q) (fun v h_1 sf_2 hq => ?_)
  obtain ⟨rfl, rfl⟩ := hq
  refine Go.more (sf' := [b]) ?_ (Nat.le_refl _) (Nat.le_refl _) (fun _ q => List.mem_append_right _ q)
  show G_getb8_7_16 md l Z n0 y t b z us vs h0 0 0 [b] h0 4 #[.val (.ref y), .val (.ref b), .val (.int (8 : Int32)), .val (.int (0 : Int32))] [(.int (0 : Int32))]
  refine Go.iloadN 5 d26_4 rfl rfl ?_
  refine Go.icmpN 8 d26_5 rfl (teq (by decide)).2 ?_
  refine Go.aloadN 9 d26_8 rfl rfl rfl ?_
  refine Go.getF 12 d26_9 rfl (w39 hw) Via.refl Vy ?_
  refine Go.iconst 13 (0 : Int32) d26_12 rfl rfl ?_
  refine Go.aloadN 14 d26_13 rfl rfl rfl ?_
  refine Go.iloadN 15 d26_14 rfl rfl ?_
  refine Go.iloadN 16 d26_15 rfl rfl ?_
  refine Go.ishl 17 d26_16 rfl ?_
  rw [show ((8 : Int32) <<< ((0 : Int32) &&& 31)) = (8 : Int32) from by decide]
  refine Go.aloadN 18 d26_17 rfl rfl rfl ?_
  refine Go.getF 21 d26_18 rfl (w39 hw) Via.refl Vy ?_
  refine Go.alen 22 (7 : Int32) d26_21 rfl Uy (by rw [hm]; rfl) ?_
  refine Go.acopy (W := 0) 0 8 7 25 d26_22 rfl (w140 hw) (w143 hw) (w141 hw) (w142 hw) Uy A rfl (by decide) (by decide) (by decide) (by rw [hm]; decide) (by rw [hl]; decide) (List.mem_of_getElem? (i := 0) rfl) n0b rfl (by decide) (Nat.le_of_ble_eq_true rfl) (by decide) (fun h_3 K_4 B_5 => ?_)
  have B_6 : Ary Z h_3 b .byte (vs.take 8 ++ us ++ vs.drop 15) := by have q_ := B_5; rw [show (us.drop 0).take 7 = us from by rw [List.drop_zero, ← hm, List.take_length]] at q_; exact q_
  show G_getb8_7_16 md l Z n0 y t b z us vs h0 0 0 [b] h_3 25 #[.val (.ref y), .val (.ref b), .val (.int (8 : Int32)), .val (.int (0 : Int32))] []
  refine Go.goto 43 d26_25 (by decide) (by decide) ?_
  exact Go.ret0 d26_43 rfl (sf' := []) (⟨rfl, ((Keep.refl h0 [b]).trans K_4 (allS (Or.inl (List.mem_of_getElem? (i := 0) rfl)) all0)), B_6⟩) (fun _ q => nomatch q) (Nat.le_of_ble_eq_true rfl) (Nat.le_of_ble_eq_true rfl)
abbrev G_puts8_7_16 (md : Md) (l : Launch) (Z : State) (n0 : Nat) (x y t b : Addr) (z : Int32) (us vs : List Value) (h0 : Heap) := Go md l Z n0 ({ frames := 2, cells := 0, slots := 0, locals := 33 } : Room) jdk_68_method_73_code 3 none "java/lang/AbstractStringBuilder" "putStringAt" (fun v h' _ => v = none ∧ Keep h0 h' [b] ∧ Ary Z h' b .byte (vs.take 8 ++ us ++ vs.drop 15))
theorem ef_puts8_7_16 (mid : MethodId) (x y t b : Addr) (z : Int32) (us vs : List Value)  : entryFrame mid #[(.ref x), (.int (8 : Int32)), (.ref y)] 3 = mkF mid 0 #[.val (.ref x), .val (.int (8 : Int32)), .val (.ref y)] [] := by first | (simp [entryFrame, mkF, argsToLocals, Value.category]; done) | rfl
set_option maxRecDepth 65536 in
set_option maxHeartbeats 40000000 in
theorem c_puts8_7_16 {l : Launch} {Z : State} {n0 : Nat} {a0 : Array Value} (hw : HW a0 Z) (x y t b : Addr) (z : Int32) (us vs : List Value) {h0 : Heap} (Ex : Exa Z h0 x "java/lang/StringBuilder") (n0x : n0 ≤ x) (Fb : Fld Z h0 x "java/lang/AbstractStringBuilder" "value" "[B" (.ref b)) (Fc : Fld Z h0 x "java/lang/AbstractStringBuilder" "coder" "B" (.int 0)) (Fn : Fld Z h0 x "java/lang/AbstractStringBuilder" "count" "I" (.int 8)) (A : Ary Z h0 b .byte vs) (n0b : n0 ≤ b) (nbx : b ≠ x) (Ey : Exa Z h0 y "java/lang/String") (Cy : Fld Z h0 y "java/lang/String" "coder" "B" (.int 0)) (Vy : Fld Z h0 y "java/lang/String" "value" "[B" (.ref t)) (Uy : Ary Z h0 t .byte us) (ntb : t ≠ b) (hm : us.length = 7) (hl : vs.length = 16) (SC : Sta Z Z.heap "java/lang/String" "COMPACT_STRINGS" "Z" (.int z)) (hz : ¬ z = 0)  : G_puts8_7_16 (some consts_1) l Z n0 x y t b z us vs h0 0 0 [b] h0 0 #[.val (.ref x), .val (.int (8 : Int32)), .val (.ref y)] [] := by
  refine Go.aloadN 1 d24_0 rfl rfl rfl ?_
  refine Go.aloadN 2 d24_1 rfl rfl rfl ?_
  refine Go.callQ (S := []) (a := x) 5 [(.ref y)] d24_2 rfl rfl (w129 hw) (w130 hw) (w132 hw) (w131 hw) (w133 hw) (by decide) Ex (call_of_go (R := _) (len := 3) (W := 0) (plainFor_of_name pn_1) (fun mid => ef_inflate mid x y t z us ) (c_inflate hw x y t z us Fc Ey Cy Vy Uy SC hz) (w133 hw) (w94 hw) (by decide) (by decide)) (lenOf pd_9 rfl) (Nat.le_of_ble_eq_true rfl) rfl (Nat.le_of_ble_eq_true rfl) (Nat.le_of_ble_eq_true rfl) (fun _ q => nomatch q) (fun v h_1 sf_2 hq => ?_)
  obtain ⟨rfl, rfl⟩ := hq
  refine Go.more (sf' := [b]) ?_ (Nat.le_refl _) (Nat.le_refl _) (fun _ q => List.mem_append_right _ q)
  show G_puts8_7_16 (some consts_1) l Z n0 x y t b z us vs h0 0 0 [b] h0 5 #[.val (.ref x), .val (.int (8 : Int32)), .val (.ref y)] []
  refine Go.aloadN 6 d24_5 rfl rfl rfl ?_
  refine Go.aloadN 7 d24_6 rfl rfl rfl ?_
  refine Go.getF 10 d24_7 rfl (w98 hw) Via.refl Fb ?_
  refine Go.iloadN 11 d24_10 rfl rfl ?_
  refine Go.aloadN 12 d24_11 rfl rfl rfl ?_
  refine Go.getF 15 d24_12 rfl (w100 hw) Via.refl Fc ?_
  refine Go.callV (S := []) (a := y) 18 [(.ref b), (.int (8 : Int32)), (.int (0 : Int32))] d24_15 rfl rfl (w135 hw) (w136 hw) (w138 hw) (w137 hw) (fun _ q => notFace_of_selects (args := #[]) (mvT q (w138 hw))) (by decide) Ey (call_of_go (R := _) (len := 3) (W := 0) (plainFor_of_name pn_0) (fun mid => ef_getb8_7_16 mid y t b z us vs ) (c_getb8_7_16 hw y t b z us vs Ey Cy Vy Uy A n0b ntb hm hl SC hz) (w139 hw) (w14 hw) (by decide) (by decide)) (lenOf pd_10 rfl) (Nat.le_of_ble_eq_true rfl) rfl (Nat.le_of_ble_eq_true rfl) (Nat.le_of_ble_eq_true rfl) (fun _ q => q) (fun v h_3 sf_4 hq => ?_)
  obtain ⟨rfl, K2, A2⟩ := hq
  refine Go.more (sf' := [b]) ?_ (Nat.le_refl _) (Nat.le_refl _) (fun _ q => List.mem_append_right _ q)
  show G_puts8_7_16 (some consts_1) l Z n0 x y t b z us vs h0 0 0 [b] h_3 18 #[.val (.ref x), .val (.int (8 : Int32)), .val (.ref y)] []
  exact Go.ret0 d24_18 rfl (sf' := []) (⟨rfl, K2, A2⟩) (fun _ q => nomatch q) (Nat.le_of_ble_eq_true rfl) (Nat.le_of_ble_eq_true rfl)
abbrev G_asbapp8_7_16 (md : Md) (l : Launch) (Z : State) (n0 : Nat) (x y t b : Addr) (z : Int32) (us vs : List Value) (h0 : Heap) := Go md l Z n0 ({ frames := 3, cells := 0, slots := 0, locals := 47 } : Room) jdk_68_method_22_code 3 (some (.object "java/lang/AbstractStringBuilder")) "java/lang/AbstractStringBuilder" "append" (fun v h' sf' => ∃ q, v = some (.ref x) ∧ Keep h0 h' [x, b] ∧ Exa Z h' x "java/lang/StringBuilder" ∧ n0 ≤ q ∧ q ≠ x ∧ Fld Z h' x "java/lang/AbstractStringBuilder" "value" "[B" (.ref q) ∧ Fld Z h' x "java/lang/AbstractStringBuilder" "coder" "B" (.int 0) ∧ Fld Z h' x "java/lang/AbstractStringBuilder" "count" "I" (.int 15) ∧ Ary Z h' q .byte (vs.take 8 ++ us ++ vs.drop 15) ∧ sf' = [q] ∧ (q = b ∨ h0.size ≤ q))
theorem ef_asbapp8_7_16 (mid : MethodId) (x y t b : Addr) (z : Int32) (us vs : List Value)  : entryFrame mid #[(.ref x), (.ref y)] 3 = mkF mid 0 #[.val (.ref x), .val (.ref y), .unset] [] := by first | (simp [entryFrame, mkF, argsToLocals, Value.category]; done) | rfl
set_option maxRecDepth 65536 in
set_option maxHeartbeats 40000000 in
theorem c_asbapp8_7_16 {l : Launch} {Z : State} {n0 : Nat} {a0 : Array Value} (hw : HW a0 Z) (x y t b : Addr) (z : Int32) (us vs : List Value) {h0 : Heap} (Ex : Exa Z h0 x "java/lang/StringBuilder") (n0x : n0 ≤ x) (Fb : Fld Z h0 x "java/lang/AbstractStringBuilder" "value" "[B" (.ref b)) (Fc : Fld Z h0 x "java/lang/AbstractStringBuilder" "coder" "B" (.int 0)) (Fn : Fld Z h0 x "java/lang/AbstractStringBuilder" "count" "I" (.int 8)) (A : Ary Z h0 b .byte vs) (n0b : n0 ≤ b) (nbx : b ≠ x) (Ey : Exa Z h0 y "java/lang/String") (Cy : Fld Z h0 y "java/lang/String" "coder" "B" (.int 0)) (Vy : Fld Z h0 y "java/lang/String" "value" "[B" (.ref t)) (Uy : Ary Z h0 t .byte us) (ntb : t ≠ b) (nyx : y ≠ x) (ntx : t ≠ x) (nyb : y ≠ b) (hm : us.length = 7) (hl : vs.length = 16) (SC : Sta Z Z.heap "java/lang/String" "COMPACT_STRINGS" "Z" (.int z)) (hz : ¬ z = 0)  : G_asbapp8_7_16 (some consts_1) l Z n0 x y t b z us vs h0 0 0 [x, b] h0 0 #[.val (.ref x), .val (.ref y), .unset] [] := by
  refine Go.aloadN 1 d21_0 rfl rfl rfl ?_
  refine Go.nonnullY 9 d21_1 (by decide) (by decide) ?_
  refine Go.aloadN 10 d21_9 rfl rfl rfl ?_
  refine Go.callV (S := []) (a := y) 13 [] d21_10 rfl rfl (w112 hw) (w113 hw) (w115 hw) (w114 hw) (fun _ q => notFace_of_selects (args := #[]) (mvT q (w115 hw))) (by decide) Ey (call_of_go (R := _) (len := 3) (W := 0) (plainFor_of_name pn_0) (fun mid => ef_glen mid y t z (0 : Int32) us ) (c_glen hw y t z (0 : Int32) us Ey Cy Vy Uy rfl SC hz) (w116 hw) (w14 hw) (by decide) (by decide)) (lenOf pd_11 rfl) (Nat.le_of_ble_eq_true rfl) rfl (Nat.le_of_ble_eq_true rfl) (Nat.le_of_ble_eq_true rfl) (fun _ q => nomatch q) (fun v h_1 sf_2 hq => ?_)
  obtain ⟨rfl, rfl⟩ := hq
  rw [show (Int32.ofNat us.length) >>> ((0 : Int32) &&& 31) = (7 : Int32) from by rw [hm]; rfl]
  refine Go.more (sf' := [x, b]) ?_ (Nat.le_refl _) (Nat.le_refl _) (fun _ q => List.mem_append_right _ q)
  show G_asbapp8_7_16 (some consts_1) l Z n0 x y t b z us vs h0 0 0 [x, b] h0 13 #[.val (.ref x), .val (.ref y), .unset] [(.int (7 : Int32))]
  refine Go.istoreN 14 #[.val (.ref x), .val (.ref y), .val (.int (7 : Int32))] d21_13 rfl rfl ?_
  refine Go.aloadN 15 d21_14 rfl rfl rfl ?_
  refine Go.aloadN 16 d21_15 rfl rfl rfl ?_
  refine Go.getF 19 d21_16 rfl (w117 hw) Via.refl Fn ?_
  refine Go.iloadN 20 d21_19 rfl rfl ?_
  refine Go.iadd 21 d21_20 rfl ?_
  rw [show ((8 : Int32) + (7 : Int32)) = (15 : Int32) from by decide]
  refine Go.callQ (S := []) (a := x) 24 [(.int (15 : Int32))] d21_21 rfl rfl (w119 hw) (w120 hw) (w122 hw) (w121 hw) (w123 hw) (by decide) Ex (call_of_go (R := _) (len := 3) (W := 0) (plainFor_of_name pn_1) (fun mid => ef_enss15_16 mid x b vs ) (c_enss15_16 hw x b vs Fb Fc A hl) (w123 hw) (w94 hw) (by decide) (by decide)) (lenOf pd_1 rfl) (Nat.le_of_ble_eq_true rfl) rfl (Nat.le_of_ble_eq_true rfl) (Nat.le_of_ble_eq_true rfl) (fun _ q => nomatch q) (fun v h_3 sf_4 hq => ?_)
  obtain ⟨rfl, rfl⟩ := hq
  refine Go.more (sf' := [x, b]) ?_ (Nat.le_refl _) (Nat.le_refl _) (fun _ q => List.mem_append_right _ q)
  show G_asbapp8_7_16 (some consts_1) l Z n0 x y t b z us vs h0 0 0 [x, b] h0 24 #[.val (.ref x), .val (.ref y), .val (.int (7 : Int32))] []
  refine Go.aloadN 25 d21_24 rfl rfl rfl ?_
  refine Go.aloadN 26 d21_25 rfl rfl rfl ?_
  refine Go.getF 29 d21_26 rfl (w117 hw) Via.refl Fn ?_
  refine Go.aloadN 30 d21_29 rfl rfl rfl ?_
  refine Go.callQ (S := []) (a := x) 33 [(.int (8 : Int32)), (.ref y)] d21_30 rfl rfl (w124 hw) (w125 hw) (w127 hw) (w126 hw) (w128 hw) (by decide) Ex (call_of_go (R := _) (len := 3) (W := 0) (plainFor_of_name pn_1) (fun mid => ef_puts8_7_16 mid x y t b z us vs ) (c_puts8_7_16 hw x y t b z us vs Ex n0x Fb Fc Fn A n0b nbx Ey Cy Vy Uy ntb hm hl SC hz) (w128 hw) (w94 hw) (by decide) (by decide)) (lenOf pd_12 rfl) (Nat.le_of_ble_eq_true rfl) rfl (Nat.le_of_ble_eq_true rfl) (Nat.le_of_ble_eq_true rfl) (sub1 (List.mem_of_getElem? (i := 1) rfl)) (fun v h_5 sf_6 hq => ?_)
  obtain ⟨rfl, Kp, Ap⟩ := hq
  refine Go.more (sf' := [x, b]) ?_ (Nat.le_refl _) (Nat.le_refl _) (fun _ q => List.mem_append_right _ q)
  show G_asbapp8_7_16 (some consts_1) l Z n0 x y t b z us vs h0 0 0 [x, b] h_5 33 #[.val (.ref x), .val (.ref y), .val (.int (7 : Int32))] []
  refine Go.aloadN 34 d21_33 rfl rfl rfl ?_
  refine Go.dup 35 d21_34 rfl rfl ?_
  have f_7 := (Fn.keep Kp (ninS (Ne.symm nbx) nin0))
  refine Go.getF 38 d21_35 rfl (w117 hw) Via.refl f_7 ?_
  refine Go.iloadN 39 d21_38 rfl rfl ?_
  refine Go.iadd 40 d21_39 rfl ?_
  rw [show ((8 : Int32) + (7 : Int32)) = (15 : Int32) from by decide]
  have f_8 := (Ex.keep Kp)
  refine Go.putF 43 (.int (15 : Int32)) d21_40 rfl (w117 hw) Via.refl f_7 f_8 (Or.inl (w118 hw)) (w85 hw) (ty := .int) (by decide) rfl rfl (List.mem_of_getElem? (i := 0) rfl) n0x (fun h_9 W_10 => ?_)
  refine Go.aloadN 44 d21_43 rfl rfl rfl ?_
  have f_11 := (f_8.wr W_10)
  have f_12 := ((Fb.keep Kp (ninS (Ne.symm nbx) nin0)).other W_10 (Or.inr (slot_ne (Or.inl (w99 hw)) (Or.inl (w118 hw)) (by decide) (t := (.array .byte)) (t' := .int) (by decide) (by decide))))
  have f_13 := ((Fc.keep Kp (ninS (Ne.symm nbx) nin0)).other W_10 (Or.inr (slot_ne (Or.inl (w101 hw)) (Or.inl (w118 hw)) (by decide) (t := .byte) (t' := .int) (by decide) (by decide))))
  have f_14 := (Ap.other W_10 nbx)
  exact Go.retA d21_44 rfl rfl rfl (sf' := [b]) (⟨b, rfl, (((Keep.refl h0 [x, b]).trans Kp (allS (Or.inl (List.mem_of_getElem? (i := 1) rfl)) all0)).wr W_10 (Or.inl (List.mem_of_getElem? (i := 0) rfl))), f_11, n0b, nbx, f_12, f_13, (f_7.same W_10), f_14, rfl, Or.inl rfl⟩) (sub1 (List.mem_of_getElem? (i := 1) rfl)) (Nat.le_of_ble_eq_true rfl) (Nat.le_of_ble_eq_true rfl)
abbrev G_sbapp8_7_16 (md : Md) (l : Launch) (Z : State) (n0 : Nat) (x y t b : Addr) (z : Int32) (us vs : List Value) (h0 : Heap) := Go md l Z n0 ({ frames := 4, cells := 0, slots := 0, locals := 61 } : Room) jdk_67_method_7_code 2 (some (.object "java/lang/StringBuilder")) "java/lang/StringBuilder" "append" (fun v h' sf' => ∃ q, v = some (.ref x) ∧ Keep h0 h' [x, b] ∧ Exa Z h' x "java/lang/StringBuilder" ∧ n0 ≤ q ∧ q ≠ x ∧ Fld Z h' x "java/lang/AbstractStringBuilder" "value" "[B" (.ref q) ∧ Fld Z h' x "java/lang/AbstractStringBuilder" "coder" "B" (.int 0) ∧ Fld Z h' x "java/lang/AbstractStringBuilder" "count" "I" (.int 15) ∧ Ary Z h' q .byte (vs.take 8 ++ us ++ vs.drop 15) ∧ sf' = [q] ∧ (q = b ∨ h0.size ≤ q))
theorem ef_sbapp8_7_16 (mid : MethodId) (x y t b : Addr) (z : Int32) (us vs : List Value)  : entryFrame mid #[(.ref x), (.ref y)] 2 = mkF mid 0 #[.val (.ref x), .val (.ref y)] [] := by first | (simp [entryFrame, mkF, argsToLocals, Value.category]; done) | rfl
set_option maxRecDepth 65536 in
set_option maxHeartbeats 40000000 in
theorem c_sbapp8_7_16 {l : Launch} {Z : State} {n0 : Nat} {a0 : Array Value} (hw : HW a0 Z) (x y t b : Addr) (z : Int32) (us vs : List Value) {h0 : Heap} (Ex : Exa Z h0 x "java/lang/StringBuilder") (n0x : n0 ≤ x) (Fb : Fld Z h0 x "java/lang/AbstractStringBuilder" "value" "[B" (.ref b)) (Fc : Fld Z h0 x "java/lang/AbstractStringBuilder" "coder" "B" (.int 0)) (Fn : Fld Z h0 x "java/lang/AbstractStringBuilder" "count" "I" (.int 8)) (A : Ary Z h0 b .byte vs) (n0b : n0 ≤ b) (nbx : b ≠ x) (Ey : Exa Z h0 y "java/lang/String") (Cy : Fld Z h0 y "java/lang/String" "coder" "B" (.int 0)) (Vy : Fld Z h0 y "java/lang/String" "value" "[B" (.ref t)) (Uy : Ary Z h0 t .byte us) (ntb : t ≠ b) (nyx : y ≠ x) (ntx : t ≠ x) (nyb : y ≠ b) (hm : us.length = 7) (hl : vs.length = 16) (SC : Sta Z Z.heap "java/lang/String" "COMPACT_STRINGS" "Z" (.int z)) (hz : ¬ z = 0)  : G_sbapp8_7_16 (some consts_1) l Z n0 x y t b z us vs h0 0 0 [x, b] h0 0 #[.val (.ref x), .val (.ref y)] [] := by
  refine Go.aloadN 1 d20_0 rfl rfl rfl ?_
  refine Go.aloadN 2 d20_1 rfl rfl rfl ?_
  refine Go.callSup (S := []) (a := x) 5 [(.ref y)] d20_2 rfl rfl (w107 hw) (w108 hw) (w122 hw) rfl (w109 hw) (by decide) (w111 hw) (by decide) Ex (call_of_go (R := _) (len := 3) (W := 0) (plainFor_of_name pn_1) (fun mid => ef_asbapp8_7_16 mid x y t b z us vs ) (c_asbapp8_7_16 hw x y t b z us vs Ex n0x Fb Fc Fn A n0b nbx Ey Cy Vy Uy ntb nyx ntx nyb hm hl SC hz) (w111 hw) (w94 hw) (by decide) (by decide)) (lenOf pd_13 rfl) (Nat.le_of_ble_eq_true rfl) rfl (Nat.le_of_ble_eq_true rfl) (Nat.le_of_ble_eq_true rfl) (fun _ q => q) (fun v h_1 sf_2 hq => ?_)
  obtain ⟨q, rfl, Kq, Eq, n0q, nqx, Fbq, Fcq, Fnq, Aq, rfl, dq⟩ := hq
  show G_sbapp8_7_16 (some consts_1) l Z n0 x y t b z us vs h0 0 0 [q, x, b] h_1 5 #[.val (.ref x), .val (.ref y)] [(.ref x)]
  refine Go.pop 6 d20_5 rfl rfl ?_
  refine Go.aloadN 7 d20_6 rfl rfl rfl ?_
  exact Go.retA d20_7 rfl rfl rfl (sf' := [q]) (⟨q, rfl, Kq, Eq, n0q, nqx, Fbq, Fcq, Fnq, Aq, rfl, dq⟩) (sub1 (List.mem_of_getElem? (i := 0) rfl)) (Nat.le_of_ble_eq_true rfl) (Nat.le_of_ble_eq_true rfl)
abbrev G_newlen21 (md : Md) (l : Launch) (Z : State) (n0 : Nat)  (h0 : Heap) := Go md l Z n0 ({ frames := 1, cells := 0, slots := 0, locals := 14 } : Room) jdk_48_method_27_code 4 (some .int) "jdk/internal/util/ArraysSupport" "newLength" (fun v h' _ => h0 = h' ∧ v = some (.int 34))
theorem ef_newlen21 (mid : MethodId)   : entryFrame mid #[(.int (16 : Int32)), (.int (5 : Int32)), (.int (18 : Int32))] 4 = mkF mid 0 #[.val (.int (16 : Int32)), .val (.int (5 : Int32)), .val (.int (18 : Int32)), .unset] [] := by first | (simp [entryFrame, mkF, argsToLocals, Value.category]; done) | rfl
set_option maxRecDepth 65536 in
set_option maxHeartbeats 40000000 in
theorem c_newlen21 {md : Md} {l : Launch} {Z : State} {n0 : Nat} {a0 : Array Value} (hw : HW a0 Z)  {h0 : Heap}  : G_newlen21 md l Z n0  h0 0 0 [] h0 0 #[.val (.int (16 : Int32)), .val (.int (5 : Int32)), .val (.int (18 : Int32)), .unset] [] := by
  refine Go.iloadN 1 d28_0 rfl rfl ?_
  refine Go.iloadN 2 d28_1 rfl rfl ?_
  refine Go.iloadN 3 d28_2 rfl rfl ?_
  refine Go.callS (S := [(.int (16 : Int32))]) 6 [(.int (5 : Int32)), (.int (18 : Int32))] d28_3 rfl rfl (w154 hw) (w155 hw) (w156 hw) (w157 hw) (by decide) (call_of_go (R := _) (len := 3) (W := 1) pf_0 (fun mid => ef_max mid (5 : Int32) (18 : Int32) ) (c_max hw (5 : Int32) (18 : Int32) ) (w157 hw) (w156 hw) (by decide) (by decide)) (lenOf pd_15 rfl) (Nat.le_of_ble_eq_true rfl) rfl (Nat.le_of_ble_eq_true rfl) (Nat.le_of_ble_eq_true rfl) (fun _ q => nomatch q) (fun v h_1 sf_2 hq => ?_)
  obtain ⟨rfl, rfl⟩ := hq
  refine Go.more (sf' := []) ?_ (Nat.le_refl _) (Nat.le_refl _) (fun _ q => List.mem_append_right _ q)
  show G_newlen21 md l Z n0  h0 0 0 [] h0 6 #[.val (.int (16 : Int32)), .val (.int (5 : Int32)), .val (.int (18 : Int32)), .unset] [(.int (if (5 : Int32) < (18 : Int32) then (18 : Int32) else (5 : Int32))), (.int (16 : Int32))]
  rw [show (if (5 : Int32) < (18 : Int32) then (18 : Int32) else (5 : Int32)) = (18 : Int32) from by decide]
  show G_newlen21 md l Z n0  h0 0 0 [] h0 6 #[.val (.int (16 : Int32)), .val (.int (5 : Int32)), .val (.int (18 : Int32)), .unset] [(.int (18 : Int32)), (.int (16 : Int32))]
  refine Go.iadd 7 d28_6 rfl ?_
  rw [show ((16 : Int32) + (18 : Int32)) = (34 : Int32) from by decide]
  refine Go.istoreN 8 #[.val (.int (16 : Int32)), .val (.int (5 : Int32)), .val (.int (18 : Int32)), .val (.int (34 : Int32))] d28_7 rfl rfl ?_
  refine Go.iconst 9 (0 : Int32) d28_8 rfl rfl ?_
  refine Go.iloadN 10 d28_9 rfl rfl ?_
  refine Go.icmpN 13 d28_10 rfl (tlt (by decide)).2.1 ?_
  refine Go.iloadN 14 d28_13 rfl rfl ?_
  refine Go.ldcI 16 d28_14 rfl (w158 hw) ?_
  refine Go.icmpN 19 d28_16 rfl (flt (by decide)).2.2.1 ?_
  refine Go.iloadN 20 d28_19 rfl rfl ?_
  exact Go.retI d28_20 rfl (sf' := []) (⟨rfl, rfl⟩) (fun _ q => nomatch q) (Nat.le_of_ble_eq_true rfl) (Nat.le_of_ble_eq_true rfl)
abbrev G_newcap21 (md : Md) (l : Launch) (Z : State) (n0 : Nat) (x b : Addr) (vs : List Value) (h0 : Heap) := Go md l Z n0 ({ frames := 2, cells := 0, slots := 0, locals := 29 } : Room) jdk_68_method_10_code 6 (some .int) "java/lang/AbstractStringBuilder" "newCapacity" (fun v h' _ => h0 = h' ∧ v = some (.int 34))
theorem ef_newcap21 (mid : MethodId) (x b : Addr) (vs : List Value)  : entryFrame mid #[(.ref x), (.int (21 : Int32))] 6 = mkF mid 0 #[.val (.ref x), .val (.int (21 : Int32)), .unset, .unset, .unset, .unset] [] := by first | (simp [entryFrame, mkF, argsToLocals, Value.category]; done) | rfl
set_option maxRecDepth 65536 in
set_option maxHeartbeats 40000000 in
theorem c_newcap21 {md : Md} {l : Launch} {Z : State} {n0 : Nat} {a0 : Array Value} (hw : HW a0 Z) (x b : Addr) (vs : List Value) {h0 : Heap} (Fb : Fld Z h0 x "java/lang/AbstractStringBuilder" "value" "[B" (.ref b)) (Fc : Fld Z h0 x "java/lang/AbstractStringBuilder" "coder" "B" (.int 0)) (A : Ary Z h0 b .byte vs) (hl : vs.length = 16) : G_newcap21 md l Z n0 x b vs h0 0 0 [] h0 0 #[.val (.ref x), .val (.int (21 : Int32)), .unset, .unset, .unset, .unset] [] := by
  refine Go.aloadN 1 d27_0 rfl rfl rfl ?_
  refine Go.getF 4 d27_1 rfl (w98 hw) Via.refl Fb ?_
  refine Go.alen 5 (16 : Int32) d27_4 rfl A (by rw [hl]; rfl) ?_
  refine Go.istoreN 6 #[.val (.ref x), .val (.int (21 : Int32)), .val (.int (16 : Int32)), .unset, .unset, .unset] d27_5 rfl rfl ?_
  refine Go.iloadN 7 d27_6 rfl rfl ?_
  refine Go.aloadN 8 d27_7 rfl rfl rfl ?_
  refine Go.getF 11 d27_8 rfl (w100 hw) Via.refl Fc ?_
  refine Go.ishl 12 d27_11 rfl ?_
  rw [show ((21 : Int32) <<< ((0 : Int32) &&& 31)) = (21 : Int32) from by decide]
  refine Go.istoreN 13 #[.val (.ref x), .val (.int (21 : Int32)), .val (.int (16 : Int32)), .val (.int (21 : Int32)), .unset, .unset] d27_12 rfl rfl ?_
  refine Go.iloadN 14 d27_13 rfl rfl ?_
  refine Go.iloadN 15 d27_14 rfl rfl ?_
  refine Go.isub 16 d27_15 rfl ?_
  rw [show ((21 : Int32) - (16 : Int32)) = (5 : Int32) from by decide]
  refine Go.istore 18 #[.val (.ref x), .val (.int (21 : Int32)), .val (.int (16 : Int32)), .val (.int (21 : Int32)), .val (.int (5 : Int32)), .unset] d27_16 rfl rfl ?_
  refine Go.iloadN 19 d27_18 rfl rfl ?_
  refine Go.iload 21 d27_19 rfl rfl ?_
  refine Go.iloadN 22 d27_21 rfl rfl ?_
  refine Go.iconst 23 (2 : Int32) d27_22 rfl rfl ?_
  refine Go.aloadN 24 d27_23 rfl rfl rfl ?_
  refine Go.getF 27 d27_24 rfl (w100 hw) Via.refl Fc ?_
  refine Go.ishl 28 d27_27 rfl ?_
  rw [show ((2 : Int32) <<< ((0 : Int32) &&& 31)) = (2 : Int32) from by decide]
  refine Go.iadd 29 d27_28 rfl ?_
  rw [show ((16 : Int32) + (2 : Int32)) = (18 : Int32) from by decide]
  refine Go.callS (S := []) 32 [(.int (16 : Int32)), (.int (5 : Int32)), (.int (18 : Int32))] d27_29 rfl rfl (w150 hw) (w151 hw) (w152 hw) (w153 hw) (by decide) (call_of_go (R := _) (len := 3) (W := 0) pf_1 (fun mid => ef_newlen21 mid  ) (c_newlen21 hw  ) (w153 hw) (w152 hw) (by decide) (by decide)) (lenOf pd_16 rfl) (Nat.le_of_ble_eq_true rfl) rfl (Nat.le_of_ble_eq_true rfl) (Nat.le_of_ble_eq_true rfl) (fun _ q => nomatch q) (fun v h_1 sf_2 hq => ?_)
  obtain ⟨rfl, rfl⟩ := hq
  refine Go.more (sf' := []) ?_ (Nat.le_refl _) (Nat.le_refl _) (fun _ q => List.mem_append_right _ q)
  show G_newcap21 md l Z n0 x b vs h0 0 0 [] h0 32 #[.val (.ref x), .val (.int (21 : Int32)), .val (.int (16 : Int32)), .val (.int (21 : Int32)), .val (.int (5 : Int32)), .unset] [(.int (34 : Int32))]
  refine Go.istore 34 #[.val (.ref x), .val (.int (21 : Int32)), .val (.int (16 : Int32)), .val (.int (21 : Int32)), .val (.int (5 : Int32)), .val (.int (34 : Int32))] d27_32 rfl rfl ?_
  refine Go.iload 36 d27_34 rfl rfl ?_
  refine Go.ldcI 38 d27_36 rfl (w159 hw) ?_
  refine Go.icmpY 51 d27_38 (by decide) (by decide) (feq (by decide)).2 ?_
  refine Go.iload 53 d27_51 rfl rfl ?_
  refine Go.aloadN 54 d27_53 rfl rfl rfl ?_
  refine Go.getF 57 d27_54 rfl (w100 hw) Via.refl Fc ?_
  refine Go.ishr 58 d27_57 rfl ?_
  rw [show ((34 : Int32) >>> ((0 : Int32) &&& 31)) = (34 : Int32) from by decide]
  exact Go.retI d27_58 rfl (sf' := []) (⟨rfl, rfl⟩) (fun _ q => nomatch q) (Nat.le_of_ble_eq_true rfl) (Nat.le_of_ble_eq_true rfl)
abbrev G_ensg15_21 (md : Md) (l : Launch) (Z : State) (n0 : Nat) (x b : Addr) (vs : List Value) (h0 : Heap) := Go md l Z n0 ({ frames := 3, cells := 1, slots := 34, locals := 48 } : Room) jdk_68_method_9_code 3 none "java/lang/AbstractStringBuilder" "ensureCapacityInternal" (fun v h' sf' => ∃ r, v = none ∧ Keep h0 h' [x] ∧ Exa Z h' x "java/lang/StringBuilder" ∧ h0.size ≤ r ∧ n0 ≤ r ∧ r ≠ x ∧ Fld Z h' x "java/lang/AbstractStringBuilder" "value" "[B" (.ref r) ∧ Fld Z h' x "java/lang/AbstractStringBuilder" "coder" "B" (.int 0) ∧ Fld Z h' x "java/lang/AbstractStringBuilder" "count" "I" (.int 15) ∧ Ary Z h' r .byte (vs ++ List.replicate 18 (.int 0)) ∧ sf' = [r])
theorem ef_ensg15_21 (mid : MethodId) (x b : Addr) (vs : List Value)  : entryFrame mid #[(.ref x), (.int (21 : Int32))] 3 = mkF mid 0 #[.val (.ref x), .val (.int (21 : Int32)), .unset] [] := by first | (simp [entryFrame, mkF, argsToLocals, Value.category]; done) | rfl
set_option maxRecDepth 65536 in
set_option maxHeartbeats 40000000 in
theorem c_ensg15_21 {l : Launch} {Z : State} {n0 : Nat} {a0 : Array Value} (hw : HW a0 Z) (x b : Addr) (vs : List Value) {h0 : Heap} (Ex : Exa Z h0 x "java/lang/StringBuilder") (n0x : n0 ≤ x) (Fb : Fld Z h0 x "java/lang/AbstractStringBuilder" "value" "[B" (.ref b)) (Fc : Fld Z h0 x "java/lang/AbstractStringBuilder" "coder" "B" (.int 0)) (Fn : Fld Z h0 x "java/lang/AbstractStringBuilder" "count" "I" (.int 15)) (A : Ary Z h0 b .byte vs) (n0b : n0 ≤ b) (nbx : b ≠ x) (hl : vs.length = 16) : G_ensg15_21 (some consts_1) l Z n0 x b vs h0 0 0 [x] h0 0 #[.val (.ref x), .val (.int (21 : Int32)), .unset] [] := by
  refine Go.aloadN 1 d23_0 rfl rfl rfl ?_
  refine Go.getF 4 d23_1 rfl (w98 hw) Via.refl Fb ?_
  refine Go.alen 5 (16 : Int32) d23_4 rfl A (by rw [hl]; rfl) ?_
  refine Go.aloadN 6 d23_5 rfl rfl rfl ?_
  refine Go.getF 9 d23_6 rfl (w100 hw) Via.refl Fc ?_
  refine Go.ishr 10 d23_9 rfl ?_
  rw [show ((16 : Int32) >>> ((0 : Int32) &&& 31)) = (16 : Int32) from by decide]
  refine Go.istoreN 11 #[.val (.ref x), .val (.int (21 : Int32)), .val (.int (16 : Int32))] d23_10 rfl rfl ?_
  refine Go.iloadN 12 d23_11 rfl rfl ?_
  refine Go.iloadN 13 d23_12 rfl rfl ?_
  refine Go.isub 14 d23_13 rfl ?_
  rw [show ((21 : Int32) - (16 : Int32)) = (5 : Int32) from by decide]
  refine Go.ifN 17 d23_14 rfl (tlt (by decide)).2.2.2 ?_
  refine Go.aloadN 18 d23_17 rfl rfl rfl ?_
  refine Go.aloadN 19 d23_18 rfl rfl rfl ?_
  refine Go.getF 22 d23_19 rfl (w98 hw) Via.refl Fb ?_
  refine Go.aloadN 23 d23_22 rfl rfl rfl ?_
  refine Go.iloadN 24 d23_23 rfl rfl ?_
  refine Go.callQ (S := [(.ref b), (.ref x)]) (a := x) 27 [(.int (21 : Int32))] d23_24 rfl rfl (w145 hw) (w146 hw) (w148 hw) (w147 hw) (w149 hw) (by decide) Ex (call_of_go (R := _) (len := 3) (W := 2) (plainFor_of_name pn_1) (fun mid => ef_newcap21 mid x b vs ) (c_newcap21 hw x b vs Fb Fc A hl) (w149 hw) (w94 hw) (by decide) (by decide)) (lenOf pd_17 rfl) (Nat.le_of_ble_eq_true rfl) rfl (Nat.le_of_ble_eq_true rfl) (Nat.le_of_ble_eq_true rfl) (fun _ q => nomatch q) (fun v h_1 sf_2 hq => ?_)
  obtain ⟨rfl, rfl⟩ := hq
  refine Go.more (sf' := [x]) ?_ (Nat.le_refl _) (Nat.le_refl _) (fun _ q => List.mem_append_right _ q)
  show G_ensg15_21 (some consts_1) l Z n0 x b vs h0 0 0 [x] h0 27 #[.val (.ref x), .val (.int (21 : Int32)), .val (.int (16 : Int32))] [(.int (34 : Int32)), (.ref b), (.ref x)]
  refine Go.aloadN 28 d23_27 rfl rfl rfl ?_
  refine Go.getF 31 d23_28 rfl (w100 hw) Via.refl Fc ?_
  refine Go.ishl 32 d23_31 rfl ?_
  rw [show ((34 : Int32) <<< ((0 : Int32) &&& 31)) = (34 : Int32) from by decide]
  refine Go.callS (S := [(.ref x)]) 35 [(.ref b), (.int (34 : Int32))] d23_32 rfl rfl (w160 hw) (w161 hw) (w162 hw) (w163 hw) (by decide) (call_of_go (R := _) (len := 3) (W := 1) (plainFor_of_name pn_4) (fun mid => ef_copyof mid b vs ) (c_copyof hw b vs A hl) (w163 hw) (w162 hw) (by decide) (by decide)) (lenOf pd_18 rfl) (Nat.le_of_ble_eq_true rfl) rfl (Nat.le_of_ble_eq_true rfl) (Nat.le_of_ble_eq_true rfl) (fun _ q => nomatch q) (fun v h_3 sf_4 hq => ?_)
  obtain ⟨r, rfl, Xr, le_r, n0r, Ar, rfl⟩ := hq
  have nrx : r ≠ x := Nat.ne_of_gt (Nat.lt_of_lt_of_le Ex.lt le_r)
  show G_ensg15_21 (some consts_1) l Z n0 x b vs h0 1 34 [r, x] h_3 35 #[.val (.ref x), .val (.int (21 : Int32)), .val (.int (16 : Int32))] [(.ref r), (.ref x)]
  have f_5 := Ex.ext Xr
  have f_6 := Fb.ext Xr
  refine Go.putF 38 (.ref r) d23_35 rfl (w98 hw) Via.refl f_6 f_5 (Or.inl (w99 hw)) (w85 hw) (ty := (.array .byte)) (by decide) rfl rfl (List.mem_of_getElem? (i := 1) rfl) n0x (fun h_7 W_8 => ?_)
  have f_9 := (f_5.wr W_8)
  have f_10 := ((Fc.ext Xr).other W_8 (Or.inr (slot_ne (Or.inl (w101 hw)) (Or.inl (w99 hw)) (by decide) (t := .byte) (t' := (.array .byte)) (by decide) (by decide))))
  have f_11 := ((Fn.ext Xr).other W_8 (Or.inr (slot_ne (Or.inl (w118 hw)) (Or.inl (w99 hw)) (by decide) (t := .int) (t' := (.array .byte)) (by decide) (by decide))))
  have f_12 := (Ar.other W_8 nrx)
  exact Go.ret0 d23_38 rfl (sf' := [r]) (⟨r, rfl, (((Keep.refl h0 [x]).ext Xr).wr W_8 (Or.inl (List.mem_of_getElem? (i := 0) rfl))), f_9, le_r, n0r, nrx, (f_6.same W_8), f_10, f_11, f_12, rfl⟩) (sub1 (List.mem_of_getElem? (i := 0) rfl)) (Nat.le_of_ble_eq_true rfl) (Nat.le_of_ble_eq_true rfl)
abbrev G_getb15_6_34 (md : Md) (l : Launch) (Z : State) (n0 : Nat) (y t b : Addr) (z : Int32) (us vs : List Value) (h0 : Heap) := Go md l Z n0 ({ frames := 1, cells := 0, slots := 0, locals := 18 } : Room) jdk_42_method_147_code 4 none "java/lang/String" "getBytes" (fun v h' _ => v = none ∧ Keep h0 h' [b] ∧ Ary Z h' b .byte (vs.take 15 ++ us ++ vs.drop 21))
theorem ef_getb15_6_34 (mid : MethodId) (y t b : Addr) (z : Int32) (us vs : List Value)  : entryFrame mid #[(.ref y), (.ref b), (.int (15 : Int32)), (.int (0 : Int32))] 4 = mkF mid 0 #[.val (.ref y), .val (.ref b), .val (.int (15 : Int32)), .val (.int (0 : Int32))] [] := by first | (simp [entryFrame, mkF, argsToLocals, Value.category]; done) | rfl
set_option maxRecDepth 65536 in
set_option maxHeartbeats 40000000 in
theorem c_getb15_6_34 {md : Md} {l : Launch} {Z : State} {n0 : Nat} {a0 : Array Value} (hw : HW a0 Z) (y t b : Addr) (z : Int32) (us vs : List Value) {h0 : Heap} (Ey : Exa Z h0 y "java/lang/String") (Cy : Fld Z h0 y "java/lang/String" "coder" "B" (.int 0)) (Vy : Fld Z h0 y "java/lang/String" "value" "[B" (.ref t)) (Uy : Ary Z h0 t .byte us) (A : Ary Z h0 b .byte vs) (n0b : n0 ≤ b) (ntb : t ≠ b) (hm : us.length = 6) (hl : vs.length = 34) (SC : Sta Z Z.heap "java/lang/String" "COMPACT_STRINGS" "Z" (.int z)) (hz : ¬ z = 0)  : G_getb15_6_34 md l Z n0 y t b z us vs h0 0 0 [b] h0 0 #[.val (.ref y), .val (.ref b), .val (.int (15 : Int32)), .val (.int (0 : Int32))] [] := by
  refine Go.aloadN 1 d26_0 rfl rfl rfl ?_
  refine Go.callV (S := []) (a := y) 4 [] d26_1 rfl rfl (w67 hw) (w68 hw) (w70 hw) (w69 hw) (fun _ q => notFace_of_selects (args := #[]) (mvT q (w70 hw))) (by decide) Ey (call_of_go (R := _) (len := 3) (W := 0) (plainFor_of_name pn_0) (fun mid => ef_coder mid y z (0 : Int32) ) (c_coder hw y z (0 : Int32) Cy rfl SC hz) (w71 hw) (w14 hw) (by decide) (by decide)) (lenOf pd_0 rfl) (Nat.le_of_ble_eq_true rfl) rfl (Nat.le_of_ble_eq_true rfl) (Nat.le_of_ble_eq_true rfl) (fun _ q => nomatch q) (fun v h_1 sf_2 hq => ?_)
  obtain ⟨rfl, rfl⟩ := hq
  refine Go.more (sf' := [b]) ?_ (Nat.le_refl _) (Nat.le_refl _) (fun _ q => List.mem_append_right _ q)
  show G_getb15_6_34 md l Z n0 y t b z us vs h0 0 0 [b] h0 4 #[.val (.ref y), .val (.ref b), .val (.int (15 : Int32)), .val (.int (0 : Int32))] [(.int (0 : Int32))]
  refine Go.iloadN 5 d26_4 rfl rfl ?_
  refine Go.icmpN 8 d26_5 rfl (teq (by decide)).2 ?_
  refine Go.aloadN 9 d26_8 rfl rfl rfl ?_
  refine Go.getF 12 d26_9 rfl (w39 hw) Via.refl Vy ?_
  refine Go.iconst 13 (0 : Int32) d26_12 rfl rfl ?_
  refine Go.aloadN 14 d26_13 rfl rfl rfl ?_
  refine Go.iloadN 15 d26_14 rfl rfl ?_
  refine Go.iloadN 16 d26_15 rfl rfl ?_
  refine Go.ishl 17 d26_16 rfl ?_
  rw [show ((15 : Int32) <<< ((0 : Int32) &&& 31)) = (15 : Int32) from by decide]
  refine Go.aloadN 18 d26_17 rfl rfl rfl ?_
  refine Go.getF 21 d26_18 rfl (w39 hw) Via.refl Vy ?_
  refine Go.alen 22 (6 : Int32) d26_21 rfl Uy (by rw [hm]; rfl) ?_
  refine Go.acopy (W := 0) 0 15 6 25 d26_22 rfl (w140 hw) (w143 hw) (w141 hw) (w142 hw) Uy A rfl (by decide) (by decide) (by decide) (by rw [hm]; decide) (by rw [hl]; decide) (List.mem_of_getElem? (i := 0) rfl) n0b rfl (by decide) (Nat.le_of_ble_eq_true rfl) (by decide) (fun h_3 K_4 B_5 => ?_)
  have B_6 : Ary Z h_3 b .byte (vs.take 15 ++ us ++ vs.drop 21) := by have q_ := B_5; rw [show (us.drop 0).take 6 = us from by rw [List.drop_zero, ← hm, List.take_length]] at q_; exact q_
  show G_getb15_6_34 md l Z n0 y t b z us vs h0 0 0 [b] h_3 25 #[.val (.ref y), .val (.ref b), .val (.int (15 : Int32)), .val (.int (0 : Int32))] []
  refine Go.goto 43 d26_25 (by decide) (by decide) ?_
  exact Go.ret0 d26_43 rfl (sf' := []) (⟨rfl, ((Keep.refl h0 [b]).trans K_4 (allS (Or.inl (List.mem_of_getElem? (i := 0) rfl)) all0)), B_6⟩) (fun _ q => nomatch q) (Nat.le_of_ble_eq_true rfl) (Nat.le_of_ble_eq_true rfl)
abbrev G_puts15_6_34 (md : Md) (l : Launch) (Z : State) (n0 : Nat) (x y t b : Addr) (z : Int32) (us vs : List Value) (h0 : Heap) := Go md l Z n0 ({ frames := 2, cells := 0, slots := 0, locals := 33 } : Room) jdk_68_method_73_code 3 none "java/lang/AbstractStringBuilder" "putStringAt" (fun v h' _ => v = none ∧ Keep h0 h' [b] ∧ Ary Z h' b .byte (vs.take 15 ++ us ++ vs.drop 21))
theorem ef_puts15_6_34 (mid : MethodId) (x y t b : Addr) (z : Int32) (us vs : List Value)  : entryFrame mid #[(.ref x), (.int (15 : Int32)), (.ref y)] 3 = mkF mid 0 #[.val (.ref x), .val (.int (15 : Int32)), .val (.ref y)] [] := by first | (simp [entryFrame, mkF, argsToLocals, Value.category]; done) | rfl
set_option maxRecDepth 65536 in
set_option maxHeartbeats 40000000 in
theorem c_puts15_6_34 {l : Launch} {Z : State} {n0 : Nat} {a0 : Array Value} (hw : HW a0 Z) (x y t b : Addr) (z : Int32) (us vs : List Value) {h0 : Heap} (Ex : Exa Z h0 x "java/lang/StringBuilder") (n0x : n0 ≤ x) (Fb : Fld Z h0 x "java/lang/AbstractStringBuilder" "value" "[B" (.ref b)) (Fc : Fld Z h0 x "java/lang/AbstractStringBuilder" "coder" "B" (.int 0)) (Fn : Fld Z h0 x "java/lang/AbstractStringBuilder" "count" "I" (.int 15)) (A : Ary Z h0 b .byte vs) (n0b : n0 ≤ b) (nbx : b ≠ x) (Ey : Exa Z h0 y "java/lang/String") (Cy : Fld Z h0 y "java/lang/String" "coder" "B" (.int 0)) (Vy : Fld Z h0 y "java/lang/String" "value" "[B" (.ref t)) (Uy : Ary Z h0 t .byte us) (ntb : t ≠ b) (hm : us.length = 6) (hl : vs.length = 34) (SC : Sta Z Z.heap "java/lang/String" "COMPACT_STRINGS" "Z" (.int z)) (hz : ¬ z = 0)  : G_puts15_6_34 (some consts_1) l Z n0 x y t b z us vs h0 0 0 [b] h0 0 #[.val (.ref x), .val (.int (15 : Int32)), .val (.ref y)] [] := by
  refine Go.aloadN 1 d24_0 rfl rfl rfl ?_
  refine Go.aloadN 2 d24_1 rfl rfl rfl ?_
  refine Go.callQ (S := []) (a := x) 5 [(.ref y)] d24_2 rfl rfl (w129 hw) (w130 hw) (w132 hw) (w131 hw) (w133 hw) (by decide) Ex (call_of_go (R := _) (len := 3) (W := 0) (plainFor_of_name pn_1) (fun mid => ef_inflate mid x y t z us ) (c_inflate hw x y t z us Fc Ey Cy Vy Uy SC hz) (w133 hw) (w94 hw) (by decide) (by decide)) (lenOf pd_9 rfl) (Nat.le_of_ble_eq_true rfl) rfl (Nat.le_of_ble_eq_true rfl) (Nat.le_of_ble_eq_true rfl) (fun _ q => nomatch q) (fun v h_1 sf_2 hq => ?_)
  obtain ⟨rfl, rfl⟩ := hq
  refine Go.more (sf' := [b]) ?_ (Nat.le_refl _) (Nat.le_refl _) (fun _ q => List.mem_append_right _ q)
  show G_puts15_6_34 (some consts_1) l Z n0 x y t b z us vs h0 0 0 [b] h0 5 #[.val (.ref x), .val (.int (15 : Int32)), .val (.ref y)] []
  refine Go.aloadN 6 d24_5 rfl rfl rfl ?_
  refine Go.aloadN 7 d24_6 rfl rfl rfl ?_
  refine Go.getF 10 d24_7 rfl (w98 hw) Via.refl Fb ?_
  refine Go.iloadN 11 d24_10 rfl rfl ?_
  refine Go.aloadN 12 d24_11 rfl rfl rfl ?_
  refine Go.getF 15 d24_12 rfl (w100 hw) Via.refl Fc ?_
  refine Go.callV (S := []) (a := y) 18 [(.ref b), (.int (15 : Int32)), (.int (0 : Int32))] d24_15 rfl rfl (w135 hw) (w136 hw) (w138 hw) (w137 hw) (fun _ q => notFace_of_selects (args := #[]) (mvT q (w138 hw))) (by decide) Ey (call_of_go (R := _) (len := 3) (W := 0) (plainFor_of_name pn_0) (fun mid => ef_getb15_6_34 mid y t b z us vs ) (c_getb15_6_34 hw y t b z us vs Ey Cy Vy Uy A n0b ntb hm hl SC hz) (w139 hw) (w14 hw) (by decide) (by decide)) (lenOf pd_10 rfl) (Nat.le_of_ble_eq_true rfl) rfl (Nat.le_of_ble_eq_true rfl) (Nat.le_of_ble_eq_true rfl) (fun _ q => q) (fun v h_3 sf_4 hq => ?_)
  obtain ⟨rfl, K2, A2⟩ := hq
  refine Go.more (sf' := [b]) ?_ (Nat.le_refl _) (Nat.le_refl _) (fun _ q => List.mem_append_right _ q)
  show G_puts15_6_34 (some consts_1) l Z n0 x y t b z us vs h0 0 0 [b] h_3 18 #[.val (.ref x), .val (.int (15 : Int32)), .val (.ref y)] []
  exact Go.ret0 d24_18 rfl (sf' := []) (⟨rfl, K2, A2⟩) (fun _ q => nomatch q) (Nat.le_of_ble_eq_true rfl) (Nat.le_of_ble_eq_true rfl)
abbrev G_asbapp15_6_16 (md : Md) (l : Launch) (Z : State) (n0 : Nat) (x y t b : Addr) (z : Int32) (us vs : List Value) (h0 : Heap) := Go md l Z n0 ({ frames := 4, cells := 1, slots := 34, locals := 62 } : Room) jdk_68_method_22_code 3 (some (.object "java/lang/AbstractStringBuilder")) "java/lang/AbstractStringBuilder" "append" (fun v h' sf' => ∃ q, v = some (.ref x) ∧ Keep h0 h' [x, b] ∧ Exa Z h' x "java/lang/StringBuilder" ∧ n0 ≤ q ∧ q ≠ x ∧ Fld Z h' x "java/lang/AbstractStringBuilder" "value" "[B" (.ref q) ∧ Fld Z h' x "java/lang/AbstractStringBuilder" "coder" "B" (.int 0) ∧ Fld Z h' x "java/lang/AbstractStringBuilder" "count" "I" (.int 21) ∧ Ary Z h' q .byte ((vs ++ List.replicate 18 (Value.int 0)).take 15 ++ us ++ (vs ++ List.replicate 18 (Value.int 0)).drop 21) ∧ sf' = [q] ∧ (q = b ∨ h0.size ≤ q))
theorem ef_asbapp15_6_16 (mid : MethodId) (x y t b : Addr) (z : Int32) (us vs : List Value)  : entryFrame mid #[(.ref x), (.ref y)] 3 = mkF mid 0 #[.val (.ref x), .val (.ref y), .unset] [] := by first | (simp [entryFrame, mkF, argsToLocals, Value.category]; done) | rfl
set_option maxRecDepth 65536 in
set_option maxHeartbeats 40000000 in
theorem c_asbapp15_6_16 {l : Launch} {Z : State} {n0 : Nat} {a0 : Array Value} (hw : HW a0 Z) (x y t b : Addr) (z : Int32) (us vs : List Value) {h0 : Heap} (Ex : Exa Z h0 x "java/lang/StringBuilder") (n0x : n0 ≤ x) (Fb : Fld Z h0 x "java/lang/AbstractStringBuilder" "value" "[B" (.ref b)) (Fc : Fld Z h0 x "java/lang/AbstractStringBuilder" "coder" "B" (.int 0)) (Fn : Fld Z h0 x "java/lang/AbstractStringBuilder" "count" "I" (.int 15)) (A : Ary Z h0 b .byte vs) (n0b : n0 ≤ b) (nbx : b ≠ x) (Ey : Exa Z h0 y "java/lang/String") (Cy : Fld Z h0 y "java/lang/String" "coder" "B" (.int 0)) (Vy : Fld Z h0 y "java/lang/String" "value" "[B" (.ref t)) (Uy : Ary Z h0 t .byte us) (ntb : t ≠ b) (nyx : y ≠ x) (ntx : t ≠ x) (nyb : y ≠ b) (hm : us.length = 6) (hl : vs.length = 16) (SC : Sta Z Z.heap "java/lang/String" "COMPACT_STRINGS" "Z" (.int z)) (hz : ¬ z = 0)  : G_asbapp15_6_16 (some consts_1) l Z n0 x y t b z us vs h0 0 0 [x, b] h0 0 #[.val (.ref x), .val (.ref y), .unset] [] := by
  refine Go.aloadN 1 d21_0 rfl rfl rfl ?_
  refine Go.nonnullY 9 d21_1 (by decide) (by decide) ?_
  refine Go.aloadN 10 d21_9 rfl rfl rfl ?_
  refine Go.callV (S := []) (a := y) 13 [] d21_10 rfl rfl (w112 hw) (w113 hw) (w115 hw) (w114 hw) (fun _ q => notFace_of_selects (args := #[]) (mvT q (w115 hw))) (by decide) Ey (call_of_go (R := _) (len := 3) (W := 0) (plainFor_of_name pn_0) (fun mid => ef_glen mid y t z (0 : Int32) us ) (c_glen hw y t z (0 : Int32) us Ey Cy Vy Uy rfl SC hz) (w116 hw) (w14 hw) (by decide) (by decide)) (lenOf pd_11 rfl) (Nat.le_of_ble_eq_true rfl) rfl (Nat.le_of_ble_eq_true rfl) (Nat.le_of_ble_eq_true rfl) (fun _ q => nomatch q) (fun v h_1 sf_2 hq => ?_)
  obtain ⟨rfl, rfl⟩ := hq
  rw [show (Int32.ofNat us.length) >>> ((0 : Int32) &&& 31) = (6 : Int32) from by rw [hm]; rfl]
  refine Go.more (sf' := [x, b]) ?_ (Nat.le_refl _) (Nat.le_refl _) (fun _ q => List.mem_append_right _ q)
  show G_asbapp15_6_16 (some consts_1) l Z n0 x y t b z us vs h0 0 0 [x, b] h0 13 #[.val (.ref x), .val (.ref y), .unset] [(.int (6 : Int32))]
  refine Go.istoreN 14 #[.val (.ref x), .val (.ref y), .val (.int (6 : Int32))] d21_13 rfl rfl ?_
  refine Go.aloadN 15 d21_14 rfl rfl rfl ?_
  refine Go.aloadN 16 d21_15 rfl rfl rfl ?_
  refine Go.getF 19 d21_16 rfl (w117 hw) Via.refl Fn ?_
  refine Go.iloadN 20 d21_19 rfl rfl ?_
  refine Go.iadd 21 d21_20 rfl ?_
  rw [show ((15 : Int32) + (6 : Int32)) = (21 : Int32) from by decide]
  refine Go.callQ (S := []) (a := x) 24 [(.int (21 : Int32))] d21_21 rfl rfl (w119 hw) (w120 hw) (w122 hw) (w121 hw) (w123 hw) (by decide) Ex (call_of_go (R := _) (len := 3) (W := 0) (plainFor_of_name pn_1) (fun mid => ef_ensg15_21 mid x b vs ) (c_ensg15_21 hw x b vs Ex n0x Fb Fc Fn A n0b nbx hl) (w123 hw) (w94 hw) (by decide) (by decide)) (lenOf pd_1 rfl) (Nat.le_of_ble_eq_true rfl) rfl (Nat.le_of_ble_eq_true rfl) (Nat.le_of_ble_eq_true rfl) (sub1 (List.mem_of_getElem? (i := 0) rfl)) (fun v h_3 sf_4 hq => ?_)
  obtain ⟨r, rfl, Kr, Er, le_r, n0r, nrx, Fbr, Fcr, Fnr, Ar, rfl⟩ := hq
  have ntr : t ≠ r := Nat.ne_of_lt (Nat.lt_of_lt_of_le Uy.lt le_r)
  have nyr : y ≠ r := Nat.ne_of_lt (Nat.lt_of_lt_of_le Ey.lt le_r)
  show G_asbapp15_6_16 (some consts_1) l Z n0 x y t b z us vs h0 1 34 [r, x, b] h_3 24 #[.val (.ref x), .val (.ref y), .val (.int (6 : Int32))] []
  refine Go.aloadN 25 d21_24 rfl rfl rfl ?_
  refine Go.aloadN 26 d21_25 rfl rfl rfl ?_
  refine Go.getF 29 d21_26 rfl (w117 hw) Via.refl Fnr ?_
  refine Go.aloadN 30 d21_29 rfl rfl rfl ?_
  have f_5 := (Ey.keep Kr)
  have f_6 := (Cy.keep Kr (ninS nyx nin0))
  have f_7 := (Vy.keep Kr (ninS nyx nin0))
  have f_8 := (Ary.keep Kr Uy (ninS ntx nin0))
  refine Go.callQ (S := []) (a := x) 33 [(.int (15 : Int32)), (.ref y)] d21_30 rfl rfl (w124 hw) (w125 hw) (w127 hw) (w126 hw) (w128 hw) (by decide) Er (call_of_go (R := _) (len := 3) (W := 0) (plainFor_of_name pn_1) (fun mid => ef_puts15_6_34 mid x y t r z us (vs ++ List.replicate 18 (Value.int 0)) ) (c_puts15_6_34 hw x y t r z us (vs ++ List.replicate 18 (Value.int 0)) Er n0x Fbr Fcr Fnr Ar n0r nrx f_5 f_6 f_7 f_8 ntr hm (by rw [List.length_append, hl]; rfl) SC hz) (w128 hw) (w94 hw) (by decide) (by decide)) (lenOf pd_12 rfl) (Nat.le_of_ble_eq_true rfl) rfl (Nat.le_of_ble_eq_true rfl) (Nat.le_of_ble_eq_true rfl) (sub1 (List.mem_of_getElem? (i := 0) rfl)) (fun v h_9 sf_10 hq => ?_)
  obtain ⟨rfl, Kp, Ap⟩ := hq
  refine Go.more (sf' := [r, x, b]) ?_ (Nat.le_refl _) (Nat.le_refl _) (fun _ q => List.mem_append_right _ q)
  show G_asbapp15_6_16 (some consts_1) l Z n0 x y t b z us vs h0 1 34 [r, x, b] h_9 33 #[.val (.ref x), .val (.ref y), .val (.int (6 : Int32))] []
  refine Go.aloadN 34 d21_33 rfl rfl rfl ?_
  refine Go.dup 35 d21_34 rfl rfl ?_
  have f_11 := (Fnr.keep Kp (ninS (Ne.symm nrx) nin0))
  refine Go.getF 38 d21_35 rfl (w117 hw) Via.refl f_11 ?_
  refine Go.iloadN 39 d21_38 rfl rfl ?_
  refine Go.iadd 40 d21_39 rfl ?_
  rw [show ((15 : Int32) + (6 : Int32)) = (21 : Int32) from by decide]
  have f_12 := (Er.keep Kp)
  refine Go.putF 43 (.int (21 : Int32)) d21_40 rfl (w117 hw) Via.refl f_11 f_12 (Or.inl (w118 hw)) (w85 hw) (ty := .int) (by decide) rfl rfl (List.mem_of_getElem? (i := 1) rfl) n0x (fun h_13 W_14 => ?_)
  refine Go.aloadN 44 d21_43 rfl rfl rfl ?_
  have f_15 := (f_12.wr W_14)
  have f_16 := ((Fbr.keep Kp (ninS (Ne.symm nrx) nin0)).other W_14 (Or.inr (slot_ne (Or.inl (w99 hw)) (Or.inl (w118 hw)) (by decide) (t := (.array .byte)) (t' := .int) (by decide) (by decide))))
  have f_17 := ((Fcr.keep Kp (ninS (Ne.symm nrx) nin0)).other W_14 (Or.inr (slot_ne (Or.inl (w101 hw)) (Or.inl (w118 hw)) (by decide) (t := .byte) (t' := .int) (by decide) (by decide))))
  have f_18 := (Ap.other W_14 nrx)
  exact Go.retA d21_44 rfl rfl rfl (sf' := [r]) (⟨r, rfl, ((((Keep.refl h0 [x, b]).trans Kr (allS (Or.inl (List.mem_of_getElem? (i := 0) rfl)) all0)).trans Kp (allS (Or.inr le_r) all0)).wr W_14 (Or.inl (List.mem_of_getElem? (i := 0) rfl))), f_15, n0r, nrx, f_16, f_17, (f_11.same W_14), f_18, rfl, Or.inr le_r⟩) (sub1 (List.mem_of_getElem? (i := 0) rfl)) (Nat.le_of_ble_eq_true rfl) (Nat.le_of_ble_eq_true rfl)
abbrev G_sbapp15_6_16 (md : Md) (l : Launch) (Z : State) (n0 : Nat) (x y t b : Addr) (z : Int32) (us vs : List Value) (h0 : Heap) := Go md l Z n0 ({ frames := 5, cells := 1, slots := 34, locals := 76 } : Room) jdk_67_method_7_code 2 (some (.object "java/lang/StringBuilder")) "java/lang/StringBuilder" "append" (fun v h' sf' => ∃ q, v = some (.ref x) ∧ Keep h0 h' [x, b] ∧ Exa Z h' x "java/lang/StringBuilder" ∧ n0 ≤ q ∧ q ≠ x ∧ Fld Z h' x "java/lang/AbstractStringBuilder" "value" "[B" (.ref q) ∧ Fld Z h' x "java/lang/AbstractStringBuilder" "coder" "B" (.int 0) ∧ Fld Z h' x "java/lang/AbstractStringBuilder" "count" "I" (.int 21) ∧ Ary Z h' q .byte ((vs ++ List.replicate 18 (Value.int 0)).take 15 ++ us ++ (vs ++ List.replicate 18 (Value.int 0)).drop 21) ∧ sf' = [q] ∧ (q = b ∨ h0.size ≤ q))
theorem ef_sbapp15_6_16 (mid : MethodId) (x y t b : Addr) (z : Int32) (us vs : List Value)  : entryFrame mid #[(.ref x), (.ref y)] 2 = mkF mid 0 #[.val (.ref x), .val (.ref y)] [] := by first | (simp [entryFrame, mkF, argsToLocals, Value.category]; done) | rfl
set_option maxRecDepth 65536 in
set_option maxHeartbeats 40000000 in
theorem c_sbapp15_6_16 {l : Launch} {Z : State} {n0 : Nat} {a0 : Array Value} (hw : HW a0 Z) (x y t b : Addr) (z : Int32) (us vs : List Value) {h0 : Heap} (Ex : Exa Z h0 x "java/lang/StringBuilder") (n0x : n0 ≤ x) (Fb : Fld Z h0 x "java/lang/AbstractStringBuilder" "value" "[B" (.ref b)) (Fc : Fld Z h0 x "java/lang/AbstractStringBuilder" "coder" "B" (.int 0)) (Fn : Fld Z h0 x "java/lang/AbstractStringBuilder" "count" "I" (.int 15)) (A : Ary Z h0 b .byte vs) (n0b : n0 ≤ b) (nbx : b ≠ x) (Ey : Exa Z h0 y "java/lang/String") (Cy : Fld Z h0 y "java/lang/String" "coder" "B" (.int 0)) (Vy : Fld Z h0 y "java/lang/String" "value" "[B" (.ref t)) (Uy : Ary Z h0 t .byte us) (ntb : t ≠ b) (nyx : y ≠ x) (ntx : t ≠ x) (nyb : y ≠ b) (hm : us.length = 6) (hl : vs.length = 16) (SC : Sta Z Z.heap "java/lang/String" "COMPACT_STRINGS" "Z" (.int z)) (hz : ¬ z = 0)  : G_sbapp15_6_16 (some consts_1) l Z n0 x y t b z us vs h0 0 0 [x, b] h0 0 #[.val (.ref x), .val (.ref y)] [] := by
  refine Go.aloadN 1 d20_0 rfl rfl rfl ?_
  refine Go.aloadN 2 d20_1 rfl rfl rfl ?_
  refine Go.callSup (S := []) (a := x) 5 [(.ref y)] d20_2 rfl rfl (w107 hw) (w108 hw) (w122 hw) rfl (w109 hw) (by decide) (w111 hw) (by decide) Ex (call_of_go (R := _) (len := 3) (W := 0) (plainFor_of_name pn_1) (fun mid => ef_asbapp15_6_16 mid x y t b z us vs ) (c_asbapp15_6_16 hw x y t b z us vs Ex n0x Fb Fc Fn A n0b nbx Ey Cy Vy Uy ntb nyx ntx nyb hm hl SC hz) (w111 hw) (w94 hw) (by decide) (by decide)) (lenOf pd_13 rfl) (Nat.le_of_ble_eq_true rfl) rfl (Nat.le_of_ble_eq_true rfl) (Nat.le_of_ble_eq_true rfl) (fun _ q => q) (fun v h_1 sf_2 hq => ?_)
  obtain ⟨q, rfl, Kq, Eq, n0q, nqx, Fbq, Fcq, Fnq, Aq, rfl, dq⟩ := hq
  show G_sbapp15_6_16 (some consts_1) l Z n0 x y t b z us vs h0 1 34 [q, x, b] h_1 5 #[.val (.ref x), .val (.ref y)] [(.ref x)]
  refine Go.pop 6 d20_5 rfl rfl ?_
  refine Go.aloadN 7 d20_6 rfl rfl rfl ?_
  exact Go.retA d20_7 rfl rfl rfl (sf' := [q]) (⟨q, rfl, Kq, Eq, n0q, nqx, Fbq, Fcq, Fnq, Aq, rfl, dq⟩) (sub1 (List.mem_of_getElem? (i := 0) rfl)) (Nat.le_of_ble_eq_true rfl) (Nat.le_of_ble_eq_true rfl)
abbrev G_corb21 (md : Md) (l : Launch) (Z : State) (n0 : Nat) (b : Addr) (vs : List Value) (h0 : Heap) := Go md l Z n0 ({ frames := 1, cells := 1, slots := 21, locals := 18 } : Room) jdk_65_method_133_code 5 (some (.array .byte)) "java/util/Arrays" "copyOfRangeByte" (fun v h' _ => ∃ r, v = some (.ref r) ∧ Ext h0 h' ∧ h0.size ≤ r ∧ Ary Z h' r .byte (vs.take 21))
theorem ef_corb21 (mid : MethodId) (b : Addr) (vs : List Value)  : entryFrame mid #[(.ref b), (.int (0 : Int32)), (.int (21 : Int32))] 5 = mkF mid 0 #[.val (.ref b), .val (.int (0 : Int32)), .val (.int (21 : Int32)), .unset, .unset] [] := by first | (simp [entryFrame, mkF, argsToLocals, Value.category]; done) | rfl
set_option maxRecDepth 65536 in
set_option maxHeartbeats 40000000 in
theorem c_corb21 {md : Md} {l : Launch} {Z : State} {n0 : Nat} {a0 : Array Value} (hw : HW a0 Z) (b : Addr) (vs : List Value) {h0 : Heap} (A : Ary Z h0 b .byte vs) (hl : vs.length = 34)  : G_corb21 md l Z n0 b vs h0 0 0 [] h0 0 #[.val (.ref b), .val (.int (0 : Int32)), .val (.int (21 : Int32)), .unset, .unset] [] := by
  refine Go.iloadN 1 d40_0 rfl rfl ?_
  refine Go.iloadN 2 d40_1 rfl rfl ?_
  refine Go.callS (S := []) 5 [(.int (0 : Int32)), (.int (21 : Int32))] d40_2 rfl rfl (w204 hw) (w205 hw) (w162 hw) (w206 hw) (by decide) (call_of_go (R := _) (len := 3) (W := 0) (plainFor_of_name pn_4) (fun mid => ef_checklen mid (0 : Int32) (21 : Int32) ) (c_checklen hw (0 : Int32) (21 : Int32) (by decide)) (w206 hw) (w162 hw) (by decide) (by decide)) (lenOf pd_19 rfl) (Nat.le_of_ble_eq_true rfl) rfl (Nat.le_of_ble_eq_true rfl) (Nat.le_of_ble_eq_true rfl) (fun _ q => nomatch q) (fun v h_1 sf_2 hq => ?_)
  obtain ⟨rfl, rfl⟩ := hq
  refine Go.more (sf' := []) ?_ (Nat.le_refl _) (Nat.le_refl _) (fun _ q => List.mem_append_right _ q)
  show G_corb21 md l Z n0 b vs h0 0 0 [] h0 5 #[.val (.ref b), .val (.int (0 : Int32)), .val (.int (21 : Int32)), .unset, .unset] []
  refine Go.iloadN 6 d40_5 rfl rfl ?_
  refine Go.iloadN 7 d40_6 rfl rfl ?_
  refine Go.isub 8 d40_7 rfl ?_
  rw [show ((21 : Int32) - (0 : Int32)) = (21 : Int32) from by decide]
  refine Go.istoreN 9 #[.val (.ref b), .val (.int (0 : Int32)), .val (.int (21 : Int32)), .val (.int (21 : Int32)), .unset] d40_8 rfl rfl ?_
  refine Go.iloadN 10 d40_9 rfl rfl ?_
  refine Go.newA 21 12 d40_10 rfl rfl (w30 hw) (by decide) 21 (Nat.le_refl _) (by decide) (Nat.le_of_ble_eq_true rfl) (Nat.le_of_ble_eq_true rfl) (fun h_3 r_4 g_5 q_6 E_7 lt_8 A_9 => ?_)
  have A_10 : Ary Z h_3 r_4 .byte (List.replicate 21 (.int 0)) := A_9
  show G_corb21 md l Z n0 b vs h0 1 21 [r_4] h_3 12 #[.val (.ref b), .val (.int (0 : Int32)), .val (.int (21 : Int32)), .val (.int (21 : Int32)), .unset] [(.ref r_4)]
  refine Go.astore 14 #[.val (.ref b), .val (.int (0 : Int32)), .val (.int (21 : Int32)), .val (.int (21 : Int32)), .val (.ref r_4)] d40_12 rfl rfl rfl ?_
  refine Go.aloadN 15 d40_14 rfl rfl rfl ?_
  refine Go.iloadN 16 d40_15 rfl rfl ?_
  refine Go.aload 18 d40_16 rfl rfl rfl ?_
  refine Go.iconst 19 (0 : Int32) d40_18 rfl rfl ?_
  refine Go.aloadN 20 d40_19 rfl rfl rfl ?_
  have f_11 := A.ext E_7
  refine Go.alen 21 (34 : Int32) d40_20 rfl f_11 (by rw [hl]; rfl) ?_
  refine Go.iloadN 22 d40_21 rfl rfl ?_
  refine Go.isub 23 d40_22 rfl ?_
  rw [show ((34 : Int32) - (0 : Int32)) = (34 : Int32) from by decide]
  refine Go.iloadN 24 d40_23 rfl rfl ?_
  refine Go.callS (S := [(.int (0 : Int32)), (.ref r_4), (.int (0 : Int32)), (.ref b)]) 27 [(.int (34 : Int32)), (.int (21 : Int32))] d40_24 rfl rfl (w164 hw) (w165 hw) (w156 hw) (w166 hw) (by decide) (call_of_go (R := _) (len := 3) (W := 4) pf_2 (fun mid => ef_min mid (34 : Int32) (21 : Int32) ) (c_min hw (34 : Int32) (21 : Int32) ) (w166 hw) (w156 hw) (by decide) (by decide)) (lenOf pd_15 rfl) (Nat.le_of_ble_eq_true rfl) rfl (Nat.le_of_ble_eq_true rfl) (Nat.le_of_ble_eq_true rfl) (fun _ q => nomatch q) (fun v h_12 sf_13 hq => ?_)
  obtain ⟨rfl, rfl⟩ := hq
  refine Go.more (sf' := [r_4]) ?_ (Nat.le_refl _) (Nat.le_refl _) (fun _ q => List.mem_append_right _ q)
  show G_corb21 md l Z n0 b vs h0 1 21 [r_4] h_3 27 #[.val (.ref b), .val (.int (0 : Int32)), .val (.int (21 : Int32)), .val (.int (21 : Int32)), .val (.ref r_4)] [(.int (if (21 : Int32) < (34 : Int32) then (21 : Int32) else (34 : Int32))), (.int (0 : Int32)), (.ref r_4), (.int (0 : Int32)), (.ref b)]
  rw [show (if (21 : Int32) < (34 : Int32) then (21 : Int32) else (34 : Int32)) = (21 : Int32) from by decide]
  show G_corb21 md l Z n0 b vs h0 1 21 [r_4] h_3 27 #[.val (.ref b), .val (.int (0 : Int32)), .val (.int (21 : Int32)), .val (.int (21 : Int32)), .val (.ref r_4)] [(.int (21 : Int32)), (.int (0 : Int32)), (.ref r_4), (.int (0 : Int32)), (.ref b)]
  refine Go.acopy (W := 0) 0 0 21 30 d40_27 rfl (w167 hw) (w143 hw) (w141 hw) (w142 hw) f_11 A_10 rfl (by decide) (by decide) (by decide) (by rw [hl]; decide) (by decide) (List.mem_of_getElem? (i := 0) rfl) q_6 rfl (by decide) (Nat.le_of_ble_eq_true rfl) (by decide) (fun h_14 K_15 B_16 => ?_)
  have B_17 : Ary Z h_14 r_4 .byte (vs.take 21) := by have q_ := B_16; rw [show (List.replicate 21 (Value.int 0)).take 0 ++ (vs.drop 0).take 21 ++ (List.replicate 21 (Value.int 0)).drop (0 + 21) = vs.take 21 from by simp] at q_; exact q_
  show G_corb21 md l Z n0 b vs h0 1 21 [r_4] h_14 30 #[.val (.ref b), .val (.int (0 : Int32)), .val (.int (21 : Int32)), .val (.int (21 : Int32)), .val (.ref r_4)] []
  refine Go.aload 32 d40_30 rfl rfl rfl ?_
  have X_18 : Ext h0 h_14 := extK E_7 K_15 (allS (Nat.le_of_eq g_5) all0)
  exact Go.retA d40_32 rfl rfl rfl (sf' := []) (⟨_, rfl, X_18, (Nat.le_of_eq g_5), B_17⟩) (fun _ q => nomatch q) (Nat.le_of_ble_eq_true rfl) (Nat.le_of_ble_eq_true rfl)
abbrev G_cor21 (md : Md) (l : Launch) (Z : State) (n0 : Nat) (b : Addr) (vs : List Value) (h0 : Heap) := Go md l Z n0 ({ frames := 2, cells := 1, slots := 21, locals := 34 } : Room) jdk_65_method_132_code 3 (some (.array .byte)) "java/util/Arrays" "copyOfRange" (fun v h' _ => ∃ r, v = some (.ref r) ∧ Ext h0 h' ∧ h0.size ≤ r ∧ Ary Z h' r .byte (vs.take 21))
theorem ef_cor21 (mid : MethodId) (b : Addr) (vs : List Value)  : entryFrame mid #[(.ref b), (.int (0 : Int32)), (.int (21 : Int32))] 3 = mkF mid 0 #[.val (.ref b), .val (.int (0 : Int32)), .val (.int (21 : Int32))] [] := by first | (simp [entryFrame, mkF, argsToLocals, Value.category]; done) | rfl
set_option maxRecDepth 65536 in
set_option maxHeartbeats 40000000 in
theorem c_cor21 {md : Md} {l : Launch} {Z : State} {n0 : Nat} {a0 : Array Value} (hw : HW a0 Z) (b : Addr) (vs : List Value) {h0 : Heap} (A : Ary Z h0 b .byte vs) (hl : vs.length = 34)  : G_cor21 md l Z n0 b vs h0 0 0 [] h0 0 #[.val (.ref b), .val (.int (0 : Int32)), .val (.int (21 : Int32))] [] := by
  refine Go.iloadN 1 d39_0 rfl rfl ?_
  refine Go.ifN 4 d39_1 rfl (teq (by decide)).2 ?_
  refine Go.iloadN 5 d39_4 rfl rfl ?_
  refine Go.aloadN 6 d39_5 rfl rfl rfl ?_
  refine Go.alen 7 (34 : Int32) d39_6 rfl A (by rw [hl]; rfl) ?_
  refine Go.icmpN 10 d39_7 rfl (feq (by decide)).1 ?_
  refine Go.aloadN 11 d39_10 rfl rfl rfl ?_
  refine Go.iloadN 12 d39_11 rfl rfl ?_
  refine Go.iloadN 13 d39_12 rfl rfl ?_
  refine Go.callS (S := []) 16 [(.ref b), (.int (0 : Int32)), (.int (21 : Int32))] d39_13 rfl rfl (w201 hw) (w202 hw) (w162 hw) (w203 hw) (by decide) (call_of_go (R := _) (len := 3) (W := 0) (plainFor_of_name pn_4) (fun mid => ef_corb21 mid b vs ) (c_corb21 hw b vs A hl) (w203 hw) (w162 hw) (by decide) (by decide)) (lenOf pd_20 rfl) (Nat.le_of_ble_eq_true rfl) rfl (Nat.le_of_ble_eq_true rfl) (Nat.le_of_ble_eq_true rfl) (fun _ q => nomatch q) (fun v h_1 sf_6 hq => ?_)
  obtain ⟨r_2, rfl, E_3, le_4, A_5⟩ := hq
  refine Go.more (sf' := []) ?_ (Nat.le_refl _) (Nat.le_refl _) (fun _ q => List.mem_append_right _ q)
  show G_cor21 md l Z n0 b vs h0 1 21 [] h_1 16 #[.val (.ref b), .val (.int (0 : Int32)), .val (.int (21 : Int32))] [(.ref r_2)]
  exact Go.retA d39_16 rfl rfl rfl (sf' := []) (⟨_, rfl, E_3, le_4, A_5⟩) (fun _ q => nomatch q) (Nat.le_of_ble_eq_true rfl) (Nat.le_of_ble_eq_true rfl)
abbrev G_strasb21 (md : Md) (l : Launch) (Z : State) (n0 : Nat) (y x b : Addr) (z : Int32) (vs : List Value) (cs : List Int32) (h0 : Heap) := Go md l Z n0 ({ frames := 3, cells := 1, slots := 21, locals := 49 } : Room) jdk_42_method_150_code 5 none "java/lang/String" "<init>" (fun v h' _ => v = none ∧ Keep h0 h' [y] ∧ Str Z h' y cs)
theorem ef_strasb21 (mid : MethodId) (y x b : Addr) (z : Int32) (vs : List Value) (cs : List Int32)  : entryFrame mid #[(.ref y), (.ref x), .null] 5 = mkF mid 0 #[.val (.ref y), .val (.ref x), .val .null, .unset, .unset] [] := by first | (simp [entryFrame, mkF, argsToLocals, Value.category]; done) | rfl
set_option maxRecDepth 65536 in
set_option maxHeartbeats 40000000 in
theorem c_strasb21 {l : Launch} {Z : State} {n0 : Nat} {a0 : Array Value} (hw : HW a0 Z) (y x b : Addr) (z : Int32) (vs : List Value) (cs : List Int32) {h0 : Heap} (Ey : Exa Z h0 y "java/lang/String") (n0y : n0 ≤ y) {v0 u0 : Value} (Vy : Fld Z h0 y "java/lang/String" "value" "[B" v0) (Cy : Fld Z h0 y "java/lang/String" "coder" "B" u0) (Ex : Exa Z h0 x "java/lang/StringBuilder") (Fb : Fld Z h0 x "java/lang/AbstractStringBuilder" "value" "[B" (.ref b)) (Fc : Fld Z h0 x "java/lang/AbstractStringBuilder" "coder" "B" (.int 0)) (Fn : Fld Z h0 x "java/lang/AbstractStringBuilder" "count" "I" (.int 21)) (A : Ary Z h0 b .byte vs) (nbx : b ≠ x) (nyx : y ≠ x) (nby : b ≠ y) (hl : vs.length = 34) (hcs : vs.take 21 = ((cs.map fun c => c.toInt8.toInt32).map Value.int)) (hlat : Lat cs) (SC : Sta Z Z.heap "java/lang/String" "COMPACT_STRINGS" "Z" (.int z)) (hz : ¬ z = 0)  : G_strasb21 (some consts_1) l Z n0 y x b z vs cs h0 0 0 [y] h0 0 #[.val (.ref y), .val (.ref x), .val .null, .unset, .unset] [] := by
  refine Go.aloadN 1 d34_0 rfl rfl rfl ?_
  refine Go.initO (W := 0) 4 d34_1 rfl (w22 hw) (w23 hw) (w24 hw) rfl (by decide) (Nat.le_of_ble_eq_true rfl) (by decide) ?_
  refine Go.aloadN 5 d34_4 rfl rfl rfl ?_
  refine Go.callV (S := []) (a := x) 8 [] d34_5 rfl rfl (w180 hw) (w181 hw) (w183 hw) (w182 hw) (fun _ q => notFace_of_selects (args := #[]) (mvT q (w183 hw))) (by decide) Ex (call_of_go (R := _) (len := 3) (W := 0) (plainFor_of_name pn_1) (fun mid => ef_getval mid x b ) (c_getval hw x b Fb) (w184 hw) (w94 hw) (by decide) (by decide)) (lenOf pd_21 rfl) (Nat.le_of_ble_eq_true rfl) rfl (Nat.le_of_ble_eq_true rfl) (Nat.le_of_ble_eq_true rfl) (fun _ q => nomatch q) (fun v h_1 sf_2 hq => ?_)
  obtain ⟨rfl, rfl⟩ := hq
  refine Go.more (sf' := [y]) ?_ (Nat.le_refl _) (Nat.le_refl _) (fun _ q => List.mem_append_right _ q)
  show G_strasb21 (some consts_1) l Z n0 y x b z vs cs h0 0 0 [y] h0 8 #[.val (.ref y), .val (.ref x), .val .null, .unset, .unset] [(.ref b)]
  refine Go.astoreN 9 #[.val (.ref y), .val (.ref x), .val .null, .val (.ref b), .unset] d34_8 rfl rfl rfl ?_
  refine Go.aloadN 10 d34_9 rfl rfl rfl ?_
  refine Go.callV (S := []) (a := x) 13 [] d34_10 rfl rfl (w185 hw) (w186 hw) (w188 hw) (w189 hw) (fun _ q => notFace_cls (args := #[]) (mvT q (w122 hw)) rfl) (by decide) Ex (call_of_go (R := _) (len := 3) (W := 0) (plainFor_of_name pn_3) (fun mid => ef_sblen mid x (21 : Int32) ) (c_sblen hw x (21 : Int32) Fn Ex) (w190 hw) (w86 hw) (by decide) (by decide)) (lenOf pd_11 rfl) (Nat.le_of_ble_eq_true rfl) rfl (Nat.le_of_ble_eq_true rfl) (Nat.le_of_ble_eq_true rfl) (fun _ q => nomatch q) (fun v h_3 sf_4 hq => ?_)
  obtain ⟨rfl, rfl⟩ := hq
  refine Go.more (sf' := [y]) ?_ (Nat.le_refl _) (Nat.le_refl _) (fun _ q => List.mem_append_right _ q)
  show G_strasb21 (some consts_1) l Z n0 y x b z vs cs h0 0 0 [y] h0 13 #[.val (.ref y), .val (.ref x), .val .null, .val (.ref b), .unset] [(.int (21 : Int32))]
  refine Go.istore 15 #[.val (.ref y), .val (.ref x), .val .null, .val (.ref b), .val (.int (21 : Int32))] d34_13 rfl rfl ?_
  refine Go.aloadN 16 d34_15 rfl rfl rfl ?_
  refine Go.callV (S := []) (a := x) 19 [] d34_16 rfl rfl (w193 hw) (w194 hw) (w196 hw) (w195 hw) (fun _ q => notFace_of_selects (args := #[]) (mvT q (w196 hw))) (by decide) Ex (call_of_go (R := _) (len := 3) (W := 0) (plainFor_of_name pn_1) (fun mid => ef_asbil mid x z ) (c_asbil hw x z Fc SC hz) (w197 hw) (w94 hw) (by decide) (by decide)) (lenOf pd_3 rfl) (Nat.le_of_ble_eq_true rfl) rfl (Nat.le_of_ble_eq_true rfl) (Nat.le_of_ble_eq_true rfl) (fun _ q => nomatch q) (fun v h_5 sf_6 hq => ?_)
  obtain ⟨rfl, rfl⟩ := hq
  refine Go.more (sf' := [y]) ?_ (Nat.le_refl _) (Nat.le_refl _) (fun _ q => List.mem_append_right _ q)
  show G_strasb21 (some consts_1) l Z n0 y x b z vs cs h0 0 0 [y] h0 19 #[.val (.ref y), .val (.ref x), .val .null, .val (.ref b), .val (.int (21 : Int32))] [(.int (1 : Int32))]
  refine Go.ifN 22 d34_19 rfl (feq (by decide)).1 ?_
  refine Go.aloadN 23 d34_22 rfl rfl rfl ?_
  refine Go.iconst 24 (0 : Int32) d34_23 rfl rfl ?_
  refine Go.putF 27 (.int (0 : Int32)) d34_24 rfl (w37 hw) Via.refl Cy Ey (Or.inr ⟨(w38 hw), rfl, rfl⟩) (w13 hw) (ty := .byte) (by decide) rfl rfl (List.mem_of_getElem? (i := 0) rfl) n0y (fun h_7 W_8 => ?_)
  refine Go.aloadN 28 d34_27 rfl rfl rfl ?_
  refine Go.aloadN 29 d34_28 rfl rfl rfl ?_
  refine Go.iconst 30 (0 : Int32) d34_29 rfl rfl ?_
  refine Go.iload 32 d34_30 rfl rfl ?_
  have f_9 := (Ey.wr W_8)
  have f_10 := (A.other W_8 nby)
  refine Go.callS (S := [(.ref y)]) 35 [(.ref b), (.int (0 : Int32)), (.int (21 : Int32))] d34_32 rfl rfl (w198 hw) (w199 hw) (w162 hw) (w200 hw) (by decide) (call_of_go (R := _) (len := 3) (W := 1) (plainFor_of_name pn_4) (fun mid => ef_cor21 mid b vs ) (c_cor21 hw b vs f_10 hl) (w200 hw) (w162 hw) (by decide) (by decide)) (lenOf pd_20 rfl) (Nat.le_of_ble_eq_true rfl) rfl (Nat.le_of_ble_eq_true rfl) (Nat.le_of_ble_eq_true rfl) (fun _ q => nomatch q) (fun v h_11 sf_16 hq => ?_)
  obtain ⟨r_12, rfl, E_13, le_14, A_15⟩ := hq
  refine Go.more (sf' := [y]) ?_ (Nat.le_refl _) (Nat.le_refl _) (fun _ q => List.mem_append_right _ q)
  show G_strasb21 (some consts_1) l Z n0 y x b z vs cs h0 1 21 [y] h_11 35 #[.val (.ref y), .val (.ref x), .val .null, .val (.ref b), .val (.int (21 : Int32))] [(.ref r_12), (.ref y)]
  have n_ry : r_12 ≠ y := Nat.ne_of_gt (Nat.lt_of_lt_of_le f_9.lt le_14)
  have f_17 := f_9.ext E_13
  have f_18 := ((Vy.other W_8 (Or.inr (slot_ne (Or.inr (w40 hw)) (Or.inr (w38 hw)) (by decide) (t := (.array .byte)) (t' := .byte) (by decide) (by decide)))).ext E_13)
  refine Go.putF 38 (.ref r_12) d34_35 rfl (w39 hw) Via.refl f_18 f_17 (Or.inr ⟨(w40 hw), rfl, rfl⟩) (w13 hw) (ty := (.array .byte)) (by decide) rfl rfl (List.mem_of_getElem? (i := 0) rfl) n0y (fun h_19 W_20 => ?_)
  refine Go.goto 97 d34_38 (by decide) (by decide) ?_
  have f_21 := (f_17.wr W_20)
  have f_22 := (((Cy.same W_8).ext E_13).other W_20 (Or.inr (slot_ne (Or.inr (w38 hw)) (Or.inr (w40 hw)) (by decide) (t := .byte) (t' := (.array .byte)) (by decide) (by decide))))
  have f_23 := (A_15.other W_20 n_ry)
  exact Go.ret0 d34_97 rfl (sf' := []) (⟨rfl, ((((Keep.refl h0 [y]).wr W_8 (Or.inl (List.mem_of_getElem? (i := 0) rfl))).ext E_13).wr W_20 (Or.inl (List.mem_of_getElem? (i := 0) rfl))), r_12, f_21, f_22, (f_18.same W_20), by rw [← hcs]; exact f_23, hlat⟩) (fun _ q => nomatch q) (Nat.le_of_ble_eq_true rfl) (Nat.le_of_ble_eq_true rfl)
abbrev G_strsb21 (md : Md) (l : Launch) (Z : State) (n0 : Nat) (y x b : Addr) (z : Int32) (vs : List Value) (cs : List Int32) (h0 : Heap) := Go md l Z n0 ({ frames := 4, cells := 1, slots := 21, locals := 65 } : Room) jdk_42_method_53_code 2 none "java/lang/String" "<init>" (fun v h' _ => v = none ∧ Keep h0 h' [y] ∧ Str Z h' y cs)
theorem ef_strsb21 (mid : MethodId) (y x b : Addr) (z : Int32) (vs : List Value) (cs : List Int32)  : entryFrame mid #[(.ref y), (.ref x)] 2 = mkF mid 0 #[.val (.ref y), .val (.ref x)] [] := by first | (simp [entryFrame, mkF, argsToLocals, Value.category]; done) | rfl
set_option maxRecDepth 65536 in
set_option maxHeartbeats 40000000 in
theorem c_strsb21 {l : Launch} {Z : State} {n0 : Nat} {a0 : Array Value} (hw : HW a0 Z) (y x b : Addr) (z : Int32) (vs : List Value) (cs : List Int32) {h0 : Heap} (Ey : Exa Z h0 y "java/lang/String") (n0y : n0 ≤ y) {v0 u0 : Value} (Vy : Fld Z h0 y "java/lang/String" "value" "[B" v0) (Cy : Fld Z h0 y "java/lang/String" "coder" "B" u0) (Ex : Exa Z h0 x "java/lang/StringBuilder") (Fb : Fld Z h0 x "java/lang/AbstractStringBuilder" "value" "[B" (.ref b)) (Fc : Fld Z h0 x "java/lang/AbstractStringBuilder" "coder" "B" (.int 0)) (Fn : Fld Z h0 x "java/lang/AbstractStringBuilder" "count" "I" (.int 21)) (A : Ary Z h0 b .byte vs) (nbx : b ≠ x) (nyx : y ≠ x) (nby : b ≠ y) (hl : vs.length = 34) (hcs : vs.take 21 = ((cs.map fun c => c.toInt8.toInt32).map Value.int)) (hlat : Lat cs) (SC : Sta Z Z.heap "java/lang/String" "COMPACT_STRINGS" "Z" (.int z)) (hz : ¬ z = 0)  : G_strsb21 (some consts_1) l Z n0 y x b z vs cs h0 0 0 [y] h0 0 #[.val (.ref y), .val (.ref x)] [] := by
  refine Go.aloadN 1 d33_0 rfl rfl rfl ?_
  refine Go.aloadN 2 d33_1 rfl rfl rfl ?_
  refine Go.aconstNull 3 d33_2 rfl ?_
  refine Go.callC (S := []) (a := y) 6 [(.ref x), .null] d33_3 rfl rfl rfl (w177 hw) (w178 hw) (w179 hw) (by decide) (call_of_go (R := _) (len := 3) (W := 0) (plainFor_of_name pn_0) (fun mid => ef_strasb21 mid y x b z vs cs ) (c_strasb21 hw y x b z vs cs Ey n0y Vy Cy Ex Fb Fc Fn A nbx nyx nby hl hcs hlat SC hz) (w179 hw) (w14 hw) (by decide) (by decide)) (lenOf pd_22 rfl) (Nat.le_of_ble_eq_true rfl) rfl (Nat.le_of_ble_eq_true rfl) (Nat.le_of_ble_eq_true rfl) (fun _ q => q) (fun v h_1 sf_2 hq => ?_)
  obtain ⟨rfl, K2, S2⟩ := hq
  refine Go.more (sf' := [y]) ?_ (Nat.le_refl _) (Nat.le_refl _) (fun _ q => List.mem_append_right _ q)
  show G_strsb21 (some consts_1) l Z n0 y x b z vs cs h0 1 21 [y] h_1 6 #[.val (.ref y), .val (.ref x)] []
  exact Go.ret0 d33_6 rfl (sf' := []) (⟨rfl, K2, S2⟩) (fun _ q => nomatch q) (Nat.le_of_ble_eq_true rfl) (Nat.le_of_ble_eq_true rfl)
abbrev G_sbts21 (md : Md) (l : Launch) (Z : State) (n0 : Nat) (x b : Addr) (z : Int32) (vs : List Value) (cs : List Int32) (h0 : Heap) := Go md l Z n0 ({ frames := 5, cells := 2, slots := 25, locals := 79 } : Room) jdk_67_method_42_code 1 (some (.object "java/lang/String")) "java/lang/StringBuilder" "toString" (fun v h' _ => ∃ x, v = some (.ref x) ∧ Ext h0 h' ∧ h0.size ≤ x ∧ Str Z h' x (cs))
theorem ef_sbts21 (mid : MethodId) (x b : Addr) (z : Int32) (vs : List Value) (cs : List Int32)  : entryFrame mid #[(.ref x)] 1 = mkF mid 0 #[.val (.ref x)] [] := by first | (simp [entryFrame, mkF, argsToLocals, Value.category]; done) | rfl
set_option maxRecDepth 65536 in
set_option maxHeartbeats 40000000 in
theorem c_sbts21 {l : Launch} {Z : State} {n0 : Nat} {a0 : Array Value} (hw : HW a0 Z) (x b : Addr) (z : Int32) (vs : List Value) (cs : List Int32) {h0 : Heap} (Ex : Exa Z h0 x "java/lang/StringBuilder") (Fb : Fld Z h0 x "java/lang/AbstractStringBuilder" "value" "[B" (.ref b)) (Fc : Fld Z h0 x "java/lang/AbstractStringBuilder" "coder" "B" (.int 0)) (Fn : Fld Z h0 x "java/lang/AbstractStringBuilder" "count" "I" (.int 21)) (A : Ary Z h0 b .byte vs) (nbx : b ≠ x) (hl : vs.length = 34) (hcs : vs.take 21 = ((cs.map fun c => c.toInt8.toInt32).map Value.int)) (hlat : Lat cs) (SC : Sta Z Z.heap "java/lang/String" "COMPACT_STRINGS" "Z" (.int z)) (hz : ¬ z = 0)  : G_sbts21 (some consts_1) l Z n0 x b z vs cs h0 0 0 [] h0 0 #[.val (.ref x)] [] := by
  refine Go.new 3 d32_0 rfl (w173 hw) (w13 hw) (w14 hw) (Nat.le_of_ble_eq_true rfl) (Nat.le_of_ble_eq_true rfl) (fun h_1 x_2 g_3 q_4 E_5 lt_6 A_7 D_8 => ?_)
  show G_sbts21 (some consts_1) l Z n0 x b z vs cs h0 1 4 [x_2] h_1 3 #[.val (.ref x)] [(.ref x_2)]
  refine Go.dup 4 d32_3 rfl rfl ?_
  refine Go.aloadN 5 d32_4 rfl rfl rfl ?_
  have nyx : x_2 ≠ x := Nat.ne_of_gt (Nat.lt_of_lt_of_le Ex.lt (Nat.le_of_eq g_3))
  have nby : b ≠ x_2 := Nat.ne_of_lt (Nat.lt_of_lt_of_le A.lt (Nat.le_of_eq g_3))
  have f_9 := Ex.ext E_5
  have f_10 := Fb.ext E_5
  have f_11 := Fc.ext E_5
  have f_12 := Fn.ext E_5
  have f_13 := A.ext E_5
  refine Go.callC (S := [(.ref x_2)]) (a := x_2) 8 [(.ref x)] d32_5 rfl rfl rfl (w174 hw) (w175 hw) (w176 hw) (by decide) (call_of_go (R := _) (len := 3) (W := 1) (plainFor_of_name pn_0) (fun mid => ef_strsb21 mid x_2 x b z vs cs ) (c_strsb21 hw x_2 x b z vs cs A_7 q_4 (D_8 (Or.inr (w40 hw)) (ty := (.array .byte)) (by decide)) (D_8 (Or.inr (w38 hw)) (ty := .byte) (by decide)) f_9 f_10 f_11 f_12 f_13 nbx nyx nby hl hcs hlat SC hz) (w176 hw) (w14 hw) (by decide) (by decide)) (lenOf pd_23 rfl) (Nat.le_of_ble_eq_true rfl) rfl (Nat.le_of_ble_eq_true rfl) (Nat.le_of_ble_eq_true rfl) (fun _ q => q) (fun v h_14 sf_15 hq => ?_)
  obtain ⟨rfl, K2, S2⟩ := hq
  refine Go.more (sf' := [x_2]) ?_ (Nat.le_refl _) (Nat.le_refl _) (fun _ q => List.mem_append_right _ q)
  show G_sbts21 (some consts_1) l Z n0 x b z vs cs h0 2 25 [x_2] h_14 8 #[.val (.ref x)] [(.ref x_2)]
  have X_16 : Ext h0 h_14 := extK E_5 K2 (allS (Nat.le_of_eq g_3) all0)
  exact Go.retA d32_8 rfl rfl rfl (sf' := []) (⟨_, rfl, X_16, (Nat.le_of_eq g_3), S2⟩) (fun _ q => nomatch q) (Nat.le_of_ble_eq_true rfl) (Nat.le_of_ble_eq_true rfl)
abbrev G_listed (md : Md) (l : Launch) (Z : State) (n0 : Nat) (x : Addr) (z : Int32) (c0 c1 c2 c3 c4 c5 c6 c7 : Int32) (h0 : Heap) := Go md l Z n0 ({ frames := 6, cells := 11, slots := 171, locals := 91 } : Room) prog_46_method_2_code 2 (some (.object "java/lang/String")) "com/example/tugas/tugas/store/Listing" "listedOnly" (fun v h' _ => ∃ y, v = some (.ref y) ∧ Ext h0 h' ∧ ((WB c0 c1 c2 c3 c4 c5 c6 c7 ∧ Str Z h' y [c0, c1, c2, c3, c4, c5, c6, c7, (32 : Int32), (65 : Int32), (78 : Int32), (68 : Int32), (32 : Int32), (108 : Int32), (105 : Int32), (115 : Int32), (116 : Int32), (101 : Int32), (100 : Int32)]) ∨ (¬ WB c0 c1 c2 c3 c4 c5 c6 c7 ∧ Str Z h' y [c0, c1, c2, c3, c4, c5, c6, c7, (32 : Int32), (87 : Int32), (72 : Int32), (69 : Int32), (82 : Int32), (69 : Int32), (32 : Int32), (108 : Int32), (105 : Int32), (115 : Int32), (116 : Int32), (101 : Int32), (100 : Int32)])))
theorem ef_listed (mid : MethodId) (x : Addr) (z : Int32) (c0 c1 c2 c3 c4 c5 c6 c7 : Int32)  : entryFrame mid #[(.ref x)] 2 = mkF mid 0 #[.val (.ref x), .unset] [] := by first | (simp [entryFrame, mkF, argsToLocals, Value.category]; done) | rfl
set_option maxRecDepth 65536 in
set_option maxHeartbeats 40000000 in
theorem c_listed {l : Launch} {Z : State} {n0 : Nat} {a0 : Array Value} (hw : HW a0 Z) (x : Addr) (z : Int32) (c0 c1 c2 c3 c4 c5 c6 c7 : Int32) {h0 : Heap} (S : Str Z h0 x [c0, c1, c2, c3, c4, c5, c6, c7]) (b_c0 : ¬ c0 < 0 ∧ ¬ (255 : Int32) < c0) (b_c1 : ¬ c1 < 0 ∧ ¬ (255 : Int32) < c1) (b_c2 : ¬ c2 < 0 ∧ ¬ (255 : Int32) < c2) (b_c3 : ¬ c3 < 0 ∧ ¬ (255 : Int32) < c3) (b_c4 : ¬ c4 < 0 ∧ ¬ (255 : Int32) < c4) (b_c5 : ¬ c5 < 0 ∧ ¬ (255 : Int32) < c5) (b_c6 : ¬ c6 < 0 ∧ ¬ (255 : Int32) < c6) (b_c7 : ¬ c7 < 0 ∧ ¬ (255 : Int32) < c7) (SC : Sta Z Z.heap "java/lang/String" "COMPACT_STRINGS" "Z" (.int z)) (hz : ¬ z = 0)  : G_listed (some consts_1) l Z n0 x z c0 c1 c2 c3 c4 c5 c6 c7 h0 0 0 [] h0 0 #[.val (.ref x), .unset] [] := by
  obtain ⟨t, Ex, Cx, Vx, A0, lt⟩ := S
  have A : Ary Z h0 t .byte [(.int c0.toInt8.toInt32), (.int c1.toInt8.toInt32), (.int c2.toInt8.toInt32), (.int c3.toInt8.toInt32), (.int c4.toInt8.toInt32), (.int c5.toInt8.toInt32), (.int c6.toInt8.toInt32), (.int c7.toInt8.toInt32)] := A0
  refine Go.aloadN 1 d10_0 rfl rfl rfl ?_
  refine Go.ldcL (vs := [(.int (32 : Int32)), (.int (87 : Int32)), (.int (72 : Int32)), (.int (69 : Int32)), (.int (82 : Int32)), (.int (69 : Int32)), (.int (32 : Int32))]) (z := (7 : Int32)) 28 3 d10_1 rfl (w45 hw) (wS hw) (List.mem_of_getElem? (i := 0) rfl) ⟨by decide, rfl⟩ (by decide) (by decide) (by decide) (by decide) (Nat.le_of_ble_eq_true rfl) (Nat.le_of_ble_eq_true rfl) (fun h_1 s_2 b_3 k_4 E_5 A_6 C_7 V_8 B_9 ne_10 => ?_)
  have B_11 : Ary Z h_1 b_3 .byte [(.int (32 : Int32)), (.int (87 : Int32)), (.int (72 : Int32)), (.int (69 : Int32)), (.int (82 : Int32)), (.int (69 : Int32)), (.int (32 : Int32))] := Ary.ofArv B_9 rfl (by decide)
  have S_12 : Str Z h_1 s_2 [(32 : Int32), (87 : Int32), (72 : Int32), (69 : Int32), (82 : Int32), (69 : Int32), (32 : Int32)] := ⟨_, A_6, C_7, V_8, B_11, by unfold Lat; decide⟩
  show G_listed (some consts_1) l Z n0 x z c0 c1 c2 c3 c4 c5 c6 c7 h0 2 32 [] h_1 3 #[.val (.ref x), .unset] [(.ref s_2), (.ref x)]
  have f_13 := Ex.ext E_5
  have f_14 := Cx.ext E_5
  have f_15 := Vx.ext E_5
  have f_16 := A.ext E_5
  refine Go.callV (S := []) (a := x) 6 [(.ref s_2)] d10_3 rfl rfl (w48 hw) (w49 hw) (w51 hw) (w50 hw) (fun _ q => notFace_of_selects (args := #[]) (mvT q (w51 hw))) (by decide) f_13 (call_of_go (R := _) (len := 3) (W := 0) (plainFor_of_name pn_0) (fun mid => ef_scont mid x s_2 t b_3 z c0.toInt8.toInt32 c1.toInt8.toInt32 c2.toInt8.toInt32 c3.toInt8.toInt32 c4.toInt8.toInt32 c5.toInt8.toInt32 c6.toInt8.toInt32 c7.toInt8.toInt32 ) (c_scont hw x s_2 t b_3 z c0.toInt8.toInt32 c1.toInt8.toInt32 c2.toInt8.toInt32 c3.toInt8.toInt32 c4.toInt8.toInt32 c5.toInt8.toInt32 c6.toInt8.toInt32 c7.toInt8.toInt32 f_13 f_14 f_15 A_6 C_7 V_8 f_16 B_11 SC hz) (w52 hw) (w14 hw) (by decide) (by decide)) (lenOf pd_7 rfl) (Nat.le_of_ble_eq_true rfl) rfl (Nat.le_of_ble_eq_true rfl) (Nat.le_of_ble_eq_true rfl) (fun _ q => nomatch q) (fun v h_17 sf_18 hq => ?_)
  obtain ⟨rfl, r, rfl, ⟨rfl, hw0⟩ | ⟨rfl, hw0⟩⟩ := hq
  · skip
    rw [wb_lo b_c0 b_c1 b_c2 b_c3 b_c4 b_c5 b_c6 b_c7] at hw0
    refine Go.more (sf' := []) ?_ (Nat.le_refl _) (Nat.le_refl _) (fun _ q => List.mem_append_right _ q)
    show G_listed (some consts_1) l Z n0 x z c0 c1 c2 c3 c4 c5 c6 c7 h0 2 32 [] h_1 6 #[.val (.ref x), .unset] [(.int (1 : Int32))]
    refine Go.ifN 9 d10_6 rfl (feq (by decide)).1 ?_
    refine Go.ldcL (vs := [(.int (32 : Int32)), (.int (65 : Int32)), (.int (78 : Int32)), (.int (68 : Int32)), (.int (32 : Int32))]) (z := (5 : Int32)) 20 11 d10_9 rfl (w233 hw) (wS hw) (List.mem_of_getElem? (i := 1) rfl) ⟨by decide, rfl⟩ (by decide) (by decide) (by decide) (by decide) (Nat.le_of_ble_eq_true rfl) (Nat.le_of_ble_eq_true rfl) (fun h_19 s_20 b_21 k_22 E_23 A_24 C_25 V_26 B_27 ne_28 => ?_)
    have B_29 : Ary Z h_19 b_21 .byte [(.int (32 : Int32)), (.int (65 : Int32)), (.int (78 : Int32)), (.int (68 : Int32)), (.int (32 : Int32))] := Ary.ofArv B_27 rfl (by decide)
    have S_30 : Str Z h_19 s_20 [(32 : Int32), (65 : Int32), (78 : Int32), (68 : Int32), (32 : Int32)] := ⟨_, A_24, C_25, V_26, B_29, by unfold Lat; decide⟩
    show G_listed (some consts_1) l Z n0 x z c0 c1 c2 c3 c4 c5 c6 c7 h0 4 56 [] h_19 11 #[.val (.ref x), .unset] [(.ref s_20)]
    refine Go.goto 16 d10_11 (by decide) (by decide) ?_
    refine Go.astoreN 17 #[.val (.ref x), .val (.ref s_20)] d10_16 rfl rfl rfl ?_
    have f_31 := f_16.ext E_23
    have f_32 := B_11.ext E_23
    refine Go.new 20 d10_17 rfl (w84 hw) (w85 hw) (w86 hw) (Nat.le_of_ble_eq_true rfl) (Nat.le_of_ble_eq_true rfl) (fun h_33 x_34 g_35 q_36 E_37 lt_38 A_39 D_40 => ?_)
    show G_listed (some consts_1) l Z n0 x z c0 c1 c2 c3 c4 c5 c6 c7 h0 5 60 [x_34] h_33 20 #[.val (.ref x), .val (.ref s_20)] [(.ref x_34)]
    refine Go.dup 21 d10_20 rfl rfl ?_
    refine Go.callC (S := [(.ref x_34)]) (a := x_34) 24 [] d10_21 rfl rfl rfl (w87 hw) (w88 hw) (w89 hw) (by decide) (call_of_go (R := _) (len := 3) (W := 1) (plainFor_of_name pn_3) (fun mid => ef_sbinit mid x_34 z ) (c_sbinit hw x_34 z A_39 q_36 (D_40 (Or.inl (w99 hw)) (ty := (.array .byte)) (by decide)) (D_40 (Or.inl (w118 hw)) (ty := .int) (by decide)) SC hz) (w89 hw) (w86 hw) (by decide) (by decide)) (lenOf pd_8 rfl) (Nat.le_of_ble_eq_true rfl) rfl (Nat.le_of_ble_eq_true rfl) (Nat.le_of_ble_eq_true rfl) (fun _ q => q) (fun v h_41 sf_42 hq => ?_)
    obtain ⟨b, rfl, Kb, Eb, le_b, n0b, nbx, Fb, Fc, Fn', Ab, rfl⟩ := hq
    show G_listed (some consts_1) l Z n0 x z c0 c1 c2 c3 c4 c5 c6 c7 h0 6 76 [b, x_34] h_41 24 #[.val (.ref x), .val (.ref s_20)] [(.ref x_34)]
    have Ab1 : Ary Z h_41 b .byte [(.int (0 : Int32)), (.int (0 : Int32)), (.int (0 : Int32)), (.int (0 : Int32)), (.int (0 : Int32)), (.int (0 : Int32)), (.int (0 : Int32)), (.int (0 : Int32)), (.int (0 : Int32)), (.int (0 : Int32)), (.int (0 : Int32)), (.int (0 : Int32)), (.int (0 : Int32)), (.int (0 : Int32)), (.int (0 : Int32)), (.int (0 : Int32))] := Ab
    have nb_t : t ≠ b := Nat.ne_of_lt (Nat.lt_of_lt_of_le f_31.lt (Nat.le_trans E_37.1 le_b))
    have nb_b_3 : b_3 ≠ b := Nat.ne_of_lt (Nat.lt_of_lt_of_le f_32.lt (Nat.le_trans E_37.1 le_b))
    have nb_b_21 : b_21 ≠ b := Nat.ne_of_lt (Nat.lt_of_lt_of_le B_29.lt (Nat.le_trans E_37.1 le_b))
    refine Go.aloadN 25 d10_24 rfl rfl rfl ?_
    have X_43 : Ext h_1 h_33 := extT E_23 E_37
    have X_44 : Ext h_1 h_41 := extK X_43 Kb (allS (Nat.le_trans E_23.1 (Nat.le_of_eq g_35)) all0)
    have f_45 := f_15.ext X_44
    have X_46 : Ext h_19 h_41 := extK E_37 Kb (allS (Nat.le_of_eq g_35) all0)
    have f_47 := f_31.ext X_46
    have f_49 := f_13.ext X_44
    have nyx_p_48 : x ≠ x_34 := ne_exa f_49 Eb (by decide)
    have ntx_p_48 : t ≠ x_34 := arr_ne f_47 Eb (w85 hw)
    have nyb_p_48 : x ≠ b := Ne.symm (arr_ne Ab1 f_49 (w13 hw))
    have f_52 := f_14.ext X_44
    refine Go.callV (S := []) (a := x_34) 28 [(.ref x)] d10_25 rfl rfl (w102 hw) (w103 hw) (w105 hw) (w104 hw) (fun _ q => notFace_of_selects (args := #[]) (mvT q (w105 hw))) (by decide) Eb (call_of_go (R := _) (len := 3) (W := 0) (plainFor_of_name pn_3) (fun mid => ef_sbapp0_8_16 mid x_34 x t b z [(.int c0.toInt8.toInt32), (.int c1.toInt8.toInt32), (.int c2.toInt8.toInt32), (.int c3.toInt8.toInt32), (.int c4.toInt8.toInt32), (.int c5.toInt8.toInt32), (.int c6.toInt8.toInt32), (.int c7.toInt8.toInt32)] [(.int (0 : Int32)), (.int (0 : Int32)), (.int (0 : Int32)), (.int (0 : Int32)), (.int (0 : Int32)), (.int (0 : Int32)), (.int (0 : Int32)), (.int (0 : Int32)), (.int (0 : Int32)), (.int (0 : Int32)), (.int (0 : Int32)), (.int (0 : Int32)), (.int (0 : Int32)), (.int (0 : Int32)), (.int (0 : Int32)), (.int (0 : Int32))] ) (c_sbapp0_8_16 hw x_34 x t b z [(.int c0.toInt8.toInt32), (.int c1.toInt8.toInt32), (.int c2.toInt8.toInt32), (.int c3.toInt8.toInt32), (.int c4.toInt8.toInt32), (.int c5.toInt8.toInt32), (.int c6.toInt8.toInt32), (.int c7.toInt8.toInt32)] [(.int (0 : Int32)), (.int (0 : Int32)), (.int (0 : Int32)), (.int (0 : Int32)), (.int (0 : Int32)), (.int (0 : Int32)), (.int (0 : Int32)), (.int (0 : Int32)), (.int (0 : Int32)), (.int (0 : Int32)), (.int (0 : Int32)), (.int (0 : Int32)), (.int (0 : Int32)), (.int (0 : Int32)), (.int (0 : Int32)), (.int (0 : Int32))] Eb q_36 Fb Fc Fn' Ab1 n0b nbx f_49 f_52 f_45 f_47 nb_t nyx_p_48 ntx_p_48 nyb_p_48 rfl rfl SC hz) (w106 hw) (w86 hw) (by decide) (by decide)) (lenOf pd_14 rfl) (Nat.le_of_ble_eq_true rfl) rfl (Nat.le_of_ble_eq_true rfl) (Nat.le_of_ble_eq_true rfl) (allS (List.mem_of_getElem? (i := 1) rfl) (allS (List.mem_of_getElem? (i := 0) rfl) all0)) (fun v h_50 sf_51 hq => ?_)
    obtain ⟨q_p_48, rfl, K_p_48, E_p_48, n0_p_48, nq_p_48, Fb_p_48, Fc_p_48, Fn_p_48, A_p_48, rfl, d_p_48⟩ := hq
    have B_p_48 : Ary Z h_50 q_p_48 .byte [(.int c0.toInt8.toInt32), (.int c1.toInt8.toInt32), (.int c2.toInt8.toInt32), (.int c3.toInt8.toInt32), (.int c4.toInt8.toInt32), (.int c5.toInt8.toInt32), (.int c6.toInt8.toInt32), (.int c7.toInt8.toInt32), (.int (0 : Int32)), (.int (0 : Int32)), (.int (0 : Int32)), (.int (0 : Int32)), (.int (0 : Int32)), (.int (0 : Int32)), (.int (0 : Int32)), (.int (0 : Int32))] := A_p_48
    have le_p_48 : h_19.size ≤ q_p_48 := by rcases d_p_48 with z_ | z_; exact z_ ▸ (Nat.le_trans E_37.1 le_b); exact Nat.le_trans X_46.1 z_
    show G_listed (some consts_1) l Z n0 x z c0 c1 c2 c3 c4 c5 c6 c7 h0 6 76 [q_p_48, b, x_34] h_50 28 #[.val (.ref x), .val (.ref s_20)] [(.ref x_34)]
    have nb_p_48_t : t ≠ q_p_48 := Nat.ne_of_lt (Nat.lt_of_lt_of_le f_31.lt le_p_48)
    have nb_p_48_b_3 : b_3 ≠ q_p_48 := Nat.ne_of_lt (Nat.lt_of_lt_of_le f_32.lt le_p_48)
    have nb_p_48_b_21 : b_21 ≠ q_p_48 := Nat.ne_of_lt (Nat.lt_of_lt_of_le B_29.lt le_p_48)
    refine Go.aloadN 29 d10_28 rfl rfl rfl ?_
    have X_53 : Ext h_19 h_50 := extK X_46 K_p_48 (allS (Nat.le_of_eq g_35) (allS (Nat.le_trans E_37.1 le_b) all0))
    have f_54 := V_26.ext X_53
    have f_55 := B_29.ext X_53
    have f_57 := A_24.ext X_53
    have nyx_p_56 : s_20 ≠ x_34 := ne_exa f_57 E_p_48 (by decide)
    have ntx_p_56 : b_21 ≠ x_34 := arr_ne f_55 E_p_48 (w85 hw)
    have nyb_p_56 : s_20 ≠ q_p_48 := Ne.symm (arr_ne B_p_48 f_57 (w13 hw))
    have f_60 := C_25.ext X_53
    refine Go.callV (S := []) (a := x_34) 32 [(.ref s_20)] d10_29 rfl rfl (w102 hw) (w103 hw) (w105 hw) (w104 hw) (fun _ q => notFace_of_selects (args := #[]) (mvT q (w105 hw))) (by decide) E_p_48 (call_of_go (R := _) (len := 3) (W := 0) (plainFor_of_name pn_3) (fun mid => ef_sbapp8_5_16 mid x_34 s_20 b_21 q_p_48 z [(.int (32 : Int32)), (.int (65 : Int32)), (.int (78 : Int32)), (.int (68 : Int32)), (.int (32 : Int32))] [(.int c0.toInt8.toInt32), (.int c1.toInt8.toInt32), (.int c2.toInt8.toInt32), (.int c3.toInt8.toInt32), (.int c4.toInt8.toInt32), (.int c5.toInt8.toInt32), (.int c6.toInt8.toInt32), (.int c7.toInt8.toInt32), (.int (0 : Int32)), (.int (0 : Int32)), (.int (0 : Int32)), (.int (0 : Int32)), (.int (0 : Int32)), (.int (0 : Int32)), (.int (0 : Int32)), (.int (0 : Int32))] ) (c_sbapp8_5_16 hw x_34 s_20 b_21 q_p_48 z [(.int (32 : Int32)), (.int (65 : Int32)), (.int (78 : Int32)), (.int (68 : Int32)), (.int (32 : Int32))] [(.int c0.toInt8.toInt32), (.int c1.toInt8.toInt32), (.int c2.toInt8.toInt32), (.int c3.toInt8.toInt32), (.int c4.toInt8.toInt32), (.int c5.toInt8.toInt32), (.int c6.toInt8.toInt32), (.int c7.toInt8.toInt32), (.int (0 : Int32)), (.int (0 : Int32)), (.int (0 : Int32)), (.int (0 : Int32)), (.int (0 : Int32)), (.int (0 : Int32)), (.int (0 : Int32)), (.int (0 : Int32))] E_p_48 q_36 Fb_p_48 Fc_p_48 Fn_p_48 B_p_48 n0_p_48 nq_p_48 f_57 f_60 f_54 f_55 nb_p_48_b_21 nyx_p_56 ntx_p_56 nyb_p_56 rfl rfl SC hz) (w106 hw) (w86 hw) (by decide) (by decide)) (lenOf pd_14 rfl) (Nat.le_of_ble_eq_true rfl) rfl (Nat.le_of_ble_eq_true rfl) (Nat.le_of_ble_eq_true rfl) (allS (List.mem_of_getElem? (i := 2) rfl) (allS (List.mem_of_getElem? (i := 0) rfl) all0)) (fun v h_58 sf_59 hq => ?_)
    obtain ⟨q_p_56, rfl, K_p_56, E_p_56, n0_p_56, nq_p_56, Fb_p_56, Fc_p_56, Fn_p_56, A_p_56, rfl, d_p_56⟩ := hq
    have B_p_56 : Ary Z h_58 q_p_56 .byte [(.int c0.toInt8.toInt32), (.int c1.toInt8.toInt32), (.int c2.toInt8.toInt32), (.int c3.toInt8.toInt32), (.int c4.toInt8.toInt32), (.int c5.toInt8.toInt32), (.int c6.toInt8.toInt32), (.int c7.toInt8.toInt32), (.int (32 : Int32)), (.int (65 : Int32)), (.int (78 : Int32)), (.int (68 : Int32)), (.int (32 : Int32)), (.int (0 : Int32)), (.int (0 : Int32)), (.int (0 : Int32))] := A_p_56
    have le_p_56 : h_19.size ≤ q_p_56 := by rcases d_p_56 with z_ | z_; exact z_ ▸ le_p_48; exact Nat.le_trans X_53.1 z_
    show G_listed (some consts_1) l Z n0 x z c0 c1 c2 c3 c4 c5 c6 c7 h0 6 76 [q_p_56, q_p_48, b, x_34] h_58 32 #[.val (.ref x), .val (.ref s_20)] [(.ref x_34)]
    have nb_p_56_t : t ≠ q_p_56 := Nat.ne_of_lt (Nat.lt_of_lt_of_le f_31.lt le_p_56)
    have nb_p_56_b_3 : b_3 ≠ q_p_56 := Nat.ne_of_lt (Nat.lt_of_lt_of_le f_32.lt le_p_56)
    have nb_p_56_b_21 : b_21 ≠ q_p_56 := Nat.ne_of_lt (Nat.lt_of_lt_of_le B_29.lt le_p_56)
    refine Go.ldcL (vs := [(.int (108 : Int32)), (.int (105 : Int32)), (.int (115 : Int32)), (.int (116 : Int32)), (.int (101 : Int32)), (.int (100 : Int32))]) (z := (6 : Int32)) 24 34 d10_32 rfl (w144 hw) (wS hw) (List.mem_of_getElem? (i := 2) rfl) ⟨by decide, rfl⟩ (by decide) (by decide) (by decide) (by decide) (Nat.le_of_ble_eq_true rfl) (Nat.le_of_ble_eq_true rfl) (fun h_61 s_62 b_63 k_64 E_65 A_66 C_67 V_68 B_69 ne_70 => ?_)
    have B_71 : Ary Z h_61 b_63 .byte [(.int (108 : Int32)), (.int (105 : Int32)), (.int (115 : Int32)), (.int (116 : Int32)), (.int (101 : Int32)), (.int (100 : Int32))] := Ary.ofArv B_69 rfl (by decide)
    have S_72 : Str Z h_61 s_62 [(108 : Int32), (105 : Int32), (115 : Int32), (116 : Int32), (101 : Int32), (100 : Int32)] := ⟨_, A_66, C_67, V_68, B_71, by unfold Lat; decide⟩
    show G_listed (some consts_1) l Z n0 x z c0 c1 c2 c3 c4 c5 c6 c7 h0 8 104 [q_p_56, q_p_48, b, x_34] h_61 34 #[.val (.ref x), .val (.ref s_20)] [(.ref s_62), (.ref x_34)]
    have f_73 := B_p_56.ext E_65
    have f_75 := E_p_56.ext E_65
    have X_76 : Ext h_19 h_58 := extK X_53 K_p_56 (allS (Nat.le_of_eq g_35) (allS le_p_48 all0))
    have X_77 : Ext h_19 h_61 := extT X_76 E_65
    have nyx_p_74 : s_62 ≠ x_34 := ne_exa A_66 f_75 (by decide)
    have ntx_p_74 : b_63 ≠ x_34 := arr_ne B_71 f_75 (w85 hw)
    have nyb_p_74 : s_62 ≠ q_p_56 := Ne.symm (arr_ne f_73 A_66 (w13 hw))
    have f_80 := Fb_p_56.ext E_65
    have f_81 := Fc_p_56.ext E_65
    have f_82 := Fn_p_56.ext E_65
    refine Go.callV (S := []) (a := x_34) 37 [(.ref s_62)] d10_34 rfl rfl (w102 hw) (w103 hw) (w105 hw) (w104 hw) (fun _ q => notFace_of_selects (args := #[]) (mvT q (w105 hw))) (by decide) f_75 (call_of_go (R := _) (len := 3) (W := 0) (plainFor_of_name pn_3) (fun mid => ef_sbapp13_6_16 mid x_34 s_62 b_63 q_p_56 z [(.int (108 : Int32)), (.int (105 : Int32)), (.int (115 : Int32)), (.int (116 : Int32)), (.int (101 : Int32)), (.int (100 : Int32))] [(.int c0.toInt8.toInt32), (.int c1.toInt8.toInt32), (.int c2.toInt8.toInt32), (.int c3.toInt8.toInt32), (.int c4.toInt8.toInt32), (.int c5.toInt8.toInt32), (.int c6.toInt8.toInt32), (.int c7.toInt8.toInt32), (.int (32 : Int32)), (.int (65 : Int32)), (.int (78 : Int32)), (.int (68 : Int32)), (.int (32 : Int32)), (.int (0 : Int32)), (.int (0 : Int32)), (.int (0 : Int32))] ) (c_sbapp13_6_16 hw x_34 s_62 b_63 q_p_56 z [(.int (108 : Int32)), (.int (105 : Int32)), (.int (115 : Int32)), (.int (116 : Int32)), (.int (101 : Int32)), (.int (100 : Int32))] [(.int c0.toInt8.toInt32), (.int c1.toInt8.toInt32), (.int c2.toInt8.toInt32), (.int c3.toInt8.toInt32), (.int c4.toInt8.toInt32), (.int c5.toInt8.toInt32), (.int c6.toInt8.toInt32), (.int c7.toInt8.toInt32), (.int (32 : Int32)), (.int (65 : Int32)), (.int (78 : Int32)), (.int (68 : Int32)), (.int (32 : Int32)), (.int (0 : Int32)), (.int (0 : Int32)), (.int (0 : Int32))] f_75 q_36 f_80 f_81 f_82 f_73 n0_p_56 nq_p_56 A_66 C_67 V_68 B_71 (Ne.symm (ne_70 q_p_56 (List.mem_of_getElem? (i := 0) rfl)).2) nyx_p_74 ntx_p_74 nyb_p_74 rfl rfl SC hz) (w106 hw) (w86 hw) (by decide) (by decide)) (lenOf pd_14 rfl) (Nat.le_of_ble_eq_true rfl) rfl (Nat.le_of_ble_eq_true rfl) (Nat.le_of_ble_eq_true rfl) (allS (List.mem_of_getElem? (i := 3) rfl) (allS (List.mem_of_getElem? (i := 0) rfl) all0)) (fun v h_78 sf_79 hq => ?_)
    obtain ⟨q_p_74, rfl, K_p_74, E_p_74, n0_p_74, nq_p_74, Fb_p_74, Fc_p_74, Fn_p_74, A_p_74, rfl, d_p_74⟩ := hq
    have B_p_74 : Ary Z h_78 q_p_74 .byte [(.int c0.toInt8.toInt32), (.int c1.toInt8.toInt32), (.int c2.toInt8.toInt32), (.int c3.toInt8.toInt32), (.int c4.toInt8.toInt32), (.int c5.toInt8.toInt32), (.int c6.toInt8.toInt32), (.int c7.toInt8.toInt32), (.int (32 : Int32)), (.int (65 : Int32)), (.int (78 : Int32)), (.int (68 : Int32)), (.int (32 : Int32)), (.int (108 : Int32)), (.int (105 : Int32)), (.int (115 : Int32)), (.int (116 : Int32)), (.int (101 : Int32)), (.int (100 : Int32)), (.int (0 : Int32)), (.int (0 : Int32)), (.int (0 : Int32)), (.int (0 : Int32)), (.int (0 : Int32)), (.int (0 : Int32)), (.int (0 : Int32)), (.int (0 : Int32)), (.int (0 : Int32)), (.int (0 : Int32)), (.int (0 : Int32)), (.int (0 : Int32)), (.int (0 : Int32)), (.int (0 : Int32)), (.int (0 : Int32))] := A_p_74
    have le_p_74 : h_19.size ≤ q_p_74 := by rcases d_p_74 with z_ | z_; exact z_ ▸ le_p_56; exact Nat.le_trans X_77.1 z_
    show G_listed (some consts_1) l Z n0 x z c0 c1 c2 c3 c4 c5 c6 c7 h0 9 138 [q_p_74, q_p_56, q_p_48, b, x_34] h_78 37 #[.val (.ref x), .val (.ref s_20)] [(.ref x_34)]
    have nb_p_74_t : t ≠ q_p_74 := Nat.ne_of_lt (Nat.lt_of_lt_of_le f_31.lt le_p_74)
    have nb_p_74_b_3 : b_3 ≠ q_p_74 := Nat.ne_of_lt (Nat.lt_of_lt_of_le f_32.lt le_p_74)
    have nb_p_74_b_21 : b_21 ≠ q_p_74 := Nat.ne_of_lt (Nat.lt_of_lt_of_le B_29.lt le_p_74)
    refine Go.callV (S := []) (a := x_34) 40 [] d10_37 rfl rfl (w168 hw) (w169 hw) (w171 hw) (w170 hw) (fun _ q => notFace_of_selects (args := #[]) (mvT q (w171 hw))) (by decide) E_p_74 (call_of_go (R := _) (len := 3) (W := 0) (plainFor_of_name pn_3) (fun mid => ef_sbts19 mid x_34 q_p_74 z [(.int c0.toInt8.toInt32), (.int c1.toInt8.toInt32), (.int c2.toInt8.toInt32), (.int c3.toInt8.toInt32), (.int c4.toInt8.toInt32), (.int c5.toInt8.toInt32), (.int c6.toInt8.toInt32), (.int c7.toInt8.toInt32), (.int (32 : Int32)), (.int (65 : Int32)), (.int (78 : Int32)), (.int (68 : Int32)), (.int (32 : Int32)), (.int (108 : Int32)), (.int (105 : Int32)), (.int (115 : Int32)), (.int (116 : Int32)), (.int (101 : Int32)), (.int (100 : Int32)), (.int (0 : Int32)), (.int (0 : Int32)), (.int (0 : Int32)), (.int (0 : Int32)), (.int (0 : Int32)), (.int (0 : Int32)), (.int (0 : Int32)), (.int (0 : Int32)), (.int (0 : Int32)), (.int (0 : Int32)), (.int (0 : Int32)), (.int (0 : Int32)), (.int (0 : Int32)), (.int (0 : Int32)), (.int (0 : Int32))] [c0, c1, c2, c3, c4, c5, c6, c7, (32 : Int32), (65 : Int32), (78 : Int32), (68 : Int32), (32 : Int32), (108 : Int32), (105 : Int32), (115 : Int32), (116 : Int32), (101 : Int32), (100 : Int32)] ) (c_sbts19 hw x_34 q_p_74 z [(.int c0.toInt8.toInt32), (.int c1.toInt8.toInt32), (.int c2.toInt8.toInt32), (.int c3.toInt8.toInt32), (.int c4.toInt8.toInt32), (.int c5.toInt8.toInt32), (.int c6.toInt8.toInt32), (.int c7.toInt8.toInt32), (.int (32 : Int32)), (.int (65 : Int32)), (.int (78 : Int32)), (.int (68 : Int32)), (.int (32 : Int32)), (.int (108 : Int32)), (.int (105 : Int32)), (.int (115 : Int32)), (.int (116 : Int32)), (.int (101 : Int32)), (.int (100 : Int32)), (.int (0 : Int32)), (.int (0 : Int32)), (.int (0 : Int32)), (.int (0 : Int32)), (.int (0 : Int32)), (.int (0 : Int32)), (.int (0 : Int32)), (.int (0 : Int32)), (.int (0 : Int32)), (.int (0 : Int32)), (.int (0 : Int32)), (.int (0 : Int32)), (.int (0 : Int32)), (.int (0 : Int32)), (.int (0 : Int32))] [c0, c1, c2, c3, c4, c5, c6, c7, (32 : Int32), (65 : Int32), (78 : Int32), (68 : Int32), (32 : Int32), (108 : Int32), (105 : Int32), (115 : Int32), (116 : Int32), (101 : Int32), (100 : Int32)] E_p_74 Fb_p_74 Fc_p_74 Fn_p_74 B_p_74 nq_p_74 rfl rfl (latC b_c0 (latC b_c1 (latC b_c2 (latC b_c3 (latC b_c4 (latC b_c5 (latC b_c6 (latC b_c7 (latC (by decide) (latC (by decide) (latC (by decide) (latC (by decide) (latC (by decide) (latC (by decide) (latC (by decide) (latC (by decide) (latC (by decide) (latC (by decide) (latC (by decide) latN))))))))))))))))))) SC hz) (w172 hw) (w86 hw) (by decide) (by decide)) (lenOf pd_5 rfl) (Nat.le_of_ble_eq_true rfl) rfl (Nat.le_of_ble_eq_true rfl) (Nat.le_of_ble_eq_true rfl) (fun _ q => nomatch q) (fun v h_83 sf_88 hq => ?_)
    obtain ⟨x_84, rfl, E_85, le_86, S_87⟩ := hq
    refine Go.more (sf' := [q_p_74, q_p_56, q_p_48, b, x_34]) ?_ (Nat.le_refl _) (Nat.le_refl _) (fun _ q => List.mem_append_right _ q)
    show G_listed (some consts_1) l Z n0 x z c0 c1 c2 c3 c4 c5 c6 c7 h0 11 161 [q_p_74, q_p_56, q_p_48, b, x_34] h_83 40 #[.val (.ref x), .val (.ref s_20)] [(.ref x_84)]
    have X_89 : Ext h0 h_19 := extT E_5 E_23
    have X_90 : Ext h0 h_33 := extT X_89 E_37
    have X_91 : Ext h0 h_41 := extK X_90 Kb (allS (Nat.le_trans X_89.1 (Nat.le_of_eq g_35)) all0)
    have X_92 : Ext h0 h_50 := extK X_91 K_p_48 (allS (Nat.le_trans X_89.1 (Nat.le_of_eq g_35)) (allS (Nat.le_trans X_90.1 le_b) all0))
    have X_93 : Ext h0 h_58 := extK X_92 K_p_56 (allS (Nat.le_trans X_89.1 (Nat.le_of_eq g_35)) (allS (Nat.le_trans X_89.1 le_p_48) all0))
    have X_94 : Ext h0 h_61 := extT X_93 E_65
    have X_95 : Ext h0 h_78 := extK X_94 K_p_74 (allS (Nat.le_trans X_89.1 (Nat.le_of_eq g_35)) (allS (Nat.le_trans X_89.1 le_p_56) all0))
    have X_96 : Ext h0 h_83 := extT X_95 E_85
    exact Go.retA d10_40 rfl rfl rfl (sf' := []) (⟨_, rfl, X_96, Or.inl ⟨hw0, S_87⟩⟩) (fun _ q => nomatch q) (Nat.le_of_ble_eq_true rfl) (Nat.le_of_ble_eq_true rfl)
  · skip
    rw [wb_lo b_c0 b_c1 b_c2 b_c3 b_c4 b_c5 b_c6 b_c7] at hw0
    refine Go.more (sf' := []) ?_ (Nat.le_refl _) (Nat.le_refl _) (fun _ q => List.mem_append_right _ q)
    show G_listed (some consts_1) l Z n0 x z c0 c1 c2 c3 c4 c5 c6 c7 h0 2 32 [] h_1 6 #[.val (.ref x), .unset] [(.int (0 : Int32))]
    refine Go.ifY 14 d10_6 (by decide) (by decide) (teq (by decide)).1 ?_
    refine Go.ldcL (vs := [(.int (32 : Int32)), (.int (87 : Int32)), (.int (72 : Int32)), (.int (69 : Int32)), (.int (82 : Int32)), (.int (69 : Int32)), (.int (32 : Int32))]) (z := (7 : Int32)) 28 16 d10_14 rfl (w45 hw) (wS hw) (List.mem_of_getElem? (i := 0) rfl) ⟨by decide, rfl⟩ (by decide) (by decide) (by decide) (by decide) (Nat.le_of_ble_eq_true rfl) (Nat.le_of_ble_eq_true rfl) (fun h_97 s_98 b_99 k_100 E_101 A_102 C_103 V_104 B_105 ne_106 => ?_)
    have B_107 : Ary Z h_97 b_99 .byte [(.int (32 : Int32)), (.int (87 : Int32)), (.int (72 : Int32)), (.int (69 : Int32)), (.int (82 : Int32)), (.int (69 : Int32)), (.int (32 : Int32))] := Ary.ofArv B_105 rfl (by decide)
    have S_108 : Str Z h_97 s_98 [(32 : Int32), (87 : Int32), (72 : Int32), (69 : Int32), (82 : Int32), (69 : Int32), (32 : Int32)] := ⟨_, A_102, C_103, V_104, B_107, by unfold Lat; decide⟩
    show G_listed (some consts_1) l Z n0 x z c0 c1 c2 c3 c4 c5 c6 c7 h0 4 64 [] h_97 16 #[.val (.ref x), .unset] [(.ref s_98)]
    refine Go.astoreN 17 #[.val (.ref x), .val (.ref s_98)] d10_16 rfl rfl rfl ?_
    have f_109 := f_16.ext E_101
    have f_110 := B_11.ext E_101
    refine Go.new 20 d10_17 rfl (w84 hw) (w85 hw) (w86 hw) (Nat.le_of_ble_eq_true rfl) (Nat.le_of_ble_eq_true rfl) (fun h_111 x_112 g_113 q_114 E_115 lt_116 A_117 D_118 => ?_)
    show G_listed (some consts_1) l Z n0 x z c0 c1 c2 c3 c4 c5 c6 c7 h0 5 68 [x_112] h_111 20 #[.val (.ref x), .val (.ref s_98)] [(.ref x_112)]
    refine Go.dup 21 d10_20 rfl rfl ?_
    refine Go.callC (S := [(.ref x_112)]) (a := x_112) 24 [] d10_21 rfl rfl rfl (w87 hw) (w88 hw) (w89 hw) (by decide) (call_of_go (R := _) (len := 3) (W := 1) (plainFor_of_name pn_3) (fun mid => ef_sbinit mid x_112 z ) (c_sbinit hw x_112 z A_117 q_114 (D_118 (Or.inl (w99 hw)) (ty := (.array .byte)) (by decide)) (D_118 (Or.inl (w118 hw)) (ty := .int) (by decide)) SC hz) (w89 hw) (w86 hw) (by decide) (by decide)) (lenOf pd_8 rfl) (Nat.le_of_ble_eq_true rfl) rfl (Nat.le_of_ble_eq_true rfl) (Nat.le_of_ble_eq_true rfl) (fun _ q => q) (fun v h_119 sf_120 hq => ?_)
    obtain ⟨b, rfl, Kb, Eb, le_b, n0b, nbx, Fb, Fc, Fn', Ab, rfl⟩ := hq
    show G_listed (some consts_1) l Z n0 x z c0 c1 c2 c3 c4 c5 c6 c7 h0 6 84 [b, x_112] h_119 24 #[.val (.ref x), .val (.ref s_98)] [(.ref x_112)]
    have Ab1 : Ary Z h_119 b .byte [(.int (0 : Int32)), (.int (0 : Int32)), (.int (0 : Int32)), (.int (0 : Int32)), (.int (0 : Int32)), (.int (0 : Int32)), (.int (0 : Int32)), (.int (0 : Int32)), (.int (0 : Int32)), (.int (0 : Int32)), (.int (0 : Int32)), (.int (0 : Int32)), (.int (0 : Int32)), (.int (0 : Int32)), (.int (0 : Int32)), (.int (0 : Int32))] := Ab
    have nb_t : t ≠ b := Nat.ne_of_lt (Nat.lt_of_lt_of_le f_109.lt (Nat.le_trans E_115.1 le_b))
    have nb_b_3 : b_3 ≠ b := Nat.ne_of_lt (Nat.lt_of_lt_of_le f_110.lt (Nat.le_trans E_115.1 le_b))
    have nb_b_99 : b_99 ≠ b := Nat.ne_of_lt (Nat.lt_of_lt_of_le B_107.lt (Nat.le_trans E_115.1 le_b))
    refine Go.aloadN 25 d10_24 rfl rfl rfl ?_
    have X_121 : Ext h_1 h_111 := extT E_101 E_115
    have X_122 : Ext h_1 h_119 := extK X_121 Kb (allS (Nat.le_trans E_101.1 (Nat.le_of_eq g_113)) all0)
    have f_123 := f_15.ext X_122
    have X_124 : Ext h_97 h_119 := extK E_115 Kb (allS (Nat.le_of_eq g_113) all0)
    have f_125 := f_109.ext X_124
    have f_127 := f_13.ext X_122
    have nyx_p_126 : x ≠ x_112 := ne_exa f_127 Eb (by decide)
    have ntx_p_126 : t ≠ x_112 := arr_ne f_125 Eb (w85 hw)
    have nyb_p_126 : x ≠ b := Ne.symm (arr_ne Ab1 f_127 (w13 hw))
    have f_130 := f_14.ext X_122
    refine Go.callV (S := []) (a := x_112) 28 [(.ref x)] d10_25 rfl rfl (w102 hw) (w103 hw) (w105 hw) (w104 hw) (fun _ q => notFace_of_selects (args := #[]) (mvT q (w105 hw))) (by decide) Eb (call_of_go (R := _) (len := 3) (W := 0) (plainFor_of_name pn_3) (fun mid => ef_sbapp0_8_16 mid x_112 x t b z [(.int c0.toInt8.toInt32), (.int c1.toInt8.toInt32), (.int c2.toInt8.toInt32), (.int c3.toInt8.toInt32), (.int c4.toInt8.toInt32), (.int c5.toInt8.toInt32), (.int c6.toInt8.toInt32), (.int c7.toInt8.toInt32)] [(.int (0 : Int32)), (.int (0 : Int32)), (.int (0 : Int32)), (.int (0 : Int32)), (.int (0 : Int32)), (.int (0 : Int32)), (.int (0 : Int32)), (.int (0 : Int32)), (.int (0 : Int32)), (.int (0 : Int32)), (.int (0 : Int32)), (.int (0 : Int32)), (.int (0 : Int32)), (.int (0 : Int32)), (.int (0 : Int32)), (.int (0 : Int32))] ) (c_sbapp0_8_16 hw x_112 x t b z [(.int c0.toInt8.toInt32), (.int c1.toInt8.toInt32), (.int c2.toInt8.toInt32), (.int c3.toInt8.toInt32), (.int c4.toInt8.toInt32), (.int c5.toInt8.toInt32), (.int c6.toInt8.toInt32), (.int c7.toInt8.toInt32)] [(.int (0 : Int32)), (.int (0 : Int32)), (.int (0 : Int32)), (.int (0 : Int32)), (.int (0 : Int32)), (.int (0 : Int32)), (.int (0 : Int32)), (.int (0 : Int32)), (.int (0 : Int32)), (.int (0 : Int32)), (.int (0 : Int32)), (.int (0 : Int32)), (.int (0 : Int32)), (.int (0 : Int32)), (.int (0 : Int32)), (.int (0 : Int32))] Eb q_114 Fb Fc Fn' Ab1 n0b nbx f_127 f_130 f_123 f_125 nb_t nyx_p_126 ntx_p_126 nyb_p_126 rfl rfl SC hz) (w106 hw) (w86 hw) (by decide) (by decide)) (lenOf pd_14 rfl) (Nat.le_of_ble_eq_true rfl) rfl (Nat.le_of_ble_eq_true rfl) (Nat.le_of_ble_eq_true rfl) (allS (List.mem_of_getElem? (i := 1) rfl) (allS (List.mem_of_getElem? (i := 0) rfl) all0)) (fun v h_128 sf_129 hq => ?_)
    obtain ⟨q_p_126, rfl, K_p_126, E_p_126, n0_p_126, nq_p_126, Fb_p_126, Fc_p_126, Fn_p_126, A_p_126, rfl, d_p_126⟩ := hq
    have B_p_126 : Ary Z h_128 q_p_126 .byte [(.int c0.toInt8.toInt32), (.int c1.toInt8.toInt32), (.int c2.toInt8.toInt32), (.int c3.toInt8.toInt32), (.int c4.toInt8.toInt32), (.int c5.toInt8.toInt32), (.int c6.toInt8.toInt32), (.int c7.toInt8.toInt32), (.int (0 : Int32)), (.int (0 : Int32)), (.int (0 : Int32)), (.int (0 : Int32)), (.int (0 : Int32)), (.int (0 : Int32)), (.int (0 : Int32)), (.int (0 : Int32))] := A_p_126
    have le_p_126 : h_97.size ≤ q_p_126 := by rcases d_p_126 with z_ | z_; exact z_ ▸ (Nat.le_trans E_115.1 le_b); exact Nat.le_trans X_124.1 z_
    show G_listed (some consts_1) l Z n0 x z c0 c1 c2 c3 c4 c5 c6 c7 h0 6 84 [q_p_126, b, x_112] h_128 28 #[.val (.ref x), .val (.ref s_98)] [(.ref x_112)]
    have nb_p_126_t : t ≠ q_p_126 := Nat.ne_of_lt (Nat.lt_of_lt_of_le f_109.lt le_p_126)
    have nb_p_126_b_3 : b_3 ≠ q_p_126 := Nat.ne_of_lt (Nat.lt_of_lt_of_le f_110.lt le_p_126)
    have nb_p_126_b_99 : b_99 ≠ q_p_126 := Nat.ne_of_lt (Nat.lt_of_lt_of_le B_107.lt le_p_126)
    refine Go.aloadN 29 d10_28 rfl rfl rfl ?_
    have X_131 : Ext h_97 h_128 := extK X_124 K_p_126 (allS (Nat.le_of_eq g_113) (allS (Nat.le_trans E_115.1 le_b) all0))
    have f_132 := V_104.ext X_131
    have f_133 := B_107.ext X_131
    have f_135 := A_102.ext X_131
    have nyx_p_134 : s_98 ≠ x_112 := ne_exa f_135 E_p_126 (by decide)
    have ntx_p_134 : b_99 ≠ x_112 := arr_ne f_133 E_p_126 (w85 hw)
    have nyb_p_134 : s_98 ≠ q_p_126 := Ne.symm (arr_ne B_p_126 f_135 (w13 hw))
    have f_138 := C_103.ext X_131
    refine Go.callV (S := []) (a := x_112) 32 [(.ref s_98)] d10_29 rfl rfl (w102 hw) (w103 hw) (w105 hw) (w104 hw) (fun _ q => notFace_of_selects (args := #[]) (mvT q (w105 hw))) (by decide) E_p_126 (call_of_go (R := _) (len := 3) (W := 0) (plainFor_of_name pn_3) (fun mid => ef_sbapp8_7_16 mid x_112 s_98 b_99 q_p_126 z [(.int (32 : Int32)), (.int (87 : Int32)), (.int (72 : Int32)), (.int (69 : Int32)), (.int (82 : Int32)), (.int (69 : Int32)), (.int (32 : Int32))] [(.int c0.toInt8.toInt32), (.int c1.toInt8.toInt32), (.int c2.toInt8.toInt32), (.int c3.toInt8.toInt32), (.int c4.toInt8.toInt32), (.int c5.toInt8.toInt32), (.int c6.toInt8.toInt32), (.int c7.toInt8.toInt32), (.int (0 : Int32)), (.int (0 : Int32)), (.int (0 : Int32)), (.int (0 : Int32)), (.int (0 : Int32)), (.int (0 : Int32)), (.int (0 : Int32)), (.int (0 : Int32))] ) (c_sbapp8_7_16 hw x_112 s_98 b_99 q_p_126 z [(.int (32 : Int32)), (.int (87 : Int32)), (.int (72 : Int32)), (.int (69 : Int32)), (.int (82 : Int32)), (.int (69 : Int32)), (.int (32 : Int32))] [(.int c0.toInt8.toInt32), (.int c1.toInt8.toInt32), (.int c2.toInt8.toInt32), (.int c3.toInt8.toInt32), (.int c4.toInt8.toInt32), (.int c5.toInt8.toInt32), (.int c6.toInt8.toInt32), (.int c7.toInt8.toInt32), (.int (0 : Int32)), (.int (0 : Int32)), (.int (0 : Int32)), (.int (0 : Int32)), (.int (0 : Int32)), (.int (0 : Int32)), (.int (0 : Int32)), (.int (0 : Int32))] E_p_126 q_114 Fb_p_126 Fc_p_126 Fn_p_126 B_p_126 n0_p_126 nq_p_126 f_135 f_138 f_132 f_133 nb_p_126_b_99 nyx_p_134 ntx_p_134 nyb_p_134 rfl rfl SC hz) (w106 hw) (w86 hw) (by decide) (by decide)) (lenOf pd_14 rfl) (Nat.le_of_ble_eq_true rfl) rfl (Nat.le_of_ble_eq_true rfl) (Nat.le_of_ble_eq_true rfl) (allS (List.mem_of_getElem? (i := 2) rfl) (allS (List.mem_of_getElem? (i := 0) rfl) all0)) (fun v h_136 sf_137 hq => ?_)
    obtain ⟨q_p_134, rfl, K_p_134, E_p_134, n0_p_134, nq_p_134, Fb_p_134, Fc_p_134, Fn_p_134, A_p_134, rfl, d_p_134⟩ := hq
    have B_p_134 : Ary Z h_136 q_p_134 .byte [(.int c0.toInt8.toInt32), (.int c1.toInt8.toInt32), (.int c2.toInt8.toInt32), (.int c3.toInt8.toInt32), (.int c4.toInt8.toInt32), (.int c5.toInt8.toInt32), (.int c6.toInt8.toInt32), (.int c7.toInt8.toInt32), (.int (32 : Int32)), (.int (87 : Int32)), (.int (72 : Int32)), (.int (69 : Int32)), (.int (82 : Int32)), (.int (69 : Int32)), (.int (32 : Int32)), (.int (0 : Int32))] := A_p_134
    have le_p_134 : h_97.size ≤ q_p_134 := by rcases d_p_134 with z_ | z_; exact z_ ▸ le_p_126; exact Nat.le_trans X_131.1 z_
    show G_listed (some consts_1) l Z n0 x z c0 c1 c2 c3 c4 c5 c6 c7 h0 6 84 [q_p_134, q_p_126, b, x_112] h_136 32 #[.val (.ref x), .val (.ref s_98)] [(.ref x_112)]
    have nb_p_134_t : t ≠ q_p_134 := Nat.ne_of_lt (Nat.lt_of_lt_of_le f_109.lt le_p_134)
    have nb_p_134_b_3 : b_3 ≠ q_p_134 := Nat.ne_of_lt (Nat.lt_of_lt_of_le f_110.lt le_p_134)
    have nb_p_134_b_99 : b_99 ≠ q_p_134 := Nat.ne_of_lt (Nat.lt_of_lt_of_le B_107.lt le_p_134)
    refine Go.ldcL (vs := [(.int (108 : Int32)), (.int (105 : Int32)), (.int (115 : Int32)), (.int (116 : Int32)), (.int (101 : Int32)), (.int (100 : Int32))]) (z := (6 : Int32)) 24 34 d10_32 rfl (w144 hw) (wS hw) (List.mem_of_getElem? (i := 2) rfl) ⟨by decide, rfl⟩ (by decide) (by decide) (by decide) (by decide) (Nat.le_of_ble_eq_true rfl) (Nat.le_of_ble_eq_true rfl) (fun h_139 s_140 b_141 k_142 E_143 A_144 C_145 V_146 B_147 ne_148 => ?_)
    have B_149 : Ary Z h_139 b_141 .byte [(.int (108 : Int32)), (.int (105 : Int32)), (.int (115 : Int32)), (.int (116 : Int32)), (.int (101 : Int32)), (.int (100 : Int32))] := Ary.ofArv B_147 rfl (by decide)
    have S_150 : Str Z h_139 s_140 [(108 : Int32), (105 : Int32), (115 : Int32), (116 : Int32), (101 : Int32), (100 : Int32)] := ⟨_, A_144, C_145, V_146, B_149, by unfold Lat; decide⟩
    show G_listed (some consts_1) l Z n0 x z c0 c1 c2 c3 c4 c5 c6 c7 h0 8 112 [q_p_134, q_p_126, b, x_112] h_139 34 #[.val (.ref x), .val (.ref s_98)] [(.ref s_140), (.ref x_112)]
    have f_151 := B_p_134.ext E_143
    have f_153 := E_p_134.ext E_143
    have X_154 : Ext h_97 h_136 := extK X_131 K_p_134 (allS (Nat.le_of_eq g_113) (allS le_p_126 all0))
    have X_155 : Ext h_97 h_139 := extT X_154 E_143
    have nyx_p_152 : s_140 ≠ x_112 := ne_exa A_144 f_153 (by decide)
    have ntx_p_152 : b_141 ≠ x_112 := arr_ne B_149 f_153 (w85 hw)
    have nyb_p_152 : s_140 ≠ q_p_134 := Ne.symm (arr_ne f_151 A_144 (w13 hw))
    have f_158 := Fb_p_134.ext E_143
    have f_159 := Fc_p_134.ext E_143
    have f_160 := Fn_p_134.ext E_143
    refine Go.callV (S := []) (a := x_112) 37 [(.ref s_140)] d10_34 rfl rfl (w102 hw) (w103 hw) (w105 hw) (w104 hw) (fun _ q => notFace_of_selects (args := #[]) (mvT q (w105 hw))) (by decide) f_153 (call_of_go (R := _) (len := 3) (W := 0) (plainFor_of_name pn_3) (fun mid => ef_sbapp15_6_16 mid x_112 s_140 b_141 q_p_134 z [(.int (108 : Int32)), (.int (105 : Int32)), (.int (115 : Int32)), (.int (116 : Int32)), (.int (101 : Int32)), (.int (100 : Int32))] [(.int c0.toInt8.toInt32), (.int c1.toInt8.toInt32), (.int c2.toInt8.toInt32), (.int c3.toInt8.toInt32), (.int c4.toInt8.toInt32), (.int c5.toInt8.toInt32), (.int c6.toInt8.toInt32), (.int c7.toInt8.toInt32), (.int (32 : Int32)), (.int (87 : Int32)), (.int (72 : Int32)), (.int (69 : Int32)), (.int (82 : Int32)), (.int (69 : Int32)), (.int (32 : Int32)), (.int (0 : Int32))] ) (c_sbapp15_6_16 hw x_112 s_140 b_141 q_p_134 z [(.int (108 : Int32)), (.int (105 : Int32)), (.int (115 : Int32)), (.int (116 : Int32)), (.int (101 : Int32)), (.int (100 : Int32))] [(.int c0.toInt8.toInt32), (.int c1.toInt8.toInt32), (.int c2.toInt8.toInt32), (.int c3.toInt8.toInt32), (.int c4.toInt8.toInt32), (.int c5.toInt8.toInt32), (.int c6.toInt8.toInt32), (.int c7.toInt8.toInt32), (.int (32 : Int32)), (.int (87 : Int32)), (.int (72 : Int32)), (.int (69 : Int32)), (.int (82 : Int32)), (.int (69 : Int32)), (.int (32 : Int32)), (.int (0 : Int32))] f_153 q_114 f_158 f_159 f_160 f_151 n0_p_134 nq_p_134 A_144 C_145 V_146 B_149 (Ne.symm (ne_148 q_p_134 (List.mem_of_getElem? (i := 0) rfl)).2) nyx_p_152 ntx_p_152 nyb_p_152 rfl rfl SC hz) (w106 hw) (w86 hw) (by decide) (by decide)) (lenOf pd_14 rfl) (Nat.le_of_ble_eq_true rfl) rfl (Nat.le_of_ble_eq_true rfl) (Nat.le_of_ble_eq_true rfl) (allS (List.mem_of_getElem? (i := 3) rfl) (allS (List.mem_of_getElem? (i := 0) rfl) all0)) (fun v h_156 sf_157 hq => ?_)
    obtain ⟨q_p_152, rfl, K_p_152, E_p_152, n0_p_152, nq_p_152, Fb_p_152, Fc_p_152, Fn_p_152, A_p_152, rfl, d_p_152⟩ := hq
    have B_p_152 : Ary Z h_156 q_p_152 .byte [(.int c0.toInt8.toInt32), (.int c1.toInt8.toInt32), (.int c2.toInt8.toInt32), (.int c3.toInt8.toInt32), (.int c4.toInt8.toInt32), (.int c5.toInt8.toInt32), (.int c6.toInt8.toInt32), (.int c7.toInt8.toInt32), (.int (32 : Int32)), (.int (87 : Int32)), (.int (72 : Int32)), (.int (69 : Int32)), (.int (82 : Int32)), (.int (69 : Int32)), (.int (32 : Int32)), (.int (108 : Int32)), (.int (105 : Int32)), (.int (115 : Int32)), (.int (116 : Int32)), (.int (101 : Int32)), (.int (100 : Int32)), (.int (0 : Int32)), (.int (0 : Int32)), (.int (0 : Int32)), (.int (0 : Int32)), (.int (0 : Int32)), (.int (0 : Int32)), (.int (0 : Int32)), (.int (0 : Int32)), (.int (0 : Int32)), (.int (0 : Int32)), (.int (0 : Int32)), (.int (0 : Int32)), (.int (0 : Int32))] := A_p_152
    have le_p_152 : h_97.size ≤ q_p_152 := by rcases d_p_152 with z_ | z_; exact z_ ▸ le_p_134; exact Nat.le_trans X_155.1 z_
    show G_listed (some consts_1) l Z n0 x z c0 c1 c2 c3 c4 c5 c6 c7 h0 9 146 [q_p_152, q_p_134, q_p_126, b, x_112] h_156 37 #[.val (.ref x), .val (.ref s_98)] [(.ref x_112)]
    have nb_p_152_t : t ≠ q_p_152 := Nat.ne_of_lt (Nat.lt_of_lt_of_le f_109.lt le_p_152)
    have nb_p_152_b_3 : b_3 ≠ q_p_152 := Nat.ne_of_lt (Nat.lt_of_lt_of_le f_110.lt le_p_152)
    have nb_p_152_b_99 : b_99 ≠ q_p_152 := Nat.ne_of_lt (Nat.lt_of_lt_of_le B_107.lt le_p_152)
    refine Go.callV (S := []) (a := x_112) 40 [] d10_37 rfl rfl (w168 hw) (w169 hw) (w171 hw) (w170 hw) (fun _ q => notFace_of_selects (args := #[]) (mvT q (w171 hw))) (by decide) E_p_152 (call_of_go (R := _) (len := 3) (W := 0) (plainFor_of_name pn_3) (fun mid => ef_sbts21 mid x_112 q_p_152 z [(.int c0.toInt8.toInt32), (.int c1.toInt8.toInt32), (.int c2.toInt8.toInt32), (.int c3.toInt8.toInt32), (.int c4.toInt8.toInt32), (.int c5.toInt8.toInt32), (.int c6.toInt8.toInt32), (.int c7.toInt8.toInt32), (.int (32 : Int32)), (.int (87 : Int32)), (.int (72 : Int32)), (.int (69 : Int32)), (.int (82 : Int32)), (.int (69 : Int32)), (.int (32 : Int32)), (.int (108 : Int32)), (.int (105 : Int32)), (.int (115 : Int32)), (.int (116 : Int32)), (.int (101 : Int32)), (.int (100 : Int32)), (.int (0 : Int32)), (.int (0 : Int32)), (.int (0 : Int32)), (.int (0 : Int32)), (.int (0 : Int32)), (.int (0 : Int32)), (.int (0 : Int32)), (.int (0 : Int32)), (.int (0 : Int32)), (.int (0 : Int32)), (.int (0 : Int32)), (.int (0 : Int32)), (.int (0 : Int32))] [c0, c1, c2, c3, c4, c5, c6, c7, (32 : Int32), (87 : Int32), (72 : Int32), (69 : Int32), (82 : Int32), (69 : Int32), (32 : Int32), (108 : Int32), (105 : Int32), (115 : Int32), (116 : Int32), (101 : Int32), (100 : Int32)] ) (c_sbts21 hw x_112 q_p_152 z [(.int c0.toInt8.toInt32), (.int c1.toInt8.toInt32), (.int c2.toInt8.toInt32), (.int c3.toInt8.toInt32), (.int c4.toInt8.toInt32), (.int c5.toInt8.toInt32), (.int c6.toInt8.toInt32), (.int c7.toInt8.toInt32), (.int (32 : Int32)), (.int (87 : Int32)), (.int (72 : Int32)), (.int (69 : Int32)), (.int (82 : Int32)), (.int (69 : Int32)), (.int (32 : Int32)), (.int (108 : Int32)), (.int (105 : Int32)), (.int (115 : Int32)), (.int (116 : Int32)), (.int (101 : Int32)), (.int (100 : Int32)), (.int (0 : Int32)), (.int (0 : Int32)), (.int (0 : Int32)), (.int (0 : Int32)), (.int (0 : Int32)), (.int (0 : Int32)), (.int (0 : Int32)), (.int (0 : Int32)), (.int (0 : Int32)), (.int (0 : Int32)), (.int (0 : Int32)), (.int (0 : Int32)), (.int (0 : Int32))] [c0, c1, c2, c3, c4, c5, c6, c7, (32 : Int32), (87 : Int32), (72 : Int32), (69 : Int32), (82 : Int32), (69 : Int32), (32 : Int32), (108 : Int32), (105 : Int32), (115 : Int32), (116 : Int32), (101 : Int32), (100 : Int32)] E_p_152 Fb_p_152 Fc_p_152 Fn_p_152 B_p_152 nq_p_152 rfl rfl (latC b_c0 (latC b_c1 (latC b_c2 (latC b_c3 (latC b_c4 (latC b_c5 (latC b_c6 (latC b_c7 (latC (by decide) (latC (by decide) (latC (by decide) (latC (by decide) (latC (by decide) (latC (by decide) (latC (by decide) (latC (by decide) (latC (by decide) (latC (by decide) (latC (by decide) (latC (by decide) (latC (by decide) latN))))))))))))))))))))) SC hz) (w172 hw) (w86 hw) (by decide) (by decide)) (lenOf pd_5 rfl) (Nat.le_of_ble_eq_true rfl) rfl (Nat.le_of_ble_eq_true rfl) (Nat.le_of_ble_eq_true rfl) (fun _ q => nomatch q) (fun v h_161 sf_166 hq => ?_)
    obtain ⟨x_162, rfl, E_163, le_164, S_165⟩ := hq
    refine Go.more (sf' := [q_p_152, q_p_134, q_p_126, b, x_112]) ?_ (Nat.le_refl _) (Nat.le_refl _) (fun _ q => List.mem_append_right _ q)
    show G_listed (some consts_1) l Z n0 x z c0 c1 c2 c3 c4 c5 c6 c7 h0 11 171 [q_p_152, q_p_134, q_p_126, b, x_112] h_161 40 #[.val (.ref x), .val (.ref s_98)] [(.ref x_162)]
    have X_167 : Ext h0 h_97 := extT E_5 E_101
    have X_168 : Ext h0 h_111 := extT X_167 E_115
    have X_169 : Ext h0 h_119 := extK X_168 Kb (allS (Nat.le_trans X_167.1 (Nat.le_of_eq g_113)) all0)
    have X_170 : Ext h0 h_128 := extK X_169 K_p_126 (allS (Nat.le_trans X_167.1 (Nat.le_of_eq g_113)) (allS (Nat.le_trans X_168.1 le_b) all0))
    have X_171 : Ext h0 h_136 := extK X_170 K_p_134 (allS (Nat.le_trans X_167.1 (Nat.le_of_eq g_113)) (allS (Nat.le_trans X_167.1 le_p_126) all0))
    have X_172 : Ext h0 h_139 := extT X_171 E_143
    have X_173 : Ext h0 h_156 := extK X_172 K_p_152 (allS (Nat.le_trans X_167.1 (Nat.le_of_eq g_113)) (allS (Nat.le_trans X_167.1 le_p_134) all0))
    have X_174 : Ext h0 h_161 := extT X_173 E_163
    exact Go.retA d10_40 rfl rfl rfl (sf' := []) (⟨_, rfl, X_174, Or.inr ⟨hw0, S_165⟩⟩) (fun _ q => nomatch q) (Nat.le_of_ble_eq_true rfl) (Nat.le_of_ble_eq_true rfl)
abbrev G_pick (md : Md) (l : Launch) (Z : State) (n0 : Nat) (i o sl : Int32) (dr : Int64) (z : Int32) (fm : Value) (h0 : Heap) := Go md l Z n0 ({ frames := 4, cells := 2, slots := 32, locals := 53 } : Room) method_2_code 8 (some .char) "com/example/tugas/tugas/store/ListingListedOnlyPinLaw" "pick" (fun v h' _ => ∃ r : Int32, v = some (.int r) ∧ Ext h0 h' ∧ ¬ r < 0 ∧ ¬ (255 : Int32) < r)
theorem ef_pick (mid : MethodId) (i o sl : Int32) (dr : Int64) (z : Int32) (fm : Value)  : entryFrame mid #[(.int i), (.int o), (.int sl), (.long dr)] 8 = mkF mid 0 #[.val (.int i), .val (.int o), .val (.int sl), .val (.long dr), .second, .unset, .unset, .unset] [] := by first | (simp [entryFrame, mkF, argsToLocals, Value.category]; done) | rfl
set_option maxRecDepth 65536 in
set_option maxHeartbeats 40000000 in
theorem c_pick {l : Launch} {Z : State} {n0 : Nat} {a0 : Array Value} (hw : HW a0 Z) (i o sl : Int32) (dr : Int64) (z : Int32) (fm : Value) {h0 : Heap} (SC : Sta Z Z.heap "java/lang/String" "COMPACT_STRINGS" "Z" (.int z)) (hz : ¬ z = 0) (SF : Sta Z Z.heap "jdk/internal/util/Preconditions" "SIOOBE_FORMATTER" "Ljava/util/function/BiFunction;" fm) (rF : fm.isRef = true)  : G_pick (some consts_1) l Z n0 i o sl dr z fm h0 0 0 [] h0 0 #[.val (.int i), .val (.int o), .val (.int sl), .val (.long dr), .second, .unset, .unset, .unset] [] := by
  refine Go.lloadN 1 d1_0 rfl rfl ?_
  refine Go.bipush 3 (8 : Int32) d1_1 rfl rfl ?_
  refine Go.iloadN 4 d1_3 rfl rfl ?_
  refine Go.imul 5 d1_4 rfl ?_
  refine Go.lushr 6 d1_5 rfl ?_
  refine Go.ldc2J 9 d1_6 rfl (w5 hw) ?_
  refine Go.land 10 d1_9 rfl ?_
  refine Go.l2i 11 d1_10 rfl ?_
  refine Go.i2c 12 d1_11 rfl ?_
  obtain ⟨dd, e_dd⟩ : ∃ y_ : Int32, y_ = (chr (((ushrL dr ((8 : Int32) * i)) &&& (255 : Int64))).toInt32) := ⟨_, rfl⟩
  have b_dd : ¬ dd < 0 ∧ ¬ (255 : Int32) < dd := by rw [e_dd]; exact pick_lat _ _
  rw [← e_dd]
  show G_pick (some consts_1) l Z n0 i o sl dr z fm h0 0 0 [] h0 12 #[.val (.int i), .val (.int o), .val (.int sl), .val (.long dr), .second, .unset, .unset, .unset] [(.int dd)]
  refine Go.istore 14 #[.val (.int i), .val (.int o), .val (.int sl), .val (.long dr), .second, .val (.int dd), .unset, .unset] d1_12 rfl rfl ?_
  refine Go.iloadN 15 d1_14 rfl rfl ?_
  refine Go.iloadN 16 d1_15 rfl rfl ?_
  refine Go.isub 17 d1_16 rfl ?_
  refine Go.istore 19 #[.val (.int i), .val (.int o), .val (.int sl), .val (.long dr), .second, .val (.int dd), .val (.int (i - o)), .unset] d1_17 rfl rfl ?_
  refine Go.iloadN 20 d1_19 rfl rfl ?_
  refine Go.bipush 22 (9 : Int32) d1_20 rfl rfl ?_
  refine Go.iushr 23 d1_22 rfl ?_
  refine Go.iconst 24 (1 : Int32) d1_23 rfl rfl ?_
  refine Go.iand 25 d1_24 rfl ?_
  by_cases hc25 : ((ushr sl (9 : Int32)) &&& (1 : Int32)) = (0 : Int32)
  · skip
    refine Go.ifN 28 d1_25 rfl (teq hc25).2 ?_
    refine Go.iloadN 29 d1_28 rfl rfl ?_
    refine Go.iloadN 30 d1_29 rfl rfl ?_
    refine Go.iushr 31 d1_30 rfl ?_
    refine Go.iconst 32 (1 : Int32) d1_31 rfl rfl ?_
    refine Go.iand 33 d1_32 rfl ?_
    by_cases hc33 : ((ushr sl i) &&& (1 : Int32)) = (0 : Int32)
    · skip
      refine Go.ifY 40 d1_33 (by decide) (by decide) (teq hc33).1 ?_
      refine Go.iconst 41 (0 : Int32) d1_40 rfl rfl ?_
      refine Go.istore 43 #[.val (.int i), .val (.int o), .val (.int sl), .val (.long dr), .second, .val (.int dd), .val (.int (i - o)), .val (.int (0 : Int32))] d1_41 rfl rfl ?_
      refine Go.iload 45 d1_43 rfl rfl ?_
      refine Go.ifY 68 d1_45 (by decide) (by decide) (teq (by decide)).1 ?_
      refine Go.iload 70 d1_68 rfl rfl ?_
      exact Go.retN dd d1_70 rfl (t := .char) (by simp) (nar_c b_dd) (sf' := []) (⟨_, rfl, (extR _), b_dd⟩) (fun _ q => nomatch q) (Nat.le_of_ble_eq_true rfl) (Nat.le_of_ble_eq_true rfl)
    · skip
      refine Go.ifN 36 d1_33 rfl (feq hc33).1 ?_
      refine Go.iconst 37 (1 : Int32) d1_36 rfl rfl ?_
      refine Go.goto 41 d1_37 (by decide) (by decide) ?_
      refine Go.istore 43 #[.val (.int i), .val (.int o), .val (.int sl), .val (.long dr), .second, .val (.int dd), .val (.int (i - o)), .val (.int (1 : Int32))] d1_41 rfl rfl ?_
      refine Go.iload 45 d1_43 rfl rfl ?_
      refine Go.ifN 48 d1_45 rfl (feq (by decide)).1 ?_
      refine Go.iload 50 d1_48 rfl rfl ?_
      by_cases hc50 : (i - o) < (0 : Int32)
      · skip
        refine Go.ifY 68 d1_50 (by decide) (by decide) (tlt hc50).1 ?_
        refine Go.iload 70 d1_68 rfl rfl ?_
        exact Go.retN dd d1_70 rfl (t := .char) (by simp) (nar_c b_dd) (sf' := []) (⟨_, rfl, (extR _), b_dd⟩) (fun _ q => nomatch q) (Nat.le_of_ble_eq_true rfl) (Nat.le_of_ble_eq_true rfl)
      · skip
        refine Go.ifN 53 d1_50 rfl (flt hc50).1 ?_
        refine Go.iload 55 d1_53 rfl rfl ?_
        refine Go.bipush 57 (7 : Int32) d1_55 rfl rfl ?_
        by_cases hc57 : (i - o) < (7 : Int32)
        · skip
          refine Go.icmpN 60 d1_57 rfl (tlt hc57).2.1 ?_
          refine Go.ldcL (vs := [(.int (32 : Int32)), (.int (87 : Int32)), (.int (72 : Int32)), (.int (69 : Int32)), (.int (82 : Int32)), (.int (69 : Int32)), (.int (32 : Int32))]) (z := (7 : Int32)) 28 62 d1_60 rfl (w216 hw) (wS hw) (List.mem_of_getElem? (i := 3) rfl) ⟨by decide, rfl⟩ (by decide) (by decide) (by decide) (by decide) (Nat.le_of_ble_eq_true rfl) (Nat.le_of_ble_eq_true rfl) (fun h_1 s_2 b_3 k_4 E_5 A_6 C_7 V_8 B_9 ne_10 => ?_)
          have B_11 : Ary Z h_1 b_3 .byte [(.int (32 : Int32)), (.int (87 : Int32)), (.int (72 : Int32)), (.int (69 : Int32)), (.int (82 : Int32)), (.int (69 : Int32)), (.int (32 : Int32))] := Ary.ofArv B_9 rfl (by decide)
          have S_12 : Str Z h_1 s_2 [(32 : Int32), (87 : Int32), (72 : Int32), (69 : Int32), (82 : Int32), (69 : Int32), (32 : Int32)] := ⟨_, A_6, C_7, V_8, B_11, by unfold Lat; decide⟩
          show G_pick (some consts_1) l Z n0 i o sl dr z fm h0 2 32 [] h_1 62 #[.val (.int i), .val (.int o), .val (.int sl), .val (.long dr), .second, .val (.int dd), .val (.int (i - o)), .val (.int (1 : Int32))] [(.ref s_2)]
          refine Go.iload 64 d1_62 rfl rfl ?_
          refine Go.old fun o_13 _ => ?_
          refine Go.callV (S := []) (a := s_2) 67 [(.int (i - o))] d1_64 rfl rfl (w217 hw) (w218 hw) (w220 hw) (w219 hw) (fun _ q => notFace_of_selects (args := #[]) (mvT q (w220 hw))) (by decide) A_6 (strCh (W := 0) (hch hw) (w13 hw) S_12 (by decide) o_13 SC hz SF rF (i - o).toInt.toNat (pick_ix hc50 hc57) (pick_lt hc50 hc57) (by decide) (by decide)) (lenOf pd_24 rfl) (Nat.le_of_ble_eq_true rfl) rfl (Nat.le_of_ble_eq_true rfl) (Nat.le_of_ble_eq_true rfl) (fun _ q => q) (fun v h_14 sf_15 hq => ?_)
          obtain ⟨rfl, rfl⟩ := hq
          refine Go.more (sf' := []) ?_ (Nat.le_refl _) (Nat.le_refl _) (fun _ q => List.mem_append_right _ q)
          show G_pick (some consts_1) l Z n0 i o sl dr z fm h0 2 32 [] h_1 67 #[.val (.int i), .val (.int o), .val (.int sl), .val (.long dr), .second, .val (.int dd), .val (.int (i - o)), .val (.int (1 : Int32))] [(.int (([(32 : Int32), (87 : Int32), (72 : Int32), (69 : Int32), (82 : Int32), (69 : Int32), (32 : Int32)]).getD (i - o).toInt.toNat 0))]
          exact Go.retN (([(32 : Int32), (87 : Int32), (72 : Int32), (69 : Int32), (82 : Int32), (69 : Int32), (32 : Int32)]).getD (i - o).toInt.toNat 0) d1_67 rfl (t := .char) (by simp) (nar_c (pick_c _)) (sf' := []) (⟨_, rfl, E_5, pick_c _⟩) (fun _ q => nomatch q) (Nat.le_of_ble_eq_true rfl) (Nat.le_of_ble_eq_true rfl)
        · skip
          refine Go.icmpY 68 d1_57 (by decide) (by decide) (flt hc57).2.1 ?_
          refine Go.iload 70 d1_68 rfl rfl ?_
          exact Go.retN dd d1_70 rfl (t := .char) (by simp) (nar_c b_dd) (sf' := []) (⟨_, rfl, (extR _), b_dd⟩) (fun _ q => nomatch q) (Nat.le_of_ble_eq_true rfl) (Nat.le_of_ble_eq_true rfl)
  · skip
    refine Go.ifY 36 d1_25 (by decide) (by decide) (feq hc25).2 ?_
    refine Go.iconst 37 (1 : Int32) d1_36 rfl rfl ?_
    refine Go.goto 41 d1_37 (by decide) (by decide) ?_
    refine Go.istore 43 #[.val (.int i), .val (.int o), .val (.int sl), .val (.long dr), .second, .val (.int dd), .val (.int (i - o)), .val (.int (1 : Int32))] d1_41 rfl rfl ?_
    refine Go.iload 45 d1_43 rfl rfl ?_
    refine Go.ifN 48 d1_45 rfl (feq (by decide)).1 ?_
    refine Go.iload 50 d1_48 rfl rfl ?_
    by_cases hc50 : (i - o) < (0 : Int32)
    · skip
      refine Go.ifY 68 d1_50 (by decide) (by decide) (tlt hc50).1 ?_
      refine Go.iload 70 d1_68 rfl rfl ?_
      exact Go.retN dd d1_70 rfl (t := .char) (by simp) (nar_c b_dd) (sf' := []) (⟨_, rfl, (extR _), b_dd⟩) (fun _ q => nomatch q) (Nat.le_of_ble_eq_true rfl) (Nat.le_of_ble_eq_true rfl)
    · skip
      refine Go.ifN 53 d1_50 rfl (flt hc50).1 ?_
      refine Go.iload 55 d1_53 rfl rfl ?_
      refine Go.bipush 57 (7 : Int32) d1_55 rfl rfl ?_
      by_cases hc57 : (i - o) < (7 : Int32)
      · skip
        refine Go.icmpN 60 d1_57 rfl (tlt hc57).2.1 ?_
        refine Go.ldcL (vs := [(.int (32 : Int32)), (.int (87 : Int32)), (.int (72 : Int32)), (.int (69 : Int32)), (.int (82 : Int32)), (.int (69 : Int32)), (.int (32 : Int32))]) (z := (7 : Int32)) 28 62 d1_60 rfl (w216 hw) (wS hw) (List.mem_of_getElem? (i := 3) rfl) ⟨by decide, rfl⟩ (by decide) (by decide) (by decide) (by decide) (Nat.le_of_ble_eq_true rfl) (Nat.le_of_ble_eq_true rfl) (fun h_16 s_17 b_18 k_19 E_20 A_21 C_22 V_23 B_24 ne_25 => ?_)
        have B_26 : Ary Z h_16 b_18 .byte [(.int (32 : Int32)), (.int (87 : Int32)), (.int (72 : Int32)), (.int (69 : Int32)), (.int (82 : Int32)), (.int (69 : Int32)), (.int (32 : Int32))] := Ary.ofArv B_24 rfl (by decide)
        have S_27 : Str Z h_16 s_17 [(32 : Int32), (87 : Int32), (72 : Int32), (69 : Int32), (82 : Int32), (69 : Int32), (32 : Int32)] := ⟨_, A_21, C_22, V_23, B_26, by unfold Lat; decide⟩
        show G_pick (some consts_1) l Z n0 i o sl dr z fm h0 2 32 [] h_16 62 #[.val (.int i), .val (.int o), .val (.int sl), .val (.long dr), .second, .val (.int dd), .val (.int (i - o)), .val (.int (1 : Int32))] [(.ref s_17)]
        refine Go.iload 64 d1_62 rfl rfl ?_
        refine Go.old fun o_28 _ => ?_
        refine Go.callV (S := []) (a := s_17) 67 [(.int (i - o))] d1_64 rfl rfl (w217 hw) (w218 hw) (w220 hw) (w219 hw) (fun _ q => notFace_of_selects (args := #[]) (mvT q (w220 hw))) (by decide) A_21 (strCh (W := 0) (hch hw) (w13 hw) S_27 (by decide) o_28 SC hz SF rF (i - o).toInt.toNat (pick_ix hc50 hc57) (pick_lt hc50 hc57) (by decide) (by decide)) (lenOf pd_24 rfl) (Nat.le_of_ble_eq_true rfl) rfl (Nat.le_of_ble_eq_true rfl) (Nat.le_of_ble_eq_true rfl) (fun _ q => q) (fun v h_29 sf_30 hq => ?_)
        obtain ⟨rfl, rfl⟩ := hq
        refine Go.more (sf' := []) ?_ (Nat.le_refl _) (Nat.le_refl _) (fun _ q => List.mem_append_right _ q)
        show G_pick (some consts_1) l Z n0 i o sl dr z fm h0 2 32 [] h_16 67 #[.val (.int i), .val (.int o), .val (.int sl), .val (.long dr), .second, .val (.int dd), .val (.int (i - o)), .val (.int (1 : Int32))] [(.int (([(32 : Int32), (87 : Int32), (72 : Int32), (69 : Int32), (82 : Int32), (69 : Int32), (32 : Int32)]).getD (i - o).toInt.toNat 0))]
        exact Go.retN (([(32 : Int32), (87 : Int32), (72 : Int32), (69 : Int32), (82 : Int32), (69 : Int32), (32 : Int32)]).getD (i - o).toInt.toNat 0) d1_67 rfl (t := .char) (by simp) (nar_c (pick_c _)) (sf' := []) (⟨_, rfl, E_20, pick_c _⟩) (fun _ q => nomatch q) (Nat.le_of_ble_eq_true rfl) (Nat.le_of_ble_eq_true rfl)
      · skip
        refine Go.icmpY 68 d1_57 (by decide) (by decide) (flt hc57).2.1 ?_
        refine Go.iload 70 d1_68 rfl rfl ?_
        exact Go.retN dd d1_70 rfl (t := .char) (by simp) (nar_c b_dd) (sf' := []) (⟨_, rfl, (extR _), b_dd⟩) (fun _ q => nomatch q) (Nat.le_of_ble_eq_true rfl) (Nat.le_of_ble_eq_true rfl)
abbrev G_where0 (md : Md) (l : Launch) (Z : State) (n0 : Nat) (b : Addr) (c0 c1 c2 c3 c4 c5 c6 c7 : Int32) (h0 : Heap) := Go md l Z n0 ({ frames := 0, cells := 0, slots := 0, locals := 0 } : Room) method_3_code 2 (some .boolean) "com/example/tugas/tugas/store/ListingListedOnlyPinLaw" "whereAt" (fun v h' _ => h0 = h' ∧ ∃ r : Int32, v = some (.int r) ∧ ((r = 1 ∧ (c0 = (32 : Int32) ∧ c1 = (87 : Int32) ∧ c2 = (72 : Int32) ∧ c3 = (69 : Int32) ∧ c4 = (82 : Int32) ∧ c5 = (69 : Int32) ∧ c6 = (32 : Int32))) ∨ (r = 0 ∧ ¬ (c0 = (32 : Int32) ∧ c1 = (87 : Int32) ∧ c2 = (72 : Int32) ∧ c3 = (69 : Int32) ∧ c4 = (82 : Int32) ∧ c5 = (69 : Int32) ∧ c6 = (32 : Int32)))))
theorem ef_where0 (mid : MethodId) (b : Addr) (c0 c1 c2 c3 c4 c5 c6 c7 : Int32)  : entryFrame mid #[(.ref b), (.int (0 : Int32))] 2 = mkF mid 0 #[.val (.ref b), .val (.int (0 : Int32))] [] := by first | (simp [entryFrame, mkF, argsToLocals, Value.category]; done) | rfl
set_option maxRecDepth 65536 in
set_option maxHeartbeats 40000000 in
theorem c_where0 {md : Md} {l : Launch} {Z : State} {n0 : Nat} {a0 : Array Value} (hw : HW a0 Z) (b : Addr) (c0 c1 c2 c3 c4 c5 c6 c7 : Int32) {h0 : Heap} (A : Ary Z h0 b .char [(.int c0), (.int c1), (.int c2), (.int c3), (.int c4), (.int c5), (.int c6), (.int c7)]) : G_where0 md l Z n0 b c0 c1 c2 c3 c4 c5 c6 c7 h0 0 0 [] h0 0 #[.val (.ref b), .val (.int (0 : Int32))] [] := by
  refine Go.aloadN 1 d2_0 rfl rfl rfl ?_
  refine Go.iloadN 2 d2_1 rfl rfl ?_
  refine Go.caload 0 3 d2_2 rfl A (by decide) rfl ?_
  refine Go.bipush 5 (32 : Int32) d2_3 rfl rfl ?_
  by_cases hc5 : c0 = (32 : Int32)
  · skip
    refine Go.icmpN 8 d2_5 rfl (teq hc5).2 ?_
    refine Go.aloadN 9 d2_8 rfl rfl rfl ?_
    refine Go.iloadN 10 d2_9 rfl rfl ?_
    refine Go.iconst 11 (1 : Int32) d2_10 rfl rfl ?_
    refine Go.iadd 12 d2_11 rfl ?_
    rw [show ((0 : Int32) + (1 : Int32)) = (1 : Int32) from by decide]
    refine Go.caload 1 13 d2_12 rfl A (by decide) rfl ?_
    refine Go.bipush 15 (87 : Int32) d2_13 rfl rfl ?_
    by_cases hc15 : c1 = (87 : Int32)
    · skip
      refine Go.icmpN 18 d2_15 rfl (teq hc15).2 ?_
      refine Go.aloadN 19 d2_18 rfl rfl rfl ?_
      refine Go.iloadN 20 d2_19 rfl rfl ?_
      refine Go.iconst 21 (2 : Int32) d2_20 rfl rfl ?_
      refine Go.iadd 22 d2_21 rfl ?_
      rw [show ((0 : Int32) + (2 : Int32)) = (2 : Int32) from by decide]
      refine Go.caload 2 23 d2_22 rfl A (by decide) rfl ?_
      refine Go.bipush 25 (72 : Int32) d2_23 rfl rfl ?_
      by_cases hc25 : c2 = (72 : Int32)
      · skip
        refine Go.icmpN 28 d2_25 rfl (teq hc25).2 ?_
        refine Go.aloadN 29 d2_28 rfl rfl rfl ?_
        refine Go.iloadN 30 d2_29 rfl rfl ?_
        refine Go.iconst 31 (3 : Int32) d2_30 rfl rfl ?_
        refine Go.iadd 32 d2_31 rfl ?_
        rw [show ((0 : Int32) + (3 : Int32)) = (3 : Int32) from by decide]
        refine Go.caload 3 33 d2_32 rfl A (by decide) rfl ?_
        refine Go.bipush 35 (69 : Int32) d2_33 rfl rfl ?_
        by_cases hc35 : c3 = (69 : Int32)
        · skip
          refine Go.icmpN 38 d2_35 rfl (teq hc35).2 ?_
          refine Go.aloadN 39 d2_38 rfl rfl rfl ?_
          refine Go.iloadN 40 d2_39 rfl rfl ?_
          refine Go.iconst 41 (4 : Int32) d2_40 rfl rfl ?_
          refine Go.iadd 42 d2_41 rfl ?_
          rw [show ((0 : Int32) + (4 : Int32)) = (4 : Int32) from by decide]
          refine Go.caload 4 43 d2_42 rfl A (by decide) rfl ?_
          refine Go.bipush 45 (82 : Int32) d2_43 rfl rfl ?_
          by_cases hc45 : c4 = (82 : Int32)
          · skip
            refine Go.icmpN 48 d2_45 rfl (teq hc45).2 ?_
            refine Go.aloadN 49 d2_48 rfl rfl rfl ?_
            refine Go.iloadN 50 d2_49 rfl rfl ?_
            refine Go.iconst 51 (5 : Int32) d2_50 rfl rfl ?_
            refine Go.iadd 52 d2_51 rfl ?_
            rw [show ((0 : Int32) + (5 : Int32)) = (5 : Int32) from by decide]
            refine Go.caload 5 53 d2_52 rfl A (by decide) rfl ?_
            refine Go.bipush 55 (69 : Int32) d2_53 rfl rfl ?_
            by_cases hc55 : c5 = (69 : Int32)
            · skip
              refine Go.icmpN 58 d2_55 rfl (teq hc55).2 ?_
              refine Go.aloadN 59 d2_58 rfl rfl rfl ?_
              refine Go.iloadN 60 d2_59 rfl rfl ?_
              refine Go.bipush 62 (6 : Int32) d2_60 rfl rfl ?_
              refine Go.iadd 63 d2_62 rfl ?_
              rw [show ((0 : Int32) + (6 : Int32)) = (6 : Int32) from by decide]
              refine Go.caload 6 64 d2_63 rfl A (by decide) rfl ?_
              refine Go.bipush 66 (32 : Int32) d2_64 rfl rfl ?_
              by_cases hc66 : c6 = (32 : Int32)
              · skip
                refine Go.icmpN 69 d2_66 rfl (teq hc66).2 ?_
                refine Go.iconst 70 (1 : Int32) d2_69 rfl rfl ?_
                refine Go.goto 74 d2_70 (by decide) (by decide) ?_
                exact Go.retN (1 : Int32) d2_74 rfl (t := .boolean) (by simp) rfl (sf' := []) (⟨rfl, _, rfl, Or.inl ⟨rfl, hc5, hc15, hc25, hc35, hc45, hc55, hc66⟩⟩) (fun _ q => nomatch q) (Nat.le_of_ble_eq_true rfl) (Nat.le_of_ble_eq_true rfl)
              · skip
                refine Go.icmpY 73 d2_66 (by decide) (by decide) (feq hc66).2 ?_
                refine Go.iconst 74 (0 : Int32) d2_73 rfl rfl ?_
                exact Go.retN (0 : Int32) d2_74 rfl (t := .boolean) (by simp) rfl (sf' := []) (⟨rfl, _, rfl, Or.inr ⟨rfl, fun q => hc66 q.2.2.2.2.2.2⟩⟩) (fun _ q => nomatch q) (Nat.le_of_ble_eq_true rfl) (Nat.le_of_ble_eq_true rfl)
            · skip
              refine Go.icmpY 73 d2_55 (by decide) (by decide) (feq hc55).2 ?_
              refine Go.iconst 74 (0 : Int32) d2_73 rfl rfl ?_
              exact Go.retN (0 : Int32) d2_74 rfl (t := .boolean) (by simp) rfl (sf' := []) (⟨rfl, _, rfl, Or.inr ⟨rfl, fun q => hc55 q.2.2.2.2.2.1⟩⟩) (fun _ q => nomatch q) (Nat.le_of_ble_eq_true rfl) (Nat.le_of_ble_eq_true rfl)
          · skip
            refine Go.icmpY 73 d2_45 (by decide) (by decide) (feq hc45).2 ?_
            refine Go.iconst 74 (0 : Int32) d2_73 rfl rfl ?_
            exact Go.retN (0 : Int32) d2_74 rfl (t := .boolean) (by simp) rfl (sf' := []) (⟨rfl, _, rfl, Or.inr ⟨rfl, fun q => hc45 q.2.2.2.2.1⟩⟩) (fun _ q => nomatch q) (Nat.le_of_ble_eq_true rfl) (Nat.le_of_ble_eq_true rfl)
        · skip
          refine Go.icmpY 73 d2_35 (by decide) (by decide) (feq hc35).2 ?_
          refine Go.iconst 74 (0 : Int32) d2_73 rfl rfl ?_
          exact Go.retN (0 : Int32) d2_74 rfl (t := .boolean) (by simp) rfl (sf' := []) (⟨rfl, _, rfl, Or.inr ⟨rfl, fun q => hc35 q.2.2.2.1⟩⟩) (fun _ q => nomatch q) (Nat.le_of_ble_eq_true rfl) (Nat.le_of_ble_eq_true rfl)
      · skip
        refine Go.icmpY 73 d2_25 (by decide) (by decide) (feq hc25).2 ?_
        refine Go.iconst 74 (0 : Int32) d2_73 rfl rfl ?_
        exact Go.retN (0 : Int32) d2_74 rfl (t := .boolean) (by simp) rfl (sf' := []) (⟨rfl, _, rfl, Or.inr ⟨rfl, fun q => hc25 q.2.2.1⟩⟩) (fun _ q => nomatch q) (Nat.le_of_ble_eq_true rfl) (Nat.le_of_ble_eq_true rfl)
    · skip
      refine Go.icmpY 73 d2_15 (by decide) (by decide) (feq hc15).2 ?_
      refine Go.iconst 74 (0 : Int32) d2_73 rfl rfl ?_
      exact Go.retN (0 : Int32) d2_74 rfl (t := .boolean) (by simp) rfl (sf' := []) (⟨rfl, _, rfl, Or.inr ⟨rfl, fun q => hc15 q.2.1⟩⟩) (fun _ q => nomatch q) (Nat.le_of_ble_eq_true rfl) (Nat.le_of_ble_eq_true rfl)
  · skip
    refine Go.icmpY 73 d2_5 (by decide) (by decide) (feq hc5).2 ?_
    refine Go.iconst 74 (0 : Int32) d2_73 rfl rfl ?_
    exact Go.retN (0 : Int32) d2_74 rfl (t := .boolean) (by simp) rfl (sf' := []) (⟨rfl, _, rfl, Or.inr ⟨rfl, fun q => hc5 q.1⟩⟩) (fun _ q => nomatch q) (Nat.le_of_ble_eq_true rfl) (Nat.le_of_ble_eq_true rfl)
abbrev G_where1 (md : Md) (l : Launch) (Z : State) (n0 : Nat) (b : Addr) (c0 c1 c2 c3 c4 c5 c6 c7 : Int32) (h0 : Heap) := Go md l Z n0 ({ frames := 0, cells := 0, slots := 0, locals := 0 } : Room) method_3_code 2 (some .boolean) "com/example/tugas/tugas/store/ListingListedOnlyPinLaw" "whereAt" (fun v h' _ => h0 = h' ∧ ∃ r : Int32, v = some (.int r) ∧ ((r = 1 ∧ (c1 = (32 : Int32) ∧ c2 = (87 : Int32) ∧ c3 = (72 : Int32) ∧ c4 = (69 : Int32) ∧ c5 = (82 : Int32) ∧ c6 = (69 : Int32) ∧ c7 = (32 : Int32))) ∨ (r = 0 ∧ ¬ (c1 = (32 : Int32) ∧ c2 = (87 : Int32) ∧ c3 = (72 : Int32) ∧ c4 = (69 : Int32) ∧ c5 = (82 : Int32) ∧ c6 = (69 : Int32) ∧ c7 = (32 : Int32)))))
theorem ef_where1 (mid : MethodId) (b : Addr) (c0 c1 c2 c3 c4 c5 c6 c7 : Int32)  : entryFrame mid #[(.ref b), (.int (1 : Int32))] 2 = mkF mid 0 #[.val (.ref b), .val (.int (1 : Int32))] [] := by first | (simp [entryFrame, mkF, argsToLocals, Value.category]; done) | rfl
set_option maxRecDepth 65536 in
set_option maxHeartbeats 40000000 in
theorem c_where1 {md : Md} {l : Launch} {Z : State} {n0 : Nat} {a0 : Array Value} (hw : HW a0 Z) (b : Addr) (c0 c1 c2 c3 c4 c5 c6 c7 : Int32) {h0 : Heap} (A : Ary Z h0 b .char [(.int c0), (.int c1), (.int c2), (.int c3), (.int c4), (.int c5), (.int c6), (.int c7)]) : G_where1 md l Z n0 b c0 c1 c2 c3 c4 c5 c6 c7 h0 0 0 [] h0 0 #[.val (.ref b), .val (.int (1 : Int32))] [] := by
  refine Go.aloadN 1 d2_0 rfl rfl rfl ?_
  refine Go.iloadN 2 d2_1 rfl rfl ?_
  refine Go.caload 1 3 d2_2 rfl A (by decide) rfl ?_
  refine Go.bipush 5 (32 : Int32) d2_3 rfl rfl ?_
  by_cases hc5 : c1 = (32 : Int32)
  · skip
    refine Go.icmpN 8 d2_5 rfl (teq hc5).2 ?_
    refine Go.aloadN 9 d2_8 rfl rfl rfl ?_
    refine Go.iloadN 10 d2_9 rfl rfl ?_
    refine Go.iconst 11 (1 : Int32) d2_10 rfl rfl ?_
    refine Go.iadd 12 d2_11 rfl ?_
    rw [show ((1 : Int32) + (1 : Int32)) = (2 : Int32) from by decide]
    refine Go.caload 2 13 d2_12 rfl A (by decide) rfl ?_
    refine Go.bipush 15 (87 : Int32) d2_13 rfl rfl ?_
    by_cases hc15 : c2 = (87 : Int32)
    · skip
      refine Go.icmpN 18 d2_15 rfl (teq hc15).2 ?_
      refine Go.aloadN 19 d2_18 rfl rfl rfl ?_
      refine Go.iloadN 20 d2_19 rfl rfl ?_
      refine Go.iconst 21 (2 : Int32) d2_20 rfl rfl ?_
      refine Go.iadd 22 d2_21 rfl ?_
      rw [show ((1 : Int32) + (2 : Int32)) = (3 : Int32) from by decide]
      refine Go.caload 3 23 d2_22 rfl A (by decide) rfl ?_
      refine Go.bipush 25 (72 : Int32) d2_23 rfl rfl ?_
      by_cases hc25 : c3 = (72 : Int32)
      · skip
        refine Go.icmpN 28 d2_25 rfl (teq hc25).2 ?_
        refine Go.aloadN 29 d2_28 rfl rfl rfl ?_
        refine Go.iloadN 30 d2_29 rfl rfl ?_
        refine Go.iconst 31 (3 : Int32) d2_30 rfl rfl ?_
        refine Go.iadd 32 d2_31 rfl ?_
        rw [show ((1 : Int32) + (3 : Int32)) = (4 : Int32) from by decide]
        refine Go.caload 4 33 d2_32 rfl A (by decide) rfl ?_
        refine Go.bipush 35 (69 : Int32) d2_33 rfl rfl ?_
        by_cases hc35 : c4 = (69 : Int32)
        · skip
          refine Go.icmpN 38 d2_35 rfl (teq hc35).2 ?_
          refine Go.aloadN 39 d2_38 rfl rfl rfl ?_
          refine Go.iloadN 40 d2_39 rfl rfl ?_
          refine Go.iconst 41 (4 : Int32) d2_40 rfl rfl ?_
          refine Go.iadd 42 d2_41 rfl ?_
          rw [show ((1 : Int32) + (4 : Int32)) = (5 : Int32) from by decide]
          refine Go.caload 5 43 d2_42 rfl A (by decide) rfl ?_
          refine Go.bipush 45 (82 : Int32) d2_43 rfl rfl ?_
          by_cases hc45 : c5 = (82 : Int32)
          · skip
            refine Go.icmpN 48 d2_45 rfl (teq hc45).2 ?_
            refine Go.aloadN 49 d2_48 rfl rfl rfl ?_
            refine Go.iloadN 50 d2_49 rfl rfl ?_
            refine Go.iconst 51 (5 : Int32) d2_50 rfl rfl ?_
            refine Go.iadd 52 d2_51 rfl ?_
            rw [show ((1 : Int32) + (5 : Int32)) = (6 : Int32) from by decide]
            refine Go.caload 6 53 d2_52 rfl A (by decide) rfl ?_
            refine Go.bipush 55 (69 : Int32) d2_53 rfl rfl ?_
            by_cases hc55 : c6 = (69 : Int32)
            · skip
              refine Go.icmpN 58 d2_55 rfl (teq hc55).2 ?_
              refine Go.aloadN 59 d2_58 rfl rfl rfl ?_
              refine Go.iloadN 60 d2_59 rfl rfl ?_
              refine Go.bipush 62 (6 : Int32) d2_60 rfl rfl ?_
              refine Go.iadd 63 d2_62 rfl ?_
              rw [show ((1 : Int32) + (6 : Int32)) = (7 : Int32) from by decide]
              refine Go.caload 7 64 d2_63 rfl A (by decide) rfl ?_
              refine Go.bipush 66 (32 : Int32) d2_64 rfl rfl ?_
              by_cases hc66 : c7 = (32 : Int32)
              · skip
                refine Go.icmpN 69 d2_66 rfl (teq hc66).2 ?_
                refine Go.iconst 70 (1 : Int32) d2_69 rfl rfl ?_
                refine Go.goto 74 d2_70 (by decide) (by decide) ?_
                exact Go.retN (1 : Int32) d2_74 rfl (t := .boolean) (by simp) rfl (sf' := []) (⟨rfl, _, rfl, Or.inl ⟨rfl, hc5, hc15, hc25, hc35, hc45, hc55, hc66⟩⟩) (fun _ q => nomatch q) (Nat.le_of_ble_eq_true rfl) (Nat.le_of_ble_eq_true rfl)
              · skip
                refine Go.icmpY 73 d2_66 (by decide) (by decide) (feq hc66).2 ?_
                refine Go.iconst 74 (0 : Int32) d2_73 rfl rfl ?_
                exact Go.retN (0 : Int32) d2_74 rfl (t := .boolean) (by simp) rfl (sf' := []) (⟨rfl, _, rfl, Or.inr ⟨rfl, fun q => hc66 q.2.2.2.2.2.2⟩⟩) (fun _ q => nomatch q) (Nat.le_of_ble_eq_true rfl) (Nat.le_of_ble_eq_true rfl)
            · skip
              refine Go.icmpY 73 d2_55 (by decide) (by decide) (feq hc55).2 ?_
              refine Go.iconst 74 (0 : Int32) d2_73 rfl rfl ?_
              exact Go.retN (0 : Int32) d2_74 rfl (t := .boolean) (by simp) rfl (sf' := []) (⟨rfl, _, rfl, Or.inr ⟨rfl, fun q => hc55 q.2.2.2.2.2.1⟩⟩) (fun _ q => nomatch q) (Nat.le_of_ble_eq_true rfl) (Nat.le_of_ble_eq_true rfl)
          · skip
            refine Go.icmpY 73 d2_45 (by decide) (by decide) (feq hc45).2 ?_
            refine Go.iconst 74 (0 : Int32) d2_73 rfl rfl ?_
            exact Go.retN (0 : Int32) d2_74 rfl (t := .boolean) (by simp) rfl (sf' := []) (⟨rfl, _, rfl, Or.inr ⟨rfl, fun q => hc45 q.2.2.2.2.1⟩⟩) (fun _ q => nomatch q) (Nat.le_of_ble_eq_true rfl) (Nat.le_of_ble_eq_true rfl)
        · skip
          refine Go.icmpY 73 d2_35 (by decide) (by decide) (feq hc35).2 ?_
          refine Go.iconst 74 (0 : Int32) d2_73 rfl rfl ?_
          exact Go.retN (0 : Int32) d2_74 rfl (t := .boolean) (by simp) rfl (sf' := []) (⟨rfl, _, rfl, Or.inr ⟨rfl, fun q => hc35 q.2.2.2.1⟩⟩) (fun _ q => nomatch q) (Nat.le_of_ble_eq_true rfl) (Nat.le_of_ble_eq_true rfl)
      · skip
        refine Go.icmpY 73 d2_25 (by decide) (by decide) (feq hc25).2 ?_
        refine Go.iconst 74 (0 : Int32) d2_73 rfl rfl ?_
        exact Go.retN (0 : Int32) d2_74 rfl (t := .boolean) (by simp) rfl (sf' := []) (⟨rfl, _, rfl, Or.inr ⟨rfl, fun q => hc25 q.2.2.1⟩⟩) (fun _ q => nomatch q) (Nat.le_of_ble_eq_true rfl) (Nat.le_of_ble_eq_true rfl)
    · skip
      refine Go.icmpY 73 d2_15 (by decide) (by decide) (feq hc15).2 ?_
      refine Go.iconst 74 (0 : Int32) d2_73 rfl rfl ?_
      exact Go.retN (0 : Int32) d2_74 rfl (t := .boolean) (by simp) rfl (sf' := []) (⟨rfl, _, rfl, Or.inr ⟨rfl, fun q => hc15 q.2.1⟩⟩) (fun _ q => nomatch q) (Nat.le_of_ble_eq_true rfl) (Nat.le_of_ble_eq_true rfl)
  · skip
    refine Go.icmpY 73 d2_5 (by decide) (by decide) (feq hc5).2 ?_
    refine Go.iconst 74 (0 : Int32) d2_73 rfl rfl ?_
    exact Go.retN (0 : Int32) d2_74 rfl (t := .boolean) (by simp) rfl (sf' := []) (⟨rfl, _, rfl, Or.inr ⟨rfl, fun q => hc5 q.1⟩⟩) (fun _ q => nomatch q) (Nat.le_of_ble_eq_true rfl) (Nat.le_of_ble_eq_true rfl)
abbrev G_putl13 (md : Md) (l : Launch) (Z : State) (n0 : Nat) (b : Addr) (e0 e1 e2 e3 e4 e5 e6 e7 e8 e9 e10 e11 e12 e13 e14 e15 e16 e17 e18 : Int32) (h0 : Heap) := Go md l Z n0 ({ frames := 0, cells := 0, slots := 0, locals := 0 } : Room) method_4_code 2 none "com/example/tugas/tugas/store/ListingListedOnlyPinLaw" "putListed" (fun v h' _ => v = none ∧ Keep h0 h' [b] ∧ Ary Z h' b .char [(.int e0), (.int e1), (.int e2), (.int e3), (.int e4), (.int e5), (.int e6), (.int e7), (.int e8), (.int e9), (.int e10), (.int e11), (.int e12), (.int (108 : Int32)), (.int (105 : Int32)), (.int (115 : Int32)), (.int (116 : Int32)), (.int (101 : Int32)), (.int (100 : Int32))])
theorem ef_putl13 (mid : MethodId) (b : Addr) (e0 e1 e2 e3 e4 e5 e6 e7 e8 e9 e10 e11 e12 e13 e14 e15 e16 e17 e18 : Int32)  : entryFrame mid #[(.ref b), (.int (13 : Int32))] 2 = mkF mid 0 #[.val (.ref b), .val (.int (13 : Int32))] [] := by first | (simp [entryFrame, mkF, argsToLocals, Value.category]; done) | rfl
set_option maxRecDepth 65536 in
set_option maxHeartbeats 40000000 in
theorem c_putl13 {md : Md} {l : Launch} {Z : State} {n0 : Nat} {a0 : Array Value} (hw : HW a0 Z) (b : Addr) (e0 e1 e2 e3 e4 e5 e6 e7 e8 e9 e10 e11 e12 e13 e14 e15 e16 e17 e18 : Int32) {h0 : Heap} (A : Ary Z h0 b .char [(.int e0), (.int e1), (.int e2), (.int e3), (.int e4), (.int e5), (.int e6), (.int e7), (.int e8), (.int e9), (.int e10), (.int e11), (.int e12), (.int e13), (.int e14), (.int e15), (.int e16), (.int e17), (.int e18)]) (n0b : n0 ≤ b) : G_putl13 md l Z n0 b e0 e1 e2 e3 e4 e5 e6 e7 e8 e9 e10 e11 e12 e13 e14 e15 e16 e17 e18 h0 0 0 [b] h0 0 #[.val (.ref b), .val (.int (13 : Int32))] [] := by
  refine Go.aloadN 1 d3_0 rfl rfl rfl ?_
  refine Go.iloadN 2 d3_1 rfl rfl ?_
  refine Go.bipush 4 (108 : Int32) d3_2 rfl rfl ?_
  refine Go.castore 13 5 d3_4 rfl A (by decide) (Nat.le_of_ble_eq_true rfl) (List.mem_of_getElem? (i := 0) rfl) n0b (fun h_1 W_2 A_3 => ?_)
  have A_4 : Ary Z h_1 b .char [(.int e0), (.int e1), (.int e2), (.int e3), (.int e4), (.int e5), (.int e6), (.int e7), (.int e8), (.int e9), (.int e10), (.int e11), (.int e12), (.int (108 : Int32)), (.int e14), (.int e15), (.int e16), (.int e17), (.int e18)] := by have := A_3; rw [show nar .char (108 : Int32) = (108 : Int32) from by decide] at this; exact this
  refine Go.aloadN 6 d3_5 rfl rfl rfl ?_
  refine Go.iloadN 7 d3_6 rfl rfl ?_
  refine Go.iconst 8 (1 : Int32) d3_7 rfl rfl ?_
  refine Go.iadd 9 d3_8 rfl ?_
  rw [show ((13 : Int32) + (1 : Int32)) = (14 : Int32) from by decide]
  refine Go.bipush 11 (105 : Int32) d3_9 rfl rfl ?_
  refine Go.castore 14 12 d3_11 rfl A_4 (by decide) (Nat.le_of_ble_eq_true rfl) (List.mem_of_getElem? (i := 0) rfl) n0b (fun h_5 W_6 A_7 => ?_)
  have A_8 : Ary Z h_5 b .char [(.int e0), (.int e1), (.int e2), (.int e3), (.int e4), (.int e5), (.int e6), (.int e7), (.int e8), (.int e9), (.int e10), (.int e11), (.int e12), (.int (108 : Int32)), (.int (105 : Int32)), (.int e15), (.int e16), (.int e17), (.int e18)] := by have := A_7; rw [show nar .char (105 : Int32) = (105 : Int32) from by decide] at this; exact this
  refine Go.aloadN 13 d3_12 rfl rfl rfl ?_
  refine Go.iloadN 14 d3_13 rfl rfl ?_
  refine Go.iconst 15 (2 : Int32) d3_14 rfl rfl ?_
  refine Go.iadd 16 d3_15 rfl ?_
  rw [show ((13 : Int32) + (2 : Int32)) = (15 : Int32) from by decide]
  refine Go.bipush 18 (115 : Int32) d3_16 rfl rfl ?_
  refine Go.castore 15 19 d3_18 rfl A_8 (by decide) (Nat.le_of_ble_eq_true rfl) (List.mem_of_getElem? (i := 0) rfl) n0b (fun h_9 W_10 A_11 => ?_)
  have A_12 : Ary Z h_9 b .char [(.int e0), (.int e1), (.int e2), (.int e3), (.int e4), (.int e5), (.int e6), (.int e7), (.int e8), (.int e9), (.int e10), (.int e11), (.int e12), (.int (108 : Int32)), (.int (105 : Int32)), (.int (115 : Int32)), (.int e16), (.int e17), (.int e18)] := by have := A_11; rw [show nar .char (115 : Int32) = (115 : Int32) from by decide] at this; exact this
  refine Go.aloadN 20 d3_19 rfl rfl rfl ?_
  refine Go.iloadN 21 d3_20 rfl rfl ?_
  refine Go.iconst 22 (3 : Int32) d3_21 rfl rfl ?_
  refine Go.iadd 23 d3_22 rfl ?_
  rw [show ((13 : Int32) + (3 : Int32)) = (16 : Int32) from by decide]
  refine Go.bipush 25 (116 : Int32) d3_23 rfl rfl ?_
  refine Go.castore 16 26 d3_25 rfl A_12 (by decide) (Nat.le_of_ble_eq_true rfl) (List.mem_of_getElem? (i := 0) rfl) n0b (fun h_13 W_14 A_15 => ?_)
  have A_16 : Ary Z h_13 b .char [(.int e0), (.int e1), (.int e2), (.int e3), (.int e4), (.int e5), (.int e6), (.int e7), (.int e8), (.int e9), (.int e10), (.int e11), (.int e12), (.int (108 : Int32)), (.int (105 : Int32)), (.int (115 : Int32)), (.int (116 : Int32)), (.int e17), (.int e18)] := by have := A_15; rw [show nar .char (116 : Int32) = (116 : Int32) from by decide] at this; exact this
  refine Go.aloadN 27 d3_26 rfl rfl rfl ?_
  refine Go.iloadN 28 d3_27 rfl rfl ?_
  refine Go.iconst 29 (4 : Int32) d3_28 rfl rfl ?_
  refine Go.iadd 30 d3_29 rfl ?_
  rw [show ((13 : Int32) + (4 : Int32)) = (17 : Int32) from by decide]
  refine Go.bipush 32 (101 : Int32) d3_30 rfl rfl ?_
  refine Go.castore 17 33 d3_32 rfl A_16 (by decide) (Nat.le_of_ble_eq_true rfl) (List.mem_of_getElem? (i := 0) rfl) n0b (fun h_17 W_18 A_19 => ?_)
  have A_20 : Ary Z h_17 b .char [(.int e0), (.int e1), (.int e2), (.int e3), (.int e4), (.int e5), (.int e6), (.int e7), (.int e8), (.int e9), (.int e10), (.int e11), (.int e12), (.int (108 : Int32)), (.int (105 : Int32)), (.int (115 : Int32)), (.int (116 : Int32)), (.int (101 : Int32)), (.int e18)] := by have := A_19; rw [show nar .char (101 : Int32) = (101 : Int32) from by decide] at this; exact this
  refine Go.aloadN 34 d3_33 rfl rfl rfl ?_
  refine Go.iloadN 35 d3_34 rfl rfl ?_
  refine Go.iconst 36 (5 : Int32) d3_35 rfl rfl ?_
  refine Go.iadd 37 d3_36 rfl ?_
  rw [show ((13 : Int32) + (5 : Int32)) = (18 : Int32) from by decide]
  refine Go.bipush 39 (100 : Int32) d3_37 rfl rfl ?_
  refine Go.castore 18 40 d3_39 rfl A_20 (by decide) (Nat.le_of_ble_eq_true rfl) (List.mem_of_getElem? (i := 0) rfl) n0b (fun h_21 W_22 A_23 => ?_)
  have A_24 : Ary Z h_21 b .char [(.int e0), (.int e1), (.int e2), (.int e3), (.int e4), (.int e5), (.int e6), (.int e7), (.int e8), (.int e9), (.int e10), (.int e11), (.int e12), (.int (108 : Int32)), (.int (105 : Int32)), (.int (115 : Int32)), (.int (116 : Int32)), (.int (101 : Int32)), (.int (100 : Int32))] := by have := A_23; rw [show nar .char (100 : Int32) = (100 : Int32) from by decide] at this; exact this
  exact Go.ret0 d3_40 rfl (sf' := []) (⟨rfl, (((((((Keep.refl h0 [b]).wr W_2 (Or.inl (List.mem_of_getElem? (i := 0) rfl))).wr W_6 (Or.inl (List.mem_of_getElem? (i := 0) rfl))).wr W_10 (Or.inl (List.mem_of_getElem? (i := 0) rfl))).wr W_14 (Or.inl (List.mem_of_getElem? (i := 0) rfl))).wr W_18 (Or.inl (List.mem_of_getElem? (i := 0) rfl))).wr W_22 (Or.inl (List.mem_of_getElem? (i := 0) rfl))), A_24⟩) (fun _ q => nomatch q) (Nat.le_of_ble_eq_true rfl) (Nat.le_of_ble_eq_true rfl)
abbrev G_putl15 (md : Md) (l : Launch) (Z : State) (n0 : Nat) (b : Addr) (e0 e1 e2 e3 e4 e5 e6 e7 e8 e9 e10 e11 e12 e13 e14 e15 e16 e17 e18 e19 e20 : Int32) (h0 : Heap) := Go md l Z n0 ({ frames := 0, cells := 0, slots := 0, locals := 0 } : Room) method_4_code 2 none "com/example/tugas/tugas/store/ListingListedOnlyPinLaw" "putListed" (fun v h' _ => v = none ∧ Keep h0 h' [b] ∧ Ary Z h' b .char [(.int e0), (.int e1), (.int e2), (.int e3), (.int e4), (.int e5), (.int e6), (.int e7), (.int e8), (.int e9), (.int e10), (.int e11), (.int e12), (.int e13), (.int e14), (.int (108 : Int32)), (.int (105 : Int32)), (.int (115 : Int32)), (.int (116 : Int32)), (.int (101 : Int32)), (.int (100 : Int32))])
theorem ef_putl15 (mid : MethodId) (b : Addr) (e0 e1 e2 e3 e4 e5 e6 e7 e8 e9 e10 e11 e12 e13 e14 e15 e16 e17 e18 e19 e20 : Int32)  : entryFrame mid #[(.ref b), (.int (15 : Int32))] 2 = mkF mid 0 #[.val (.ref b), .val (.int (15 : Int32))] [] := by first | (simp [entryFrame, mkF, argsToLocals, Value.category]; done) | rfl
set_option maxRecDepth 65536 in
set_option maxHeartbeats 40000000 in
theorem c_putl15 {md : Md} {l : Launch} {Z : State} {n0 : Nat} {a0 : Array Value} (hw : HW a0 Z) (b : Addr) (e0 e1 e2 e3 e4 e5 e6 e7 e8 e9 e10 e11 e12 e13 e14 e15 e16 e17 e18 e19 e20 : Int32) {h0 : Heap} (A : Ary Z h0 b .char [(.int e0), (.int e1), (.int e2), (.int e3), (.int e4), (.int e5), (.int e6), (.int e7), (.int e8), (.int e9), (.int e10), (.int e11), (.int e12), (.int e13), (.int e14), (.int e15), (.int e16), (.int e17), (.int e18), (.int e19), (.int e20)]) (n0b : n0 ≤ b) : G_putl15 md l Z n0 b e0 e1 e2 e3 e4 e5 e6 e7 e8 e9 e10 e11 e12 e13 e14 e15 e16 e17 e18 e19 e20 h0 0 0 [b] h0 0 #[.val (.ref b), .val (.int (15 : Int32))] [] := by
  refine Go.aloadN 1 d3_0 rfl rfl rfl ?_
  refine Go.iloadN 2 d3_1 rfl rfl ?_
  refine Go.bipush 4 (108 : Int32) d3_2 rfl rfl ?_
  refine Go.castore 15 5 d3_4 rfl A (by decide) (Nat.le_of_ble_eq_true rfl) (List.mem_of_getElem? (i := 0) rfl) n0b (fun h_1 W_2 A_3 => ?_)
  have A_4 : Ary Z h_1 b .char [(.int e0), (.int e1), (.int e2), (.int e3), (.int e4), (.int e5), (.int e6), (.int e7), (.int e8), (.int e9), (.int e10), (.int e11), (.int e12), (.int e13), (.int e14), (.int (108 : Int32)), (.int e16), (.int e17), (.int e18), (.int e19), (.int e20)] := by have := A_3; rw [show nar .char (108 : Int32) = (108 : Int32) from by decide] at this; exact this
  refine Go.aloadN 6 d3_5 rfl rfl rfl ?_
  refine Go.iloadN 7 d3_6 rfl rfl ?_
  refine Go.iconst 8 (1 : Int32) d3_7 rfl rfl ?_
  refine Go.iadd 9 d3_8 rfl ?_
  rw [show ((15 : Int32) + (1 : Int32)) = (16 : Int32) from by decide]
  refine Go.bipush 11 (105 : Int32) d3_9 rfl rfl ?_
  refine Go.castore 16 12 d3_11 rfl A_4 (by decide) (Nat.le_of_ble_eq_true rfl) (List.mem_of_getElem? (i := 0) rfl) n0b (fun h_5 W_6 A_7 => ?_)
  have A_8 : Ary Z h_5 b .char [(.int e0), (.int e1), (.int e2), (.int e3), (.int e4), (.int e5), (.int e6), (.int e7), (.int e8), (.int e9), (.int e10), (.int e11), (.int e12), (.int e13), (.int e14), (.int (108 : Int32)), (.int (105 : Int32)), (.int e17), (.int e18), (.int e19), (.int e20)] := by have := A_7; rw [show nar .char (105 : Int32) = (105 : Int32) from by decide] at this; exact this
  refine Go.aloadN 13 d3_12 rfl rfl rfl ?_
  refine Go.iloadN 14 d3_13 rfl rfl ?_
  refine Go.iconst 15 (2 : Int32) d3_14 rfl rfl ?_
  refine Go.iadd 16 d3_15 rfl ?_
  rw [show ((15 : Int32) + (2 : Int32)) = (17 : Int32) from by decide]
  refine Go.bipush 18 (115 : Int32) d3_16 rfl rfl ?_
  refine Go.castore 17 19 d3_18 rfl A_8 (by decide) (Nat.le_of_ble_eq_true rfl) (List.mem_of_getElem? (i := 0) rfl) n0b (fun h_9 W_10 A_11 => ?_)
  have A_12 : Ary Z h_9 b .char [(.int e0), (.int e1), (.int e2), (.int e3), (.int e4), (.int e5), (.int e6), (.int e7), (.int e8), (.int e9), (.int e10), (.int e11), (.int e12), (.int e13), (.int e14), (.int (108 : Int32)), (.int (105 : Int32)), (.int (115 : Int32)), (.int e18), (.int e19), (.int e20)] := by have := A_11; rw [show nar .char (115 : Int32) = (115 : Int32) from by decide] at this; exact this
  refine Go.aloadN 20 d3_19 rfl rfl rfl ?_
  refine Go.iloadN 21 d3_20 rfl rfl ?_
  refine Go.iconst 22 (3 : Int32) d3_21 rfl rfl ?_
  refine Go.iadd 23 d3_22 rfl ?_
  rw [show ((15 : Int32) + (3 : Int32)) = (18 : Int32) from by decide]
  refine Go.bipush 25 (116 : Int32) d3_23 rfl rfl ?_
  refine Go.castore 18 26 d3_25 rfl A_12 (by decide) (Nat.le_of_ble_eq_true rfl) (List.mem_of_getElem? (i := 0) rfl) n0b (fun h_13 W_14 A_15 => ?_)
  have A_16 : Ary Z h_13 b .char [(.int e0), (.int e1), (.int e2), (.int e3), (.int e4), (.int e5), (.int e6), (.int e7), (.int e8), (.int e9), (.int e10), (.int e11), (.int e12), (.int e13), (.int e14), (.int (108 : Int32)), (.int (105 : Int32)), (.int (115 : Int32)), (.int (116 : Int32)), (.int e19), (.int e20)] := by have := A_15; rw [show nar .char (116 : Int32) = (116 : Int32) from by decide] at this; exact this
  refine Go.aloadN 27 d3_26 rfl rfl rfl ?_
  refine Go.iloadN 28 d3_27 rfl rfl ?_
  refine Go.iconst 29 (4 : Int32) d3_28 rfl rfl ?_
  refine Go.iadd 30 d3_29 rfl ?_
  rw [show ((15 : Int32) + (4 : Int32)) = (19 : Int32) from by decide]
  refine Go.bipush 32 (101 : Int32) d3_30 rfl rfl ?_
  refine Go.castore 19 33 d3_32 rfl A_16 (by decide) (Nat.le_of_ble_eq_true rfl) (List.mem_of_getElem? (i := 0) rfl) n0b (fun h_17 W_18 A_19 => ?_)
  have A_20 : Ary Z h_17 b .char [(.int e0), (.int e1), (.int e2), (.int e3), (.int e4), (.int e5), (.int e6), (.int e7), (.int e8), (.int e9), (.int e10), (.int e11), (.int e12), (.int e13), (.int e14), (.int (108 : Int32)), (.int (105 : Int32)), (.int (115 : Int32)), (.int (116 : Int32)), (.int (101 : Int32)), (.int e20)] := by have := A_19; rw [show nar .char (101 : Int32) = (101 : Int32) from by decide] at this; exact this
  refine Go.aloadN 34 d3_33 rfl rfl rfl ?_
  refine Go.iloadN 35 d3_34 rfl rfl ?_
  refine Go.iconst 36 (5 : Int32) d3_35 rfl rfl ?_
  refine Go.iadd 37 d3_36 rfl ?_
  rw [show ((15 : Int32) + (5 : Int32)) = (20 : Int32) from by decide]
  refine Go.bipush 39 (100 : Int32) d3_37 rfl rfl ?_
  refine Go.castore 20 40 d3_39 rfl A_20 (by decide) (Nat.le_of_ble_eq_true rfl) (List.mem_of_getElem? (i := 0) rfl) n0b (fun h_21 W_22 A_23 => ?_)
  have A_24 : Ary Z h_21 b .char [(.int e0), (.int e1), (.int e2), (.int e3), (.int e4), (.int e5), (.int e6), (.int e7), (.int e8), (.int e9), (.int e10), (.int e11), (.int e12), (.int e13), (.int e14), (.int (108 : Int32)), (.int (105 : Int32)), (.int (115 : Int32)), (.int (116 : Int32)), (.int (101 : Int32)), (.int (100 : Int32))] := by have := A_23; rw [show nar .char (100 : Int32) = (100 : Int32) from by decide] at this; exact this
  exact Go.ret0 d3_40 rfl (sf' := []) (⟨rfl, (((((((Keep.refl h0 [b]).wr W_2 (Or.inl (List.mem_of_getElem? (i := 0) rfl))).wr W_6 (Or.inl (List.mem_of_getElem? (i := 0) rfl))).wr W_10 (Or.inl (List.mem_of_getElem? (i := 0) rfl))).wr W_14 (Or.inl (List.mem_of_getElem? (i := 0) rfl))).wr W_18 (Or.inl (List.mem_of_getElem? (i := 0) rfl))).wr W_22 (Or.inl (List.mem_of_getElem? (i := 0) rfl))), A_24⟩) (fun _ q => nomatch q) (Nat.le_of_ble_eq_true rfl) (Nat.le_of_ble_eq_true rfl)
abbrev G_law (l : Launch) (Z : State) (n0 : Nat) := Go (some consts_1) l Z n0 room_1 code maxLocals ret "com/example/tugas/tugas/store/ListingListedOnlyPinLaw" "law" (fun v _ _ => v = some (.int 1))
theorem ef_law (m : MethodId) (p0 : Int32) (q1 : Int64) : entryFrame m #[(.int p0), (.long q1)] maxLocals = mkF m 0 #[.val (.int p0), .val (.long q1), .second, .unset, .unset, .unset, .unset, .unset] [] := by first | (simp [entryFrame, mkF, argsToLocals, Value.category, maxLocals]; done) | rfl
set_option maxRecDepth 65536 in
set_option maxHeartbeats 40000000 in
theorem law_go {l : Launch} {Z : State} {n0 : Nat} {a0 : Array Value} (hw : HW a0 Z) (p0 : Int32) (q1 : Int64) (z : Int32) (fm : Value) (SC : Sta Z Z.heap "java/lang/String" "COMPACT_STRINGS" "Z" (.int z)) (hz : ¬ z = 0) (SF : Sta Z Z.heap "jdk/internal/util/Preconditions" "SIOOBE_FORMATTER" "Ljava/util/function/BiFunction;" fm) (rF : fm.isRef = true)  {h0 : Heap} : G_law l Z n0 0 0 [] h0 0 #[.val (.int p0), .val (.long q1), .second, .unset, .unset, .unset, .unset, .unset] [] := by
  refine Go.iloadN 1 at_0 rfl rfl ?_
  refine Go.bipush 3 (8 : Int32) at_1 rfl rfl ?_
  refine Go.iushr 4 at_3 rfl ?_
  refine Go.iconst 5 (1 : Int32) at_4 rfl rfl ?_
  refine Go.iand 6 at_5 rfl ?_
  obtain ⟨oo, e_oo⟩ : ∃ y_ : Int32, y_ = ((ushr p0 (8 : Int32)) &&& (1 : Int32)) := ⟨_, rfl⟩
  rw [← e_oo]
  show G_law l Z n0 0 0 [] h0 6 #[.val (.int p0), .val (.long q1), .second, .unset, .unset, .unset, .unset, .unset] [(.int oo)]
  refine Go.istoreN 7 #[.val (.int p0), .val (.long q1), .second, .val (.int oo), .unset, .unset, .unset, .unset] at_6 rfl rfl ?_
  refine Go.bipush 9 (8 : Int32) at_7 rfl rfl ?_
  refine Go.newA 8 11 at_9 rfl rfl (w0 hw) (by decide) 8 (Nat.le_refl _) (by decide) (Nat.le_of_ble_eq_true rfl) (Nat.le_of_ble_eq_true rfl) (fun h_1 x_2 g_3 q_4 E_5 lt_6 A_7 => ?_)
  have A_8 : Ary Z h_1 x_2 .char [(.int (0 : Int32)), (.int (0 : Int32)), (.int (0 : Int32)), (.int (0 : Int32)), (.int (0 : Int32)), (.int (0 : Int32)), (.int (0 : Int32)), (.int (0 : Int32))] := A_7
  show G_law l Z n0 1 8 [x_2] h_1 11 #[.val (.int p0), .val (.long q1), .second, .val (.int oo), .unset, .unset, .unset, .unset] [(.ref x_2)]
  refine Go.astore 13 #[.val (.int p0), .val (.long q1), .second, .val (.int oo), .val (.ref x_2), .unset, .unset, .unset] at_11 rfl rfl rfl ?_
  refine Go.aload 15 at_13 rfl rfl rfl ?_
  refine Go.iconst 16 (0 : Int32) at_15 rfl rfl ?_
  refine Go.iconst 17 (0 : Int32) at_16 rfl rfl ?_
  refine Go.iloadN 18 at_17 rfl rfl ?_
  refine Go.iloadN 19 at_18 rfl rfl ?_
  refine Go.lloadN 20 at_19 rfl rfl ?_
  refine Go.callS (S := [(.int (0 : Int32)), (.ref x_2)]) 23 [(.int (0 : Int32)), (.int oo), (.int p0), (.long q1)] at_20 rfl rfl (w1 hw) (w2 hw) (w3 hw) (w4 hw) (by decide) (call_of_go (R := _) (len := 3) (W := 2) (plainFor_of_name pn_5) (fun mid => ef_pick mid (0 : Int32) oo p0 q1 z fm ) (c_pick hw (0 : Int32) oo p0 q1 z fm SC hz SF rF) (w4 hw) (w3 hw) (by decide) (by decide)) (lenOf pd_25 rfl) (Nat.le_of_ble_eq_true rfl) rfl (Nat.le_of_ble_eq_true rfl) (Nat.le_of_ble_eq_true rfl) (fun _ q => nomatch q) (fun v h_9 sf_10 hq => ?_)
  obtain ⟨c0, rfl, X0, b_c0⟩ := hq
  refine Go.more (sf' := [x_2]) ?_ (Nat.le_refl _) (Nat.le_refl _) (fun _ q => List.mem_append_right _ q)
  show G_law l Z n0 3 40 [x_2] h_9 23 #[.val (.int p0), .val (.long q1), .second, .val (.int oo), .val (.ref x_2), .unset, .unset, .unset] [(.int c0), (.int (0 : Int32)), (.ref x_2)]
  have f_11 := A_8.ext X0
  refine Go.castore 0 24 at_23 rfl f_11 (by decide) (Nat.le_of_ble_eq_true rfl) (List.mem_of_getElem? (i := 0) rfl) q_4 (fun h_12 W_13 A_14 => ?_)
  have A_15 : Ary Z h_12 x_2 .char [(.int c0), (.int (0 : Int32)), (.int (0 : Int32)), (.int (0 : Int32)), (.int (0 : Int32)), (.int (0 : Int32)), (.int (0 : Int32)), (.int (0 : Int32))] := by have := A_14; rw [nar_c b_c0] at this; exact this
  refine Go.aload 26 at_24 rfl rfl rfl ?_
  refine Go.iconst 27 (1 : Int32) at_26 rfl rfl ?_
  refine Go.iconst 28 (1 : Int32) at_27 rfl rfl ?_
  refine Go.iloadN 29 at_28 rfl rfl ?_
  refine Go.iloadN 30 at_29 rfl rfl ?_
  refine Go.lloadN 31 at_30 rfl rfl ?_
  refine Go.callS (S := [(.int (1 : Int32)), (.ref x_2)]) 34 [(.int (1 : Int32)), (.int oo), (.int p0), (.long q1)] at_31 rfl rfl (w1 hw) (w2 hw) (w3 hw) (w4 hw) (by decide) (call_of_go (R := _) (len := 3) (W := 2) (plainFor_of_name pn_5) (fun mid => ef_pick mid (1 : Int32) oo p0 q1 z fm ) (c_pick hw (1 : Int32) oo p0 q1 z fm SC hz SF rF) (w4 hw) (w3 hw) (by decide) (by decide)) (lenOf pd_25 rfl) (Nat.le_of_ble_eq_true rfl) rfl (Nat.le_of_ble_eq_true rfl) (Nat.le_of_ble_eq_true rfl) (fun _ q => nomatch q) (fun v h_16 sf_17 hq => ?_)
  obtain ⟨c1, rfl, X1, b_c1⟩ := hq
  refine Go.more (sf' := [x_2]) ?_ (Nat.le_refl _) (Nat.le_refl _) (fun _ q => List.mem_append_right _ q)
  show G_law l Z n0 5 72 [x_2] h_16 34 #[.val (.int p0), .val (.long q1), .second, .val (.int oo), .val (.ref x_2), .unset, .unset, .unset] [(.int c1), (.int (1 : Int32)), (.ref x_2)]
  have f_18 := A_15.ext X1
  refine Go.castore 1 35 at_34 rfl f_18 (by decide) (Nat.le_of_ble_eq_true rfl) (List.mem_of_getElem? (i := 0) rfl) q_4 (fun h_19 W_20 A_21 => ?_)
  have A_22 : Ary Z h_19 x_2 .char [(.int c0), (.int c1), (.int (0 : Int32)), (.int (0 : Int32)), (.int (0 : Int32)), (.int (0 : Int32)), (.int (0 : Int32)), (.int (0 : Int32))] := by have := A_21; rw [nar_c b_c1] at this; exact this
  refine Go.aload 37 at_35 rfl rfl rfl ?_
  refine Go.iconst 38 (2 : Int32) at_37 rfl rfl ?_
  refine Go.iconst 39 (2 : Int32) at_38 rfl rfl ?_
  refine Go.iloadN 40 at_39 rfl rfl ?_
  refine Go.iloadN 41 at_40 rfl rfl ?_
  refine Go.lloadN 42 at_41 rfl rfl ?_
  refine Go.callS (S := [(.int (2 : Int32)), (.ref x_2)]) 45 [(.int (2 : Int32)), (.int oo), (.int p0), (.long q1)] at_42 rfl rfl (w1 hw) (w2 hw) (w3 hw) (w4 hw) (by decide) (call_of_go (R := _) (len := 3) (W := 2) (plainFor_of_name pn_5) (fun mid => ef_pick mid (2 : Int32) oo p0 q1 z fm ) (c_pick hw (2 : Int32) oo p0 q1 z fm SC hz SF rF) (w4 hw) (w3 hw) (by decide) (by decide)) (lenOf pd_25 rfl) (Nat.le_of_ble_eq_true rfl) rfl (Nat.le_of_ble_eq_true rfl) (Nat.le_of_ble_eq_true rfl) (fun _ q => nomatch q) (fun v h_23 sf_24 hq => ?_)
  obtain ⟨c2, rfl, X2, b_c2⟩ := hq
  refine Go.more (sf' := [x_2]) ?_ (Nat.le_refl _) (Nat.le_refl _) (fun _ q => List.mem_append_right _ q)
  show G_law l Z n0 7 104 [x_2] h_23 45 #[.val (.int p0), .val (.long q1), .second, .val (.int oo), .val (.ref x_2), .unset, .unset, .unset] [(.int c2), (.int (2 : Int32)), (.ref x_2)]
  have f_25 := A_22.ext X2
  refine Go.castore 2 46 at_45 rfl f_25 (by decide) (Nat.le_of_ble_eq_true rfl) (List.mem_of_getElem? (i := 0) rfl) q_4 (fun h_26 W_27 A_28 => ?_)
  have A_29 : Ary Z h_26 x_2 .char [(.int c0), (.int c1), (.int c2), (.int (0 : Int32)), (.int (0 : Int32)), (.int (0 : Int32)), (.int (0 : Int32)), (.int (0 : Int32))] := by have := A_28; rw [nar_c b_c2] at this; exact this
  refine Go.aload 48 at_46 rfl rfl rfl ?_
  refine Go.iconst 49 (3 : Int32) at_48 rfl rfl ?_
  refine Go.iconst 50 (3 : Int32) at_49 rfl rfl ?_
  refine Go.iloadN 51 at_50 rfl rfl ?_
  refine Go.iloadN 52 at_51 rfl rfl ?_
  refine Go.lloadN 53 at_52 rfl rfl ?_
  refine Go.callS (S := [(.int (3 : Int32)), (.ref x_2)]) 56 [(.int (3 : Int32)), (.int oo), (.int p0), (.long q1)] at_53 rfl rfl (w1 hw) (w2 hw) (w3 hw) (w4 hw) (by decide) (call_of_go (R := _) (len := 3) (W := 2) (plainFor_of_name pn_5) (fun mid => ef_pick mid (3 : Int32) oo p0 q1 z fm ) (c_pick hw (3 : Int32) oo p0 q1 z fm SC hz SF rF) (w4 hw) (w3 hw) (by decide) (by decide)) (lenOf pd_25 rfl) (Nat.le_of_ble_eq_true rfl) rfl (Nat.le_of_ble_eq_true rfl) (Nat.le_of_ble_eq_true rfl) (fun _ q => nomatch q) (fun v h_30 sf_31 hq => ?_)
  obtain ⟨c3, rfl, X3, b_c3⟩ := hq
  refine Go.more (sf' := [x_2]) ?_ (Nat.le_refl _) (Nat.le_refl _) (fun _ q => List.mem_append_right _ q)
  show G_law l Z n0 9 136 [x_2] h_30 56 #[.val (.int p0), .val (.long q1), .second, .val (.int oo), .val (.ref x_2), .unset, .unset, .unset] [(.int c3), (.int (3 : Int32)), (.ref x_2)]
  have f_32 := A_29.ext X3
  refine Go.castore 3 57 at_56 rfl f_32 (by decide) (Nat.le_of_ble_eq_true rfl) (List.mem_of_getElem? (i := 0) rfl) q_4 (fun h_33 W_34 A_35 => ?_)
  have A_36 : Ary Z h_33 x_2 .char [(.int c0), (.int c1), (.int c2), (.int c3), (.int (0 : Int32)), (.int (0 : Int32)), (.int (0 : Int32)), (.int (0 : Int32))] := by have := A_35; rw [nar_c b_c3] at this; exact this
  refine Go.aload 59 at_57 rfl rfl rfl ?_
  refine Go.iconst 60 (4 : Int32) at_59 rfl rfl ?_
  refine Go.iconst 61 (4 : Int32) at_60 rfl rfl ?_
  refine Go.iloadN 62 at_61 rfl rfl ?_
  refine Go.iloadN 63 at_62 rfl rfl ?_
  refine Go.lloadN 64 at_63 rfl rfl ?_
  refine Go.callS (S := [(.int (4 : Int32)), (.ref x_2)]) 67 [(.int (4 : Int32)), (.int oo), (.int p0), (.long q1)] at_64 rfl rfl (w1 hw) (w2 hw) (w3 hw) (w4 hw) (by decide) (call_of_go (R := _) (len := 3) (W := 2) (plainFor_of_name pn_5) (fun mid => ef_pick mid (4 : Int32) oo p0 q1 z fm ) (c_pick hw (4 : Int32) oo p0 q1 z fm SC hz SF rF) (w4 hw) (w3 hw) (by decide) (by decide)) (lenOf pd_25 rfl) (Nat.le_of_ble_eq_true rfl) rfl (Nat.le_of_ble_eq_true rfl) (Nat.le_of_ble_eq_true rfl) (fun _ q => nomatch q) (fun v h_37 sf_38 hq => ?_)
  obtain ⟨c4, rfl, X4, b_c4⟩ := hq
  refine Go.more (sf' := [x_2]) ?_ (Nat.le_refl _) (Nat.le_refl _) (fun _ q => List.mem_append_right _ q)
  show G_law l Z n0 11 168 [x_2] h_37 67 #[.val (.int p0), .val (.long q1), .second, .val (.int oo), .val (.ref x_2), .unset, .unset, .unset] [(.int c4), (.int (4 : Int32)), (.ref x_2)]
  have f_39 := A_36.ext X4
  refine Go.castore 4 68 at_67 rfl f_39 (by decide) (Nat.le_of_ble_eq_true rfl) (List.mem_of_getElem? (i := 0) rfl) q_4 (fun h_40 W_41 A_42 => ?_)
  have A_43 : Ary Z h_40 x_2 .char [(.int c0), (.int c1), (.int c2), (.int c3), (.int c4), (.int (0 : Int32)), (.int (0 : Int32)), (.int (0 : Int32))] := by have := A_42; rw [nar_c b_c4] at this; exact this
  refine Go.aload 70 at_68 rfl rfl rfl ?_
  refine Go.iconst 71 (5 : Int32) at_70 rfl rfl ?_
  refine Go.iconst 72 (5 : Int32) at_71 rfl rfl ?_
  refine Go.iloadN 73 at_72 rfl rfl ?_
  refine Go.iloadN 74 at_73 rfl rfl ?_
  refine Go.lloadN 75 at_74 rfl rfl ?_
  refine Go.callS (S := [(.int (5 : Int32)), (.ref x_2)]) 78 [(.int (5 : Int32)), (.int oo), (.int p0), (.long q1)] at_75 rfl rfl (w1 hw) (w2 hw) (w3 hw) (w4 hw) (by decide) (call_of_go (R := _) (len := 3) (W := 2) (plainFor_of_name pn_5) (fun mid => ef_pick mid (5 : Int32) oo p0 q1 z fm ) (c_pick hw (5 : Int32) oo p0 q1 z fm SC hz SF rF) (w4 hw) (w3 hw) (by decide) (by decide)) (lenOf pd_25 rfl) (Nat.le_of_ble_eq_true rfl) rfl (Nat.le_of_ble_eq_true rfl) (Nat.le_of_ble_eq_true rfl) (fun _ q => nomatch q) (fun v h_44 sf_45 hq => ?_)
  obtain ⟨c5, rfl, X5, b_c5⟩ := hq
  refine Go.more (sf' := [x_2]) ?_ (Nat.le_refl _) (Nat.le_refl _) (fun _ q => List.mem_append_right _ q)
  show G_law l Z n0 13 200 [x_2] h_44 78 #[.val (.int p0), .val (.long q1), .second, .val (.int oo), .val (.ref x_2), .unset, .unset, .unset] [(.int c5), (.int (5 : Int32)), (.ref x_2)]
  have f_46 := A_43.ext X5
  refine Go.castore 5 79 at_78 rfl f_46 (by decide) (Nat.le_of_ble_eq_true rfl) (List.mem_of_getElem? (i := 0) rfl) q_4 (fun h_47 W_48 A_49 => ?_)
  have A_50 : Ary Z h_47 x_2 .char [(.int c0), (.int c1), (.int c2), (.int c3), (.int c4), (.int c5), (.int (0 : Int32)), (.int (0 : Int32))] := by have := A_49; rw [nar_c b_c5] at this; exact this
  refine Go.aload 81 at_79 rfl rfl rfl ?_
  refine Go.bipush 83 (6 : Int32) at_81 rfl rfl ?_
  refine Go.bipush 85 (6 : Int32) at_83 rfl rfl ?_
  refine Go.iloadN 86 at_85 rfl rfl ?_
  refine Go.iloadN 87 at_86 rfl rfl ?_
  refine Go.lloadN 88 at_87 rfl rfl ?_
  refine Go.callS (S := [(.int (6 : Int32)), (.ref x_2)]) 91 [(.int (6 : Int32)), (.int oo), (.int p0), (.long q1)] at_88 rfl rfl (w1 hw) (w2 hw) (w3 hw) (w4 hw) (by decide) (call_of_go (R := _) (len := 3) (W := 2) (plainFor_of_name pn_5) (fun mid => ef_pick mid (6 : Int32) oo p0 q1 z fm ) (c_pick hw (6 : Int32) oo p0 q1 z fm SC hz SF rF) (w4 hw) (w3 hw) (by decide) (by decide)) (lenOf pd_25 rfl) (Nat.le_of_ble_eq_true rfl) rfl (Nat.le_of_ble_eq_true rfl) (Nat.le_of_ble_eq_true rfl) (fun _ q => nomatch q) (fun v h_51 sf_52 hq => ?_)
  obtain ⟨c6, rfl, X6, b_c6⟩ := hq
  refine Go.more (sf' := [x_2]) ?_ (Nat.le_refl _) (Nat.le_refl _) (fun _ q => List.mem_append_right _ q)
  show G_law l Z n0 15 232 [x_2] h_51 91 #[.val (.int p0), .val (.long q1), .second, .val (.int oo), .val (.ref x_2), .unset, .unset, .unset] [(.int c6), (.int (6 : Int32)), (.ref x_2)]
  have f_53 := A_50.ext X6
  refine Go.castore 6 92 at_91 rfl f_53 (by decide) (Nat.le_of_ble_eq_true rfl) (List.mem_of_getElem? (i := 0) rfl) q_4 (fun h_54 W_55 A_56 => ?_)
  have A_57 : Ary Z h_54 x_2 .char [(.int c0), (.int c1), (.int c2), (.int c3), (.int c4), (.int c5), (.int c6), (.int (0 : Int32))] := by have := A_56; rw [nar_c b_c6] at this; exact this
  refine Go.aload 94 at_92 rfl rfl rfl ?_
  refine Go.bipush 96 (7 : Int32) at_94 rfl rfl ?_
  refine Go.bipush 98 (7 : Int32) at_96 rfl rfl ?_
  refine Go.iloadN 99 at_98 rfl rfl ?_
  refine Go.iloadN 100 at_99 rfl rfl ?_
  refine Go.lloadN 101 at_100 rfl rfl ?_
  refine Go.callS (S := [(.int (7 : Int32)), (.ref x_2)]) 104 [(.int (7 : Int32)), (.int oo), (.int p0), (.long q1)] at_101 rfl rfl (w1 hw) (w2 hw) (w3 hw) (w4 hw) (by decide) (call_of_go (R := _) (len := 3) (W := 2) (plainFor_of_name pn_5) (fun mid => ef_pick mid (7 : Int32) oo p0 q1 z fm ) (c_pick hw (7 : Int32) oo p0 q1 z fm SC hz SF rF) (w4 hw) (w3 hw) (by decide) (by decide)) (lenOf pd_25 rfl) (Nat.le_of_ble_eq_true rfl) rfl (Nat.le_of_ble_eq_true rfl) (Nat.le_of_ble_eq_true rfl) (fun _ q => nomatch q) (fun v h_58 sf_59 hq => ?_)
  obtain ⟨c7, rfl, X7, b_c7⟩ := hq
  refine Go.more (sf' := [x_2]) ?_ (Nat.le_refl _) (Nat.le_refl _) (fun _ q => List.mem_append_right _ q)
  show G_law l Z n0 17 264 [x_2] h_58 104 #[.val (.int p0), .val (.long q1), .second, .val (.int oo), .val (.ref x_2), .unset, .unset, .unset] [(.int c7), (.int (7 : Int32)), (.ref x_2)]
  have f_60 := A_57.ext X7
  refine Go.castore 7 105 at_104 rfl f_60 (by decide) (Nat.le_of_ble_eq_true rfl) (List.mem_of_getElem? (i := 0) rfl) q_4 (fun h_61 W_62 A_63 => ?_)
  have A_64 : Ary Z h_61 x_2 .char [(.int c0), (.int c1), (.int c2), (.int c3), (.int c4), (.int c5), (.int c6), (.int c7)] := by have := A_63; rw [nar_c b_c7] at this; exact this
  have tl1 : ∀ (hP : WB c0 c1 c2 c3 c4 c5 c6 c7), G_law l Z n0 17 264 [x_2] h_61 128 #[.val (.int p0), .val (.long q1), .second, .val (.int oo), .val (.ref x_2), .unset, .unset, .unset] [(.int (1 : Int32))] := by
    intro hP
    refine Go.istore 130 #[.val (.int p0), .val (.long q1), .second, .val (.int oo), .val (.ref x_2), .val (.int (1 : Int32)), .unset, .unset] at_128 rfl rfl ?_
    refine Go.iload 132 at_130 rfl rfl ?_
    refine Go.ifN 135 at_132 rfl (feq (by decide)).1 ?_
    refine Go.bipush 137 (19 : Int32) at_135 rfl rfl ?_
    refine Go.goto 142 at_137 (by decide) (by decide) ?_
    refine Go.newA 19 144 at_142 rfl rfl (w0 hw) (by decide) 19 (Nat.le_refl _) (by decide) (Nat.le_of_ble_eq_true rfl) (Nat.le_of_ble_eq_true rfl) (fun h_65 x_66 g_67 q_68 E_69 lt_70 A_71 => ?_)
    have A_72 : Ary Z h_65 x_66 .char [(.int (0 : Int32)), (.int (0 : Int32)), (.int (0 : Int32)), (.int (0 : Int32)), (.int (0 : Int32)), (.int (0 : Int32)), (.int (0 : Int32)), (.int (0 : Int32)), (.int (0 : Int32)), (.int (0 : Int32)), (.int (0 : Int32)), (.int (0 : Int32)), (.int (0 : Int32)), (.int (0 : Int32)), (.int (0 : Int32)), (.int (0 : Int32)), (.int (0 : Int32)), (.int (0 : Int32)), (.int (0 : Int32))] := A_71
    show G_law l Z n0 18 283 [x_66, x_2] h_65 144 #[.val (.int p0), .val (.long q1), .second, .val (.int oo), .val (.ref x_2), .val (.int (1 : Int32)), .unset, .unset] [(.ref x_66)]
    refine Go.astore 146 #[.val (.int p0), .val (.long q1), .second, .val (.int oo), .val (.ref x_2), .val (.int (1 : Int32)), .val (.ref x_66), .unset] at_144 rfl rfl rfl ?_
    refine Go.aload 148 at_146 rfl rfl rfl ?_
    refine Go.iconst 149 (0 : Int32) at_148 rfl rfl ?_
    refine Go.aload 151 at_149 rfl rfl rfl ?_
    refine Go.iconst 152 (0 : Int32) at_151 rfl rfl ?_
    have f_73 := A_64.ext E_69
    refine Go.caload 0 153 at_152 rfl f_73 (by decide) rfl ?_
    refine Go.castore 0 154 at_153 rfl A_72 (by decide) (Nat.le_of_ble_eq_true rfl) (List.mem_of_getElem? (i := 0) rfl) q_68 (fun h_74 W_75 A_76 => ?_)
    have A_77 : Ary Z h_74 x_66 .char [(.int c0), (.int (0 : Int32)), (.int (0 : Int32)), (.int (0 : Int32)), (.int (0 : Int32)), (.int (0 : Int32)), (.int (0 : Int32)), (.int (0 : Int32)), (.int (0 : Int32)), (.int (0 : Int32)), (.int (0 : Int32)), (.int (0 : Int32)), (.int (0 : Int32)), (.int (0 : Int32)), (.int (0 : Int32)), (.int (0 : Int32)), (.int (0 : Int32)), (.int (0 : Int32)), (.int (0 : Int32))] := by have := A_76; rw [nar_c b_c0] at this; exact this
    refine Go.aload 156 at_154 rfl rfl rfl ?_
    refine Go.iconst 157 (1 : Int32) at_156 rfl rfl ?_
    refine Go.aload 159 at_157 rfl rfl rfl ?_
    refine Go.iconst 160 (1 : Int32) at_159 rfl rfl ?_
    have X_78 : Ext h_61 h_74 := extW E_69 W_75 (Nat.le_of_eq g_67)
    have f_79 := A_64.ext X_78
    refine Go.caload 1 161 at_160 rfl f_79 (by decide) rfl ?_
    refine Go.castore 1 162 at_161 rfl A_77 (by decide) (Nat.le_of_ble_eq_true rfl) (List.mem_of_getElem? (i := 0) rfl) q_68 (fun h_80 W_81 A_82 => ?_)
    have A_83 : Ary Z h_80 x_66 .char [(.int c0), (.int c1), (.int (0 : Int32)), (.int (0 : Int32)), (.int (0 : Int32)), (.int (0 : Int32)), (.int (0 : Int32)), (.int (0 : Int32)), (.int (0 : Int32)), (.int (0 : Int32)), (.int (0 : Int32)), (.int (0 : Int32)), (.int (0 : Int32)), (.int (0 : Int32)), (.int (0 : Int32)), (.int (0 : Int32)), (.int (0 : Int32)), (.int (0 : Int32)), (.int (0 : Int32))] := by have := A_82; rw [nar_c b_c1] at this; exact this
    refine Go.aload 164 at_162 rfl rfl rfl ?_
    refine Go.iconst 165 (2 : Int32) at_164 rfl rfl ?_
    refine Go.aload 167 at_165 rfl rfl rfl ?_
    refine Go.iconst 168 (2 : Int32) at_167 rfl rfl ?_
    have X_84 : Ext h_61 h_80 := extW X_78 W_81 (Nat.le_of_eq g_67)
    have f_85 := A_64.ext X_84
    refine Go.caload 2 169 at_168 rfl f_85 (by decide) rfl ?_
    refine Go.castore 2 170 at_169 rfl A_83 (by decide) (Nat.le_of_ble_eq_true rfl) (List.mem_of_getElem? (i := 0) rfl) q_68 (fun h_86 W_87 A_88 => ?_)
    have A_89 : Ary Z h_86 x_66 .char [(.int c0), (.int c1), (.int c2), (.int (0 : Int32)), (.int (0 : Int32)), (.int (0 : Int32)), (.int (0 : Int32)), (.int (0 : Int32)), (.int (0 : Int32)), (.int (0 : Int32)), (.int (0 : Int32)), (.int (0 : Int32)), (.int (0 : Int32)), (.int (0 : Int32)), (.int (0 : Int32)), (.int (0 : Int32)), (.int (0 : Int32)), (.int (0 : Int32)), (.int (0 : Int32))] := by have := A_88; rw [nar_c b_c2] at this; exact this
    refine Go.aload 172 at_170 rfl rfl rfl ?_
    refine Go.iconst 173 (3 : Int32) at_172 rfl rfl ?_
    refine Go.aload 175 at_173 rfl rfl rfl ?_
    refine Go.iconst 176 (3 : Int32) at_175 rfl rfl ?_
    have X_90 : Ext h_61 h_86 := extW X_84 W_87 (Nat.le_of_eq g_67)
    have f_91 := A_64.ext X_90
    refine Go.caload 3 177 at_176 rfl f_91 (by decide) rfl ?_
    refine Go.castore 3 178 at_177 rfl A_89 (by decide) (Nat.le_of_ble_eq_true rfl) (List.mem_of_getElem? (i := 0) rfl) q_68 (fun h_92 W_93 A_94 => ?_)
    have A_95 : Ary Z h_92 x_66 .char [(.int c0), (.int c1), (.int c2), (.int c3), (.int (0 : Int32)), (.int (0 : Int32)), (.int (0 : Int32)), (.int (0 : Int32)), (.int (0 : Int32)), (.int (0 : Int32)), (.int (0 : Int32)), (.int (0 : Int32)), (.int (0 : Int32)), (.int (0 : Int32)), (.int (0 : Int32)), (.int (0 : Int32)), (.int (0 : Int32)), (.int (0 : Int32)), (.int (0 : Int32))] := by have := A_94; rw [nar_c b_c3] at this; exact this
    refine Go.aload 180 at_178 rfl rfl rfl ?_
    refine Go.iconst 181 (4 : Int32) at_180 rfl rfl ?_
    refine Go.aload 183 at_181 rfl rfl rfl ?_
    refine Go.iconst 184 (4 : Int32) at_183 rfl rfl ?_
    have X_96 : Ext h_61 h_92 := extW X_90 W_93 (Nat.le_of_eq g_67)
    have f_97 := A_64.ext X_96
    refine Go.caload 4 185 at_184 rfl f_97 (by decide) rfl ?_
    refine Go.castore 4 186 at_185 rfl A_95 (by decide) (Nat.le_of_ble_eq_true rfl) (List.mem_of_getElem? (i := 0) rfl) q_68 (fun h_98 W_99 A_100 => ?_)
    have A_101 : Ary Z h_98 x_66 .char [(.int c0), (.int c1), (.int c2), (.int c3), (.int c4), (.int (0 : Int32)), (.int (0 : Int32)), (.int (0 : Int32)), (.int (0 : Int32)), (.int (0 : Int32)), (.int (0 : Int32)), (.int (0 : Int32)), (.int (0 : Int32)), (.int (0 : Int32)), (.int (0 : Int32)), (.int (0 : Int32)), (.int (0 : Int32)), (.int (0 : Int32)), (.int (0 : Int32))] := by have := A_100; rw [nar_c b_c4] at this; exact this
    refine Go.aload 188 at_186 rfl rfl rfl ?_
    refine Go.iconst 189 (5 : Int32) at_188 rfl rfl ?_
    refine Go.aload 191 at_189 rfl rfl rfl ?_
    refine Go.iconst 192 (5 : Int32) at_191 rfl rfl ?_
    have X_102 : Ext h_61 h_98 := extW X_96 W_99 (Nat.le_of_eq g_67)
    have f_103 := A_64.ext X_102
    refine Go.caload 5 193 at_192 rfl f_103 (by decide) rfl ?_
    refine Go.castore 5 194 at_193 rfl A_101 (by decide) (Nat.le_of_ble_eq_true rfl) (List.mem_of_getElem? (i := 0) rfl) q_68 (fun h_104 W_105 A_106 => ?_)
    have A_107 : Ary Z h_104 x_66 .char [(.int c0), (.int c1), (.int c2), (.int c3), (.int c4), (.int c5), (.int (0 : Int32)), (.int (0 : Int32)), (.int (0 : Int32)), (.int (0 : Int32)), (.int (0 : Int32)), (.int (0 : Int32)), (.int (0 : Int32)), (.int (0 : Int32)), (.int (0 : Int32)), (.int (0 : Int32)), (.int (0 : Int32)), (.int (0 : Int32)), (.int (0 : Int32))] := by have := A_106; rw [nar_c b_c5] at this; exact this
    refine Go.aload 196 at_194 rfl rfl rfl ?_
    refine Go.bipush 198 (6 : Int32) at_196 rfl rfl ?_
    refine Go.aload 200 at_198 rfl rfl rfl ?_
    refine Go.bipush 202 (6 : Int32) at_200 rfl rfl ?_
    have X_108 : Ext h_61 h_104 := extW X_102 W_105 (Nat.le_of_eq g_67)
    have f_109 := A_64.ext X_108
    refine Go.caload 6 203 at_202 rfl f_109 (by decide) rfl ?_
    refine Go.castore 6 204 at_203 rfl A_107 (by decide) (Nat.le_of_ble_eq_true rfl) (List.mem_of_getElem? (i := 0) rfl) q_68 (fun h_110 W_111 A_112 => ?_)
    have A_113 : Ary Z h_110 x_66 .char [(.int c0), (.int c1), (.int c2), (.int c3), (.int c4), (.int c5), (.int c6), (.int (0 : Int32)), (.int (0 : Int32)), (.int (0 : Int32)), (.int (0 : Int32)), (.int (0 : Int32)), (.int (0 : Int32)), (.int (0 : Int32)), (.int (0 : Int32)), (.int (0 : Int32)), (.int (0 : Int32)), (.int (0 : Int32)), (.int (0 : Int32))] := by have := A_112; rw [nar_c b_c6] at this; exact this
    refine Go.aload 206 at_204 rfl rfl rfl ?_
    refine Go.bipush 208 (7 : Int32) at_206 rfl rfl ?_
    refine Go.aload 210 at_208 rfl rfl rfl ?_
    refine Go.bipush 212 (7 : Int32) at_210 rfl rfl ?_
    have X_114 : Ext h_61 h_110 := extW X_108 W_111 (Nat.le_of_eq g_67)
    have f_115 := A_64.ext X_114
    refine Go.caload 7 213 at_212 rfl f_115 (by decide) rfl ?_
    refine Go.castore 7 214 at_213 rfl A_113 (by decide) (Nat.le_of_ble_eq_true rfl) (List.mem_of_getElem? (i := 0) rfl) q_68 (fun h_116 W_117 A_118 => ?_)
    have A_119 : Ary Z h_116 x_66 .char [(.int c0), (.int c1), (.int c2), (.int c3), (.int c4), (.int c5), (.int c6), (.int c7), (.int (0 : Int32)), (.int (0 : Int32)), (.int (0 : Int32)), (.int (0 : Int32)), (.int (0 : Int32)), (.int (0 : Int32)), (.int (0 : Int32)), (.int (0 : Int32)), (.int (0 : Int32)), (.int (0 : Int32)), (.int (0 : Int32))] := by have := A_118; rw [nar_c b_c7] at this; exact this
    refine Go.iload 216 at_214 rfl rfl ?_
    refine Go.ifN 219 at_216 rfl (feq (by decide)).1 ?_
    refine Go.aload 221 at_219 rfl rfl rfl ?_
    refine Go.bipush 223 (8 : Int32) at_221 rfl rfl ?_
    refine Go.bipush 225 (32 : Int32) at_223 rfl rfl ?_
    refine Go.castore 8 226 at_225 rfl A_119 (by decide) (Nat.le_of_ble_eq_true rfl) (List.mem_of_getElem? (i := 0) rfl) q_68 (fun h_120 W_121 A_122 => ?_)
    have A_123 : Ary Z h_120 x_66 .char [(.int c0), (.int c1), (.int c2), (.int c3), (.int c4), (.int c5), (.int c6), (.int c7), (.int (32 : Int32)), (.int (0 : Int32)), (.int (0 : Int32)), (.int (0 : Int32)), (.int (0 : Int32)), (.int (0 : Int32)), (.int (0 : Int32)), (.int (0 : Int32)), (.int (0 : Int32)), (.int (0 : Int32)), (.int (0 : Int32))] := by have := A_122; rw [show nar .char (32 : Int32) = (32 : Int32) from by decide] at this; exact this
    refine Go.aload 228 at_226 rfl rfl rfl ?_
    refine Go.bipush 230 (9 : Int32) at_228 rfl rfl ?_
    refine Go.bipush 232 (65 : Int32) at_230 rfl rfl ?_
    refine Go.castore 9 233 at_232 rfl A_123 (by decide) (Nat.le_of_ble_eq_true rfl) (List.mem_of_getElem? (i := 0) rfl) q_68 (fun h_124 W_125 A_126 => ?_)
    have A_127 : Ary Z h_124 x_66 .char [(.int c0), (.int c1), (.int c2), (.int c3), (.int c4), (.int c5), (.int c6), (.int c7), (.int (32 : Int32)), (.int (65 : Int32)), (.int (0 : Int32)), (.int (0 : Int32)), (.int (0 : Int32)), (.int (0 : Int32)), (.int (0 : Int32)), (.int (0 : Int32)), (.int (0 : Int32)), (.int (0 : Int32)), (.int (0 : Int32))] := by have := A_126; rw [show nar .char (65 : Int32) = (65 : Int32) from by decide] at this; exact this
    refine Go.aload 235 at_233 rfl rfl rfl ?_
    refine Go.bipush 237 (10 : Int32) at_235 rfl rfl ?_
    refine Go.bipush 239 (78 : Int32) at_237 rfl rfl ?_
    refine Go.castore 10 240 at_239 rfl A_127 (by decide) (Nat.le_of_ble_eq_true rfl) (List.mem_of_getElem? (i := 0) rfl) q_68 (fun h_128 W_129 A_130 => ?_)
    have A_131 : Ary Z h_128 x_66 .char [(.int c0), (.int c1), (.int c2), (.int c3), (.int c4), (.int c5), (.int c6), (.int c7), (.int (32 : Int32)), (.int (65 : Int32)), (.int (78 : Int32)), (.int (0 : Int32)), (.int (0 : Int32)), (.int (0 : Int32)), (.int (0 : Int32)), (.int (0 : Int32)), (.int (0 : Int32)), (.int (0 : Int32)), (.int (0 : Int32))] := by have := A_130; rw [show nar .char (78 : Int32) = (78 : Int32) from by decide] at this; exact this
    refine Go.aload 242 at_240 rfl rfl rfl ?_
    refine Go.bipush 244 (11 : Int32) at_242 rfl rfl ?_
    refine Go.bipush 246 (68 : Int32) at_244 rfl rfl ?_
    refine Go.castore 11 247 at_246 rfl A_131 (by decide) (Nat.le_of_ble_eq_true rfl) (List.mem_of_getElem? (i := 0) rfl) q_68 (fun h_132 W_133 A_134 => ?_)
    have A_135 : Ary Z h_132 x_66 .char [(.int c0), (.int c1), (.int c2), (.int c3), (.int c4), (.int c5), (.int c6), (.int c7), (.int (32 : Int32)), (.int (65 : Int32)), (.int (78 : Int32)), (.int (68 : Int32)), (.int (0 : Int32)), (.int (0 : Int32)), (.int (0 : Int32)), (.int (0 : Int32)), (.int (0 : Int32)), (.int (0 : Int32)), (.int (0 : Int32))] := by have := A_134; rw [show nar .char (68 : Int32) = (68 : Int32) from by decide] at this; exact this
    refine Go.aload 249 at_247 rfl rfl rfl ?_
    refine Go.bipush 251 (12 : Int32) at_249 rfl rfl ?_
    refine Go.bipush 253 (32 : Int32) at_251 rfl rfl ?_
    refine Go.castore 12 254 at_253 rfl A_135 (by decide) (Nat.le_of_ble_eq_true rfl) (List.mem_of_getElem? (i := 0) rfl) q_68 (fun h_136 W_137 A_138 => ?_)
    have A_139 : Ary Z h_136 x_66 .char [(.int c0), (.int c1), (.int c2), (.int c3), (.int c4), (.int c5), (.int c6), (.int c7), (.int (32 : Int32)), (.int (65 : Int32)), (.int (78 : Int32)), (.int (68 : Int32)), (.int (32 : Int32)), (.int (0 : Int32)), (.int (0 : Int32)), (.int (0 : Int32)), (.int (0 : Int32)), (.int (0 : Int32)), (.int (0 : Int32))] := by have := A_138; rw [show nar .char (32 : Int32) = (32 : Int32) from by decide] at this; exact this
    refine Go.aload 256 at_254 rfl rfl rfl ?_
    refine Go.bipush 258 (13 : Int32) at_256 rfl rfl ?_
    refine Go.callS (S := []) 261 [(.ref x_66), (.int (13 : Int32))] at_258 rfl rfl (w9 hw) (w10 hw) (w3 hw) (w11 hw) (by decide) (call_of_go (R := _) (len := 3) (W := 0) (plainFor_of_name pn_5) (fun mid => ef_putl13 mid x_66 c0 c1 c2 c3 c4 c5 c6 c7 (32 : Int32) (65 : Int32) (78 : Int32) (68 : Int32) (32 : Int32) (0 : Int32) (0 : Int32) (0 : Int32) (0 : Int32) (0 : Int32) (0 : Int32) ) (c_putl13 hw x_66 c0 c1 c2 c3 c4 c5 c6 c7 (32 : Int32) (65 : Int32) (78 : Int32) (68 : Int32) (32 : Int32) (0 : Int32) (0 : Int32) (0 : Int32) (0 : Int32) (0 : Int32) (0 : Int32) A_139 q_68) (w11 hw) (w3 hw) (by decide) (by decide)) (lenOf pd_26 rfl) (Nat.le_of_ble_eq_true rfl) rfl (Nat.le_of_ble_eq_true rfl) (Nat.le_of_ble_eq_true rfl) (sub1 (List.mem_of_getElem? (i := 0) rfl)) (fun v h_142 sf_143 hq => ?_)
    obtain ⟨rfl, K_140, A_141⟩ := hq
    refine Go.more (sf' := [x_66, x_2]) ?_ (Nat.le_refl _) (Nat.le_refl _) (fun _ q => List.mem_append_right _ q)
    show G_law l Z n0 18 283 [x_66, x_2] h_142 261 #[.val (.int p0), .val (.long q1), .second, .val (.int oo), .val (.ref x_2), .val (.int (1 : Int32)), .val (.ref x_66), .unset] []
    refine Go.goto 320 at_261 (by decide) (by decide) ?_
    refine Go.new 323 at_320 rfl (w12 hw) (w13 hw) (w14 hw) (Nat.le_of_ble_eq_true rfl) (Nat.le_of_ble_eq_true rfl) (fun h_144 x_145 g_146 q_147 E_148 lt_149 A_150 D_151 => ?_)
    show G_law l Z n0 19 287 [x_145, x_66, x_2] h_144 323 #[.val (.int p0), .val (.long q1), .second, .val (.int oo), .val (.ref x_2), .val (.int (1 : Int32)), .val (.ref x_66), .unset] [(.ref x_145)]
    refine Go.dup 324 at_323 rfl rfl ?_
    refine Go.aload 326 at_324 rfl rfl rfl ?_
    have X_152 : Ext h_61 h_116 := extW X_114 W_117 (Nat.le_of_eq g_67)
    have X_153 : Ext h_61 h_120 := extW X_152 W_121 (Nat.le_of_eq g_67)
    have X_154 : Ext h_61 h_124 := extW X_153 W_125 (Nat.le_of_eq g_67)
    have X_155 : Ext h_61 h_128 := extW X_154 W_129 (Nat.le_of_eq g_67)
    have X_156 : Ext h_61 h_132 := extW X_155 W_133 (Nat.le_of_eq g_67)
    have X_157 : Ext h_61 h_136 := extW X_156 W_137 (Nat.le_of_eq g_67)
    have X_158 : Ext h_61 h_142 := extK X_157 K_140 (allS (Nat.le_of_eq g_67) all0)
    have X_159 : Ext h_61 h_144 := extT X_158 E_148
    have f_160 := A_64.ext X_159
    refine Go.old fun o_164 _ => ?_
    refine Go.callC (S := [(.ref x_145)]) (a := x_145) 329 [(.ref x_2)] at_326 rfl rfl rfl (w15 hw) (w16 hw) (w17 hw) (by decide) (strNew (W := 1) (cs := [c0, c1, c2, c3, c4, c5, c6, c7]) (hws hw) (w13 hw) q_147 o_164 A_150 (D_151 (Or.inr (w40 hw)) (ty := (.array .byte)) (by decide)) (D_151 (Or.inr (w38 hw)) (ty := .byte) (by decide)) f_160 SC hz 8 rfl (by decide) (by decide) ((latC b_c0 (latC b_c1 (latC b_c2 (latC b_c3 (latC b_c4 (latC b_c5 (latC b_c6 (latC b_c7 latN))))))))) (by decide) (by decide) (List.mem_of_getElem? (i := 0) rfl)) (lenOf pd_27 rfl) (Nat.le_of_ble_eq_true rfl) rfl (Nat.le_of_ble_eq_true rfl) (Nat.le_of_ble_eq_true rfl) (fun _ q => q) (fun v h_161 sf_165 hq => ?_)
    obtain ⟨rfl, K_162, S_163⟩ := hq
    refine Go.more (sf' := [x_145, x_66, x_2]) ?_ (Nat.le_refl _) (Nat.le_refl _) (fun _ q => List.mem_append_right _ q)
    show G_law l Z n0 20 295 [x_145, x_66, x_2] h_161 329 #[.val (.int p0), .val (.long q1), .second, .val (.int oo), .val (.ref x_2), .val (.int (1 : Int32)), .val (.ref x_66), .unset] [(.ref x_145)]
    refine Go.callS (S := []) 332 [(.ref x_145)] at_329 rfl rfl (w41 hw) (w42 hw) (w43 hw) (w44 hw) (by decide) (call_of_go (R := _) (len := 3) (W := 0) (plainFor_of_name pn_6) (fun mid => ef_listed mid x_145 z c0 c1 c2 c3 c4 c5 c6 c7 ) (c_listed hw x_145 z c0 c1 c2 c3 c4 c5 c6 c7 S_163 b_c0 b_c1 b_c2 b_c3 b_c4 b_c5 b_c6 b_c7 SC hz) (w44 hw) (w43 hw) (by decide) (by decide)) (lenOf pd_28 rfl) (Nat.le_of_ble_eq_true rfl) rfl (Nat.le_of_ble_eq_true rfl) (Nat.le_of_ble_eq_true rfl) (fun _ q => nomatch q) (fun v h_166 sf_167 hq => ?_)
    obtain ⟨yy, rfl, XL, hL⟩ := hq
    have SL : Str Z h_166 yy [c0, c1, c2, c3, c4, c5, c6, c7, (32 : Int32), (65 : Int32), (78 : Int32), (68 : Int32), (32 : Int32), (108 : Int32), (105 : Int32), (115 : Int32), (116 : Int32), (101 : Int32), (100 : Int32)] := hL.elim (fun z => z.2) (fun z => absurd hP z.1)
    refine Go.more (sf' := [x_145, x_66, x_2]) ?_ (Nat.le_refl _) (Nat.le_refl _) (fun _ q => List.mem_append_right _ q)
    show G_law l Z n0 31 466 [x_145, x_66, x_2] h_166 332 #[.val (.int p0), .val (.long q1), .second, .val (.int oo), .val (.ref x_2), .val (.int (1 : Int32)), .val (.ref x_66), .unset] [(.ref yy)]
    refine Go.astore 334 #[.val (.int p0), .val (.long q1), .second, .val (.int oo), .val (.ref x_2), .val (.int (1 : Int32)), .val (.ref x_66), .val (.ref yy)] at_332 rfl rfl rfl ?_
    refine Go.new 337 at_334 rfl (w12 hw) (w13 hw) (w14 hw) (Nat.le_of_ble_eq_true rfl) (Nat.le_of_ble_eq_true rfl) (fun h_168 x_169 g_170 q_171 E_172 lt_173 A_174 D_175 => ?_)
    show G_law l Z n0 32 470 [x_169, x_145, x_66, x_2] h_168 337 #[.val (.int p0), .val (.long q1), .second, .val (.int oo), .val (.ref x_2), .val (.int (1 : Int32)), .val (.ref x_66), .val (.ref yy)] [(.ref x_169)]
    refine Go.dup 338 at_337 rfl rfl ?_
    refine Go.aload 340 at_338 rfl rfl rfl ?_
    have X_176 : Ext h_142 h_161 := extK E_148 K_162 (allS (Nat.le_of_eq g_146) all0)
    have X_177 : Ext h_142 h_166 := extT X_176 XL
    have X_178 : Ext h_142 h_168 := extT X_177 E_172
    have f_179 := A_141.ext X_178
    refine Go.old fun o_183 _ => ?_
    refine Go.callC (S := [(.ref x_169)]) (a := x_169) 343 [(.ref x_66)] at_340 rfl rfl rfl (w15 hw) (w16 hw) (w17 hw) (by decide) (strNew (W := 1) (cs := [c0, c1, c2, c3, c4, c5, c6, c7, (32 : Int32), (65 : Int32), (78 : Int32), (68 : Int32), (32 : Int32), (108 : Int32), (105 : Int32), (115 : Int32), (116 : Int32), (101 : Int32), (100 : Int32)]) (hws hw) (w13 hw) q_171 o_183 A_174 (D_175 (Or.inr (w40 hw)) (ty := (.array .byte)) (by decide)) (D_175 (Or.inr (w38 hw)) (ty := .byte) (by decide)) f_179 SC hz 19 rfl (by decide) (by decide) ((latC b_c0 (latC b_c1 (latC b_c2 (latC b_c3 (latC b_c4 (latC b_c5 (latC b_c6 (latC b_c7 (latC (by decide) (latC (by decide) (latC (by decide) (latC (by decide) (latC (by decide) (latC (by decide) (latC (by decide) (latC (by decide) (latC (by decide) (latC (by decide) (latC (by decide) latN)))))))))))))))))))) (by decide) (by decide) (List.mem_of_getElem? (i := 0) rfl)) (lenOf pd_27 rfl) (Nat.le_of_ble_eq_true rfl) rfl (Nat.le_of_ble_eq_true rfl) (Nat.le_of_ble_eq_true rfl) (fun _ q => q) (fun v h_180 sf_184 hq => ?_)
    obtain ⟨rfl, K_181, S_182⟩ := hq
    refine Go.more (sf' := [x_169, x_145, x_66, x_2]) ?_ (Nat.le_refl _) (Nat.le_refl _) (fun _ q => List.mem_append_right _ q)
    show G_law l Z n0 33 489 [x_169, x_145, x_66, x_2] h_180 343 #[.val (.int p0), .val (.long q1), .second, .val (.int oo), .val (.ref x_2), .val (.int (1 : Int32)), .val (.ref x_66), .val (.ref yy)] [(.ref x_169)]
    refine Go.aload 345 at_343 rfl rfl rfl ?_
    have X_185 : Ext h_166 h_180 := extK E_172 K_181 (allS (Nat.le_of_eq g_170) all0)
    have f_186 := SL.ext X_185
    refine Go.old fun o_187 _ => ?_
    refine Go.callV (S := []) (a := x_169) 348 [(.ref yy)] at_345 rfl rfl (w207 hw) (w208 hw) (w210 hw) (w209 hw) (fun _ q => notFace_of_selects (args := #[]) (mvT q (w210 hw))) (by decide) S_182.exa (strEq (W := 0) (heq hw) (w13 hw) S_182 f_186 (Nat.le_of_ble_eq_true rfl) (Nat.le_of_ble_eq_true rfl) o_187 SC hz (by decide) (by decide)) (lenOf pd_29 rfl) (Nat.le_of_ble_eq_true rfl) rfl (Nat.le_of_ble_eq_true rfl) (Nat.le_of_ble_eq_true rfl) (fun _ q => q) (fun v h_188 sf_189 hq => ?_)
    obtain ⟨rfl, ⟨rfl, q_345⟩ | ⟨rfl, q_345⟩⟩ := hq
    · skip
      refine Go.more (sf' := [x_169, x_145, x_66, x_2]) ?_ (Nat.le_refl _) (Nat.le_refl _) (fun _ q => List.mem_append_right _ q)
      show G_law l Z n0 33 489 [x_169, x_145, x_66, x_2] h_180 348 #[.val (.int p0), .val (.long q1), .second, .val (.int oo), .val (.ref x_2), .val (.int (1 : Int32)), .val (.ref x_66), .val (.ref yy)] [(.int (1 : Int32))]
      exact Go.retN (1 : Int32) at_348 rfl (t := .boolean) (by simp) rfl (sf' := []) (rfl) (fun _ q => nomatch q) (Nat.le_of_ble_eq_true rfl) (Nat.le_of_ble_eq_true rfl)
    · skip
      refine Go.more (sf' := [x_169, x_145, x_66, x_2]) ?_ (Nat.le_refl _) (Nat.le_refl _) (fun _ q => List.mem_append_right _ q)
      show G_law l Z n0 33 489 [x_169, x_145, x_66, x_2] h_180 348 #[.val (.int p0), .val (.long q1), .second, .val (.int oo), .val (.ref x_2), .val (.int (1 : Int32)), .val (.ref x_66), .val (.ref yy)] [(.int (0 : Int32))]
      exact absurd rfl q_345
  have tl0 : ∀ (hP : ¬ WB c0 c1 c2 c3 c4 c5 c6 c7), G_law l Z n0 17 264 [x_2] h_61 128 #[.val (.int p0), .val (.long q1), .second, .val (.int oo), .val (.ref x_2), .unset, .unset, .unset] [(.int (0 : Int32))] := by
    intro hP
    refine Go.istore 130 #[.val (.int p0), .val (.long q1), .second, .val (.int oo), .val (.ref x_2), .val (.int (0 : Int32)), .unset, .unset] at_128 rfl rfl ?_
    refine Go.iload 132 at_130 rfl rfl ?_
    refine Go.ifY 140 at_132 (by decide) (by decide) (teq (by decide)).1 ?_
    refine Go.bipush 142 (21 : Int32) at_140 rfl rfl ?_
    refine Go.newA 21 144 at_142 rfl rfl (w0 hw) (by decide) 21 (Nat.le_refl _) (by decide) (Nat.le_of_ble_eq_true rfl) (Nat.le_of_ble_eq_true rfl) (fun h_190 x_191 g_192 q_193 E_194 lt_195 A_196 => ?_)
    have A_197 : Ary Z h_190 x_191 .char [(.int (0 : Int32)), (.int (0 : Int32)), (.int (0 : Int32)), (.int (0 : Int32)), (.int (0 : Int32)), (.int (0 : Int32)), (.int (0 : Int32)), (.int (0 : Int32)), (.int (0 : Int32)), (.int (0 : Int32)), (.int (0 : Int32)), (.int (0 : Int32)), (.int (0 : Int32)), (.int (0 : Int32)), (.int (0 : Int32)), (.int (0 : Int32)), (.int (0 : Int32)), (.int (0 : Int32)), (.int (0 : Int32)), (.int (0 : Int32)), (.int (0 : Int32))] := A_196
    show G_law l Z n0 18 285 [x_191, x_2] h_190 144 #[.val (.int p0), .val (.long q1), .second, .val (.int oo), .val (.ref x_2), .val (.int (0 : Int32)), .unset, .unset] [(.ref x_191)]
    refine Go.astore 146 #[.val (.int p0), .val (.long q1), .second, .val (.int oo), .val (.ref x_2), .val (.int (0 : Int32)), .val (.ref x_191), .unset] at_144 rfl rfl rfl ?_
    refine Go.aload 148 at_146 rfl rfl rfl ?_
    refine Go.iconst 149 (0 : Int32) at_148 rfl rfl ?_
    refine Go.aload 151 at_149 rfl rfl rfl ?_
    refine Go.iconst 152 (0 : Int32) at_151 rfl rfl ?_
    have f_198 := A_64.ext E_194
    refine Go.caload 0 153 at_152 rfl f_198 (by decide) rfl ?_
    refine Go.castore 0 154 at_153 rfl A_197 (by decide) (Nat.le_of_ble_eq_true rfl) (List.mem_of_getElem? (i := 0) rfl) q_193 (fun h_199 W_200 A_201 => ?_)
    have A_202 : Ary Z h_199 x_191 .char [(.int c0), (.int (0 : Int32)), (.int (0 : Int32)), (.int (0 : Int32)), (.int (0 : Int32)), (.int (0 : Int32)), (.int (0 : Int32)), (.int (0 : Int32)), (.int (0 : Int32)), (.int (0 : Int32)), (.int (0 : Int32)), (.int (0 : Int32)), (.int (0 : Int32)), (.int (0 : Int32)), (.int (0 : Int32)), (.int (0 : Int32)), (.int (0 : Int32)), (.int (0 : Int32)), (.int (0 : Int32)), (.int (0 : Int32)), (.int (0 : Int32))] := by have := A_201; rw [nar_c b_c0] at this; exact this
    refine Go.aload 156 at_154 rfl rfl rfl ?_
    refine Go.iconst 157 (1 : Int32) at_156 rfl rfl ?_
    refine Go.aload 159 at_157 rfl rfl rfl ?_
    refine Go.iconst 160 (1 : Int32) at_159 rfl rfl ?_
    have X_203 : Ext h_61 h_199 := extW E_194 W_200 (Nat.le_of_eq g_192)
    have f_204 := A_64.ext X_203
    refine Go.caload 1 161 at_160 rfl f_204 (by decide) rfl ?_
    refine Go.castore 1 162 at_161 rfl A_202 (by decide) (Nat.le_of_ble_eq_true rfl) (List.mem_of_getElem? (i := 0) rfl) q_193 (fun h_205 W_206 A_207 => ?_)
    have A_208 : Ary Z h_205 x_191 .char [(.int c0), (.int c1), (.int (0 : Int32)), (.int (0 : Int32)), (.int (0 : Int32)), (.int (0 : Int32)), (.int (0 : Int32)), (.int (0 : Int32)), (.int (0 : Int32)), (.int (0 : Int32)), (.int (0 : Int32)), (.int (0 : Int32)), (.int (0 : Int32)), (.int (0 : Int32)), (.int (0 : Int32)), (.int (0 : Int32)), (.int (0 : Int32)), (.int (0 : Int32)), (.int (0 : Int32)), (.int (0 : Int32)), (.int (0 : Int32))] := by have := A_207; rw [nar_c b_c1] at this; exact this
    refine Go.aload 164 at_162 rfl rfl rfl ?_
    refine Go.iconst 165 (2 : Int32) at_164 rfl rfl ?_
    refine Go.aload 167 at_165 rfl rfl rfl ?_
    refine Go.iconst 168 (2 : Int32) at_167 rfl rfl ?_
    have X_209 : Ext h_61 h_205 := extW X_203 W_206 (Nat.le_of_eq g_192)
    have f_210 := A_64.ext X_209
    refine Go.caload 2 169 at_168 rfl f_210 (by decide) rfl ?_
    refine Go.castore 2 170 at_169 rfl A_208 (by decide) (Nat.le_of_ble_eq_true rfl) (List.mem_of_getElem? (i := 0) rfl) q_193 (fun h_211 W_212 A_213 => ?_)
    have A_214 : Ary Z h_211 x_191 .char [(.int c0), (.int c1), (.int c2), (.int (0 : Int32)), (.int (0 : Int32)), (.int (0 : Int32)), (.int (0 : Int32)), (.int (0 : Int32)), (.int (0 : Int32)), (.int (0 : Int32)), (.int (0 : Int32)), (.int (0 : Int32)), (.int (0 : Int32)), (.int (0 : Int32)), (.int (0 : Int32)), (.int (0 : Int32)), (.int (0 : Int32)), (.int (0 : Int32)), (.int (0 : Int32)), (.int (0 : Int32)), (.int (0 : Int32))] := by have := A_213; rw [nar_c b_c2] at this; exact this
    refine Go.aload 172 at_170 rfl rfl rfl ?_
    refine Go.iconst 173 (3 : Int32) at_172 rfl rfl ?_
    refine Go.aload 175 at_173 rfl rfl rfl ?_
    refine Go.iconst 176 (3 : Int32) at_175 rfl rfl ?_
    have X_215 : Ext h_61 h_211 := extW X_209 W_212 (Nat.le_of_eq g_192)
    have f_216 := A_64.ext X_215
    refine Go.caload 3 177 at_176 rfl f_216 (by decide) rfl ?_
    refine Go.castore 3 178 at_177 rfl A_214 (by decide) (Nat.le_of_ble_eq_true rfl) (List.mem_of_getElem? (i := 0) rfl) q_193 (fun h_217 W_218 A_219 => ?_)
    have A_220 : Ary Z h_217 x_191 .char [(.int c0), (.int c1), (.int c2), (.int c3), (.int (0 : Int32)), (.int (0 : Int32)), (.int (0 : Int32)), (.int (0 : Int32)), (.int (0 : Int32)), (.int (0 : Int32)), (.int (0 : Int32)), (.int (0 : Int32)), (.int (0 : Int32)), (.int (0 : Int32)), (.int (0 : Int32)), (.int (0 : Int32)), (.int (0 : Int32)), (.int (0 : Int32)), (.int (0 : Int32)), (.int (0 : Int32)), (.int (0 : Int32))] := by have := A_219; rw [nar_c b_c3] at this; exact this
    refine Go.aload 180 at_178 rfl rfl rfl ?_
    refine Go.iconst 181 (4 : Int32) at_180 rfl rfl ?_
    refine Go.aload 183 at_181 rfl rfl rfl ?_
    refine Go.iconst 184 (4 : Int32) at_183 rfl rfl ?_
    have X_221 : Ext h_61 h_217 := extW X_215 W_218 (Nat.le_of_eq g_192)
    have f_222 := A_64.ext X_221
    refine Go.caload 4 185 at_184 rfl f_222 (by decide) rfl ?_
    refine Go.castore 4 186 at_185 rfl A_220 (by decide) (Nat.le_of_ble_eq_true rfl) (List.mem_of_getElem? (i := 0) rfl) q_193 (fun h_223 W_224 A_225 => ?_)
    have A_226 : Ary Z h_223 x_191 .char [(.int c0), (.int c1), (.int c2), (.int c3), (.int c4), (.int (0 : Int32)), (.int (0 : Int32)), (.int (0 : Int32)), (.int (0 : Int32)), (.int (0 : Int32)), (.int (0 : Int32)), (.int (0 : Int32)), (.int (0 : Int32)), (.int (0 : Int32)), (.int (0 : Int32)), (.int (0 : Int32)), (.int (0 : Int32)), (.int (0 : Int32)), (.int (0 : Int32)), (.int (0 : Int32)), (.int (0 : Int32))] := by have := A_225; rw [nar_c b_c4] at this; exact this
    refine Go.aload 188 at_186 rfl rfl rfl ?_
    refine Go.iconst 189 (5 : Int32) at_188 rfl rfl ?_
    refine Go.aload 191 at_189 rfl rfl rfl ?_
    refine Go.iconst 192 (5 : Int32) at_191 rfl rfl ?_
    have X_227 : Ext h_61 h_223 := extW X_221 W_224 (Nat.le_of_eq g_192)
    have f_228 := A_64.ext X_227
    refine Go.caload 5 193 at_192 rfl f_228 (by decide) rfl ?_
    refine Go.castore 5 194 at_193 rfl A_226 (by decide) (Nat.le_of_ble_eq_true rfl) (List.mem_of_getElem? (i := 0) rfl) q_193 (fun h_229 W_230 A_231 => ?_)
    have A_232 : Ary Z h_229 x_191 .char [(.int c0), (.int c1), (.int c2), (.int c3), (.int c4), (.int c5), (.int (0 : Int32)), (.int (0 : Int32)), (.int (0 : Int32)), (.int (0 : Int32)), (.int (0 : Int32)), (.int (0 : Int32)), (.int (0 : Int32)), (.int (0 : Int32)), (.int (0 : Int32)), (.int (0 : Int32)), (.int (0 : Int32)), (.int (0 : Int32)), (.int (0 : Int32)), (.int (0 : Int32)), (.int (0 : Int32))] := by have := A_231; rw [nar_c b_c5] at this; exact this
    refine Go.aload 196 at_194 rfl rfl rfl ?_
    refine Go.bipush 198 (6 : Int32) at_196 rfl rfl ?_
    refine Go.aload 200 at_198 rfl rfl rfl ?_
    refine Go.bipush 202 (6 : Int32) at_200 rfl rfl ?_
    have X_233 : Ext h_61 h_229 := extW X_227 W_230 (Nat.le_of_eq g_192)
    have f_234 := A_64.ext X_233
    refine Go.caload 6 203 at_202 rfl f_234 (by decide) rfl ?_
    refine Go.castore 6 204 at_203 rfl A_232 (by decide) (Nat.le_of_ble_eq_true rfl) (List.mem_of_getElem? (i := 0) rfl) q_193 (fun h_235 W_236 A_237 => ?_)
    have A_238 : Ary Z h_235 x_191 .char [(.int c0), (.int c1), (.int c2), (.int c3), (.int c4), (.int c5), (.int c6), (.int (0 : Int32)), (.int (0 : Int32)), (.int (0 : Int32)), (.int (0 : Int32)), (.int (0 : Int32)), (.int (0 : Int32)), (.int (0 : Int32)), (.int (0 : Int32)), (.int (0 : Int32)), (.int (0 : Int32)), (.int (0 : Int32)), (.int (0 : Int32)), (.int (0 : Int32)), (.int (0 : Int32))] := by have := A_237; rw [nar_c b_c6] at this; exact this
    refine Go.aload 206 at_204 rfl rfl rfl ?_
    refine Go.bipush 208 (7 : Int32) at_206 rfl rfl ?_
    refine Go.aload 210 at_208 rfl rfl rfl ?_
    refine Go.bipush 212 (7 : Int32) at_210 rfl rfl ?_
    have X_239 : Ext h_61 h_235 := extW X_233 W_236 (Nat.le_of_eq g_192)
    have f_240 := A_64.ext X_239
    refine Go.caload 7 213 at_212 rfl f_240 (by decide) rfl ?_
    refine Go.castore 7 214 at_213 rfl A_238 (by decide) (Nat.le_of_ble_eq_true rfl) (List.mem_of_getElem? (i := 0) rfl) q_193 (fun h_241 W_242 A_243 => ?_)
    have A_244 : Ary Z h_241 x_191 .char [(.int c0), (.int c1), (.int c2), (.int c3), (.int c4), (.int c5), (.int c6), (.int c7), (.int (0 : Int32)), (.int (0 : Int32)), (.int (0 : Int32)), (.int (0 : Int32)), (.int (0 : Int32)), (.int (0 : Int32)), (.int (0 : Int32)), (.int (0 : Int32)), (.int (0 : Int32)), (.int (0 : Int32)), (.int (0 : Int32)), (.int (0 : Int32)), (.int (0 : Int32))] := by have := A_243; rw [nar_c b_c7] at this; exact this
    refine Go.iload 216 at_214 rfl rfl ?_
    refine Go.ifY 264 at_216 (by decide) (by decide) (teq (by decide)).1 ?_
    refine Go.aload 266 at_264 rfl rfl rfl ?_
    refine Go.bipush 268 (8 : Int32) at_266 rfl rfl ?_
    refine Go.bipush 270 (32 : Int32) at_268 rfl rfl ?_
    refine Go.castore 8 271 at_270 rfl A_244 (by decide) (Nat.le_of_ble_eq_true rfl) (List.mem_of_getElem? (i := 0) rfl) q_193 (fun h_245 W_246 A_247 => ?_)
    have A_248 : Ary Z h_245 x_191 .char [(.int c0), (.int c1), (.int c2), (.int c3), (.int c4), (.int c5), (.int c6), (.int c7), (.int (32 : Int32)), (.int (0 : Int32)), (.int (0 : Int32)), (.int (0 : Int32)), (.int (0 : Int32)), (.int (0 : Int32)), (.int (0 : Int32)), (.int (0 : Int32)), (.int (0 : Int32)), (.int (0 : Int32)), (.int (0 : Int32)), (.int (0 : Int32)), (.int (0 : Int32))] := by have := A_247; rw [show nar .char (32 : Int32) = (32 : Int32) from by decide] at this; exact this
    refine Go.aload 273 at_271 rfl rfl rfl ?_
    refine Go.bipush 275 (9 : Int32) at_273 rfl rfl ?_
    refine Go.bipush 277 (87 : Int32) at_275 rfl rfl ?_
    refine Go.castore 9 278 at_277 rfl A_248 (by decide) (Nat.le_of_ble_eq_true rfl) (List.mem_of_getElem? (i := 0) rfl) q_193 (fun h_249 W_250 A_251 => ?_)
    have A_252 : Ary Z h_249 x_191 .char [(.int c0), (.int c1), (.int c2), (.int c3), (.int c4), (.int c5), (.int c6), (.int c7), (.int (32 : Int32)), (.int (87 : Int32)), (.int (0 : Int32)), (.int (0 : Int32)), (.int (0 : Int32)), (.int (0 : Int32)), (.int (0 : Int32)), (.int (0 : Int32)), (.int (0 : Int32)), (.int (0 : Int32)), (.int (0 : Int32)), (.int (0 : Int32)), (.int (0 : Int32))] := by have := A_251; rw [show nar .char (87 : Int32) = (87 : Int32) from by decide] at this; exact this
    refine Go.aload 280 at_278 rfl rfl rfl ?_
    refine Go.bipush 282 (10 : Int32) at_280 rfl rfl ?_
    refine Go.bipush 284 (72 : Int32) at_282 rfl rfl ?_
    refine Go.castore 10 285 at_284 rfl A_252 (by decide) (Nat.le_of_ble_eq_true rfl) (List.mem_of_getElem? (i := 0) rfl) q_193 (fun h_253 W_254 A_255 => ?_)
    have A_256 : Ary Z h_253 x_191 .char [(.int c0), (.int c1), (.int c2), (.int c3), (.int c4), (.int c5), (.int c6), (.int c7), (.int (32 : Int32)), (.int (87 : Int32)), (.int (72 : Int32)), (.int (0 : Int32)), (.int (0 : Int32)), (.int (0 : Int32)), (.int (0 : Int32)), (.int (0 : Int32)), (.int (0 : Int32)), (.int (0 : Int32)), (.int (0 : Int32)), (.int (0 : Int32)), (.int (0 : Int32))] := by have := A_255; rw [show nar .char (72 : Int32) = (72 : Int32) from by decide] at this; exact this
    refine Go.aload 287 at_285 rfl rfl rfl ?_
    refine Go.bipush 289 (11 : Int32) at_287 rfl rfl ?_
    refine Go.bipush 291 (69 : Int32) at_289 rfl rfl ?_
    refine Go.castore 11 292 at_291 rfl A_256 (by decide) (Nat.le_of_ble_eq_true rfl) (List.mem_of_getElem? (i := 0) rfl) q_193 (fun h_257 W_258 A_259 => ?_)
    have A_260 : Ary Z h_257 x_191 .char [(.int c0), (.int c1), (.int c2), (.int c3), (.int c4), (.int c5), (.int c6), (.int c7), (.int (32 : Int32)), (.int (87 : Int32)), (.int (72 : Int32)), (.int (69 : Int32)), (.int (0 : Int32)), (.int (0 : Int32)), (.int (0 : Int32)), (.int (0 : Int32)), (.int (0 : Int32)), (.int (0 : Int32)), (.int (0 : Int32)), (.int (0 : Int32)), (.int (0 : Int32))] := by have := A_259; rw [show nar .char (69 : Int32) = (69 : Int32) from by decide] at this; exact this
    refine Go.aload 294 at_292 rfl rfl rfl ?_
    refine Go.bipush 296 (12 : Int32) at_294 rfl rfl ?_
    refine Go.bipush 298 (82 : Int32) at_296 rfl rfl ?_
    refine Go.castore 12 299 at_298 rfl A_260 (by decide) (Nat.le_of_ble_eq_true rfl) (List.mem_of_getElem? (i := 0) rfl) q_193 (fun h_261 W_262 A_263 => ?_)
    have A_264 : Ary Z h_261 x_191 .char [(.int c0), (.int c1), (.int c2), (.int c3), (.int c4), (.int c5), (.int c6), (.int c7), (.int (32 : Int32)), (.int (87 : Int32)), (.int (72 : Int32)), (.int (69 : Int32)), (.int (82 : Int32)), (.int (0 : Int32)), (.int (0 : Int32)), (.int (0 : Int32)), (.int (0 : Int32)), (.int (0 : Int32)), (.int (0 : Int32)), (.int (0 : Int32)), (.int (0 : Int32))] := by have := A_263; rw [show nar .char (82 : Int32) = (82 : Int32) from by decide] at this; exact this
    refine Go.aload 301 at_299 rfl rfl rfl ?_
    refine Go.bipush 303 (13 : Int32) at_301 rfl rfl ?_
    refine Go.bipush 305 (69 : Int32) at_303 rfl rfl ?_
    refine Go.castore 13 306 at_305 rfl A_264 (by decide) (Nat.le_of_ble_eq_true rfl) (List.mem_of_getElem? (i := 0) rfl) q_193 (fun h_265 W_266 A_267 => ?_)
    have A_268 : Ary Z h_265 x_191 .char [(.int c0), (.int c1), (.int c2), (.int c3), (.int c4), (.int c5), (.int c6), (.int c7), (.int (32 : Int32)), (.int (87 : Int32)), (.int (72 : Int32)), (.int (69 : Int32)), (.int (82 : Int32)), (.int (69 : Int32)), (.int (0 : Int32)), (.int (0 : Int32)), (.int (0 : Int32)), (.int (0 : Int32)), (.int (0 : Int32)), (.int (0 : Int32)), (.int (0 : Int32))] := by have := A_267; rw [show nar .char (69 : Int32) = (69 : Int32) from by decide] at this; exact this
    refine Go.aload 308 at_306 rfl rfl rfl ?_
    refine Go.bipush 310 (14 : Int32) at_308 rfl rfl ?_
    refine Go.bipush 312 (32 : Int32) at_310 rfl rfl ?_
    refine Go.castore 14 313 at_312 rfl A_268 (by decide) (Nat.le_of_ble_eq_true rfl) (List.mem_of_getElem? (i := 0) rfl) q_193 (fun h_269 W_270 A_271 => ?_)
    have A_272 : Ary Z h_269 x_191 .char [(.int c0), (.int c1), (.int c2), (.int c3), (.int c4), (.int c5), (.int c6), (.int c7), (.int (32 : Int32)), (.int (87 : Int32)), (.int (72 : Int32)), (.int (69 : Int32)), (.int (82 : Int32)), (.int (69 : Int32)), (.int (32 : Int32)), (.int (0 : Int32)), (.int (0 : Int32)), (.int (0 : Int32)), (.int (0 : Int32)), (.int (0 : Int32)), (.int (0 : Int32))] := by have := A_271; rw [show nar .char (32 : Int32) = (32 : Int32) from by decide] at this; exact this
    refine Go.aload 315 at_313 rfl rfl rfl ?_
    refine Go.bipush 317 (15 : Int32) at_315 rfl rfl ?_
    refine Go.callS (S := []) 320 [(.ref x_191), (.int (15 : Int32))] at_317 rfl rfl (w9 hw) (w10 hw) (w3 hw) (w11 hw) (by decide) (call_of_go (R := _) (len := 3) (W := 0) (plainFor_of_name pn_5) (fun mid => ef_putl15 mid x_191 c0 c1 c2 c3 c4 c5 c6 c7 (32 : Int32) (87 : Int32) (72 : Int32) (69 : Int32) (82 : Int32) (69 : Int32) (32 : Int32) (0 : Int32) (0 : Int32) (0 : Int32) (0 : Int32) (0 : Int32) (0 : Int32) ) (c_putl15 hw x_191 c0 c1 c2 c3 c4 c5 c6 c7 (32 : Int32) (87 : Int32) (72 : Int32) (69 : Int32) (82 : Int32) (69 : Int32) (32 : Int32) (0 : Int32) (0 : Int32) (0 : Int32) (0 : Int32) (0 : Int32) (0 : Int32) A_272 q_193) (w11 hw) (w3 hw) (by decide) (by decide)) (lenOf pd_26 rfl) (Nat.le_of_ble_eq_true rfl) rfl (Nat.le_of_ble_eq_true rfl) (Nat.le_of_ble_eq_true rfl) (sub1 (List.mem_of_getElem? (i := 0) rfl)) (fun v h_275 sf_276 hq => ?_)
    obtain ⟨rfl, K_273, A_274⟩ := hq
    refine Go.more (sf' := [x_191, x_2]) ?_ (Nat.le_refl _) (Nat.le_refl _) (fun _ q => List.mem_append_right _ q)
    show G_law l Z n0 18 285 [x_191, x_2] h_275 320 #[.val (.int p0), .val (.long q1), .second, .val (.int oo), .val (.ref x_2), .val (.int (0 : Int32)), .val (.ref x_191), .unset] []
    refine Go.new 323 at_320 rfl (w12 hw) (w13 hw) (w14 hw) (Nat.le_of_ble_eq_true rfl) (Nat.le_of_ble_eq_true rfl) (fun h_277 x_278 g_279 q_280 E_281 lt_282 A_283 D_284 => ?_)
    show G_law l Z n0 19 289 [x_278, x_191, x_2] h_277 323 #[.val (.int p0), .val (.long q1), .second, .val (.int oo), .val (.ref x_2), .val (.int (0 : Int32)), .val (.ref x_191), .unset] [(.ref x_278)]
    refine Go.dup 324 at_323 rfl rfl ?_
    refine Go.aload 326 at_324 rfl rfl rfl ?_
    have X_285 : Ext h_61 h_241 := extW X_239 W_242 (Nat.le_of_eq g_192)
    have X_286 : Ext h_61 h_245 := extW X_285 W_246 (Nat.le_of_eq g_192)
    have X_287 : Ext h_61 h_249 := extW X_286 W_250 (Nat.le_of_eq g_192)
    have X_288 : Ext h_61 h_253 := extW X_287 W_254 (Nat.le_of_eq g_192)
    have X_289 : Ext h_61 h_257 := extW X_288 W_258 (Nat.le_of_eq g_192)
    have X_290 : Ext h_61 h_261 := extW X_289 W_262 (Nat.le_of_eq g_192)
    have X_291 : Ext h_61 h_265 := extW X_290 W_266 (Nat.le_of_eq g_192)
    have X_292 : Ext h_61 h_269 := extW X_291 W_270 (Nat.le_of_eq g_192)
    have X_293 : Ext h_61 h_275 := extK X_292 K_273 (allS (Nat.le_of_eq g_192) all0)
    have X_294 : Ext h_61 h_277 := extT X_293 E_281
    have f_295 := A_64.ext X_294
    refine Go.old fun o_299 _ => ?_
    refine Go.callC (S := [(.ref x_278)]) (a := x_278) 329 [(.ref x_2)] at_326 rfl rfl rfl (w15 hw) (w16 hw) (w17 hw) (by decide) (strNew (W := 1) (cs := [c0, c1, c2, c3, c4, c5, c6, c7]) (hws hw) (w13 hw) q_280 o_299 A_283 (D_284 (Or.inr (w40 hw)) (ty := (.array .byte)) (by decide)) (D_284 (Or.inr (w38 hw)) (ty := .byte) (by decide)) f_295 SC hz 8 rfl (by decide) (by decide) ((latC b_c0 (latC b_c1 (latC b_c2 (latC b_c3 (latC b_c4 (latC b_c5 (latC b_c6 (latC b_c7 latN))))))))) (by decide) (by decide) (List.mem_of_getElem? (i := 0) rfl)) (lenOf pd_27 rfl) (Nat.le_of_ble_eq_true rfl) rfl (Nat.le_of_ble_eq_true rfl) (Nat.le_of_ble_eq_true rfl) (fun _ q => q) (fun v h_296 sf_300 hq => ?_)
    obtain ⟨rfl, K_297, S_298⟩ := hq
    refine Go.more (sf' := [x_278, x_191, x_2]) ?_ (Nat.le_refl _) (Nat.le_refl _) (fun _ q => List.mem_append_right _ q)
    show G_law l Z n0 20 297 [x_278, x_191, x_2] h_296 329 #[.val (.int p0), .val (.long q1), .second, .val (.int oo), .val (.ref x_2), .val (.int (0 : Int32)), .val (.ref x_191), .unset] [(.ref x_278)]
    refine Go.callS (S := []) 332 [(.ref x_278)] at_329 rfl rfl (w41 hw) (w42 hw) (w43 hw) (w44 hw) (by decide) (call_of_go (R := _) (len := 3) (W := 0) (plainFor_of_name pn_6) (fun mid => ef_listed mid x_278 z c0 c1 c2 c3 c4 c5 c6 c7 ) (c_listed hw x_278 z c0 c1 c2 c3 c4 c5 c6 c7 S_298 b_c0 b_c1 b_c2 b_c3 b_c4 b_c5 b_c6 b_c7 SC hz) (w44 hw) (w43 hw) (by decide) (by decide)) (lenOf pd_28 rfl) (Nat.le_of_ble_eq_true rfl) rfl (Nat.le_of_ble_eq_true rfl) (Nat.le_of_ble_eq_true rfl) (fun _ q => nomatch q) (fun v h_301 sf_302 hq => ?_)
    obtain ⟨yy, rfl, XL, hL⟩ := hq
    have SL : Str Z h_301 yy [c0, c1, c2, c3, c4, c5, c6, c7, (32 : Int32), (87 : Int32), (72 : Int32), (69 : Int32), (82 : Int32), (69 : Int32), (32 : Int32), (108 : Int32), (105 : Int32), (115 : Int32), (116 : Int32), (101 : Int32), (100 : Int32)] := hL.elim (fun z => absurd z.1 hP) (fun z => z.2)
    refine Go.more (sf' := [x_278, x_191, x_2]) ?_ (Nat.le_refl _) (Nat.le_refl _) (fun _ q => List.mem_append_right _ q)
    show G_law l Z n0 31 468 [x_278, x_191, x_2] h_301 332 #[.val (.int p0), .val (.long q1), .second, .val (.int oo), .val (.ref x_2), .val (.int (0 : Int32)), .val (.ref x_191), .unset] [(.ref yy)]
    refine Go.astore 334 #[.val (.int p0), .val (.long q1), .second, .val (.int oo), .val (.ref x_2), .val (.int (0 : Int32)), .val (.ref x_191), .val (.ref yy)] at_332 rfl rfl rfl ?_
    refine Go.new 337 at_334 rfl (w12 hw) (w13 hw) (w14 hw) (Nat.le_of_ble_eq_true rfl) (Nat.le_of_ble_eq_true rfl) (fun h_303 x_304 g_305 q_306 E_307 lt_308 A_309 D_310 => ?_)
    show G_law l Z n0 32 472 [x_304, x_278, x_191, x_2] h_303 337 #[.val (.int p0), .val (.long q1), .second, .val (.int oo), .val (.ref x_2), .val (.int (0 : Int32)), .val (.ref x_191), .val (.ref yy)] [(.ref x_304)]
    refine Go.dup 338 at_337 rfl rfl ?_
    refine Go.aload 340 at_338 rfl rfl rfl ?_
    have X_311 : Ext h_275 h_296 := extK E_281 K_297 (allS (Nat.le_of_eq g_279) all0)
    have X_312 : Ext h_275 h_301 := extT X_311 XL
    have X_313 : Ext h_275 h_303 := extT X_312 E_307
    have f_314 := A_274.ext X_313
    refine Go.old fun o_318 _ => ?_
    refine Go.callC (S := [(.ref x_304)]) (a := x_304) 343 [(.ref x_191)] at_340 rfl rfl rfl (w15 hw) (w16 hw) (w17 hw) (by decide) (strNew (W := 1) (cs := [c0, c1, c2, c3, c4, c5, c6, c7, (32 : Int32), (87 : Int32), (72 : Int32), (69 : Int32), (82 : Int32), (69 : Int32), (32 : Int32), (108 : Int32), (105 : Int32), (115 : Int32), (116 : Int32), (101 : Int32), (100 : Int32)]) (hws hw) (w13 hw) q_306 o_318 A_309 (D_310 (Or.inr (w40 hw)) (ty := (.array .byte)) (by decide)) (D_310 (Or.inr (w38 hw)) (ty := .byte) (by decide)) f_314 SC hz 21 rfl (by decide) (by decide) ((latC b_c0 (latC b_c1 (latC b_c2 (latC b_c3 (latC b_c4 (latC b_c5 (latC b_c6 (latC b_c7 (latC (by decide) (latC (by decide) (latC (by decide) (latC (by decide) (latC (by decide) (latC (by decide) (latC (by decide) (latC (by decide) (latC (by decide) (latC (by decide) (latC (by decide) (latC (by decide) (latC (by decide) latN)))))))))))))))))))))) (by decide) (by decide) (List.mem_of_getElem? (i := 0) rfl)) (lenOf pd_27 rfl) (Nat.le_of_ble_eq_true rfl) rfl (Nat.le_of_ble_eq_true rfl) (Nat.le_of_ble_eq_true rfl) (fun _ q => q) (fun v h_315 sf_319 hq => ?_)
    obtain ⟨rfl, K_316, S_317⟩ := hq
    refine Go.more (sf' := [x_304, x_278, x_191, x_2]) ?_ (Nat.le_refl _) (Nat.le_refl _) (fun _ q => List.mem_append_right _ q)
    show G_law l Z n0 33 493 [x_304, x_278, x_191, x_2] h_315 343 #[.val (.int p0), .val (.long q1), .second, .val (.int oo), .val (.ref x_2), .val (.int (0 : Int32)), .val (.ref x_191), .val (.ref yy)] [(.ref x_304)]
    refine Go.aload 345 at_343 rfl rfl rfl ?_
    have X_320 : Ext h_301 h_315 := extK E_307 K_316 (allS (Nat.le_of_eq g_305) all0)
    have f_321 := SL.ext X_320
    refine Go.old fun o_322 _ => ?_
    refine Go.callV (S := []) (a := x_304) 348 [(.ref yy)] at_345 rfl rfl (w207 hw) (w208 hw) (w210 hw) (w209 hw) (fun _ q => notFace_of_selects (args := #[]) (mvT q (w210 hw))) (by decide) S_317.exa (strEq (W := 0) (heq hw) (w13 hw) S_317 f_321 (Nat.le_of_ble_eq_true rfl) (Nat.le_of_ble_eq_true rfl) o_322 SC hz (by decide) (by decide)) (lenOf pd_29 rfl) (Nat.le_of_ble_eq_true rfl) rfl (Nat.le_of_ble_eq_true rfl) (Nat.le_of_ble_eq_true rfl) (fun _ q => q) (fun v h_323 sf_324 hq => ?_)
    obtain ⟨rfl, ⟨rfl, q_345⟩ | ⟨rfl, q_345⟩⟩ := hq
    · skip
      refine Go.more (sf' := [x_304, x_278, x_191, x_2]) ?_ (Nat.le_refl _) (Nat.le_refl _) (fun _ q => List.mem_append_right _ q)
      show G_law l Z n0 33 493 [x_304, x_278, x_191, x_2] h_315 348 #[.val (.int p0), .val (.long q1), .second, .val (.int oo), .val (.ref x_2), .val (.int (0 : Int32)), .val (.ref x_191), .val (.ref yy)] [(.int (1 : Int32))]
      exact Go.retN (1 : Int32) at_348 rfl (t := .boolean) (by simp) rfl (sf' := []) (rfl) (fun _ q => nomatch q) (Nat.le_of_ble_eq_true rfl) (Nat.le_of_ble_eq_true rfl)
    · skip
      refine Go.more (sf' := [x_304, x_278, x_191, x_2]) ?_ (Nat.le_refl _) (Nat.le_refl _) (fun _ q => List.mem_append_right _ q)
      show G_law l Z n0 33 493 [x_304, x_278, x_191, x_2] h_315 348 #[.val (.int p0), .val (.long q1), .second, .val (.int oo), .val (.ref x_2), .val (.int (0 : Int32)), .val (.ref x_191), .val (.ref yy)] [(.int (0 : Int32))]
      exact absurd rfl q_345
  refine Go.aload 107 at_105 rfl rfl rfl ?_
  refine Go.iconst 108 (0 : Int32) at_107 rfl rfl ?_
  refine Go.callS (S := []) 111 [(.ref x_2), (.int (0 : Int32))] at_108 rfl rfl (w6 hw) (w7 hw) (w3 hw) (w8 hw) (by decide) (call_of_go (R := _) (len := 3) (W := 0) (plainFor_of_name pn_5) (fun mid => ef_where0 mid x_2 c0 c1 c2 c3 c4 c5 c6 c7 ) (c_where0 hw x_2 c0 c1 c2 c3 c4 c5 c6 c7 A_64) (w8 hw) (w3 hw) (by decide) (by decide)) (lenOf pd_30 rfl) (Nat.le_of_ble_eq_true rfl) rfl (Nat.le_of_ble_eq_true rfl) (Nat.le_of_ble_eq_true rfl) (fun _ q => nomatch q) (fun v h_325 sf_326 hq => ?_)
  obtain ⟨rfl, r, rfl, ⟨rfl, hw_108⟩ | ⟨rfl, hw_108⟩⟩ := hq
  · skip
    refine Go.more (sf' := [x_2]) ?_ (Nat.le_refl _) (Nat.le_refl _) (fun _ q => List.mem_append_right _ q)
    show G_law l Z n0 17 264 [x_2] h_61 111 #[.val (.int p0), .val (.long q1), .second, .val (.int oo), .val (.ref x_2), .unset, .unset, .unset] [(.int (1 : Int32))]
    refine Go.ifY 123 at_111 (by decide) (by decide) (feq (by decide)).2 ?_
    refine Go.iconst 124 (1 : Int32) at_123 rfl rfl ?_
    refine Go.goto 128 at_124 (by decide) (by decide) ?_
    exact tl1 (Or.inl hw_108)
  · skip
    refine Go.more (sf' := [x_2]) ?_ (Nat.le_refl _) (Nat.le_refl _) (fun _ q => List.mem_append_right _ q)
    show G_law l Z n0 17 264 [x_2] h_61 111 #[.val (.int p0), .val (.long q1), .second, .val (.int oo), .val (.ref x_2), .unset, .unset, .unset] [(.int (0 : Int32))]
    refine Go.ifN 114 at_111 rfl (teq (by decide)).2 ?_
    refine Go.aload 116 at_114 rfl rfl rfl ?_
    refine Go.iconst 117 (1 : Int32) at_116 rfl rfl ?_
    refine Go.callS (S := []) 120 [(.ref x_2), (.int (1 : Int32))] at_117 rfl rfl (w6 hw) (w7 hw) (w3 hw) (w8 hw) (by decide) (call_of_go (R := _) (len := 3) (W := 0) (plainFor_of_name pn_5) (fun mid => ef_where1 mid x_2 c0 c1 c2 c3 c4 c5 c6 c7 ) (c_where1 hw x_2 c0 c1 c2 c3 c4 c5 c6 c7 A_64) (w8 hw) (w3 hw) (by decide) (by decide)) (lenOf pd_30 rfl) (Nat.le_of_ble_eq_true rfl) rfl (Nat.le_of_ble_eq_true rfl) (Nat.le_of_ble_eq_true rfl) (fun _ q => nomatch q) (fun v h_327 sf_328 hq => ?_)
    obtain ⟨rfl, r, rfl, ⟨rfl, hw_117⟩ | ⟨rfl, hw_117⟩⟩ := hq
    · skip
      refine Go.more (sf' := [x_2]) ?_ (Nat.le_refl _) (Nat.le_refl _) (fun _ q => List.mem_append_right _ q)
      show G_law l Z n0 17 264 [x_2] h_61 120 #[.val (.int p0), .val (.long q1), .second, .val (.int oo), .val (.ref x_2), .unset, .unset, .unset] [(.int (1 : Int32))]
      refine Go.ifN 123 at_120 rfl (feq (by decide)).1 ?_
      refine Go.iconst 124 (1 : Int32) at_123 rfl rfl ?_
      refine Go.goto 128 at_124 (by decide) (by decide) ?_
      exact tl1 (Or.inr hw_117)
    · skip
      refine Go.more (sf' := [x_2]) ?_ (Nat.le_refl _) (Nat.le_refl _) (fun _ q => List.mem_append_right _ q)
      show G_law l Z n0 17 264 [x_2] h_61 120 #[.val (.int p0), .val (.long q1), .second, .val (.int oo), .val (.ref x_2), .unset, .unset, .unset] [(.int (0 : Int32))]
      refine Go.ifY 127 at_120 (by decide) (by decide) (teq (by decide)).1 ?_
      refine Go.iconst 128 (0 : Int32) at_127 rfl rfl ?_
      exact tl0 (fun q => q.elim hw_108 hw_117)
set_option maxRecDepth 65536 in
set_option maxHeartbeats 40000000 in
theorem comes_1 {Post : Tables → Env → Array Value → State → Outcome → State → Prop} (hpost : ∀ tb e args s v u, (limb_1_1.after args s (.returned v) u = true ∧ limb_1_2.after args s (.returned v) u = true ∧ True) → ReturnedEndW s (.returned v) u (Jvm.fieldLocs frame_1_writes args s ++ Jvm.arrayLocs frame_1_arrays args s ++ Jvm.staticLocs frame_1_statics s) 40 4480 → Post tb e args s (.returned v) u) :
    ArmFor flags0 classFile x code maxLocals ret World_1 tables_1 room_1 Calls_1 rest_1 Pre_1 Post := by
  intro l hfl _ _ p e ha hc hk s m args below hf hA hF happ hP
  obtain ⟨hcalls, hrest, hpre⟩ := hP
  obtain ⟨-, -, -, hnamed, -, -, -, hat⟩ := (Spec.applies_iff hf).mp happ
  obtain ⟨hg, hn⟩ := and_e (Cond.before_iff.mp (show (Jvm.Cond.and given_1 narrow_1).before args s = true from hpre))
  obtain ⟨g0, k1⟩ := and_e hg
  obtain ⟨g1, k2⟩ := and_e k1
  have g2 := k2
  obtain ⟨w0, w1, rfl⟩ : ∃ w0 w1 : Value, args = #[w0, w1] := by
    have hs : args.size = 2 := by simpa [Cond.value, given_1] using g0
    obtain ⟨L⟩ := args
    match L, hs with
    | [w0, w1], _ => exact ⟨w0, w1, rfl⟩
  have hw : HW _ s := fun d (hd : d ∈ tables_1) => atoms_spec (ws := Jvm.Cond.code x code maxLocals ret :: tables_1) hat d (List.mem_cons_of_mem _ hd)
  obtain ⟨hsets, hown0⟩ := atoms_of _ (rest_1_c_eq ▸ (show rest_1_c.before _ s = true from hrest))
  obtain ⟨p0, ea0⟩ := is_v g1
  obtain rfl : w0 = (.int p0) := Option.some.inj ea0
  obtain ⟨q1, ea1⟩ := isL_v g2
  obtain rfl : w1 = (.long q1) := Option.some.inj ea1
  obtain ⟨z, ez⟩ := is_v (Cond.before_iff.mp (hsets _ (List.mem_of_getElem? (i := 1) rfl)))
  have SC : Sta s s.heap "java/lang/String" "COMPACT_STRINGS" "Z" (.int z) := Sta.start ez (Or.inl (hsets _ (List.mem_of_getElem? (i := 0) rfl)))
  have hz : ¬ (z = (0 : Int32)) := gotF (Cond.eq_ints ez (Term.int_eval (0))) (not_v (Cond.before_iff.mp (hsets _ (List.mem_of_getElem? (i := 2) rfl))))
  obtain ⟨fm, ef, rF⟩ := isR_v (Cond.before_iff.mp (hsets _ (List.mem_of_getElem? (i := 8) rfl)))
  have SF : Sta s s.heap "jdk/internal/util/Preconditions" "SIOOBE_FORMATTER" "Ljava/util/function/BiFunction;" fm := Sta.start ef (Or.inl (hsets _ (List.mem_of_getElem? (i := 7) rfl)))
  have hCH : CHv s consts_1 s.vm s.heap := CHv.start (ew hw) (fun p hp => hcalls.1 p hp) (hsets _ (List.mem_of_getElem? (i := 2) rfl)) (w30 hw) (w13 hw)

  obtain ⟨n, o, h1, h2, h3, _, L, _, rfl, rfl, -, N, -, -, hq⟩ := met_of_go (md := some consts_1) (desc := "(IJ)Z") (ws := tables_1) (plainFor_of_name pn_5) (fun m => ef_law m p0 q1) (law_go (l := l) (Z := s) (n0 := s.heap.size) (h0 := s.heap) hw p0 q1 z fm SC hz SF rF) p e ha hc hk s m _ below hf ((Spec.applies_iff_loose hf).mp happ).1 ⟨rfl, State.Warmed39.refl s, rfl, Old.start s, ⟨_, (State.WarmedH.refl s).since _, Nat.le_refl _⟩, ⟨_, ew hw⟩, CHr.refl hCH, fun x hx => nomatch hx⟩ trivial
  refine ⟨n, _, h1, h2, h3, hpost _ _ _ _ _ _ ⟨Cond.after_iff.mpr rfl, Cond.after_iff.mpr (eq_i res_at (Term.int_eval (1)) rfl), trivial⟩ ⟨hq.1, hq.2.1, hq.2.2.1, (hq.2.2.2.sift fun y hy => Or.inr (N y hy)).mono (by decide) (by decide)⟩⟩
theorem main_1_1 : Claimed_1_1 := comes_1 fun _ _ _ _ _ _ h hF => ⟨h.1, hF⟩
theorem main_1_2 : Claimed_1_2 := comes_1 fun _ _ _ _ _ _ h hF => ⟨h.2.1, hF⟩
end Jvm.Pilot.@@N@@
namespace Jvm.Pilot.@@N@@
open Jvm Jvm.ClassFile Sem Op Lib Jvm.Free Jvm.Stand Jvm.Pilot.@@N@@.Jvm.D
/-! MADE BY PROGRAM (witnessworld.py) out of the Statement's table words and the real class files: 26 classes; the members and pool entries that the words name. The judged class is class 1, her method 4. -/
namespace start1
open Jvm.ClassFile
def u (s : String) : CpInfo := .utf8 (stringToUtf16 s)
/-- a pool by its gaps: so many unusable entries, then the entry; so many at the end -/
def gap : Nat → List CpInfo → List CpInfo
  | 0, r => r
  | n + 1, r => .unusable :: gap n r
def poolList (es : List (Nat × CpInfo)) (last : Nat) : List CpInfo := es.foldr (fun e r => gap e.1 (e.2 :: r)) (gap last [])
def pool (es : List (Nat × CpInfo)) (last : Nat) : Array CpInfo := ⟨poolList es last⟩
def fileOf (pool : Array CpInfo) (this : Nat) (attrs : Array Attribute := #[]) (ms : Array MethodInfo := #[]) (fl : Nat := 33) (sup : Nat := 0) (ifs : Array Nat := #[]) (fds : Array FieldInfo := #[]) : ClassFile where
  minorVersion := 0
  majorVersion := 65
  constantPool := pool
  accessFlags := fl
  thisClass := this
  superClass := sup
  interfaces := ifs
  fields := fds
  methods := ms
  attributes := attrs
def plain (name : String) (sup : Option ClassId) : Class where
  name := name
  kind := .ordinary
  loader := none
  accessFlags := 33
  super := sup
  interfaces := #[]
  cf := none
  fields := #[]
  methods := #[]
  instanceTypes := #[]
  staticTypes := #[]
  resolved := #[]
  callSites := []
  init := .initialized
  statics := none
  mirror := none

def pool0 : Array CpInfo := pool [(5, u "<init>"), (0, u "()V"), (1, .class_ 10), (1, u "java/lang/Object")] 113

def k0c0 : Code := { maxStack := 0, maxLocals := 1, code := object_method_1_code, exceptionTable := #[], attributes := #[] }
def k0m0 : Method := { name := "<init>", desc := "()V", sig := { parameters := [], returnType := none }, accessFlags := 1, code := some k0c0 }
/-- java/lang/Object -/
def k0 : Class := { plain "java/lang/Object" none with
  accessFlags := 33
  interfaces := #[]
  cf := some (fileOf pool0 8 #[] #[{ accessFlags := 1, nameIndex := 5, descriptorIndex := 6, attributes := #[] }] 33 0 #[] #[])
  fields := #[]
  methods := #[k0m0]
  instanceTypes := #[]
  staticTypes := #[]
  resolved := Array.replicate 124 none
  statics := none }

def pool1 : Array CpInfo := pool [(2, .class_ 4), (1, u "java/lang/Object"), (0, u "<init>"), (0, u "()V"), (0, .long 255), (1, .string 10), (0, u " WHERE "), (0, .methodref 12 13), (0, .class_ 14), (0, .nameAndType 15 16), (0, u "java/lang/String"), (0, u "charAt"), (0, u "(I)C"), (0, .methodref 18 19), (0, .class_ 20), (0, .nameAndType 21 22), (0, u "com/example/tugas/tugas/store/ListingListedOnlyPinLaw"), (0, u "pick"), (0, u "(IIIJ)C"), (0, .methodref 18 24), (0, .nameAndType 25 26), (0, u "whereAt"), (0, u "([CI)Z"), (0, .methodref 18 28), (0, .nameAndType 29 30), (0, u "putListed"), (0, u "([CI)V"), (0, .methodref 12 32), (0, .nameAndType 5 33), (0, u "([C)V"), (0, .methodref 35 36), (0, .class_ 37), (0, .nameAndType 38 39), (0, u "com/example/tugas/tugas/store/Listing"), (0, u "listedOnly"), (0, u "(Ljava/lang/String;)Ljava/lang/String;"), (0, .methodref 12 41), (0, .nameAndType 42 43), (0, u "equals"), (0, u "(Ljava/lang/Object;)Z"), (3, u "law"), (0, u "(IJ)Z")] 4

def k1m0 : Method := { name := "<init>", desc := "()V", sig := { parameters := [], returnType := none }, accessFlags := 1, code := none }
def k1c1 : Code := { maxStack := 4, maxLocals := 8, code := method_2_code, exceptionTable := #[], attributes := #[] }
def k1m1 : Method := { name := "pick", desc := "(IIIJ)C", sig := { parameters := [.int, .int, .int, .long], returnType := some .char }, accessFlags := 10, code := some k1c1 }
def k1c2 : Code := { maxStack := 3, maxLocals := 2, code := method_3_code, exceptionTable := #[], attributes := #[] }
def k1m2 : Method := { name := "whereAt", desc := "([CI)Z", sig := { parameters := [(.array .char), .int], returnType := some .boolean }, accessFlags := 10, code := some k1c2 }
def k1c3 : Code := { maxStack := 3, maxLocals := 2, code := method_4_code, exceptionTable := #[], attributes := #[] }
def k1m3 : Method := { name := "putListed", desc := "([CI)V", sig := { parameters := [(.array .char), .int], returnType := none }, accessFlags := 10, code := some k1c3 }
def k1c4 : Code := { maxStack := 7, maxLocals := 8, code := code, exceptionTable := #[], attributes := #[] }
def k1m4 : Method := { name := "law", desc := "(IJ)Z", sig := { parameters := [.int, .long], returnType := some .boolean }, accessFlags := 9, code := some k1c4 }
/-- com/example/tugas/tugas/store/ListingListedOnlyPinLaw -/
def k1 : Class := { plain "com/example/tugas/tugas/store/ListingListedOnlyPinLaw" (some 0) with
  accessFlags := 49
  interfaces := #[]
  cf := some (fileOf pool1 18 #[] #[{ accessFlags := 1, nameIndex := 5, descriptorIndex := 6, attributes := #[] }, { accessFlags := 10, nameIndex := 21, descriptorIndex := 22, attributes := #[] }, { accessFlags := 10, nameIndex := 25, descriptorIndex := 26, attributes := #[] }, { accessFlags := 10, nameIndex := 29, descriptorIndex := 30, attributes := #[] }, { accessFlags := 9, nameIndex := 47, descriptorIndex := 48, attributes := #[] }] 49 2 #[] #[])
  fields := #[]
  methods := #[k1m0, k1m1, k1m2, k1m3, k1m4]
  instanceTypes := #[]
  staticTypes := #[]
  resolved := Array.replicate 53 none
  statics := none }

def pool2 : Array CpInfo := pool [(1, .class_ 2), (0, u "java/io/Serializable"), (0, .class_ 4), (0, u "java/lang/Object")] 2

/-- java/io/Serializable -/
def k2 : Class := { plain "java/io/Serializable" (some 0) with
  accessFlags := 1537
  interfaces := #[]
  cf := some (fileOf pool2 1 #[] #[] 1537 3 #[] #[])
  fields := #[]
  methods := #[]
  instanceTypes := #[]
  staticTypes := #[]
  resolved := Array.replicate 7 none
  statics := none }

def pool3 : Array CpInfo := pool [(1, .class_ 2), (0, u "java/lang/Comparable"), (0, .class_ 4), (0, u "java/lang/Object")] 7

/-- java/lang/Comparable -/
def k3 : Class := { plain "java/lang/Comparable" (some 0) with
  accessFlags := 1537
  interfaces := #[]
  cf := some (fileOf pool3 1 #[] #[] 1537 3 #[] #[])
  fields := #[]
  methods := #[]
  instanceTypes := #[]
  staticTypes := #[]
  resolved := Array.replicate 12 none
  statics := none }

def pool4 : Array CpInfo := pool [(2, .class_ 4), (1, u "java/lang/CharSequence"), (42, .class_ 48), (0, u "java/lang/CharSequence$1CodePointIterator"), (10, .class_ 60), (0, u "java/lang/CharSequence$1CharIterator"), (5, .class_ 67), (0, u "java/lang/Object"), (10, u "toString"), (0, u "()Ljava/lang/String;")] 51

def k4m0 : Method := { name := "toString", desc := "()Ljava/lang/String;", sig := { parameters := [], returnType := some (.object "java/lang/String") }, accessFlags := 1025, code := none }
/-- java/lang/CharSequence -/
def k4 : Class := { plain "java/lang/CharSequence" (some 0) with
  accessFlags := 1537
  interfaces := #[]
  cf := some (fileOf pool4 2 #[.nestMembers #[47, 59]] #[{ accessFlags := 1025, nameIndex := 78, descriptorIndex := 79, attributes := #[] }] 1537 66 #[] #[])
  fields := #[]
  methods := #[k4m0]
  instanceTypes := #[]
  staticTypes := #[]
  resolved := Array.replicate 131 none
  statics := none }

def pool5 : Array CpInfo := pool [(1, .class_ 2), (0, u "java/lang/constant/Constable"), (0, .class_ 4), (0, u "java/lang/Object")] 6

/-- java/lang/constant/Constable -/
def k5 : Class := { plain "java/lang/constant/Constable" (some 0) with
  accessFlags := 1537
  interfaces := #[]
  cf := some (fileOf pool5 1 #[] #[] 1537 3 #[] #[])
  fields := #[]
  methods := #[]
  instanceTypes := #[]
  staticTypes := #[]
  resolved := Array.replicate 11 none
  statics := none }

def pool6 : Array CpInfo := pool [(1, .class_ 2), (0, u "java/lang/constant/ConstantDesc"), (0, .class_ 4), (0, u "java/lang/Object")] 32

/-- java/lang/constant/ConstantDesc -/
def k6 : Class := { plain "java/lang/constant/ConstantDesc" (some 0) with
  accessFlags := 1537
  interfaces := #[]
  cf := some (fileOf pool6 1 #[] #[] 1537 3 #[] #[])
  fields := #[]
  methods := #[]
  instanceTypes := #[]
  staticTypes := #[]
  resolved := Array.replicate 37 none
  statics := none }

def pool7 : Array CpInfo := pool [(1, .methodref 2 3), (0, .class_ 4), (0, .nameAndType 5 6), (0, u "java/lang/Object"), (0, u "<init>"), (0, u "()V"), (2, .fieldref 10 11), (0, .class_ 12), (0, .nameAndType 13 14), (0, u "java/lang/String"), (0, u "value"), (0, u "[B"), (0, .fieldref 10 16), (0, .nameAndType 17 18), (0, u "coder"), (0, u "B"), (2, u "hash"), (0, u "I"), (2, u "hashIsZero"), (0, u "Z"), (0, .methodref 10 28), (0, .nameAndType 5 29), (0, u "([CIILjava/lang/Void;)V"), (8, .fieldref 10 39), (0, .nameAndType 40 26), (0, u "COMPACT_STRINGS"), (1, .class_ 44), (1, u "java/lang/StringUTF16"), (0, u "compress"), (1, .methodref 42 48), (0, .nameAndType 49 50), (0, u "coderFromArrayLen"), (0, u "([BI)B"), (3, .methodref 55 56), (0, .class_ 57), (0, .nameAndType 58 59), (0, u "java/util/Arrays"), (0, u "copyOfRange"), (0, u "([BII)[B"), (47, .class_ 109), (1, u "java/lang/StringLatin1"), (32, u "()Z"), (34, .methodref 42 178), (0, .nameAndType 45 179), (0, u "([CII)[B"), (13, .class_ 195), (1, u "java/lang/System"), (16, .methodref 193 213), (0, .nameAndType 214 215), (0, u "arraycopy"), (0, u "(Ljava/lang/Object;ILjava/lang/Object;II)V"), (118, u "()I"), (0, .methodref 10 336), (0, .nameAndType 17 337), (0, u "()B"), (2, u "()[B"), (22, u "([BI)C"), (27, u "(II)V"), (35, u "(I)C"), (34, .nameAndType 463 464), (0, u "toString"), (0, u "()Ljava/lang/String;"), (24, .methodref 10 490), (0, .nameAndType 5 491), (0, u "(Ljava/lang/AbstractStringBuilder;Ljava/lang/Void;)V"), (0, .methodref 10 493), (0, .nameAndType 494 142), (0, u "isLatin1"), (0, .methodref 107 496), (0, .nameAndType 497 363), (0, u "charAt"), (3, u "checkIndex"), (4, .nameAndType 507 334), (0, u "length"), (24, u "getBytes"), (8, .methodref 107 542), (0, .nameAndType 543 544), (0, u "equals"), (0, u "([B[B)Z"), (3, u "(Ljava/lang/CharSequence;)Z"), (0, .methodref 550 506), (0, .class_ 551), (0, u "java/lang/AbstractStringBuilder"), (0, .methodref 550 553), (0, .nameAndType 554 340), (0, u "getValue"), (18, u "(Ljava/lang/Object;)Z"), (1, .class_ 576), (0, u "java/lang/CharSequence"), (12, u "([B[B)I"), (9, u "CASE_INSENSITIVE_ORDER"), (0, u "Ljava/util/Comparator;"), (34, u "indexOf"), (11, .methodref 107 648), (0, .nameAndType 635 589), (61, .interfaceMethodref 575 462), (0, .methodref 10 712), (0, .nameAndType 635 713), (0, u "(Ljava/lang/String;)I"), (107, u "([BIB)V"), (188, u "([C)V"), (36, .methodref 550 493), (5, .fieldref 1054 1055), (0, .class_ 1056), (0, .nameAndType 1057 1058), (0, u "jdk/internal/util/Preconditions"), (0, u "SIOOBE_FORMATTER"), (0, u "Ljava/util/function/BiFunction;"), (0, .methodref 1054 1060), (0, .nameAndType 501 1061), (0, u "(IILjava/util/function/BiFunction;)I"), (39, u "serialPersistentFields"), (0, u "[Ljava/io/ObjectStreamField;"), (0, .class_ 1104), (0, u "java/lang/String$CaseInsensitiveComparator"), (1, .class_ 1107), (0, u "java/io/Serializable"), (0, .class_ 1109), (0, u "java/lang/Comparable"), (0, .class_ 1111), (0, u "java/lang/constant/Constable"), (0, .class_ 1113), (0, u "java/lang/constant/ConstantDesc"), (2, u "serialVersionUID"), (0, u "J"), (3, u "REPL"), (0, u "C"), (2, u "LATIN1"), (1, u "UTF16"), (105, u "(Ljava/lang/StringBuilder;)V"), (57, u "contains")] 159

def k7m0 : Method := { name := "<init>", desc := "()V", sig := { parameters := [], returnType := none }, accessFlags := 1, code := none }
def k7c1 : Code := { maxStack := 5, maxLocals := 2, code := jdk_42_method_3_code, exceptionTable := #[], attributes := #[] }
def k7m1 : Method := { name := "<init>", desc := "([C)V", sig := { parameters := [(.array .char)], returnType := none }, accessFlags := 1, code := some k7c1 }
def k7c2 : Code := { maxStack := 3, maxLocals := 2, code := jdk_42_method_53_code, exceptionTable := #[], attributes := #[] }
def k7m2 : Method := { name := "<init>", desc := "(Ljava/lang/StringBuilder;)V", sig := { parameters := [(.object "java/lang/StringBuilder")], returnType := none }, accessFlags := 1, code := some k7c2 }
def k7c3 : Code := { maxStack := 2, maxLocals := 1, code := jdk_42_method_54_code, exceptionTable := #[], attributes := #[] }
def k7m3 : Method := { name := "length", desc := "()I", sig := { parameters := [], returnType := some .int }, accessFlags := 1, code := some k7c3 }
def k7c4 : Code := { maxStack := 2, maxLocals := 2, code := jdk_42_method_56_code, exceptionTable := #[], attributes := #[] }
def k7m4 : Method := { name := "charAt", desc := "(I)C", sig := { parameters := [.int], returnType := some .char }, accessFlags := 1, code := some k7c4 }
def k7c5 : Code := { maxStack := 2, maxLocals := 3, code := jdk_42_method_66_code, exceptionTable := #[], attributes := #[] }
def k7m5 : Method := { name := "equals", desc := "(Ljava/lang/Object;)Z", sig := { parameters := [(.object "java/lang/Object")], returnType := some .boolean }, accessFlags := 1, code := some k7c5 }
def k7c6 : Code := { maxStack := 2, maxLocals := 3, code := jdk_42_method_84_code, exceptionTable := #[], attributes := #[] }
def k7m6 : Method := { name := "indexOf", desc := "(Ljava/lang/String;)I", sig := { parameters := [(.object "java/lang/String")], returnType := some .int }, accessFlags := 1, code := some k7c6 }
def k7c7 : Code := { maxStack := 2, maxLocals := 2, code := jdk_42_method_97_code, exceptionTable := #[], attributes := #[] }
def k7m7 : Method := { name := "contains", desc := "(Ljava/lang/CharSequence;)Z", sig := { parameters := [(.object "java/lang/CharSequence")], returnType := some .boolean }, accessFlags := 1, code := some k7c7 }
def k7c8 : Code := { maxStack := 1, maxLocals := 1, code := jdk_42_method_126_code, exceptionTable := #[], attributes := #[] }
def k7m8 : Method := { name := "toString", desc := "()Ljava/lang/String;", sig := { parameters := [], returnType := some (.object "java/lang/String") }, accessFlags := 1, code := some k7c8 }
def k7c9 : Code := { maxStack := 5, maxLocals := 4, code := jdk_42_method_147_code, exceptionTable := #[], attributes := #[] }
def k7m9 : Method := { name := "getBytes", desc := "([BIB)V", sig := { parameters := [(.array .byte), .int, .byte], returnType := none }, accessFlags := 0, code := some k7c9 }
def k7c10 : Code := { maxStack := 4, maxLocals := 6, code := jdk_42_method_149_code, exceptionTable := #[], attributes := #[] }
def k7m10 : Method := { name := "<init>", desc := "([CIILjava/lang/Void;)V", sig := { parameters := [(.array .char), .int, .int, (.object "java/lang/Void")], returnType := none }, accessFlags := 2, code := some k7c10 }
def k7c11 : Code := { maxStack := 5, maxLocals := 5, code := jdk_42_method_150_code, exceptionTable := #[], attributes := #[] }
def k7m11 : Method := { name := "<init>", desc := "(Ljava/lang/AbstractStringBuilder;Ljava/lang/Void;)V", sig := { parameters := [(.object "java/lang/AbstractStringBuilder"), (.object "java/lang/Void")], returnType := none }, accessFlags := 0, code := some k7c11 }
def k7c12 : Code := { maxStack := 1, maxLocals := 1, code := jdk_42_method_152_code, exceptionTable := #[], attributes := #[] }
def k7m12 : Method := { name := "coder", desc := "()B", sig := { parameters := [], returnType := some .byte }, accessFlags := 0, code := some k7c12 }
def k7c13 : Code := { maxStack := 1, maxLocals := 1, code := jdk_42_method_154_code, exceptionTable := #[], attributes := #[] }
def k7m13 : Method := { name := "isLatin1", desc := "()Z", sig := { parameters := [], returnType := some .boolean }, accessFlags := 0, code := some k7c13 }
def k7c14 : Code := { maxStack := 3, maxLocals := 2, code := jdk_42_method_155_code, exceptionTable := #[], attributes := #[] }
def k7m14 : Method := { name := "checkIndex", desc := "(II)V", sig := { parameters := [.int, .int], returnType := none }, accessFlags := 8, code := some k7c14 }
/-- java/lang/String -/
def k7 : Class := { plain "java/lang/String" (some 0) with
  accessFlags := 49
  interfaces := #[2, 3, 4, 5, 6]
  cf := some (fileOf pool7 10 #[.nestMembers #[1103]] #[{ accessFlags := 1, nameIndex := 5, descriptorIndex := 6, attributes := #[] }, { accessFlags := 1, nameIndex := 5, descriptorIndex := 1010, attributes := #[] }, { accessFlags := 1, nameIndex := 5, descriptorIndex := 1233, attributes := #[] }, { accessFlags := 1, nameIndex := 507, descriptorIndex := 334, attributes := #[] }, { accessFlags := 1, nameIndex := 497, descriptorIndex := 427, attributes := #[] }, { accessFlags := 1, nameIndex := 543, descriptorIndex := 573, attributes := #[] }, { accessFlags := 1, nameIndex := 635, descriptorIndex := 713, attributes := #[] }, { accessFlags := 1, nameIndex := 1291, descriptorIndex := 548, attributes := #[] }, { accessFlags := 1, nameIndex := 463, descriptorIndex := 464, attributes := #[] }, { accessFlags := 0, nameIndex := 532, descriptorIndex := 821, attributes := #[] }, { accessFlags := 2, nameIndex := 5, descriptorIndex := 29, attributes := #[] }, { accessFlags := 0, nameIndex := 5, descriptorIndex := 491, attributes := #[] }, { accessFlags := 0, nameIndex := 17, descriptorIndex := 337, attributes := #[] }, { accessFlags := 0, nameIndex := 494, descriptorIndex := 142, attributes := #[] }, { accessFlags := 8, nameIndex := 501, descriptorIndex := 391, attributes := #[] }] 49 2 #[1106, 1108, 575, 1110, 1112] #[{ accessFlags := 18, nameIndex := 13, descriptorIndex := 14, attributes := #[] }, { accessFlags := 18, nameIndex := 17, descriptorIndex := 18, attributes := #[] }, { accessFlags := 2, nameIndex := 21, descriptorIndex := 22, attributes := #[] }, { accessFlags := 2, nameIndex := 25, descriptorIndex := 26, attributes := #[] }, { accessFlags := 26, nameIndex := 1116, descriptorIndex := 1117, attributes := #[] }, { accessFlags := 24, nameIndex := 40, descriptorIndex := 26, attributes := #[] }, { accessFlags := 26, nameIndex := 1101, descriptorIndex := 1102, attributes := #[] }, { accessFlags := 26, nameIndex := 1121, descriptorIndex := 1122, attributes := #[] }, { accessFlags := 25, nameIndex := 599, descriptorIndex := 600, attributes := #[] }, { accessFlags := 24, nameIndex := 1125, descriptorIndex := 18, attributes := #[] }, { accessFlags := 24, nameIndex := 1127, descriptorIndex := 18, attributes := #[] }])
  fields := #[{ name := "value", type := (.array .byte), accessFlags := 18, slot := 0, constantValue := 0 }, { name := "coder", type := .byte, accessFlags := 18, slot := 1, constantValue := 0 }, { name := "hash", type := .int, accessFlags := 2, slot := 2, constantValue := 0 }, { name := "hashIsZero", type := .boolean, accessFlags := 2, slot := 3, constantValue := 0 }, { name := "serialVersionUID", type := .long, accessFlags := 26, slot := 0, constantValue := 0 }, { name := "COMPACT_STRINGS", type := .boolean, accessFlags := 24, slot := 1, constantValue := 0 }, { name := "serialPersistentFields", type := (.array (.object "java/io/ObjectStreamField")), accessFlags := 26, slot := 2, constantValue := 0 }, { name := "REPL", type := .char, accessFlags := 26, slot := 3, constantValue := 0 }, { name := "CASE_INSENSITIVE_ORDER", type := (.object "java/util/Comparator"), accessFlags := 25, slot := 4, constantValue := 0 }, { name := "LATIN1", type := .byte, accessFlags := 24, slot := 5, constantValue := 0 }, { name := "UTF16", type := .byte, accessFlags := 24, slot := 6, constantValue := 0 }]
  methods := #[k7m0, k7m1, k7m2, k7m3, k7m4, k7m5, k7m6, k7m7, k7m8, k7m9, k7m10, k7m11, k7m12, k7m13, k7m14]
  instanceTypes := #[(.array .byte), .byte, .int, .boolean]
  staticTypes := #[.long, .boolean, (.array (.object "java/io/ObjectStreamField")), .char, (.object "java/util/Comparator"), .byte, .byte]
  resolved := Array.replicate 1451 none
  statics := some 0 }

def pool8 : Array CpInfo := pool [(6, .class_ 8), (1, u "java/lang/Object"), (0, u "<init>"), (0, u "()V"), (1, .class_ 14), (1, u "java/lang/StringUTF16"), (31, u "$assertionsDisabled"), (0, u "Z"), (13, u "HI_BYTE_SHIFT"), (0, u "I"), (2, u "LO_BYTE_SHIFT"), (49, .methodref 12 116), (0, .nameAndType 117 118), (0, u "compress"), (0, u "([CI[BII)I"), (3, u "([CII)[B"), (138, u "coderFromArrayLen"), (0, u "([BI)B"), (106, .class_ 371), (1, u "java/lang/StringUTF16$LinesSpliterator"), (58, u "MAX_LENGTH"), (196, .class_ 628), (0, u "java/lang/StringUTF16$CodePointsSpliterator"), (0, .class_ 630), (0, u "java/lang/StringUTF16$CharsSpliterator")] 4

def k8m0 : Method := { name := "<init>", desc := "()V", sig := { parameters := [], returnType := none }, accessFlags := 0, code := none }
def k8c1 : Code := { maxStack := 2, maxLocals := 2, code := jdk_52_method_15_code, exceptionTable := #[], attributes := #[] }
def k8m1 : Method := { name := "coderFromArrayLen", desc := "([BI)B", sig := { parameters := [(.array .byte), .int], returnType := some .byte }, accessFlags := 8, code := some k8c1 }
def k8c2 : Code := { maxStack := 5, maxLocals := 6, code := jdk_52_method_16_code, exceptionTable := #[], attributes := #[] }
def k8m2 : Method := { name := "compress", desc := "([CII)[B", sig := { parameters := [(.array .char), .int, .int], returnType := some (.array .byte) }, accessFlags := 9, code := some k8c2 }
def k8c3 : Code := { maxStack := 3, maxLocals := 7, code := jdk_52_method_21_code, exceptionTable := #[], attributes := #[] }
def k8m3 : Method := { name := "compress", desc := "([CI[BII)I", sig := { parameters := [(.array .char), .int, (.array .byte), .int, .int], returnType := some .int }, accessFlags := 9, code := some k8c3 }
/-- java/lang/StringUTF16 -/
def k8 : Class := { plain "java/lang/StringUTF16" (some 0) with
  accessFlags := 48
  interfaces := #[]
  cf := some (fileOf pool8 12 #[.nestMembers #[627, 629, 369]] #[{ accessFlags := 0, nameIndex := 9, descriptorIndex := 10, attributes := #[] }, { accessFlags := 8, nameIndex := 261, descriptorIndex := 262, attributes := #[] }, { accessFlags := 9, nameIndex := 117, descriptorIndex := 122, attributes := #[] }, { accessFlags := 9, nameIndex := 117, descriptorIndex := 118, attributes := #[] }] 48 6 #[] #[{ accessFlags := 26, nameIndex := 61, descriptorIndex := 62, attributes := #[] }, { accessFlags := 26, nameIndex := 65, descriptorIndex := 62, attributes := #[] }, { accessFlags := 24, nameIndex := 430, descriptorIndex := 62, attributes := #[] }, { accessFlags := 4120, nameIndex := 46, descriptorIndex := 47, attributes := #[] }])
  fields := #[{ name := "HI_BYTE_SHIFT", type := .int, accessFlags := 26, slot := 0, constantValue := 0 }, { name := "LO_BYTE_SHIFT", type := .int, accessFlags := 26, slot := 1, constantValue := 0 }, { name := "MAX_LENGTH", type := .int, accessFlags := 24, slot := 2, constantValue := 0 }, { name := "$assertionsDisabled", type := .boolean, accessFlags := 4120, slot := 3, constantValue := 0 }]
  methods := #[k8m0, k8m1, k8m2, k8m3]
  instanceTypes := #[]
  staticTypes := #[.int, .int, .int, .boolean]
  resolved := Array.replicate 635 none
  statics := none }

def pool9 : Array CpInfo := pool [(1, .class_ 2), (0, u "com/example/tugas/tugas/store/Listing"), (1, .class_ 6), (0, .nameAndType 7 8), (0, u "java/lang/Object"), (0, u "<init>"), (0, u "()V"), (2, u "statements"), (0, u "Lcom/example/tugas/tugas/store/Statements;"), (2, u "newest"), (0, u "I"), (2, u "createdSince"), (0, .string 21), (0, u " WHERE "), (0, .methodref 23 24), (0, .class_ 25), (0, .nameAndType 26 27), (0, u "java/lang/String"), (0, u "contains"), (0, u "(Ljava/lang/CharSequence;)Z"), (0, .string 29), (0, u " AND "), (0, .class_ 31), (0, u "java/lang/StringBuilder"), (0, .methodref 30 5), (0, .methodref 30 34), (0, .nameAndType 35 36), (0, u "append"), (0, u "(Ljava/lang/String;)Ljava/lang/StringBuilder;"), (0, .string 38), (0, u "listed"), (0, .methodref 30 40), (0, .nameAndType 41 42), (0, u "toString"), (0, u "()Ljava/lang/String;"), (56, u "NEWEST"), (2, u "COLUMN"), (0, u "Ljava/lang/String;"), (2, u "LISTED"), (0, u "UNLISTED"), (2, u "UNLISTED_INDEX"), (2, u "BY_CREATION"), (2, u "TABLE"), (2, u "FILL"), (2, u "DROP_BY_CREATION"), (2, u "UNLISTED_FROM"), (2, u "NEWEST_ROWS"), (0, u "BUT_NEWEST"), (2, u "LIST_OLDER"), (0, u "MOVE_ON"), (0, u "CONDITION"), (3, u "listedOnly"), (0, u "(Ljava/lang/String;)Ljava/lang/String;")] 11

def k9c0 : Code := { maxStack := 2, maxLocals := 2, code := prog_46_method_2_code, exceptionTable := #[], attributes := #[] }
def k9m0 : Method := { name := "listedOnly", desc := "(Ljava/lang/String;)Ljava/lang/String;", sig := { parameters := [(.object "java/lang/String")], returnType := some (.object "java/lang/String") }, accessFlags := 8, code := some k9c0 }
/-- com/example/tugas/tugas/store/Listing -/
def k9 : Class := { plain "com/example/tugas/tugas/store/Listing" (some 0) with
  accessFlags := 48
  interfaces := #[]
  cf := some (fileOf pool9 1 #[] #[{ accessFlags := 8, nameIndex := 138, descriptorIndex := 139, attributes := #[] }] 48 4 #[] #[{ accessFlags := 24, nameIndex := 99, descriptorIndex := 16, attributes := #[] }, { accessFlags := 24, nameIndex := 102, descriptorIndex := 103, attributes := #[] }, { accessFlags := 24, nameIndex := 106, descriptorIndex := 103, attributes := #[] }, { accessFlags := 24, nameIndex := 107, descriptorIndex := 103, attributes := #[] }, { accessFlags := 26, nameIndex := 110, descriptorIndex := 103, attributes := #[] }, { accessFlags := 24, nameIndex := 113, descriptorIndex := 103, attributes := #[] }, { accessFlags := 24, nameIndex := 116, descriptorIndex := 103, attributes := #[] }, { accessFlags := 24, nameIndex := 119, descriptorIndex := 103, attributes := #[] }, { accessFlags := 24, nameIndex := 122, descriptorIndex := 103, attributes := #[] }, { accessFlags := 24, nameIndex := 125, descriptorIndex := 103, attributes := #[] }, { accessFlags := 24, nameIndex := 128, descriptorIndex := 103, attributes := #[] }, { accessFlags := 26, nameIndex := 129, descriptorIndex := 103, attributes := #[] }, { accessFlags := 26, nameIndex := 132, descriptorIndex := 103, attributes := #[] }, { accessFlags := 26, nameIndex := 133, descriptorIndex := 103, attributes := #[] }, { accessFlags := 26, nameIndex := 134, descriptorIndex := 103, attributes := #[] }, { accessFlags := 18, nameIndex := 11, descriptorIndex := 12, attributes := #[] }, { accessFlags := 18, nameIndex := 15, descriptorIndex := 16, attributes := #[] }, { accessFlags := 2, nameIndex := 19, descriptorIndex := 16, attributes := #[] }])
  fields := #[{ name := "NEWEST", type := .int, accessFlags := 24, slot := 0, constantValue := 0 }, { name := "COLUMN", type := (.object "java/lang/String"), accessFlags := 24, slot := 1, constantValue := 0 }, { name := "LISTED", type := (.object "java/lang/String"), accessFlags := 24, slot := 2, constantValue := 0 }, { name := "UNLISTED", type := (.object "java/lang/String"), accessFlags := 24, slot := 3, constantValue := 0 }, { name := "UNLISTED_INDEX", type := (.object "java/lang/String"), accessFlags := 26, slot := 4, constantValue := 0 }, { name := "BY_CREATION", type := (.object "java/lang/String"), accessFlags := 24, slot := 5, constantValue := 0 }, { name := "TABLE", type := (.object "java/lang/String"), accessFlags := 24, slot := 6, constantValue := 0 }, { name := "FILL", type := (.object "java/lang/String"), accessFlags := 24, slot := 7, constantValue := 0 }, { name := "DROP_BY_CREATION", type := (.object "java/lang/String"), accessFlags := 24, slot := 8, constantValue := 0 }, { name := "UNLISTED_FROM", type := (.object "java/lang/String"), accessFlags := 24, slot := 9, constantValue := 0 }, { name := "NEWEST_ROWS", type := (.object "java/lang/String"), accessFlags := 24, slot := 10, constantValue := 0 }, { name := "BUT_NEWEST", type := (.object "java/lang/String"), accessFlags := 26, slot := 11, constantValue := 0 }, { name := "LIST_OLDER", type := (.object "java/lang/String"), accessFlags := 26, slot := 12, constantValue := 0 }, { name := "MOVE_ON", type := (.object "java/lang/String"), accessFlags := 26, slot := 13, constantValue := 0 }, { name := "CONDITION", type := (.object "java/lang/String"), accessFlags := 26, slot := 14, constantValue := 0 }, { name := "statements", type := (.object "com/example/tugas/tugas/store/Statements"), accessFlags := 18, slot := 0, constantValue := 0 }, { name := "newest", type := .int, accessFlags := 18, slot := 1, constantValue := 0 }, { name := "createdSince", type := .int, accessFlags := 2, slot := 2, constantValue := 0 }]
  methods := #[k9m0]
  instanceTypes := #[(.object "com/example/tugas/tugas/store/Statements"), .int, .int]
  staticTypes := #[.int, (.object "java/lang/String"), (.object "java/lang/String"), (.object "java/lang/String"), (.object "java/lang/String"), (.object "java/lang/String"), (.object "java/lang/String"), (.object "java/lang/String"), (.object "java/lang/String"), (.object "java/lang/String"), (.object "java/lang/String"), (.object "java/lang/String"), (.object "java/lang/String"), (.object "java/lang/String"), (.object "java/lang/String")]
  resolved := Array.replicate 151 none
  statics := none }

def pool10 : Array CpInfo := pool [(1, .class_ 2), (0, u "java/lang/String"), (1, .class_ 6), (1, u "java/lang/Object"), (0, u "<init>"), (0, u "()V"), (0, .methodref 1 10), (0, .nameAndType 11 12), (0, u "checkIndex"), (0, u "(II)V"), (1, .class_ 16), (1, u "java/lang/StringLatin1"), (36, u "([BI)C"), (45, .methodref 14 100), (0, .nameAndType 101 102), (0, u "indexOf"), (0, u "([BI[BII)I"), (18, u "$assertionsDisabled"), (0, u "Z"), (98, .class_ 223), (1, u "java/lang/StringLatin1$LinesSpliterator"), (28, u "charAt"), (28, u "equals"), (0, u "([B[B)Z"), (4, u "([B[B)I"), (102, .class_ 391), (0, u "java/lang/StringLatin1$CharsSpliterator")] 3

def k10m0 : Method := { name := "<init>", desc := "()V", sig := { parameters := [], returnType := none }, accessFlags := 0, code := none }
def k10c1 : Code := { maxStack := 2, maxLocals := 2, code := jdk_43_method_2_code, exceptionTable := #[], attributes := #[] }
def k10m1 : Method := { name := "charAt", desc := "([BI)C", sig := { parameters := [(.array .byte), .int], returnType := some .char }, accessFlags := 9, code := some k10c1 }
def k10c2 : Code := { maxStack := 3, maxLocals := 3, code := jdk_43_method_13_code, exceptionTable := #[], attributes := #[] }
def k10m2 : Method := { name := "equals", desc := "([B[B)Z", sig := { parameters := [(.array .byte), (.array .byte)], returnType := some .boolean }, accessFlags := 9, code := some k10c2 }
def k10c3 : Code := { maxStack := 5, maxLocals := 2, code := jdk_43_method_24_code, exceptionTable := #[], attributes := #[] }
def k10m3 : Method := { name := "indexOf", desc := "([B[B)I", sig := { parameters := [(.array .byte), (.array .byte)], returnType := some .int }, accessFlags := 9, code := some k10c3 }
def k10c4 : Code := { maxStack := 3, maxLocals := 11, code := jdk_43_method_25_code, exceptionTable := #[], attributes := #[] }
def k10m4 : Method := { name := "indexOf", desc := "([BI[BII)I", sig := { parameters := [(.array .byte), .int, (.array .byte), .int, .int], returnType := some .int }, accessFlags := 9, code := some k10c4 }
/-- java/lang/StringLatin1 -/
def k10 : Class := { plain "java/lang/StringLatin1" (some 0) with
  accessFlags := 48
  interfaces := #[]
  cf := some (fileOf pool10 14 #[.nestMembers #[390, 221]] #[{ accessFlags := 0, nameIndex := 7, descriptorIndex := 8, attributes := #[] }, { accessFlags := 9, nameIndex := 252, descriptorIndex := 53, attributes := #[] }, { accessFlags := 9, nameIndex := 281, descriptorIndex := 282, attributes := #[] }, { accessFlags := 9, nameIndex := 101, descriptorIndex := 287, attributes := #[] }, { accessFlags := 9, nameIndex := 101, descriptorIndex := 102, attributes := #[] }] 48 4 #[] #[{ accessFlags := 4120, nameIndex := 121, descriptorIndex := 122, attributes := #[] }])
  fields := #[{ name := "$assertionsDisabled", type := .boolean, accessFlags := 4120, slot := 0, constantValue := 0 }]
  methods := #[k10m0, k10m1, k10m2, k10m3, k10m4]
  instanceTypes := #[]
  staticTypes := #[.boolean]
  resolved := Array.replicate 395 none
  statics := none }

def pool11 : Array CpInfo := pool [(1, .class_ 2), (0, u "java/lang/Appendable"), (0, .class_ 4), (0, u "java/lang/Object")] 9

/-- java/lang/Appendable -/
def k11 : Class := { plain "java/lang/Appendable" (some 0) with
  accessFlags := 1537
  interfaces := #[]
  cf := some (fileOf pool11 1 #[] #[] 1537 3 #[] #[])
  fields := #[]
  methods := #[]
  instanceTypes := #[]
  staticTypes := #[]
  resolved := Array.replicate 14 none
  statics := none }

def pool12 : Array CpInfo := pool [(1, .class_ 2), (0, u "java/lang/String"), (0, .methodref 4 5), (0, .class_ 6), (0, .nameAndType 7 8), (0, u "java/lang/Object"), (0, u "<init>"), (0, u "()V"), (1, .class_ 12), (1, u "java/lang/AbstractStringBuilder"), (0, u "EMPTYVALUE"), (0, u "[B"), (0, .fieldref 10 16), (0, .nameAndType 17 14), (0, u "value"), (0, .fieldref 1 19), (0, .nameAndType 20 21), (0, u "COMPACT_STRINGS"), (0, u "Z"), (0, .fieldref 10 23), (0, .nameAndType 24 25), (0, u "coder"), (0, u "B"), (6, .methodref 1 33), (0, .nameAndType 34 35), (0, u "length"), (0, u "()I"), (3, .integer 2147483647), (0, .methodref 1 41), (0, .nameAndType 24 42), (0, u "()B"), (2, u "append"), (0, u "(Ljava/lang/String;)Ljava/lang/AbstractStringBuilder;"), (1, .class_ 49), (0, u "java/lang/CharSequence"), (19, u "(Ljava/lang/String;)V"), (5, u "maybeLatin1"), (3, .fieldref 10 80), (0, .nameAndType 81 82), (0, u "count"), (0, u "I"), (2, u "isLatin1"), (0, u "()Z"), (13, .methodref 10 101), (0, .nameAndType 102 103), (0, u "ensureCapacityInternal"), (0, u "(I)V"), (0, .methodref 10 105), (0, .nameAndType 106 107), (0, u "newCapacity"), (0, u "(I)I"), (0, .methodref 109 110), (0, .class_ 111), (0, .nameAndType 112 113), (0, u "java/util/Arrays"), (0, u "copyOf"), (0, u "([BI)[B"), (0, .methodref 115 116), (0, .class_ 117), (0, .nameAndType 118 119), (0, u "jdk/internal/util/ArraysSupport"), (0, u "newLength"), (0, u "(III)I"), (88, .methodref 10 209), (0, .nameAndType 210 211), (0, u "putStringAt"), (0, u "(ILjava/lang/String;)V"), (5, u "inflateIfNeededFor"), (2, .nameAndType 221 222), (0, u "getBytes"), (0, u "([BIB)V"), (174, .methodref 10 398), (0, .nameAndType 217 69), (0, .methodref 1 220), (3, u "()[B"), (40, .class_ 445), (0, u "java/lang/Appendable"), (106, u "getValue")] 56

def k12m0 : Method := { name := "<init>", desc := "()V", sig := { parameters := [], returnType := none }, accessFlags := 0, code := none }
def k12c1 : Code := { maxStack := 2, maxLocals := 2, code := jdk_68_method_2_code, exceptionTable := #[], attributes := #[] }
def k12m1 : Method := { name := "<init>", desc := "(I)V", sig := { parameters := [.int], returnType := none }, accessFlags := 0, code := some k12c1 }
def k12c2 : Code := { maxStack := 1, maxLocals := 1, code := jdk_68_method_6_code, exceptionTable := #[], attributes := #[] }
def k12m2 : Method := { name := "length", desc := "()I", sig := { parameters := [], returnType := some .int }, accessFlags := 1, code := some k12c2 }
def k12c3 : Code := { maxStack := 4, maxLocals := 3, code := jdk_68_method_9_code, exceptionTable := #[], attributes := #[] }
def k12m3 : Method := { name := "ensureCapacityInternal", desc := "(I)V", sig := { parameters := [.int], returnType := none }, accessFlags := 2, code := some k12c3 }
def k12c4 : Code := { maxStack := 5, maxLocals := 6, code := jdk_68_method_10_code, exceptionTable := #[], attributes := #[] }
def k12m4 : Method := { name := "newCapacity", desc := "(I)I", sig := { parameters := [.int], returnType := some .int }, accessFlags := 2, code := some k12c4 }
def k12c5 : Code := { maxStack := 3, maxLocals := 3, code := jdk_68_method_22_code, exceptionTable := #[], attributes := #[] }
def k12m5 : Method := { name := "append", desc := "(Ljava/lang/String;)Ljava/lang/AbstractStringBuilder;", sig := { parameters := [(.object "java/lang/String")], returnType := some (.object "java/lang/AbstractStringBuilder") }, accessFlags := 1, code := some k12c5 }
def k12c6 : Code := { maxStack := 1, maxLocals := 1, code := jdk_68_method_64_code, exceptionTable := #[], attributes := #[] }
def k12m6 : Method := { name := "getValue", desc := "()[B", sig := { parameters := [], returnType := some (.array .byte) }, accessFlags := 16, code := some k12c6 }
def k12c7 : Code := { maxStack := 1, maxLocals := 1, code := jdk_68_method_68_code, exceptionTable := #[], attributes := #[] }
def k12m7 : Method := { name := "isLatin1", desc := "()Z", sig := { parameters := [], returnType := some .boolean }, accessFlags := 16, code := some k12c7 }
def k12c8 : Code := { maxStack := 2, maxLocals := 2, code := jdk_68_method_71_code, exceptionTable := #[], attributes := #[] }
def k12m8 : Method := { name := "inflateIfNeededFor", desc := "(Ljava/lang/String;)V", sig := { parameters := [(.object "java/lang/String")], returnType := none }, accessFlags := 2, code := some k12c8 }
def k12c9 : Code := { maxStack := 4, maxLocals := 3, code := jdk_68_method_73_code, exceptionTable := #[], attributes := #[] }
def k12m9 : Method := { name := "putStringAt", desc := "(ILjava/lang/String;)V", sig := { parameters := [.int, (.object "java/lang/String")], returnType := none }, accessFlags := 2, code := some k12c9 }
/-- java/lang/AbstractStringBuilder -/
def k12 : Class := { plain "java/lang/AbstractStringBuilder" (some 0) with
  accessFlags := 1056
  interfaces := #[11, 4]
  cf := some (fileOf pool12 10 #[] #[{ accessFlags := 0, nameIndex := 7, descriptorIndex := 8, attributes := #[] }, { accessFlags := 0, nameIndex := 7, descriptorIndex := 103, attributes := #[] }, { accessFlags := 1, nameIndex := 34, descriptorIndex := 35, attributes := #[] }, { accessFlags := 2, nameIndex := 102, descriptorIndex := 103, attributes := #[] }, { accessFlags := 2, nameIndex := 106, descriptorIndex := 107, attributes := #[] }, { accessFlags := 1, nameIndex := 45, descriptorIndex := 46, attributes := #[] }, { accessFlags := 16, nameIndex := 552, descriptorIndex := 403, attributes := #[] }, { accessFlags := 16, nameIndex := 85, descriptorIndex := 86, attributes := #[] }, { accessFlags := 2, nameIndex := 217, descriptorIndex := 69, attributes := #[] }, { accessFlags := 2, nameIndex := 210, descriptorIndex := 211, attributes := #[] }] 1056 4 #[444, 48] #[{ accessFlags := 0, nameIndex := 17, descriptorIndex := 14, attributes := #[] }, { accessFlags := 0, nameIndex := 24, descriptorIndex := 25, attributes := #[] }, { accessFlags := 0, nameIndex := 75, descriptorIndex := 21, attributes := #[] }, { accessFlags := 0, nameIndex := 81, descriptorIndex := 82, attributes := #[] }, { accessFlags := 26, nameIndex := 13, descriptorIndex := 14, attributes := #[] }])
  fields := #[{ name := "value", type := (.array .byte), accessFlags := 0, slot := 0, constantValue := 0 }, { name := "coder", type := .byte, accessFlags := 0, slot := 1, constantValue := 0 }, { name := "maybeLatin1", type := .boolean, accessFlags := 0, slot := 2, constantValue := 0 }, { name := "count", type := .int, accessFlags := 0, slot := 3, constantValue := 0 }, { name := "EMPTYVALUE", type := (.array .byte), accessFlags := 26, slot := 0, constantValue := 0 }]
  methods := #[k12m0, k12m1, k12m2, k12m3, k12m4, k12m5, k12m6, k12m7, k12m8, k12m9]
  instanceTypes := #[(.array .byte), .byte, .boolean, .int]
  staticTypes := #[(.array .byte)]
  resolved := Array.replicate 609 none
  statics := none }

def pool13 : Array CpInfo := pool [(1, .methodref 2 3), (0, .class_ 4), (0, .nameAndType 5 6), (0, u "java/lang/AbstractStringBuilder"), (0, u "<init>"), (0, u "(I)V"), (11, .class_ 20), (1, u "java/lang/String"), (3, .class_ 26), (1, u "java/lang/StringBuilder"), (0, u "append"), (0, u "(Ljava/lang/String;)Ljava/lang/StringBuilder;"), (0, .methodref 2 30), (0, .nameAndType 27 31), (0, u "(Ljava/lang/String;)Ljava/lang/AbstractStringBuilder;"), (105, .methodref 18 138), (0, .nameAndType 5 139), (0, u "(Ljava/lang/StringBuilder;)V"), (5, u "()V"), (10, u "()I"), (186, .methodref 2 344), (0, .nameAndType 345 156), (0, u "length"), (3, .class_ 350), (0, u "java/lang/Appendable"), (0, .class_ 352), (0, u "java/io/Serializable"), (0, .class_ 354), (0, u "java/lang/Comparable"), (0, .class_ 356), (0, u "java/lang/CharSequence"), (0, u "serialVersionUID"), (0, u "J"), (40, u "toString"), (0, u "()Ljava/lang/String;")] 21

def k13c0 : Code := { maxStack := 2, maxLocals := 1, code := jdk_67_method_1_code, exceptionTable := #[], attributes := #[] }
def k13m0 : Method := { name := "<init>", desc := "()V", sig := { parameters := [], returnType := none }, accessFlags := 1, code := some k13c0 }
def k13c1 : Code := { maxStack := 2, maxLocals := 2, code := jdk_67_method_7_code, exceptionTable := #[], attributes := #[] }
def k13m1 : Method := { name := "append", desc := "(Ljava/lang/String;)Ljava/lang/StringBuilder;", sig := { parameters := [(.object "java/lang/String")], returnType := some (.object "java/lang/StringBuilder") }, accessFlags := 1, code := some k13c1 }
def k13c2 : Code := { maxStack := 3, maxLocals := 1, code := jdk_67_method_42_code, exceptionTable := #[], attributes := #[] }
def k13m2 : Method := { name := "toString", desc := "()Ljava/lang/String;", sig := { parameters := [], returnType := some (.object "java/lang/String") }, accessFlags := 1, code := some k13c2 }
def k13c3 : Code := { maxStack := 1, maxLocals := 1, code := jdk_67_method_93_code, exceptionTable := #[], attributes := #[] }
def k13m3 : Method := { name := "length", desc := "()I", sig := { parameters := [], returnType := some .int }, accessFlags := 4161, code := some k13c3 }
/-- java/lang/StringBuilder -/
def k13 : Class := { plain "java/lang/StringBuilder" (some 12) with
  accessFlags := 49
  interfaces := #[11, 2, 3, 4]
  cf := some (fileOf pool13 24 #[] #[{ accessFlags := 1, nameIndex := 5, descriptorIndex := 145, attributes := #[] }, { accessFlags := 1, nameIndex := 27, descriptorIndex := 28, attributes := #[] }, { accessFlags := 1, nameIndex := 399, descriptorIndex := 400, attributes := #[] }, { accessFlags := 4161, nameIndex := 345, descriptorIndex := 156, attributes := #[] }] 49 2 #[349, 351, 353, 355] #[{ accessFlags := 24, nameIndex := 357, descriptorIndex := 358, attributes := #[] }])
  fields := #[{ name := "serialVersionUID", type := .long, accessFlags := 24, slot := 0, constantValue := 0 }]
  methods := #[k13m0, k13m1, k13m2, k13m3]
  instanceTypes := #[(.array .byte), .byte, .boolean, .int]
  staticTypes := #[.long]
  resolved := Array.replicate 422 none
  statics := none }

def pool14 : Array CpInfo := pool [(2, .class_ 4), (1, u "java/lang/Object"), (0, u "<init>"), (0, u "()V"), (1, .class_ 10), (1, u "java/lang/System"), (0, u "allowSecurityManager"), (0, u "I"), (16, u "cons"), (0, u "Ljava/io/Console;"), (77, .class_ 110), (1, u "java/lang/System$CallersHolder"), (43, u "initialErrStream"), (0, u "Ljava/io/PrintStream;"), (19, u "security"), (0, u "Ljava/lang/SecurityManager;"), (31, .class_ 209), (0, u "java/lang/System$1"), (7, u "props"), (0, u "Ljava/util/Properties;"), (2, u "lineSeparator"), (0, u "Ljava/lang/String;"), (96, .class_ 321), (1, u "java/lang/System$LoggerFinder"), (5, .class_ 328), (0, u "java/lang/System$Logger"), (67, u "err"), (2, u "out"), (91, u "notSupportedJnuEncoding"), (15, u "in"), (17, u "initialIn"), (0, u "Ljava/io/InputStream;"), (35, u "bootLayer"), (0, u "Ljava/lang/ModuleLayer;"), (99, .class_ 664), (0, u "java/lang/System$2"), (9, u "NEVER"), (2, u "MAYBE"), (49, u "arraycopy"), (0, u "(Ljava/lang/Object;ILjava/lang/Object;II)V"), (72, .class_ 802), (0, u "java/lang/System$Logger$Level")] 31

def k14m0 : Method := { name := "<init>", desc := "()V", sig := { parameters := [], returnType := none }, accessFlags := 2, code := none }
def k14m1 : Method := { name := "arraycopy", desc := "(Ljava/lang/Object;ILjava/lang/Object;II)V", sig := { parameters := [(.object "java/lang/Object"), .int, (.object "java/lang/Object"), .int, .int], returnType := none }, accessFlags := 265, code := none }
/-- java/lang/System -/
def k14 : Class := { plain "java/lang/System" (some 0) with
  accessFlags := 49
  interfaces := #[]
  cf := some (fileOf pool14 8 #[.nestMembers #[319, 327, 801, 108, 663, 208]] #[{ accessFlags := 2, nameIndex := 5, descriptorIndex := 6, attributes := #[] }, { accessFlags := 265, nameIndex := 727, descriptorIndex := 728, attributes := #[] }] 49 2 #[] #[{ accessFlags := 25, nameIndex := 507, descriptorIndex := 526, attributes := #[] }, { accessFlags := 25, nameIndex := 399, descriptorIndex := 155, attributes := #[] }, { accessFlags := 25, nameIndex := 396, descriptorIndex := 155, attributes := #[] }, { accessFlags := 10, nameIndex := 525, descriptorIndex := 526, attributes := #[] }, { accessFlags := 26, nameIndex := 674, descriptorIndex := 12, attributes := #[] }, { accessFlags := 26, nameIndex := 677, descriptorIndex := 12, attributes := #[] }, { accessFlags := 10, nameIndex := 11, descriptorIndex := 12, attributes := #[] }, { accessFlags := 74, nameIndex := 175, descriptorIndex := 176, attributes := #[] }, { accessFlags := 10, nameIndex := 491, descriptorIndex := 222, attributes := #[] }, { accessFlags := 74, nameIndex := 29, descriptorIndex := 30, attributes := #[] }, { accessFlags := 74, nameIndex := 154, descriptorIndex := 155, attributes := #[] }, { accessFlags := 10, nameIndex := 217, descriptorIndex := 218, attributes := #[] }, { accessFlags := 10, nameIndex := 221, descriptorIndex := 222, attributes := #[] }, { accessFlags := 8, nameIndex := 562, descriptorIndex := 563, attributes := #[] }])
  fields := #[{ name := "in", type := (.object "java/io/InputStream"), accessFlags := 25, slot := 0, constantValue := 0 }, { name := "out", type := (.object "java/io/PrintStream"), accessFlags := 25, slot := 1, constantValue := 0 }, { name := "err", type := (.object "java/io/PrintStream"), accessFlags := 25, slot := 2, constantValue := 0 }, { name := "initialIn", type := (.object "java/io/InputStream"), accessFlags := 10, slot := 3, constantValue := 0 }, { name := "NEVER", type := .int, accessFlags := 26, slot := 4, constantValue := 0 }, { name := "MAYBE", type := .int, accessFlags := 26, slot := 5, constantValue := 0 }, { name := "allowSecurityManager", type := .int, accessFlags := 10, slot := 6, constantValue := 0 }, { name := "security", type := (.object "java/lang/SecurityManager"), accessFlags := 74, slot := 7, constantValue := 0 }, { name := "notSupportedJnuEncoding", type := (.object "java/lang/String"), accessFlags := 10, slot := 8, constantValue := 0 }, { name := "cons", type := (.object "java/io/Console"), accessFlags := 74, slot := 9, constantValue := 0 }, { name := "initialErrStream", type := (.object "java/io/PrintStream"), accessFlags := 74, slot := 10, constantValue := 0 }, { name := "props", type := (.object "java/util/Properties"), accessFlags := 10, slot := 11, constantValue := 0 }, { name := "lineSeparator", type := (.object "java/lang/String"), accessFlags := 10, slot := 12, constantValue := 0 }, { name := "bootLayer", type := (.object "java/lang/ModuleLayer"), accessFlags := 8, slot := 13, constantValue := 0 }]
  methods := #[k14m0, k14m1]
  instanceTypes := #[]
  staticTypes := #[(.object "java/io/InputStream"), (.object "java/io/PrintStream"), (.object "java/io/PrintStream"), (.object "java/io/InputStream"), .int, .int, .int, (.object "java/lang/SecurityManager"), (.object "java/lang/String"), (.object "java/io/Console"), (.object "java/io/PrintStream"), (.object "java/util/Properties"), (.object "java/lang/String"), (.object "java/lang/ModuleLayer")]
  resolved := Array.replicate 834 none
  statics := none }

def pool15 : Array CpInfo := pool [(9, u "<init>"), (6, .class_ 18), (1, u "java/lang/Object"), (0, u "()V"), (1, .class_ 23), (1, u "jdk/internal/util/ArraysSupport"), (0, u "LOG2_ARRAY_LONG_INDEX_SCALE"), (0, u "I"), (2, u "U"), (0, u "Ljdk/internal/misc/Unsafe;"), (8, u "BIG_ENDIAN"), (0, u "Z"), (8, u "LOG2_BYTE_BIT_SIZE"), (4, u "LOG2_ARRAY_INT_INDEX_SCALE"), (54, u "JLA"), (0, u "Ljdk/internal/access/JavaLangAccess;"), (11, u "LOG2_ARRAY_BOOLEAN_INDEX_SCALE"), (9, u "LOG2_ARRAY_BYTE_INDEX_SCALE"), (5, u "LOG2_ARRAY_CHAR_INDEX_SCALE"), (5, u "LOG2_ARRAY_SHORT_INDEX_SCALE"), (18, u "LOG2_ARRAY_FLOAT_INDEX_SCALE"), (24, u "LOG2_ARRAY_DOUBLE_INDEX_SCALE"), (6, .methodref 195 196), (0, .class_ 197), (0, .nameAndType 198 199), (0, u "java/lang/Math"), (0, u "max"), (0, u "(II)I"), (0, .integer 2147483639), (76, u "T_BOOLEAN"), (2, u "T_CHAR"), (1, u "T_FLOAT"), (1, u "T_DOUBLE"), (1, u "T_BYTE"), (1, u "T_SHORT"), (1, u "T_INT"), (1, u "T_LONG"), (1, u "SOFT_MAX_ARRAY_LENGTH"), (56, u "newLength"), (0, u "(III)I")] 25

def k15m0 : Method := { name := "<init>", desc := "()V", sig := { parameters := [], returnType := none }, accessFlags := 2, code := none }
def k15c1 : Code := { maxStack := 3, maxLocals := 4, code := jdk_48_method_27_code, exceptionTable := #[], attributes := #[] }
def k15m1 : Method := { name := "newLength", desc := "(III)I", sig := { parameters := [.int, .int, .int], returnType := some .int }, accessFlags := 9, code := some k15c1 }
/-- jdk/internal/util/ArraysSupport -/
def k15 : Class := { plain "jdk/internal/util/ArraysSupport" (some 0) with
  accessFlags := 33
  interfaces := #[]
  cf := some (fileOf pool15 21 #[] #[{ accessFlags := 2, nameIndex := 9, descriptorIndex := 19, attributes := #[] }, { accessFlags := 9, nameIndex := 351, descriptorIndex := 352, attributes := #[] }] 33 16 #[] #[{ accessFlags := 24, nameIndex := 28, descriptorIndex := 29, attributes := #[] }, { accessFlags := 26, nameIndex := 38, descriptorIndex := 39, attributes := #[] }, { accessFlags := 25, nameIndex := 121, descriptorIndex := 25, attributes := #[] }, { accessFlags := 25, nameIndex := 131, descriptorIndex := 25, attributes := #[] }, { accessFlags := 25, nameIndex := 137, descriptorIndex := 25, attributes := #[] }, { accessFlags := 25, nameIndex := 143, descriptorIndex := 25, attributes := #[] }, { accessFlags := 25, nameIndex := 53, descriptorIndex := 25, attributes := #[] }, { accessFlags := 25, nameIndex := 24, descriptorIndex := 25, attributes := #[] }, { accessFlags := 25, nameIndex := 162, descriptorIndex := 25, attributes := #[] }, { accessFlags := 25, nameIndex := 187, descriptorIndex := 25, attributes := #[] }, { accessFlags := 26, nameIndex := 48, descriptorIndex := 25, attributes := #[] }, { accessFlags := 25, nameIndex := 277, descriptorIndex := 25, attributes := #[] }, { accessFlags := 25, nameIndex := 280, descriptorIndex := 25, attributes := #[] }, { accessFlags := 25, nameIndex := 282, descriptorIndex := 25, attributes := #[] }, { accessFlags := 25, nameIndex := 284, descriptorIndex := 25, attributes := #[] }, { accessFlags := 25, nameIndex := 286, descriptorIndex := 25, attributes := #[] }, { accessFlags := 25, nameIndex := 288, descriptorIndex := 25, attributes := #[] }, { accessFlags := 25, nameIndex := 290, descriptorIndex := 25, attributes := #[] }, { accessFlags := 25, nameIndex := 292, descriptorIndex := 25, attributes := #[] }, { accessFlags := 26, nameIndex := 108, descriptorIndex := 109, attributes := #[] }, { accessFlags := 25, nameIndex := 294, descriptorIndex := 25, attributes := #[] }])
  fields := #[{ name := "U", type := (.object "jdk/internal/misc/Unsafe"), accessFlags := 24, slot := 0, constantValue := 0 }, { name := "BIG_ENDIAN", type := .boolean, accessFlags := 26, slot := 1, constantValue := 0 }, { name := "LOG2_ARRAY_BOOLEAN_INDEX_SCALE", type := .int, accessFlags := 25, slot := 2, constantValue := 0 }, { name := "LOG2_ARRAY_BYTE_INDEX_SCALE", type := .int, accessFlags := 25, slot := 3, constantValue := 0 }, { name := "LOG2_ARRAY_CHAR_INDEX_SCALE", type := .int, accessFlags := 25, slot := 4, constantValue := 0 }, { name := "LOG2_ARRAY_SHORT_INDEX_SCALE", type := .int, accessFlags := 25, slot := 5, constantValue := 0 }, { name := "LOG2_ARRAY_INT_INDEX_SCALE", type := .int, accessFlags := 25, slot := 6, constantValue := 0 }, { name := "LOG2_ARRAY_LONG_INDEX_SCALE", type := .int, accessFlags := 25, slot := 7, constantValue := 0 }, { name := "LOG2_ARRAY_FLOAT_INDEX_SCALE", type := .int, accessFlags := 25, slot := 8, constantValue := 0 }, { name := "LOG2_ARRAY_DOUBLE_INDEX_SCALE", type := .int, accessFlags := 25, slot := 9, constantValue := 0 }, { name := "LOG2_BYTE_BIT_SIZE", type := .int, accessFlags := 26, slot := 10, constantValue := 0 }, { name := "T_BOOLEAN", type := .int, accessFlags := 25, slot := 11, constantValue := 0 }, { name := "T_CHAR", type := .int, accessFlags := 25, slot := 12, constantValue := 0 }, { name := "T_FLOAT", type := .int, accessFlags := 25, slot := 13, constantValue := 0 }, { name := "T_DOUBLE", type := .int, accessFlags := 25, slot := 14, constantValue := 0 }, { name := "T_BYTE", type := .int, accessFlags := 25, slot := 15, constantValue := 0 }, { name := "T_SHORT", type := .int, accessFlags := 25, slot := 16, constantValue := 0 }, { name := "T_INT", type := .int, accessFlags := 25, slot := 17, constantValue := 0 }, { name := "T_LONG", type := .int, accessFlags := 25, slot := 18, constantValue := 0 }, { name := "JLA", type := (.object "jdk/internal/access/JavaLangAccess"), accessFlags := 26, slot := 19, constantValue := 0 }, { name := "SOFT_MAX_ARRAY_LENGTH", type := .int, accessFlags := 25, slot := 20, constantValue := 0 }]
  methods := #[k15m0, k15m1]
  instanceTypes := #[]
  staticTypes := #[(.object "jdk/internal/misc/Unsafe"), .boolean, .int, .int, .int, .int, .int, .int, .int, .int, .int, .int, .int, .int, .int, .int, .int, .int, .int, (.object "jdk/internal/access/JavaLangAccess"), .int]
  resolved := Array.replicate 378 none
  statics := none }

def pool16 : Array CpInfo := pool [(1, .class_ 2), (0, u "java/lang/Math"), (1, .class_ 6), (1, u "java/lang/Object"), (0, u "<init>"), (0, u "()V"), (89, .class_ 100), (1, u "java/lang/Math$RandomNumberGeneratorHolder"), (71, u "negativeZeroFloatBits"), (0, u "J"), (2, u "negativeZeroDoubleBits"), (21, u "max"), (2, u "min"), (43, u "$assertionsDisabled"), (0, u "Z"), (88, u "(II)I"), (2, u "twoToTheDoubleScaleDown"), (0, u "D"), (4, u "twoToTheDoubleScaleUp"), (9, u "E"), (3, u "PI"), (2, u "TAU"), (2, u "DEGREES_TO_RADIANS"), (0, u "RADIANS_TO_DEGREES")] 94

def k16m0 : Method := { name := "<init>", desc := "()V", sig := { parameters := [], returnType := none }, accessFlags := 2, code := none }
def k16c1 : Code := { maxStack := 2, maxLocals := 2, code := jdk_29_method_65_code, exceptionTable := #[], attributes := #[] }
def k16m1 : Method := { name := "max", desc := "(II)I", sig := { parameters := [.int, .int], returnType := some .int }, accessFlags := 9, code := some k16c1 }
def k16c2 : Code := { maxStack := 2, maxLocals := 2, code := jdk_29_method_69_code, exceptionTable := #[], attributes := #[] }
def k16m2 : Method := { name := "min", desc := "(II)I", sig := { parameters := [.int, .int], returnType := some .int }, accessFlags := 9, code := some k16c2 }
/-- java/lang/Math -/
def k16 : Class := { plain "java/lang/Math" (some 0) with
  accessFlags := 49
  interfaces := #[]
  cf := some (fileOf pool16 1 #[.nestMembers #[98]] #[{ accessFlags := 2, nameIndex := 7, descriptorIndex := 8, attributes := #[] }, { accessFlags := 9, nameIndex := 198, descriptorIndex := 335, attributes := #[] }, { accessFlags := 9, nameIndex := 201, descriptorIndex := 335, attributes := #[] }] 49 4 #[] #[{ accessFlags := 25, nameIndex := 354, descriptorIndex := 339, attributes := #[] }, { accessFlags := 25, nameIndex := 358, descriptorIndex := 339, attributes := #[] }, { accessFlags := 25, nameIndex := 361, descriptorIndex := 339, attributes := #[] }, { accessFlags := 26, nameIndex := 364, descriptorIndex := 339, attributes := #[] }, { accessFlags := 26, nameIndex := 365, descriptorIndex := 339, attributes := #[] }, { accessFlags := 26, nameIndex := 172, descriptorIndex := 173, attributes := #[] }, { accessFlags := 26, nameIndex := 176, descriptorIndex := 173, attributes := #[] }, { accessFlags := 8, nameIndex := 344, descriptorIndex := 339, attributes := #[] }, { accessFlags := 8, nameIndex := 338, descriptorIndex := 339, attributes := #[] }, { accessFlags := 4120, nameIndex := 245, descriptorIndex := 246, attributes := #[] }])
  fields := #[{ name := "E", type := .double, accessFlags := 25, slot := 0, constantValue := 0 }, { name := "PI", type := .double, accessFlags := 25, slot := 1, constantValue := 0 }, { name := "TAU", type := .double, accessFlags := 25, slot := 2, constantValue := 0 }, { name := "DEGREES_TO_RADIANS", type := .double, accessFlags := 26, slot := 3, constantValue := 0 }, { name := "RADIANS_TO_DEGREES", type := .double, accessFlags := 26, slot := 4, constantValue := 0 }, { name := "negativeZeroFloatBits", type := .long, accessFlags := 26, slot := 5, constantValue := 0 }, { name := "negativeZeroDoubleBits", type := .long, accessFlags := 26, slot := 6, constantValue := 0 }, { name := "twoToTheDoubleScaleUp", type := .double, accessFlags := 8, slot := 7, constantValue := 0 }, { name := "twoToTheDoubleScaleDown", type := .double, accessFlags := 8, slot := 8, constantValue := 0 }, { name := "$assertionsDisabled", type := .boolean, accessFlags := 4120, slot := 9, constantValue := 0 }]
  methods := #[k16m0, k16m1, k16m2]
  instanceTypes := #[]
  staticTypes := #[.double, .double, .double, .double, .double, .long, .long, .double, .double, .boolean]
  resolved := Array.replicate 460 none
  statics := none }

def pool17 : Array CpInfo := pool [(2, .class_ 4), (1, u "java/lang/Object"), (0, u "<init>"), (0, u "()V"), (7, .class_ 16), (1, u "java/util/Arrays"), (57, .class_ 76), (1, u "java/util/Arrays$NaturalOrder"), (36, .class_ 115), (1, u "java/util/Arrays$LegacyMergeSort"), (1, u "Z"), (21, u "copyOfRange"), (10, .methodref 151 152), (0, .class_ 153), (0, .nameAndType 154 155), (0, u "java/lang/System"), (0, u "arraycopy"), (0, u "(Ljava/lang/Object;ILjava/lang/Object;II)V"), (146, u "copyOf"), (1, .methodref 305 306), (0, .class_ 307), (0, .nameAndType 308 309), (0, u "java/lang/Math"), (0, u "min"), (0, u "(II)I"), (29, .methodref 14 340), (0, .nameAndType 341 342), (0, u "copyOfRangeByte"), (0, u "([BII)[B"), (0, .methodref 14 344), (0, .nameAndType 345 346), (0, u "checkLength"), (0, u "(II)V"), (28, .class_ 376), (0, u "java/util/Arrays$ArrayList"), (68, u "$assertionsDisabled"), (269, u "MIN_ARRAY_SORT_GRAN"), (0, u "I"), (2, u "INSERTIONSORT_THRESHOLD"), (149, u "([BI)[B"), (105, .class_ 976), (0, u "java/util/Arrays$ArrayItr")] 52

def k17m0 : Method := { name := "<init>", desc := "()V", sig := { parameters := [], returnType := none }, accessFlags := 2, code := none }
def k17c1 : Code := { maxStack := 6, maxLocals := 3, code := jdk_65_method_121_code, exceptionTable := #[], attributes := #[] }
def k17m1 : Method := { name := "copyOf", desc := "([BI)[B", sig := { parameters := [(.array .byte), .int], returnType := some (.array .byte) }, accessFlags := 9, code := some k17c1 }
def k17c2 : Code := { maxStack := 4, maxLocals := 2, code := jdk_65_method_131_code, exceptionTable := #[], attributes := #[] }
def k17m2 : Method := { name := "checkLength", desc := "(II)V", sig := { parameters := [.int, .int], returnType := none }, accessFlags := 10, code := some k17c2 }
def k17c3 : Code := { maxStack := 3, maxLocals := 3, code := jdk_65_method_132_code, exceptionTable := #[], attributes := #[] }
def k17m3 : Method := { name := "copyOfRange", desc := "([BII)[B", sig := { parameters := [(.array .byte), .int, .int], returnType := some (.array .byte) }, accessFlags := 9, code := some k17c3 }
def k17c4 : Code := { maxStack := 6, maxLocals := 5, code := jdk_65_method_133_code, exceptionTable := #[], attributes := #[] }
def k17m4 : Method := { name := "copyOfRangeByte", desc := "([BII)[B", sig := { parameters := [(.array .byte), .int, .int], returnType := some (.array .byte) }, accessFlags := 10, code := some k17c4 }
/-- java/util/Arrays -/
def k17 : Class := { plain "java/util/Arrays" (some 0) with
  accessFlags := 49
  interfaces := #[]
  cf := some (fileOf pool17 14 #[.nestMembers #[975, 375, 113, 74]] #[{ accessFlags := 2, nameIndex := 5, descriptorIndex := 6, attributes := #[] }, { accessFlags := 9, nameIndex := 302, descriptorIndex := 869, attributes := #[] }, { accessFlags := 10, nameIndex := 345, descriptorIndex := 346, attributes := #[] }, { accessFlags := 9, nameIndex := 139, descriptorIndex := 342, attributes := #[] }, { accessFlags := 10, nameIndex := 341, descriptorIndex := 342, attributes := #[] }] 49 2 #[] #[{ accessFlags := 26, nameIndex := 715, descriptorIndex := 716, attributes := #[] }, { accessFlags := 26, nameIndex := 719, descriptorIndex := 716, attributes := #[] }, { accessFlags := 4120, nameIndex := 445, descriptorIndex := 117, attributes := #[] }])
  fields := #[{ name := "MIN_ARRAY_SORT_GRAN", type := .int, accessFlags := 26, slot := 0, constantValue := 0 }, { name := "INSERTIONSORT_THRESHOLD", type := .int, accessFlags := 26, slot := 1, constantValue := 0 }, { name := "$assertionsDisabled", type := .boolean, accessFlags := 4120, slot := 2, constantValue := 0 }]
  methods := #[k17m0, k17m1, k17m2, k17m3, k17m4]
  instanceTypes := #[]
  staticTypes := #[.int, .int, .boolean]
  resolved := Array.replicate 1029 none
  statics := none }

def pool18 : Array CpInfo := pool [(2, .class_ 4), (1, u "java/lang/Object"), (0, u "<init>"), (0, u "()V"), (17, .class_ 26), (1, u "jdk/internal/util/Preconditions"), (6, u "checkIndex"), (21, .class_ 56), (0, u "jdk/internal/util/Preconditions$4"), (57, .class_ 115), (0, u "jdk/internal/util/Preconditions$1"), (7, u "SIOOBE_FORMATTER"), (0, u "Ljava/util/function/BiFunction;"), (0, .class_ 126), (0, u "jdk/internal/util/Preconditions$2"), (3, u "AIOOBE_FORMATTER"), (0, .class_ 132), (0, u "jdk/internal/util/Preconditions$3"), (3, u "IOOBE_FORMATTER"), (41, u "(IILjava/util/function/BiFunction;)I")] 15

def k18m0 : Method := { name := "<init>", desc := "()V", sig := { parameters := [], returnType := none }, accessFlags := 1, code := none }
def k18c1 : Code := { maxStack := 3, maxLocals := 3, code := jdk_41_method_11_code, exceptionTable := #[], attributes := #[] }
def k18m1 : Method := { name := "checkIndex", desc := "(IILjava/util/function/BiFunction;)I", sig := { parameters := [.int, .int, (.object "java/util/function/BiFunction")], returnType := some .int }, accessFlags := 9, code := some k18c1 }
/-- jdk/internal/util/Preconditions -/
def k18 : Class := { plain "jdk/internal/util/Preconditions" (some 0) with
  accessFlags := 33
  interfaces := #[]
  cf := some (fileOf pool18 24 #[.nestMembers #[55, 131, 125, 114]] #[{ accessFlags := 1, nameIndex := 5, descriptorIndex := 6, attributes := #[] }, { accessFlags := 9, nameIndex := 33, descriptorIndex := 178, attributes := #[] }] 33 2 #[] #[{ accessFlags := 25, nameIndex := 123, descriptorIndex := 124, attributes := #[] }, { accessFlags := 25, nameIndex := 130, descriptorIndex := 124, attributes := #[] }, { accessFlags := 25, nameIndex := 136, descriptorIndex := 124, attributes := #[] }])
  fields := #[{ name := "SIOOBE_FORMATTER", type := (.object "java/util/function/BiFunction"), accessFlags := 25, slot := 0, constantValue := 0 }, { name := "AIOOBE_FORMATTER", type := (.object "java/util/function/BiFunction"), accessFlags := 25, slot := 1, constantValue := 0 }, { name := "IOOBE_FORMATTER", type := (.object "java/util/function/BiFunction"), accessFlags := 25, slot := 2, constantValue := 0 }]
  methods := #[k18m0, k18m1]
  instanceTypes := #[]
  staticTypes := #[(.object "java/util/function/BiFunction"), (.object "java/util/function/BiFunction"), (.object "java/util/function/BiFunction")]
  resolved := Array.replicate 194 none
  statics := some 1 }

def pool19 : Array CpInfo := pool [(1, u "java/lang/Cloneable"), (0, .class_ 1), (0, u "java/lang/Object"), (0, .class_ 3)] 3

/-- java/lang/Cloneable -/
def k19 : Class := { plain "java/lang/Cloneable" (some 0) with
  accessFlags := 1537
  interfaces := #[]
  cf := some (fileOf pool19 2 #[] #[] 1537 4 #[] #[])
  fields := #[]
  methods := #[]
  instanceTypes := #[]
  staticTypes := #[]
  resolved := Array.replicate 8 none
  statics := none }

/-- the primitive byte -/
def k20 : Class := { plain "byte" none with kind := .primitive 'B', accessFlags := 0x411 }
/-- [B -/
def k21 : Class := { plain "[B" (some 0) with kind := .array 20 .byte, interfaces := #[19, 2], accessFlags := 1041 }

/-- the primitive char -/
def k22 : Class := { plain "char" none with kind := .primitive 'C', accessFlags := 0x411 }
/-- [C -/
def k23 : Class := { plain "[C" (some 0) with kind := .array 22 .char, interfaces := #[19, 2], accessFlags := 1041 }

/-- the primitive int -/
def k24 : Class := { plain "int" none with kind := .primitive 'I', accessFlags := 0x411 }
/-- [I -/
def k25 : Class := { plain "[I" (some 0) with kind := .array 24 .int, interfaces := #[19, 2], accessFlags := 1041 }

def heap : Heap := #[{ cls := 7, slots := #[.long 0, .int 1, .null, .int 0, .null, .int 0, .int 0], vm := .statics 7 },
  { cls := 18, slots := #[.null, .null, .null], vm := .statics 18 }]
def classes : Array Class := #[k0, k1, k2, k3, k4, k5, k6, k7, k8, k9, k10, k11, k12, k13, k14, k15, k16, k17, k18, k19, k20, k21, k22, k23, k24, k25]
def interned : List (Array UInt16 × Addr) := []
def slotsUsed : Nat := 10
def theMethod : MethodId := ⟨1, 4⟩
def args0 : Array Value := #[.int 1, .long 2]
def aboutOver (below : List Frame) : State where
  vm := { classes := classes, interned := interned.toArray }
  heap := heap
  slotsUsed := slotsUsed
  threads := #[{ frames := .invoking theMethod args0 :: below }]
def below0 : List Frame := [.native { method := ⟨0, 0⟩, args := #[] }]
def about1 : State := aboutOver below0
def p0 : Program := .bare "" "" ""
def e0 : Env := launch0.env 0 0 0
theorem w_frames : about1.frames = Frame.invoking theMethod args0 :: below0 := rfl
set_option maxRecDepth 65536 in
theorem w_args : argsFit about1.vm theMethod args0 = true := by decide +kernel
set_option maxRecDepth 65536 in
theorem w_heap : heapFits about1 = true := by decide +kernel
set_option maxRecDepth 65536 in
theorem w_runnable : about1.curStatus? = some .runnable := by decide +kernel
set_option maxRecDepth 65536 in
theorem w_alone : about1.alone = true := by decide +kernel
set_option maxRecDepth 65536 in
theorem w_named : about1.methodNamed? x = some theMethod := by decide +kernel
set_option maxRecDepth 65536 in
theorem w_hears : about1.hears theMethod below0 = true := by decide +kernel
set_option maxRecDepth 65536 in
theorem w_ripe : about1.ripe theMethod args0 below0 = true := by decide +kernel
theorem w_running : about1.status = .running := rfl
set_option maxRecDepth 65536 in
theorem w_room : about1.hasRoom e0.platform room_1 = true :=
  launch0.hasRoom_least _ room_1 (by decide +kernel) (by decide +kernel) (by decide +kernel) (by decide +kernel) (by decide +kernel) (by decide +kernel)
theorem allAtoms_all (ts : List Jvm.Cond) (a : Array Jvm.Value) (st : Jvm.State) : (allAtoms ts).before a st = ts.all (fun c => c.before a st) := by
  induction ts with
  | nil => rfl
  | cons c t ih =>
    show (Jvm.Cond.and c (allAtoms t)).before a st = _
    rw [Jvm.Cond.before_and, ih, List.all_cons]
def words1 : List Jvm.Cond := Jvm.Cond.code x code maxLocals ret :: tables_1
/-- a 'code' word, met by the world's own term for the bytes: nothing is compared byte by byte -/
theorem code_word {y : MethodName} {bytes : ByteArray} {mx : Nat} {rt : Option FieldType} {a : Array Value} {s : State} {m : MethodId} {meth : Method} {c : Code} (h1 : s.methodNamed? y = some m) (h2 : s.vm.method? m = some meth) (h3 : meth.code = some c) (h4 : c.code = bytes)
    (h5 : (c.maxLocals == mx && c.exceptionTable.isEmpty && decide (c.maxStack ≤ mostOperands) && decide (meth.sig.returnType = rt) && !meth.locks && decide (parseMethodDescriptor y.desc = some meth.sig)) = true) : (Jvm.Cond.code y bytes mx rt).before a s = true := by
  simp only [Bool.and_eq_true, beq_iff_eq, Bool.not_eq_true', decide_eq_true_eq] at h5
  obtain ⟨⟨⟨⟨⟨g1, g2⟩, g3⟩, g4⟩, g5⟩, g6⟩ := h5
  simp [Cond.before, Cond.holds, Cond.value, h1, h2, h3, h4, g1, g2, g3, g4, g5, g6]
def isCode : Jvm.Cond → Bool
  | .code _ _ _ _ => true
  | _ => false
theorem all_split {L : List Jvm.Cond} {P : Jvm.Cond → Bool} (h1 : L.all (fun c => isCode c || P c) = true) (h2 : ∀ c ∈ L.filter isCode, P c = true) : L.all P = true := by
  refine List.all_eq_true.mpr fun c hc => ?_
  have h := List.all_eq_true.mp h1 c hc
  rcases Bool.eq_false_or_eq_true (isCode c) with hi | hi
  · exact h2 c (List.mem_filter.mpr ⟨hc, hi⟩)
  · simpa [hi] using h
set_option maxRecDepth 65536 in
theorem w_c0 : (Jvm.Cond.code x code maxLocals ret).before args0 about1 = true := code_word (m := ⟨1, 4⟩) (meth := k1m4) (c := k1c4) (by decide +kernel) rfl rfl rfl (by decide +kernel)
set_option maxRecDepth 65536 in
theorem w_c1 : (Jvm.Cond.code ({ cls := "com/example/tugas/tugas/store/ListingListedOnlyPinLaw", name := "pick", desc := "(IIIJ)C" } : Jvm.MethodName) method_2_code (8 : Nat) (Option.some Jvm.ClassFile.FieldType.char)).before args0 about1 = true := code_word (m := ⟨1, 1⟩) (meth := k1m1) (c := k1c1) (by decide +kernel) rfl rfl rfl (by decide +kernel)
set_option maxRecDepth 65536 in
theorem w_c2 : (Jvm.Cond.code ({ cls := "com/example/tugas/tugas/store/ListingListedOnlyPinLaw", name := "whereAt", desc := "([CI)Z" } : Jvm.MethodName) method_3_code (2 : Nat) (Option.some Jvm.ClassFile.FieldType.boolean)).before args0 about1 = true := code_word (m := ⟨1, 2⟩) (meth := k1m2) (c := k1c2) (by decide +kernel) rfl rfl rfl (by decide +kernel)
set_option maxRecDepth 65536 in
theorem w_c3 : (Jvm.Cond.code ({ cls := "com/example/tugas/tugas/store/ListingListedOnlyPinLaw", name := "putListed", desc := "([CI)V" } : Jvm.MethodName) method_4_code (2 : Nat) (Option.none : Option Jvm.ClassFile.FieldType)).before args0 about1 = true := code_word (m := ⟨1, 3⟩) (meth := k1m3) (c := k1c3) (by decide +kernel) rfl rfl rfl (by decide +kernel)
set_option maxRecDepth 65536 in
theorem w_c4 : (Jvm.Cond.code ({ cls := "java/lang/String", name := "<init>", desc := "([C)V" } : Jvm.MethodName) jdk_42_method_3_code (2 : Nat) (Option.none : Option Jvm.ClassFile.FieldType)).before args0 about1 = true := code_word (m := ⟨7, 1⟩) (meth := k7m1) (c := k7c1) (by decide +kernel) rfl rfl rfl (by decide +kernel)
set_option maxRecDepth 65536 in
theorem w_c5 : (Jvm.Cond.code ({ cls := "java/lang/String", name := "<init>", desc := "([CIILjava/lang/Void;)V" } : Jvm.MethodName) jdk_42_method_149_code (6 : Nat) (Option.none : Option Jvm.ClassFile.FieldType)).before args0 about1 = true := code_word (m := ⟨7, 10⟩) (meth := k7m10) (c := k7c10) (by decide +kernel) rfl rfl rfl (by decide +kernel)
set_option maxRecDepth 65536 in
theorem w_c6 : (Jvm.Cond.code ({ cls := "java/lang/Object", name := "<init>", desc := "()V" } : Jvm.MethodName) object_method_1_code (1 : Nat) (Option.none : Option Jvm.ClassFile.FieldType)).before args0 about1 = true := code_word (m := ⟨0, 0⟩) (meth := k0m0) (c := k0c0) (by decide +kernel) rfl rfl rfl (by decide +kernel)
set_option maxRecDepth 65536 in
theorem w_c7 : (Jvm.Cond.code ({ cls := "java/lang/StringUTF16", name := "compress", desc := "([CII)[B" } : Jvm.MethodName) jdk_52_method_16_code (6 : Nat) (Option.some (Jvm.ClassFile.FieldType.array Jvm.ClassFile.FieldType.byte))).before args0 about1 = true := code_word (m := ⟨8, 2⟩) (meth := k8m2) (c := k8c2) (by decide +kernel) rfl rfl rfl (by decide +kernel)
set_option maxRecDepth 65536 in
theorem w_c8 : (Jvm.Cond.code ({ cls := "java/lang/StringUTF16", name := "compress", desc := "([CI[BII)I" } : Jvm.MethodName) jdk_52_method_21_code (7 : Nat) (Option.some Jvm.ClassFile.FieldType.int)).before args0 about1 = true := code_word (m := ⟨8, 3⟩) (meth := k8m3) (c := k8c3) (by decide +kernel) rfl rfl rfl (by decide +kernel)
set_option maxRecDepth 65536 in
theorem w_c9 : (Jvm.Cond.code ({ cls := "java/lang/StringUTF16", name := "coderFromArrayLen", desc := "([BI)B" } : Jvm.MethodName) jdk_52_method_15_code (2 : Nat) (Option.some Jvm.ClassFile.FieldType.byte)).before args0 about1 = true := code_word (m := ⟨8, 1⟩) (meth := k8m1) (c := k8c1) (by decide +kernel) rfl rfl rfl (by decide +kernel)
set_option maxRecDepth 65536 in
theorem w_c10 : (Jvm.Cond.code ({ cls := "com/example/tugas/tugas/store/Listing", name := "listedOnly", desc := "(Ljava/lang/String;)Ljava/lang/String;" } : Jvm.MethodName) prog_46_method_2_code (2 : Nat) (Option.some (Jvm.ClassFile.FieldType.object "java/lang/String"))).before args0 about1 = true := code_word (m := ⟨9, 0⟩) (meth := k9m0) (c := k9c0) (by decide +kernel) rfl rfl rfl (by decide +kernel)
set_option maxRecDepth 65536 in
theorem w_c11 : (Jvm.Cond.code ({ cls := "java/lang/String", name := "contains", desc := "(Ljava/lang/CharSequence;)Z" } : Jvm.MethodName) jdk_42_method_97_code (2 : Nat) (Option.some Jvm.ClassFile.FieldType.boolean)).before args0 about1 = true := code_word (m := ⟨7, 7⟩) (meth := k7m7) (c := k7c7) (by decide +kernel) rfl rfl rfl (by decide +kernel)
set_option maxRecDepth 65536 in
theorem w_c12 : (Jvm.Cond.code ({ cls := "java/lang/String", name := "toString", desc := "()Ljava/lang/String;" } : Jvm.MethodName) jdk_42_method_126_code (1 : Nat) (Option.some (Jvm.ClassFile.FieldType.object "java/lang/String"))).before args0 about1 = true := code_word (m := ⟨7, 8⟩) (meth := k7m8) (c := k7c8) (by decide +kernel) rfl rfl rfl (by decide +kernel)
set_option maxRecDepth 65536 in
theorem w_c13 : (Jvm.Cond.code ({ cls := "java/lang/String", name := "indexOf", desc := "(Ljava/lang/String;)I" } : Jvm.MethodName) jdk_42_method_84_code (3 : Nat) (Option.some Jvm.ClassFile.FieldType.int)).before args0 about1 = true := code_word (m := ⟨7, 6⟩) (meth := k7m6) (c := k7c6) (by decide +kernel) rfl rfl rfl (by decide +kernel)
set_option maxRecDepth 65536 in
theorem w_c14 : (Jvm.Cond.code ({ cls := "java/lang/String", name := "coder", desc := "()B" } : Jvm.MethodName) jdk_42_method_152_code (1 : Nat) (Option.some Jvm.ClassFile.FieldType.byte)).before args0 about1 = true := code_word (m := ⟨7, 12⟩) (meth := k7m12) (c := k7c12) (by decide +kernel) rfl rfl rfl (by decide +kernel)
set_option maxRecDepth 65536 in
theorem w_c15 : (Jvm.Cond.code ({ cls := "java/lang/String", name := "isLatin1", desc := "()Z" } : Jvm.MethodName) jdk_42_method_154_code (1 : Nat) (Option.some Jvm.ClassFile.FieldType.boolean)).before args0 about1 = true := code_word (m := ⟨7, 13⟩) (meth := k7m13) (c := k7c13) (by decide +kernel) rfl rfl rfl (by decide +kernel)
set_option maxRecDepth 65536 in
theorem w_c16 : (Jvm.Cond.code ({ cls := "java/lang/StringLatin1", name := "indexOf", desc := "([B[B)I" } : Jvm.MethodName) jdk_43_method_24_code (2 : Nat) (Option.some Jvm.ClassFile.FieldType.int)).before args0 about1 = true := code_word (m := ⟨10, 3⟩) (meth := k10m3) (c := k10c3) (by decide +kernel) rfl rfl rfl (by decide +kernel)
set_option maxRecDepth 65536 in
theorem w_c17 : (Jvm.Cond.code ({ cls := "java/lang/StringLatin1", name := "indexOf", desc := "([BI[BII)I" } : Jvm.MethodName) jdk_43_method_25_code (11 : Nat) (Option.some Jvm.ClassFile.FieldType.int)).before args0 about1 = true := code_word (m := ⟨10, 4⟩) (meth := k10m4) (c := k10c4) (by decide +kernel) rfl rfl rfl (by decide +kernel)
set_option maxRecDepth 65536 in
theorem w_c18 : (Jvm.Cond.code ({ cls := "java/lang/StringBuilder", name := "<init>", desc := "()V" } : Jvm.MethodName) jdk_67_method_1_code (1 : Nat) (Option.none : Option Jvm.ClassFile.FieldType)).before args0 about1 = true := code_word (m := ⟨13, 0⟩) (meth := k13m0) (c := k13c0) (by decide +kernel) rfl rfl rfl (by decide +kernel)
set_option maxRecDepth 65536 in
theorem w_c19 : (Jvm.Cond.code ({ cls := "java/lang/AbstractStringBuilder", name := "<init>", desc := "(I)V" } : Jvm.MethodName) jdk_68_method_2_code (2 : Nat) (Option.none : Option Jvm.ClassFile.FieldType)).before args0 about1 = true := code_word (m := ⟨12, 1⟩) (meth := k12m1) (c := k12c1) (by decide +kernel) rfl rfl rfl (by decide +kernel)
set_option maxRecDepth 65536 in
theorem w_c20 : (Jvm.Cond.code ({ cls := "java/lang/StringBuilder", name := "append", desc := "(Ljava/lang/String;)Ljava/lang/StringBuilder;" } : Jvm.MethodName) jdk_67_method_7_code (2 : Nat) (Option.some (Jvm.ClassFile.FieldType.object "java/lang/StringBuilder"))).before args0 about1 = true := code_word (m := ⟨13, 1⟩) (meth := k13m1) (c := k13c1) (by decide +kernel) rfl rfl rfl (by decide +kernel)
set_option maxRecDepth 65536 in
theorem w_c21 : (Jvm.Cond.code ({ cls := "java/lang/AbstractStringBuilder", name := "append", desc := "(Ljava/lang/String;)Ljava/lang/AbstractStringBuilder;" } : Jvm.MethodName) jdk_68_method_22_code (3 : Nat) (Option.some (Jvm.ClassFile.FieldType.object "java/lang/AbstractStringBuilder"))).before args0 about1 = true := code_word (m := ⟨12, 5⟩) (meth := k12m5) (c := k12c5) (by decide +kernel) rfl rfl rfl (by decide +kernel)
set_option maxRecDepth 65536 in
theorem w_c22 : (Jvm.Cond.code ({ cls := "java/lang/String", name := "length", desc := "()I" } : Jvm.MethodName) jdk_42_method_54_code (1 : Nat) (Option.some Jvm.ClassFile.FieldType.int)).before args0 about1 = true := code_word (m := ⟨7, 3⟩) (meth := k7m3) (c := k7c3) (by decide +kernel) rfl rfl rfl (by decide +kernel)
set_option maxRecDepth 65536 in
theorem w_c23 : (Jvm.Cond.code ({ cls := "java/lang/AbstractStringBuilder", name := "ensureCapacityInternal", desc := "(I)V" } : Jvm.MethodName) jdk_68_method_9_code (3 : Nat) (Option.none : Option Jvm.ClassFile.FieldType)).before args0 about1 = true := code_word (m := ⟨12, 3⟩) (meth := k12m3) (c := k12c3) (by decide +kernel) rfl rfl rfl (by decide +kernel)
set_option maxRecDepth 65536 in
theorem w_c24 : (Jvm.Cond.code ({ cls := "java/lang/AbstractStringBuilder", name := "putStringAt", desc := "(ILjava/lang/String;)V" } : Jvm.MethodName) jdk_68_method_73_code (3 : Nat) (Option.none : Option Jvm.ClassFile.FieldType)).before args0 about1 = true := code_word (m := ⟨12, 9⟩) (meth := k12m9) (c := k12c9) (by decide +kernel) rfl rfl rfl (by decide +kernel)
set_option maxRecDepth 65536 in
theorem w_c25 : (Jvm.Cond.code ({ cls := "java/lang/AbstractStringBuilder", name := "inflateIfNeededFor", desc := "(Ljava/lang/String;)V" } : Jvm.MethodName) jdk_68_method_71_code (2 : Nat) (Option.none : Option Jvm.ClassFile.FieldType)).before args0 about1 = true := code_word (m := ⟨12, 8⟩) (meth := k12m8) (c := k12c8) (by decide +kernel) rfl rfl rfl (by decide +kernel)
set_option maxRecDepth 65536 in
theorem w_c26 : (Jvm.Cond.code ({ cls := "java/lang/String", name := "getBytes", desc := "([BIB)V" } : Jvm.MethodName) jdk_42_method_147_code (4 : Nat) (Option.none : Option Jvm.ClassFile.FieldType)).before args0 about1 = true := code_word (m := ⟨7, 9⟩) (meth := k7m9) (c := k7c9) (by decide +kernel) rfl rfl rfl (by decide +kernel)
set_option maxRecDepth 65536 in
theorem w_c27 : (Jvm.Cond.code ({ cls := "java/lang/AbstractStringBuilder", name := "newCapacity", desc := "(I)I" } : Jvm.MethodName) jdk_68_method_10_code (6 : Nat) (Option.some Jvm.ClassFile.FieldType.int)).before args0 about1 = true := code_word (m := ⟨12, 4⟩) (meth := k12m4) (c := k12c4) (by decide +kernel) rfl rfl rfl (by decide +kernel)
set_option maxRecDepth 65536 in
theorem w_c28 : (Jvm.Cond.code ({ cls := "jdk/internal/util/ArraysSupport", name := "newLength", desc := "(III)I" } : Jvm.MethodName) jdk_48_method_27_code (4 : Nat) (Option.some Jvm.ClassFile.FieldType.int)).before args0 about1 = true := code_word (m := ⟨15, 1⟩) (meth := k15m1) (c := k15c1) (by decide +kernel) rfl rfl rfl (by decide +kernel)
set_option maxRecDepth 65536 in
theorem w_c29 : (Jvm.Cond.code ({ cls := "java/lang/Math", name := "max", desc := "(II)I" } : Jvm.MethodName) jdk_29_method_65_code (2 : Nat) (Option.some Jvm.ClassFile.FieldType.int)).before args0 about1 = true := code_word (m := ⟨16, 1⟩) (meth := k16m1) (c := k16c1) (by decide +kernel) rfl rfl rfl (by decide +kernel)
set_option maxRecDepth 65536 in
theorem w_c30 : (Jvm.Cond.code ({ cls := "java/util/Arrays", name := "copyOf", desc := "([BI)[B" } : Jvm.MethodName) jdk_65_method_121_code (3 : Nat) (Option.some (Jvm.ClassFile.FieldType.array Jvm.ClassFile.FieldType.byte))).before args0 about1 = true := code_word (m := ⟨17, 1⟩) (meth := k17m1) (c := k17c1) (by decide +kernel) rfl rfl rfl (by decide +kernel)
set_option maxRecDepth 65536 in
theorem w_c31 : (Jvm.Cond.code ({ cls := "java/lang/Math", name := "min", desc := "(II)I" } : Jvm.MethodName) jdk_29_method_69_code (2 : Nat) (Option.some Jvm.ClassFile.FieldType.int)).before args0 about1 = true := code_word (m := ⟨16, 2⟩) (meth := k16m2) (c := k16c2) (by decide +kernel) rfl rfl rfl (by decide +kernel)
set_option maxRecDepth 65536 in
theorem w_c32 : (Jvm.Cond.code ({ cls := "java/lang/StringBuilder", name := "toString", desc := "()Ljava/lang/String;" } : Jvm.MethodName) jdk_67_method_42_code (1 : Nat) (Option.some (Jvm.ClassFile.FieldType.object "java/lang/String"))).before args0 about1 = true := code_word (m := ⟨13, 2⟩) (meth := k13m2) (c := k13c2) (by decide +kernel) rfl rfl rfl (by decide +kernel)
set_option maxRecDepth 65536 in
theorem w_c33 : (Jvm.Cond.code ({ cls := "java/lang/String", name := "<init>", desc := "(Ljava/lang/StringBuilder;)V" } : Jvm.MethodName) jdk_42_method_53_code (2 : Nat) (Option.none : Option Jvm.ClassFile.FieldType)).before args0 about1 = true := code_word (m := ⟨7, 2⟩) (meth := k7m2) (c := k7c2) (by decide +kernel) rfl rfl rfl (by decide +kernel)
set_option maxRecDepth 65536 in
theorem w_c34 : (Jvm.Cond.code ({ cls := "java/lang/String", name := "<init>", desc := "(Ljava/lang/AbstractStringBuilder;Ljava/lang/Void;)V" } : Jvm.MethodName) jdk_42_method_150_code (5 : Nat) (Option.none : Option Jvm.ClassFile.FieldType)).before args0 about1 = true := code_word (m := ⟨7, 11⟩) (meth := k7m11) (c := k7c11) (by decide +kernel) rfl rfl rfl (by decide +kernel)
set_option maxRecDepth 65536 in
theorem w_c35 : (Jvm.Cond.code ({ cls := "java/lang/AbstractStringBuilder", name := "getValue", desc := "()[B" } : Jvm.MethodName) jdk_68_method_64_code (1 : Nat) (Option.some (Jvm.ClassFile.FieldType.array Jvm.ClassFile.FieldType.byte))).before args0 about1 = true := code_word (m := ⟨12, 6⟩) (meth := k12m6) (c := k12c6) (by decide +kernel) rfl rfl rfl (by decide +kernel)
set_option maxRecDepth 65536 in
theorem w_c36 : (Jvm.Cond.code ({ cls := "java/lang/StringBuilder", name := "length", desc := "()I" } : Jvm.MethodName) jdk_67_method_93_code (1 : Nat) (Option.some Jvm.ClassFile.FieldType.int)).before args0 about1 = true := code_word (m := ⟨13, 3⟩) (meth := k13m3) (c := k13c3) (by decide +kernel) rfl rfl rfl (by decide +kernel)
set_option maxRecDepth 65536 in
theorem w_c37 : (Jvm.Cond.code ({ cls := "java/lang/AbstractStringBuilder", name := "length", desc := "()I" } : Jvm.MethodName) jdk_68_method_6_code (1 : Nat) (Option.some Jvm.ClassFile.FieldType.int)).before args0 about1 = true := code_word (m := ⟨12, 2⟩) (meth := k12m2) (c := k12c2) (by decide +kernel) rfl rfl rfl (by decide +kernel)
set_option maxRecDepth 65536 in
theorem w_c38 : (Jvm.Cond.code ({ cls := "java/lang/AbstractStringBuilder", name := "isLatin1", desc := "()Z" } : Jvm.MethodName) jdk_68_method_68_code (1 : Nat) (Option.some Jvm.ClassFile.FieldType.boolean)).before args0 about1 = true := code_word (m := ⟨12, 7⟩) (meth := k12m7) (c := k12c7) (by decide +kernel) rfl rfl rfl (by decide +kernel)
set_option maxRecDepth 65536 in
theorem w_c39 : (Jvm.Cond.code ({ cls := "java/util/Arrays", name := "copyOfRange", desc := "([BII)[B" } : Jvm.MethodName) jdk_65_method_132_code (3 : Nat) (Option.some (Jvm.ClassFile.FieldType.array Jvm.ClassFile.FieldType.byte))).before args0 about1 = true := code_word (m := ⟨17, 3⟩) (meth := k17m3) (c := k17c3) (by decide +kernel) rfl rfl rfl (by decide +kernel)
set_option maxRecDepth 65536 in
theorem w_c40 : (Jvm.Cond.code ({ cls := "java/util/Arrays", name := "copyOfRangeByte", desc := "([BII)[B" } : Jvm.MethodName) jdk_65_method_133_code (5 : Nat) (Option.some (Jvm.ClassFile.FieldType.array Jvm.ClassFile.FieldType.byte))).before args0 about1 = true := code_word (m := ⟨17, 4⟩) (meth := k17m4) (c := k17c4) (by decide +kernel) rfl rfl rfl (by decide +kernel)
set_option maxRecDepth 65536 in
theorem w_c41 : (Jvm.Cond.code ({ cls := "java/util/Arrays", name := "checkLength", desc := "(II)V" } : Jvm.MethodName) jdk_65_method_131_code (2 : Nat) (Option.none : Option Jvm.ClassFile.FieldType)).before args0 about1 = true := code_word (m := ⟨17, 2⟩) (meth := k17m2) (c := k17c2) (by decide +kernel) rfl rfl rfl (by decide +kernel)
set_option maxRecDepth 65536 in
theorem w_c42 : (Jvm.Cond.code ({ cls := "java/lang/String", name := "equals", desc := "(Ljava/lang/Object;)Z" } : Jvm.MethodName) jdk_42_method_66_code (3 : Nat) (Option.some Jvm.ClassFile.FieldType.boolean)).before args0 about1 = true := code_word (m := ⟨7, 5⟩) (meth := k7m5) (c := k7c5) (by decide +kernel) rfl rfl rfl (by decide +kernel)
set_option maxRecDepth 65536 in
theorem w_c43 : (Jvm.Cond.code ({ cls := "java/lang/StringLatin1", name := "equals", desc := "([B[B)Z" } : Jvm.MethodName) jdk_43_method_13_code (3 : Nat) (Option.some Jvm.ClassFile.FieldType.boolean)).before args0 about1 = true := code_word (m := ⟨10, 2⟩) (meth := k10m2) (c := k10c2) (by decide +kernel) rfl rfl rfl (by decide +kernel)
set_option maxRecDepth 65536 in
theorem w_c44 : (Jvm.Cond.code ({ cls := "java/lang/String", name := "charAt", desc := "(I)C" } : Jvm.MethodName) jdk_42_method_56_code (2 : Nat) (Option.some Jvm.ClassFile.FieldType.char)).before args0 about1 = true := code_word (m := ⟨7, 4⟩) (meth := k7m4) (c := k7c4) (by decide +kernel) rfl rfl rfl (by decide +kernel)
set_option maxRecDepth 65536 in
theorem w_c45 : (Jvm.Cond.code ({ cls := "java/lang/StringLatin1", name := "charAt", desc := "([BI)C" } : Jvm.MethodName) jdk_43_method_2_code (2 : Nat) (Option.some Jvm.ClassFile.FieldType.char)).before args0 about1 = true := code_word (m := ⟨10, 1⟩) (meth := k10m1) (c := k10c1) (by decide +kernel) rfl rfl rfl (by decide +kernel)
set_option maxRecDepth 65536 in
theorem w_c46 : (Jvm.Cond.code ({ cls := "java/lang/String", name := "checkIndex", desc := "(II)V" } : Jvm.MethodName) jdk_42_method_155_code (2 : Nat) (Option.none : Option Jvm.ClassFile.FieldType)).before args0 about1 = true := code_word (m := ⟨7, 14⟩) (meth := k7m14) (c := k7c14) (by decide +kernel) rfl rfl rfl (by decide +kernel)
set_option maxRecDepth 65536 in
theorem w_c47 : (Jvm.Cond.code ({ cls := "jdk/internal/util/Preconditions", name := "checkIndex", desc := "(IILjava/util/function/BiFunction;)I" } : Jvm.MethodName) jdk_41_method_11_code (3 : Nat) (Option.some Jvm.ClassFile.FieldType.int)).before args0 about1 = true := code_word (m := ⟨18, 1⟩) (meth := k18m1) (c := k18c1) (by decide +kernel) rfl rfl rfl (by decide +kernel)
def codes1 : List Jvm.Cond := [Jvm.Cond.code x code maxLocals ret, Jvm.Cond.code ({ cls := "com/example/tugas/tugas/store/ListingListedOnlyPinLaw", name := "pick", desc := "(IIIJ)C" } : Jvm.MethodName) method_2_code (8 : Nat) (Option.some Jvm.ClassFile.FieldType.char), Jvm.Cond.code ({ cls := "com/example/tugas/tugas/store/ListingListedOnlyPinLaw", name := "whereAt", desc := "([CI)Z" } : Jvm.MethodName) method_3_code (2 : Nat) (Option.some Jvm.ClassFile.FieldType.boolean), Jvm.Cond.code ({ cls := "com/example/tugas/tugas/store/ListingListedOnlyPinLaw", name := "putListed", desc := "([CI)V" } : Jvm.MethodName) method_4_code (2 : Nat) (Option.none : Option Jvm.ClassFile.FieldType), Jvm.Cond.code ({ cls := "java/lang/String", name := "<init>", desc := "([C)V" } : Jvm.MethodName) jdk_42_method_3_code (2 : Nat) (Option.none : Option Jvm.ClassFile.FieldType), Jvm.Cond.code ({ cls := "java/lang/String", name := "<init>", desc := "([CIILjava/lang/Void;)V" } : Jvm.MethodName) jdk_42_method_149_code (6 : Nat) (Option.none : Option Jvm.ClassFile.FieldType), Jvm.Cond.code ({ cls := "java/lang/Object", name := "<init>", desc := "()V" } : Jvm.MethodName) object_method_1_code (1 : Nat) (Option.none : Option Jvm.ClassFile.FieldType), Jvm.Cond.code ({ cls := "java/lang/StringUTF16", name := "compress", desc := "([CII)[B" } : Jvm.MethodName) jdk_52_method_16_code (6 : Nat) (Option.some (Jvm.ClassFile.FieldType.array Jvm.ClassFile.FieldType.byte)), Jvm.Cond.code ({ cls := "java/lang/StringUTF16", name := "compress", desc := "([CI[BII)I" } : Jvm.MethodName) jdk_52_method_21_code (7 : Nat) (Option.some Jvm.ClassFile.FieldType.int), Jvm.Cond.code ({ cls := "java/lang/StringUTF16", name := "coderFromArrayLen", desc := "([BI)B" } : Jvm.MethodName) jdk_52_method_15_code (2 : Nat) (Option.some Jvm.ClassFile.FieldType.byte), Jvm.Cond.code ({ cls := "com/example/tugas/tugas/store/Listing", name := "listedOnly", desc := "(Ljava/lang/String;)Ljava/lang/String;" } : Jvm.MethodName) prog_46_method_2_code (2 : Nat) (Option.some (Jvm.ClassFile.FieldType.object "java/lang/String")), Jvm.Cond.code ({ cls := "java/lang/String", name := "contains", desc := "(Ljava/lang/CharSequence;)Z" } : Jvm.MethodName) jdk_42_method_97_code (2 : Nat) (Option.some Jvm.ClassFile.FieldType.boolean), Jvm.Cond.code ({ cls := "java/lang/String", name := "toString", desc := "()Ljava/lang/String;" } : Jvm.MethodName) jdk_42_method_126_code (1 : Nat) (Option.some (Jvm.ClassFile.FieldType.object "java/lang/String")), Jvm.Cond.code ({ cls := "java/lang/String", name := "indexOf", desc := "(Ljava/lang/String;)I" } : Jvm.MethodName) jdk_42_method_84_code (3 : Nat) (Option.some Jvm.ClassFile.FieldType.int), Jvm.Cond.code ({ cls := "java/lang/String", name := "coder", desc := "()B" } : Jvm.MethodName) jdk_42_method_152_code (1 : Nat) (Option.some Jvm.ClassFile.FieldType.byte), Jvm.Cond.code ({ cls := "java/lang/String", name := "isLatin1", desc := "()Z" } : Jvm.MethodName) jdk_42_method_154_code (1 : Nat) (Option.some Jvm.ClassFile.FieldType.boolean), Jvm.Cond.code ({ cls := "java/lang/StringLatin1", name := "indexOf", desc := "([B[B)I" } : Jvm.MethodName) jdk_43_method_24_code (2 : Nat) (Option.some Jvm.ClassFile.FieldType.int), Jvm.Cond.code ({ cls := "java/lang/StringLatin1", name := "indexOf", desc := "([BI[BII)I" } : Jvm.MethodName) jdk_43_method_25_code (11 : Nat) (Option.some Jvm.ClassFile.FieldType.int), Jvm.Cond.code ({ cls := "java/lang/StringBuilder", name := "<init>", desc := "()V" } : Jvm.MethodName) jdk_67_method_1_code (1 : Nat) (Option.none : Option Jvm.ClassFile.FieldType), Jvm.Cond.code ({ cls := "java/lang/AbstractStringBuilder", name := "<init>", desc := "(I)V" } : Jvm.MethodName) jdk_68_method_2_code (2 : Nat) (Option.none : Option Jvm.ClassFile.FieldType), Jvm.Cond.code ({ cls := "java/lang/StringBuilder", name := "append", desc := "(Ljava/lang/String;)Ljava/lang/StringBuilder;" } : Jvm.MethodName) jdk_67_method_7_code (2 : Nat) (Option.some (Jvm.ClassFile.FieldType.object "java/lang/StringBuilder")), Jvm.Cond.code ({ cls := "java/lang/AbstractStringBuilder", name := "append", desc := "(Ljava/lang/String;)Ljava/lang/AbstractStringBuilder;" } : Jvm.MethodName) jdk_68_method_22_code (3 : Nat) (Option.some (Jvm.ClassFile.FieldType.object "java/lang/AbstractStringBuilder")), Jvm.Cond.code ({ cls := "java/lang/String", name := "length", desc := "()I" } : Jvm.MethodName) jdk_42_method_54_code (1 : Nat) (Option.some Jvm.ClassFile.FieldType.int), Jvm.Cond.code ({ cls := "java/lang/AbstractStringBuilder", name := "ensureCapacityInternal", desc := "(I)V" } : Jvm.MethodName) jdk_68_method_9_code (3 : Nat) (Option.none : Option Jvm.ClassFile.FieldType), Jvm.Cond.code ({ cls := "java/lang/AbstractStringBuilder", name := "putStringAt", desc := "(ILjava/lang/String;)V" } : Jvm.MethodName) jdk_68_method_73_code (3 : Nat) (Option.none : Option Jvm.ClassFile.FieldType), Jvm.Cond.code ({ cls := "java/lang/AbstractStringBuilder", name := "inflateIfNeededFor", desc := "(Ljava/lang/String;)V" } : Jvm.MethodName) jdk_68_method_71_code (2 : Nat) (Option.none : Option Jvm.ClassFile.FieldType), Jvm.Cond.code ({ cls := "java/lang/String", name := "getBytes", desc := "([BIB)V" } : Jvm.MethodName) jdk_42_method_147_code (4 : Nat) (Option.none : Option Jvm.ClassFile.FieldType), Jvm.Cond.code ({ cls := "java/lang/AbstractStringBuilder", name := "newCapacity", desc := "(I)I" } : Jvm.MethodName) jdk_68_method_10_code (6 : Nat) (Option.some Jvm.ClassFile.FieldType.int), Jvm.Cond.code ({ cls := "jdk/internal/util/ArraysSupport", name := "newLength", desc := "(III)I" } : Jvm.MethodName) jdk_48_method_27_code (4 : Nat) (Option.some Jvm.ClassFile.FieldType.int), Jvm.Cond.code ({ cls := "java/lang/Math", name := "max", desc := "(II)I" } : Jvm.MethodName) jdk_29_method_65_code (2 : Nat) (Option.some Jvm.ClassFile.FieldType.int), Jvm.Cond.code ({ cls := "java/util/Arrays", name := "copyOf", desc := "([BI)[B" } : Jvm.MethodName) jdk_65_method_121_code (3 : Nat) (Option.some (Jvm.ClassFile.FieldType.array Jvm.ClassFile.FieldType.byte)), Jvm.Cond.code ({ cls := "java/lang/Math", name := "min", desc := "(II)I" } : Jvm.MethodName) jdk_29_method_69_code (2 : Nat) (Option.some Jvm.ClassFile.FieldType.int), Jvm.Cond.code ({ cls := "java/lang/StringBuilder", name := "toString", desc := "()Ljava/lang/String;" } : Jvm.MethodName) jdk_67_method_42_code (1 : Nat) (Option.some (Jvm.ClassFile.FieldType.object "java/lang/String")), Jvm.Cond.code ({ cls := "java/lang/String", name := "<init>", desc := "(Ljava/lang/StringBuilder;)V" } : Jvm.MethodName) jdk_42_method_53_code (2 : Nat) (Option.none : Option Jvm.ClassFile.FieldType), Jvm.Cond.code ({ cls := "java/lang/String", name := "<init>", desc := "(Ljava/lang/AbstractStringBuilder;Ljava/lang/Void;)V" } : Jvm.MethodName) jdk_42_method_150_code (5 : Nat) (Option.none : Option Jvm.ClassFile.FieldType), Jvm.Cond.code ({ cls := "java/lang/AbstractStringBuilder", name := "getValue", desc := "()[B" } : Jvm.MethodName) jdk_68_method_64_code (1 : Nat) (Option.some (Jvm.ClassFile.FieldType.array Jvm.ClassFile.FieldType.byte)), Jvm.Cond.code ({ cls := "java/lang/StringBuilder", name := "length", desc := "()I" } : Jvm.MethodName) jdk_67_method_93_code (1 : Nat) (Option.some Jvm.ClassFile.FieldType.int), Jvm.Cond.code ({ cls := "java/lang/AbstractStringBuilder", name := "length", desc := "()I" } : Jvm.MethodName) jdk_68_method_6_code (1 : Nat) (Option.some Jvm.ClassFile.FieldType.int), Jvm.Cond.code ({ cls := "java/lang/AbstractStringBuilder", name := "isLatin1", desc := "()Z" } : Jvm.MethodName) jdk_68_method_68_code (1 : Nat) (Option.some Jvm.ClassFile.FieldType.boolean), Jvm.Cond.code ({ cls := "java/util/Arrays", name := "copyOfRange", desc := "([BII)[B" } : Jvm.MethodName) jdk_65_method_132_code (3 : Nat) (Option.some (Jvm.ClassFile.FieldType.array Jvm.ClassFile.FieldType.byte)), Jvm.Cond.code ({ cls := "java/util/Arrays", name := "copyOfRangeByte", desc := "([BII)[B" } : Jvm.MethodName) jdk_65_method_133_code (5 : Nat) (Option.some (Jvm.ClassFile.FieldType.array Jvm.ClassFile.FieldType.byte)), Jvm.Cond.code ({ cls := "java/util/Arrays", name := "checkLength", desc := "(II)V" } : Jvm.MethodName) jdk_65_method_131_code (2 : Nat) (Option.none : Option Jvm.ClassFile.FieldType), Jvm.Cond.code ({ cls := "java/lang/String", name := "equals", desc := "(Ljava/lang/Object;)Z" } : Jvm.MethodName) jdk_42_method_66_code (3 : Nat) (Option.some Jvm.ClassFile.FieldType.boolean), Jvm.Cond.code ({ cls := "java/lang/StringLatin1", name := "equals", desc := "([B[B)Z" } : Jvm.MethodName) jdk_43_method_13_code (3 : Nat) (Option.some Jvm.ClassFile.FieldType.boolean), Jvm.Cond.code ({ cls := "java/lang/String", name := "charAt", desc := "(I)C" } : Jvm.MethodName) jdk_42_method_56_code (2 : Nat) (Option.some Jvm.ClassFile.FieldType.char), Jvm.Cond.code ({ cls := "java/lang/StringLatin1", name := "charAt", desc := "([BI)C" } : Jvm.MethodName) jdk_43_method_2_code (2 : Nat) (Option.some Jvm.ClassFile.FieldType.char), Jvm.Cond.code ({ cls := "java/lang/String", name := "checkIndex", desc := "(II)V" } : Jvm.MethodName) jdk_42_method_155_code (2 : Nat) (Option.none : Option Jvm.ClassFile.FieldType), Jvm.Cond.code ({ cls := "jdk/internal/util/Preconditions", name := "checkIndex", desc := "(IILjava/util/function/BiFunction;)I" } : Jvm.MethodName) jdk_41_method_11_code (3 : Nat) (Option.some Jvm.ClassFile.FieldType.int)]
set_option maxRecDepth 65536 in
theorem codes_eq : words1.filter isCode = codes1 := rfl
theorem w_codes : ∀ c ∈ words1.filter isCode, c.before args0 about1 = true := by
  rw [codes_eq]
  intro c hc
  simp only [codes1, List.mem_cons, List.not_mem_nil, or_false] at hc
  rcases hc with rfl | rfl | rfl | rfl | rfl | rfl | rfl | rfl | rfl | rfl | rfl | rfl | rfl | rfl | rfl | rfl | rfl | rfl | rfl | rfl | rfl | rfl | rfl | rfl | rfl | rfl | rfl | rfl | rfl | rfl | rfl | rfl | rfl | rfl | rfl | rfl | rfl | rfl | rfl | rfl | rfl | rfl | rfl | rfl | rfl | rfl | rfl | rfl
  · exact w_c0
  · exact w_c1
  · exact w_c2
  · exact w_c3
  · exact w_c4
  · exact w_c5
  · exact w_c6
  · exact w_c7
  · exact w_c8
  · exact w_c9
  · exact w_c10
  · exact w_c11
  · exact w_c12
  · exact w_c13
  · exact w_c14
  · exact w_c15
  · exact w_c16
  · exact w_c17
  · exact w_c18
  · exact w_c19
  · exact w_c20
  · exact w_c21
  · exact w_c22
  · exact w_c23
  · exact w_c24
  · exact w_c25
  · exact w_c26
  · exact w_c27
  · exact w_c28
  · exact w_c29
  · exact w_c30
  · exact w_c31
  · exact w_c32
  · exact w_c33
  · exact w_c34
  · exact w_c35
  · exact w_c36
  · exact w_c37
  · exact w_c38
  · exact w_c39
  · exact w_c40
  · exact w_c41
  · exact w_c42
  · exact w_c43
  · exact w_c44
  · exact w_c45
  · exact w_c46
  · exact w_c47
set_option maxRecDepth 65536 in
theorem w_t1 : (words1.take 24).all (fun c => isCode c || c.before args0 about1) = true := by decide +kernel
set_option maxRecDepth 65536 in
theorem w_t2 : ((words1.drop 24).take 24).all (fun c => isCode c || c.before args0 about1) = true := by decide +kernel
set_option maxRecDepth 65536 in
theorem w_t3 : (((words1.drop 24).drop 24).take 24).all (fun c => isCode c || c.before args0 about1) = true := by decide +kernel
set_option maxRecDepth 65536 in
theorem w_t4 : ((((words1.drop 24).drop 24).drop 24).take 24).all (fun c => isCode c || c.before args0 about1) = true := by decide +kernel
set_option maxRecDepth 65536 in
theorem w_t5 : (((((words1.drop 24).drop 24).drop 24).drop 24).take 24).all (fun c => isCode c || c.before args0 about1) = true := by decide +kernel
set_option maxRecDepth 65536 in
theorem w_t6 : ((((((words1.drop 24).drop 24).drop 24).drop 24).drop 24).take 24).all (fun c => isCode c || c.before args0 about1) = true := by decide +kernel
set_option maxRecDepth 65536 in
theorem w_t7 : (((((((words1.drop 24).drop 24).drop 24).drop 24).drop 24).drop 24).take 24).all (fun c => isCode c || c.before args0 about1) = true := by decide +kernel
set_option maxRecDepth 65536 in
theorem w_t8 : ((((((((words1.drop 24).drop 24).drop 24).drop 24).drop 24).drop 24).drop 24).take 24).all (fun c => isCode c || c.before args0 about1) = true := by decide +kernel
set_option maxRecDepth 65536 in
theorem w_t9 : (((((((((words1.drop 24).drop 24).drop 24).drop 24).drop 24).drop 24).drop 24).drop 24).take 24).all (fun c => isCode c || c.before args0 about1) = true := by decide +kernel
set_option maxRecDepth 65536 in
theorem w_t10 : (((((((((words1.drop 24).drop 24).drop 24).drop 24).drop 24).drop 24).drop 24).drop 24).drop 24).all (fun c => isCode c || c.before args0 about1) = true := by decide +kernel
theorem w_tables : (allAtoms (Jvm.Cond.code x code maxLocals ret :: tables_1)).before args0 about1 = true := by
  rw [allAtoms_all]
  show words1.all (fun c => c.before args0 about1) = true
  refine all_split ?_ w_codes
  rw [← List.take_append_drop 24 words1, List.all_append, w_t1, ← List.take_append_drop 24 (words1.drop 24), List.all_append, w_t2, ← List.take_append_drop 24 ((words1.drop 24).drop 24), List.all_append, w_t3, ← List.take_append_drop 24 (((words1.drop 24).drop 24).drop 24), List.all_append, w_t4, ← List.take_append_drop 24 ((((words1.drop 24).drop 24).drop 24).drop 24), List.all_append, w_t5, ← List.take_append_drop 24 (((((words1.drop 24).drop 24).drop 24).drop 24).drop 24), List.all_append, w_t6, ← List.take_append_drop 24 ((((((words1.drop 24).drop 24).drop 24).drop 24).drop 24).drop 24), List.all_append, w_t7, ← List.take_append_drop 24 (((((((words1.drop 24).drop 24).drop 24).drop 24).drop 24).drop 24).drop 24), List.all_append, w_t8, ← List.take_append_drop 24 ((((((((words1.drop 24).drop 24).drop 24).drop 24).drop 24).drop 24).drop 24).drop 24), List.all_append, w_t9, w_t10]
  rfl
set_option maxRecDepth 65536 in
theorem w_rest : rest_1_c.before args0 about1 = true := by decide +kernel
set_option maxRecDepth 65536 in
theorem w_case : (Jvm.Cond.and given_1 narrow_1).before args0 about1 = true := by decide +kernel
set_option maxRecDepth 65536 in
theorem w_consts : constsHeld consts_1 about1 := Jvm.Lit.constsHeldB_iff.mp (by decide +kernel)
theorem w_applies : (headSpec (Jvm.Cond.code x code maxLocals ret :: tables_1) room_1).applies x e0.platform about1 = true :=
  (Spec.applies_iff w_frames).mpr ⟨w_running, w_runnable, w_alone, w_named, w_hears, w_ripe, w_room, w_tables⟩
theorem atStart : AtStart classFile x code maxLocals ret World_1 tables_1 room_1 Calls_1 rest_1 Pre_1 launch0 p0 e0 about1 theMethod args0 below0 :=
  ⟨lists_1, trivial, launch0.admits_env _ _ _, launch0.least_env, fairChoices_fair.cas, fairChoices_fair.clock, w_frames, w_args, w_heap, w_applies, ⟨w_consts, trivial⟩, w_rest, w_case⟩
end start1
theorem witness_1 : WitnessClaimed_1 := ⟨start1.p0, start1.e0, start1.about1, start1.theMethod, start1.args0, start1.below0, start1.atStart⟩
end Jvm.Pilot.@@N@@
