import JvmDerived
import JvmDerived.Pilot.@@N@@Statement
import JvmDerived.Pilot.@@N@@Code
set_option linter.unusedVariables false
set_option linter.unusedSimpArgs false
namespace Jvm.Pilot.@@N@@
namespace GK
open Jvm Jvm.ClassFile Sem Op Lib Jvm.Free Jvm.Stand Jvm.LawKit Jvm.RoadKit Bundle
/-! A small program logic over the library's walks: 'Go' says that from a frame at pc the body runs to its return, and what holds there. -/
abbrev Md := Option (List (String × Nat))
def Bk0 (md : Md) (Z s : State) (sf : List Addr) (vm0 : Vm) (h : Heap) : Prop :=
  match md with
  | none => vm0 = s.vm
  | some EL => (∃ k, s.Since vm0 k ∧ k ≤ h.size) ∧ (∃ a0, EW Z a0 EL) ∧ CHr Z EL s.vm s.heap vm0 h ∧ ∀ x ∈ sf, x < h.size ∧ Safe Z EL vm0 h x
/-- what is kept along a walk: the start's cells stand; the tables' book -/
def Bok (md : Md) (Z : State) (n0 : Nat) (s : State) (sf : List Addr) (vm0 : Vm) (h : Heap) : Prop := Old Z n0 h ∧ Bk0 md Z s sf vm0 h
def SafeAll (md : Md) (Z : State) (sf : List Addr) (vm : Vm) (h : Heap) : Prop :=
  match md with
  | none => True
  | some EL => ∀ x ∈ sf, x < h.size ∧ Safe Z EL vm h x
def FinE (md : Md) (Z s : State) (o : Outcome) (t : State) (L : List Loc) (k n : Nat) : Prop :=
  match md with
  | none => FrameEnd s o t L k n
  | some EL => CHr Z EL s.vm s.heap t.vm t.heap ∧ ReturnedEndW s o t L k n
section B
variable {md : Md} {EL : List (String × Nat)} {Z s : State} {n0 : Nat} {sf sf' ws : List Addr} {vm0 vm1 : Vm} {h h' h2 : Heap} {x a : Addr} {sl : Nat} {v : Value}
theorem extR (h : Heap) : Ext h h := ⟨Nat.le_refl _, fun _ _ q => q⟩
theorem extT (E : Ext h h') (E' : Ext h' h2) : Ext h h2 := ⟨Nat.le_trans E.1 E'.1, fun a c q => E'.2 a c (E.2 a c q)⟩
/-- a write beyond h -/
theorem extW (E : Ext h h') (W : Wr h' h2 a sl v) (q : h.size ≤ a) : Ext h h2 := by
  obtain ⟨c, -, -, -, rfl⟩ := W
  refine ⟨by simpa using E.1, fun b cb hb => ?_⟩
  have hlt := (Array.getElem?_eq_some_iff.mp hb).1
  rw [Array.getElem?_setIfInBounds_ne (by omega)]
  exact E.2 b cb hb
theorem extK (E : Ext h h') (K : Keep h' h2 ws) (q : ∀ x ∈ ws, h.size ≤ x) : Ext h h2 :=
  ⟨Nat.le_trans E.1 K.1, fun b cb hb => K.2.1 b cb (E.2 b cb hb) fun z => by
    have hlt := (Array.getElem?_eq_some_iff.mp hb).1
    have := q b z; omega⟩
theorem keepE (E : Ext h h') (ws : List Addr) : Keep h h' ws := (Keep.refl h ws).ext E
theorem Bok.n0le (B : Bok md Z n0 s sf vm0 h) : n0 ≤ h.size := B.1.1 ▸ B.1.2.1
theorem Bok.sub (B : Bok md Z n0 s sf vm0 h) (q : ∀ x ∈ sf', x ∈ sf) : Bok md Z n0 s sf' vm0 h := by
  cases md with
  | none => exact B
  | some EL => exact ⟨B.1, B.2.1, B.2.2.1, B.2.2.2.1, fun x hx => B.2.2.2.2 x (q x hx)⟩
theorem Bok.keep (B : Bok md Z n0 s sf vm0 h) (K : Keep h h' ws) (q : ∀ x ∈ ws, x ∈ sf) (q0 : ∀ x ∈ ws, n0 ≤ x) : Bok md Z n0 s sf vm0 h' := by
  refine ⟨B.1.keep K q0, ?_⟩
  cases md with
  | none => exact B.2
  | some EL =>
    obtain ⟨-, ⟨k, h1, h2⟩, h3, h4, h5⟩ := B
    have C := CHr.keep K (fun x hx => (h5 x (q x hx)).2) h4.1
    exact ⟨⟨k, h1, Nat.le_trans h2 K.1⟩, h3, h4.trans C, fun x hx => ⟨Nat.lt_of_lt_of_le (h5 x hx).1 K.1, C.safe (h5 x hx).1 (h5 x hx).2⟩⟩
theorem Bok.wr (B : Bok md Z n0 s sf vm0 h) (W : Wr h h' a sl v) (q : a ∈ sf) (q0 : n0 ≤ a) : Bok md Z n0 s sf vm0 h' :=
  B.keep (Keep.of_wr W) (fun x hx => by cases List.mem_singleton.mp hx; exact q) (fun x hx => by cases List.mem_singleton.mp hx; exact q0)
theorem Bok.ext (B : Bok md Z n0 s sf vm0 h) (E : Ext h h') : Bok md Z n0 s sf vm0 h' :=
  B.keep (keepE E []) (fun x hx => nomatch hx) (fun x hx => nomatch hx)
theorem Bok.new (B : Bok md Z n0 s sf vm0 h) (E : Ext h h') (q : x < h'.size) (r : h.size ≤ x) : Bok md Z n0 s (x :: sf) vm0 h' := by
  have B' := B.ext E
  cases md with
  | none => exact B'
  | some EL =>
    refine ⟨B'.1, B'.2.1, B'.2.2.1, B'.2.2.2.1, fun y hy => ?_⟩
    rcases List.mem_cons.mp hy with rfl | hy
    · exact ⟨q, fun b => Safe.new r ((B.2.2.2.1.1.step fun _ _ _ q => E.2 _ _ q).2 _ b)⟩
    · exact B'.2.2.2.2 y hy
end B
/-- Java's x >>> y -/
def ushr (x y : Int32) : Int32 := (x.toUInt32 >>> (y &&& 31).toUInt32).toInt32
def ushrL (x : Int64) (y : Int32) : Int64 := (x.toUInt64 >>> (y &&& 0x3f).toInt64.toUInt64).toInt64
/-- (char) x -/
def chr (x : Int32) : Int32 := x.toUInt32.toUInt16.toUInt32.toInt32
def Go (md : Md) (l : Launch) (Z : State) (n0 : Nat) (R : Room) (bytes : ByteArray) (ml : Nat) (ret : Option FieldType) (own mn : String) (Ψ : Option Value → Heap → List Addr → Prop)
    (cells slots : Nat) (sf : List Addr) (h : Heap) (pc : Nat) (L : Array Slot) (S : List Value) : Prop :=
  ∀ (p : Program) (e : Env) (s : State) (m : MethodId) (args : Array Value) (below : List Frame) (meth : Method) (c : Code) (vm0 : Vm) (T : State) (locs : List Loc),
    p.tables.exec = Jvm.exec → c.code = bytes → c.maxLocals = ml → meth.sig.returnType = ret → meth.locks = false → meth.name = mn → Z.vm.findClass own = some m.cls →
    Stand p l e R (s.setVm vm0) m args below meth c T locs cells slots → T.heap = h → Z.Warmed39 vm0 → Bok md Z n0 s sf vm0 h → Fr n0 locs →
    ∃ (s₂ : State) (o : Outcome), Steps p.tables e below (T.setTop (mkF m pc L S)) s₂ ∧ s₂.status = .running ∧ Ended s₂ below o ∧
      ∃ (v : Option Value) (L' : List Loc) (sf' : List Addr), o = .returned v ∧ Ψ v s₂.heap sf' ∧ Old Z n0 s₂.heap ∧ Fr n0 L' ∧ SafeAll md Z sf' s₂.vm s₂.heap ∧ FinE md Z s o s₂ L' R.cells R.slots
section G
variable {md : Md} {EL : List (String × Nat)} {l : Launch} {Z : State} {n0 : Nat} {R : Room} {bytes : ByteArray} {ml : Nat} {ret : Option FieldType} {own mn : String} {Ψ : Option Value → Heap → List Addr → Prop}
  {cells slots : Nat} {sf : List Addr} {h h' : Heap} {pc : Nat} {L : Array Slot} {S : List Value} {a0 : Array Value}
theorem Go.more {cells' slots' : Nat} {sf' : List Addr} (G : Go md l Z n0 R bytes ml ret own mn Ψ cells' slots' sf' h pc L S) (hc : cells ≤ cells') (hs : slots ≤ slots') (q : ∀ x ∈ sf', x ∈ sf) : Go md l Z n0 R bytes ml ret own mn Ψ cells slots sf h pc L S := by
  intro p e s m args below meth c vm0 T locs hx hby hml hr hlk hn ho X eT hZ B N
  exact G p e s m args below meth c vm0 T locs hx hby hml hr hlk hn ho (X.more hc hs) eT hZ (B.sub q) N
theorem Go.old (G : Old Z n0 h → n0 ≤ h.size → Go md l Z n0 R bytes ml ret own mn Ψ cells slots sf h pc L S) : Go md l Z n0 R bytes ml ret own mn Ψ cells slots sf h pc L S := by
  intro p e s m args below meth c vm0 T locs hx hby hml hr hlk hn ho X eT hZ B N
  exact G B.1 B.n0le p e s m args below meth c vm0 T locs hx hby hml hr hlk hn ho X eT hZ B N
theorem Go.pure {L' : Array Slot} {S' : List Value} (pc' : Nat) (k : ∀ (p : Program) (e : Env) (below : List Frame) (T target : State) (m : MethodId) (c : Code), At T m c below → p.tables.exec = Jvm.exec → c.code = bytes → Steps p.tables e below (T.setTop (mkF m pc' L' S')) target → Steps p.tables e below (T.setTop (mkF m pc L S)) target)
    (G : Go md l Z n0 R bytes ml ret own mn Ψ cells slots sf h pc' L' S') : Go md l Z n0 R bytes ml ret own mn Ψ cells slots sf h pc L S := by
  intro p e s m args below meth c vm0 T locs hx hby hml hr hlk hn ho X eT hZ B N
  obtain ⟨s₂, o, h1, r⟩ := G p e s m args below meth c vm0 T locs hx hby hml hr hlk hn ho X eT hZ B N
  exact ⟨s₂, o, k _ _ _ _ _ _ _ X.here hx hby h1, r⟩
/-- a step that may warm the tables and leaves the heap as it was -/
theorem Go.warm {L' : Array Slot} {S' : List Value} (pc' : Nat) (k : ∀ (p : Program) (e : Env) (s : State) (m : MethodId) (args : Array Value) (below : List Frame) (meth : Method) (c : Code) (T : State) (locs : List Loc), p.tables.exec = Jvm.exec → c.code = bytes → c.maxLocals = ml → Z.Warmed39 s.vm → s.vm.findClass own = some m.cls →
      Stand p l e R s m args below meth c T locs cells slots → T.heap = h → ∃ T', Stand p l e R s m args below meth c T' locs cells slots ∧ T'.heap = h ∧ ∀ target, Steps p.tables e below (T'.setTop (mkF m pc' L' S')) target → Steps p.tables e below (T.setTop (mkF m pc L S)) target)
    (G : Go md l Z n0 R bytes ml ret own mn Ψ cells slots sf h pc' L' S') : Go md l Z n0 R bytes ml ret own mn Ψ cells slots sf h pc L S := by
  intro p e s m args below meth c vm0 T locs hx hby hml hr hlk hn ho X eT hZ B N
  obtain ⟨T', X', e', st⟩ := k p e (s.setVm vm0) m args below meth c T locs hx hby hml hZ (by rw [show (s.setVm vm0).vm = vm0 from rfl, hZ.alike.findClass]; exact ho) X eT
  obtain ⟨s₂, o, h1, r⟩ := G p e s m args below meth c vm0 T' locs hx hby hml hr hlk hn ho X' e' hZ B N
  exact ⟨s₂, o, st _ h1, r⟩
/-- a write at a place of the object a -/
theorem Go.write {L' : Array Slot} {S' : List Value} {a : Addr} {sl : Nat} {v : Value} (pc' : Nat) (ha : a ∈ sf) (hn0 : n0 ≤ a) (k : ∀ (p : Program) (e : Env) (s : State) (m : MethodId) (args : Array Value) (below : List Frame) (meth : Method) (c : Code) (T : State) (locs : List Loc), p.tables.exec = Jvm.exec → c.code = bytes → c.maxLocals = ml → meth.name = mn → Z.Warmed39 s.vm → s.vm.findClass own = some m.cls →
      Stand p l e R s m args below meth c T locs cells slots → T.heap = h → ∃ T' h', Stand p l e R s m args below meth c T' (locs ++ [⟨a, sl⟩]) cells slots ∧ T'.heap = h' ∧ Wr h h' a sl v ∧ ∀ target, Steps p.tables e below (T'.setTop (mkF m pc' L' S')) target → Steps p.tables e below (T.setTop (mkF m pc L S)) target)
    (G : ∀ h', Wr h h' a sl v → Go md l Z n0 R bytes ml ret own mn Ψ cells slots sf h' pc' L' S') : Go md l Z n0 R bytes ml ret own mn Ψ cells slots sf h pc L S := by
  intro p e s m args below meth c vm0 T locs hx hby hml hr hlk hn ho X eT hZ B N
  obtain ⟨T', h', X', e', W, st⟩ := k p e (s.setVm vm0) m args below meth c T locs hx hby hml hn hZ (by rw [show (s.setVm vm0).vm = vm0 from rfl, hZ.alike.findClass]; exact ho) X eT
  obtain ⟨s₂, o, h1, r⟩ := G h' W p e s m args below meth c vm0 T' _ hx hby hml hr hlk hn ho X' e' hZ (B.wr W ha hn0) (Fr.snoc X' N hn0)
  exact ⟨s₂, o, st _ h1, r⟩
/-! the ends -/
theorem fin_ret {p : Program} {e : Env} {s : State} {m : MethodId} {args : Array Value} {below : List Frame} {meth : Method} {c : Code} {vm0 : Vm} {T : State} {locs : List Loc} {sf' : List Addr} {g : JFrame}
    (X : Stand p l e R (s.setVm vm0) m args below meth c T locs cells slots) (eT : T.heap = h) (hZ : Z.Warmed39 vm0) (B : Bok md Z n0 s sf vm0 h) (N : Fr n0 locs) {v : Option Value} (hv : meth.sig.returnType = none → v = none) (hlk : meth.locks = false) (hc : cells ≤ R.cells) (hs : slots ≤ R.slots)
    (Q : Ψ v h sf') (hsub : ∀ x ∈ sf', x ∈ sf)
    (st : ∀ fs, (∀ (f : JFrame) (acts : List Action), f.method = m → f.locked = none → f.entered = [] → (doReturn e (T.setTop f) acts v).1 = T.setFrames fs) → Steps p.tables e below (T.setTop g) (T.setFrames fs)) :
    ∃ (s₂ : State) (o : Outcome), Steps p.tables e below (T.setTop g) s₂ ∧ s₂.status = .running ∧ Ended s₂ below o ∧
      ∃ (v : Option Value) (L' : List Loc) (sf' : List Addr), o = .returned v ∧ Ψ v s₂.heap sf' ∧ Old Z n0 s₂.heap ∧ Fr n0 L' ∧ SafeAll md Z sf' s₂.vm s₂.heap ∧ FinE md Z s o s₂ L' R.cells R.slots := by
  have eh : ∀ fs, (T.setFrames fs).heap = h := fun fs => eT
  cases md with
  | none =>
    obtain rfl : vm0 = s.vm := B.2
    obtain ⟨fs, hr, hrun, hended, hW, hsame⟩ := X.leave hv hlk
    exact ⟨_, _, st fs hr, hrun, hended, v, locs, sf', rfl, by rw [eh]; exact Q, by rw [eh]; exact B.1, N, trivial, ⟨_, rfl⟩, hW, hsame.mono hc hs⟩
  | some EL =>
    obtain ⟨h0, ⟨k, h1, h2⟩, ⟨a0, h3⟩, h4, h5⟩ := B
    obtain ⟨fs, hr, hrun, hended, hW⟩ := X.leaveW h1 (by rw [eT]; exact h2) hv hlk
    have C : CHr Z EL vm0 h T.vm h := CHv.at X hZ h3 h4.1
    refine ⟨_, _, st fs hr, hrun, hended, v, locs, sf', rfl, by rw [eh]; exact Q, by rw [eh]; exact h0, N, fun x hx => ?_, ?_, hW.1, hW.2.1, hW.2.2.1, hW.2.2.2.mono hc hs⟩
    · rw [eh]; exact ⟨(h5 x (hsub x hx)).1, C.safe (h5 x (hsub x hx)).1 (h5 x (hsub x hx)).2⟩
    · rw [eh]; exact h4.trans C
theorem Go.ret0 (hd : decode bytes pc = .ok (.return_, 1)) (hret : ret = none) {sf' : List Addr} (Q : Ψ none h sf') (hsub : ∀ x ∈ sf', x ∈ sf) (hc : cells ≤ R.cells) (hs : slots ≤ R.slots) : Go md l Z n0 R bytes ml ret own mn Ψ cells slots sf h pc L [] := by
  intro p e s m args below meth c vm0 T locs hx hby hml hr hlk hn ho X eT hZ B N
  exact fin_ret X eT hZ B N (fun _ => rfl) hlk hc hs Q hsub fun fs hl => X.returnOut hx (hr.trans hret) (hb hby hd) hl
theorem Go.retW {t : FieldType} {w : Value} {i : Instr} (hd : decode bytes pc = .ok (i, 1)) (hret : ret = some t) (hn' : narrow t w = w)
    (hi : (i = .ireturn ∧ (t = .int ∨ t = .boolean ∨ t = .byte ∨ t = .char ∨ t = .short) ∧ ∃ z, w = .int z) ∨ (i = .lreturn ∧ t = .long ∧ ∃ z, w = .long z) ∨ (i = .dreturn ∧ t = .double ∧ ∃ z, w = .double z) ∨ (i = .freturn ∧ t = .float ∧ ∃ z, w = .float z) ∨ (i = .areturn ∧ t.isReference = true ∧ w.isRef = true))
    {sf' : List Addr} (Q : Ψ (some w) h sf') (hsub : ∀ x ∈ sf', x ∈ sf) (hc : cells ≤ R.cells) (hs : slots ≤ R.slots) : Go md l Z n0 R bytes ml ret own mn Ψ cells slots sf h pc L (w :: S) := by
  intro p e s m args below meth c vm0 T locs hx hby hml hr hlk hn ho X eT hZ B N
  exact fin_ret X eT hZ B N (fun q => by rw [hr, hret] at q; cases q) hlk hc hs Q hsub fun fs hl => retOut X hx (hr.trans hret) hn' hi (hb hby hd) hl
theorem Go.retI {z : Int32} (hd : decode bytes pc = .ok (.ireturn, 1)) (hret : ret = some .int) {sf' : List Addr} (Q : Ψ (some (.int z)) h sf') (hsub : ∀ x ∈ sf', x ∈ sf) (hc : cells ≤ R.cells) (hs : slots ≤ R.slots) : Go md l Z n0 R bytes ml ret own mn Ψ cells slots sf h pc L (.int z :: S) :=
  Go.retW hd hret rfl (Or.inl ⟨rfl, Or.inl rfl, _, rfl⟩) Q hsub hc hs
theorem Go.retJ {z : Int64} (hd : decode bytes pc = .ok (.lreturn, 1)) (hret : ret = some .long) {sf' : List Addr} (Q : Ψ (some (.long z)) h sf') (hsub : ∀ x ∈ sf', x ∈ sf) (hc : cells ≤ R.cells) (hs : slots ≤ R.slots) : Go md l Z n0 R bytes ml ret own mn Ψ cells slots sf h pc L (.long z :: S) :=
  Go.retW hd hret rfl (Or.inr (Or.inl ⟨rfl, rfl, _, rfl⟩)) Q hsub hc hs
theorem Go.retA {t : FieldType} {w : Value} (hd : decode bytes pc = .ok (.areturn, 1)) (hret : ret = some t) (ht : t.isReference = true) (hw : w.isRef = true) {sf' : List Addr} (Q : Ψ (some w) h sf') (hsub : ∀ x ∈ sf', x ∈ sf) (hc : cells ≤ R.cells) (hs : slots ≤ R.slots) : Go md l Z n0 R bytes ml ret own mn Ψ cells slots sf h pc L (w :: S) :=
  Go.retW hd hret (by cases t <;> cases w <;> first | rfl | cases ht | cases hw) (Or.inr (Or.inr (Or.inr (Or.inr ⟨rfl, ht, hw⟩)))) Q hsub hc hs
theorem Go.retN {t : FieldType} {z : Int32} (v : Int32) (hd : decode bytes pc = .ok (.ireturn, 1)) (hret : ret = some t) (ht : t = .boolean ∨ t = .byte ∨ t = .char ∨ t = .short) (hv : nar t z = v) {sf' : List Addr} (Q : Ψ (some (.int v)) h sf') (hsub : ∀ x ∈ sf', x ∈ sf) (hc : cells ≤ R.cells) (hs : slots ≤ R.slots) :
    Go md l Z n0 R bytes ml ret own mn Ψ cells slots sf h pc L (.int z :: S) := by
  subst hv
  intro p e s m args below meth c vm0 T locs hx hby hml hr hlk hn ho X eT hZ B N
  exact fin_ret X eT hZ B N (fun q => by rw [hr, hret] at q; cases q) hlk hc hs Q hsub fun fs hl => Jvm.RoadKit.retN X hx (hr.trans hret) ht (hb hby hd) hl
/-! plain steps -/
theorem Go.aload {k : Nat} {v : Value} (pc' : Nat) (hd : decode bytes pc = .ok (.aload k, 2)) (hp : pc + 2 = pc') (hl : L[k]? = some (.val v)) (hv : v.isRef = true) (G : Go md l Z n0 R bytes ml ret own mn Ψ cells slots sf h pc' L (v :: S)) : Go md l Z n0 R bytes ml ret own mn Ψ cells slots sf h pc L S := by
  subst hp; exact Go.pure _ (fun p e below T target m c A hx hby k => XS.aload A hx rfl (hb hby hd) hl hv k) G
theorem Go.aloadN {k : Fin 4} {v : Value} (pc' : Nat) (hd : decode bytes pc = .ok (.aload_n k, 1)) (hp : pc + 1 = pc') (hl : L[k.val]? = some (.val v)) (hv : v.isRef = true) (G : Go md l Z n0 R bytes ml ret own mn Ψ cells slots sf h pc' L (v :: S)) : Go md l Z n0 R bytes ml ret own mn Ψ cells slots sf h pc L S := by
  subst hp; exact Go.pure _ (fun p e below T target m c A hx hby k => XS.aloadN A hx rfl (hb hby hd) hl hv k) G
theorem Go.iload {k : Nat} {v : Int32} (pc' : Nat) (hd : decode bytes pc = .ok (.iload k, 2)) (hp : pc + 2 = pc') (hl : L[k]? = some (.val (.int v))) (G : Go md l Z n0 R bytes ml ret own mn Ψ cells slots sf h pc' L (.int v :: S)) : Go md l Z n0 R bytes ml ret own mn Ψ cells slots sf h pc L S := by
  subst hp; exact Go.pure _ (fun p e below T target m c A hx hby k => XS.iload A hx rfl (hb hby hd) hl k) G
theorem Go.iloadN {k : Fin 4} {v : Int32} (pc' : Nat) (hd : decode bytes pc = .ok (.iload_n k, 1)) (hp : pc + 1 = pc') (hl : L[k.val]? = some (.val (.int v))) (G : Go md l Z n0 R bytes ml ret own mn Ψ cells slots sf h pc' L (.int v :: S)) : Go md l Z n0 R bytes ml ret own mn Ψ cells slots sf h pc L S := by
  subst hp; exact Go.pure _ (fun p e below T target m c A hx hby k => XS.iloadN A hx rfl (hb hby hd) hl k) G
theorem Go.lload {k : Nat} {v : Int64} (pc' : Nat) (hd : decode bytes pc = .ok (.lload k, 2)) (hp : pc + 2 = pc') (hl : L[k]? = some (.val (.long v))) (G : Go md l Z n0 R bytes ml ret own mn Ψ cells slots sf h pc' L (.long v :: S)) : Go md l Z n0 R bytes ml ret own mn Ψ cells slots sf h pc L S := by
  subst hp; exact Go.pure _ (fun p e below T target m c A hx hby k => XS.lload A hx rfl (hb hby hd) hl k) G
theorem Go.lloadN {k : Fin 4} {v : Int64} (pc' : Nat) (hd : decode bytes pc = .ok (.lload_n k, 1)) (hp : pc + 1 = pc') (hl : L[k.val]? = some (.val (.long v))) (G : Go md l Z n0 R bytes ml ret own mn Ψ cells slots sf h pc' L (.long v :: S)) : Go md l Z n0 R bytes ml ret own mn Ψ cells slots sf h pc L S := by
  subst hp; exact Go.pure _ (fun p e below T target m c A hx hby k => XS.lloadN A hx rfl (hb hby hd) hl k) G
theorem Go.astore {k : Nat} {v : Value} (pc' : Nat) (L' : Array Slot) (hd : decode bytes pc = .ok (.astore k, 2)) (hp : pc + 2 = pc') (hv : v.isRef = true) (hl : storeLocals L k v = some L') (G : Go md l Z n0 R bytes ml ret own mn Ψ cells slots sf h pc' L' S) : Go md l Z n0 R bytes ml ret own mn Ψ cells slots sf h pc L (v :: S) := by
  subst hp; exact Go.pure _ (fun p e below T target m c A hx hby k => XS.astore A hx rfl (hb hby hd) rfl hv hl k) G
theorem Go.astoreN {k : Fin 4} {v : Value} (pc' : Nat) (L' : Array Slot) (hd : decode bytes pc = .ok (.astore_n k, 1)) (hp : pc + 1 = pc') (hv : v.isRef = true) (hl : storeLocals L k.val v = some L') (G : Go md l Z n0 R bytes ml ret own mn Ψ cells slots sf h pc' L' S) : Go md l Z n0 R bytes ml ret own mn Ψ cells slots sf h pc L (v :: S) := by
  subst hp; exact Go.pure _ (fun p e below T target m c A hx hby k => XS.astoreN A hx rfl (hb hby hd) rfl hv hl k) G
theorem Go.istore {k : Nat} {x : Int32} (pc' : Nat) (L' : Array Slot) (hd : decode bytes pc = .ok (.istore k, 2)) (hp : pc + 2 = pc') (hl : storeLocals L k (.int x) = some L') (G : Go md l Z n0 R bytes ml ret own mn Ψ cells slots sf h pc' L' S) : Go md l Z n0 R bytes ml ret own mn Ψ cells slots sf h pc L (.int x :: S) := by
  subst hp; exact Go.pure _ (fun p e below T target m c A hx hby k => XS.istore A hx rfl (hb hby hd) rfl hl k) G
theorem Go.istoreN {k : Fin 4} {x : Int32} (pc' : Nat) (L' : Array Slot) (hd : decode bytes pc = .ok (.istore_n k, 1)) (hp : pc + 1 = pc') (hl : storeLocals L k.val (.int x) = some L') (G : Go md l Z n0 R bytes ml ret own mn Ψ cells slots sf h pc' L' S) : Go md l Z n0 R bytes ml ret own mn Ψ cells slots sf h pc L (.int x :: S) := by
  subst hp; exact Go.pure _ (fun p e below T target m c A hx hby k => XS.istoreN A hx rfl (hb hby hd) rfl hl k) G
theorem Go.lstore {k : Nat} {x : Int64} (pc' : Nat) (L' : Array Slot) (hd : decode bytes pc = .ok (.lstore k, 2)) (hp : pc + 2 = pc') (hl : storeLocals L k (.long x) = some L') (G : Go md l Z n0 R bytes ml ret own mn Ψ cells slots sf h pc' L' S) : Go md l Z n0 R bytes ml ret own mn Ψ cells slots sf h pc L (.long x :: S) := by
  subst hp; exact Go.pure _ (fun p e below T target m c A hx hby k => XS.lstore A hx rfl (hb hby hd) rfl hl k) G
theorem Go.lstoreN {k : Fin 4} {x : Int64} (pc' : Nat) (L' : Array Slot) (hd : decode bytes pc = .ok (.lstore_n k, 1)) (hp : pc + 1 = pc') (hl : storeLocals L k.val (.long x) = some L') (G : Go md l Z n0 R bytes ml ret own mn Ψ cells slots sf h pc' L' S) : Go md l Z n0 R bytes ml ret own mn Ψ cells slots sf h pc L (.long x :: S) := by
  subst hp; exact Go.pure _ (fun p e below T target m c A hx hby k => XS.lstoreN A hx rfl (hb hby hd) rfl hl k) G
theorem Go.iinc {k : Nat} {cst : Int} {x : Int32} (pc' : Nat) (L' : Array Slot) (v : Int32) (hd : decode bytes pc = .ok (.iinc k cst, 3)) (hp : pc + 3 = pc') (hl : L[k]? = some (.val (.int x))) (hv : Int32.ofInt cst = v) (hl' : storeLocals L k (.int (x + v)) = some L') (G : Go md l Z n0 R bytes ml ret own mn Ψ cells slots sf h pc' L' S) : Go md l Z n0 R bytes ml ret own mn Ψ cells slots sf h pc L S := by
  subst hp; subst hv; exact Go.pure _ (fun p e below T target m c A hx hby k => XS.iinc A hx rfl (hb hby hd) hl hl' k) G
theorem Go.iconst {i : Int} (pc' : Nat) (v : Int32) (hd : decode bytes pc = .ok (.iconst i, 1)) (hp : pc + 1 = pc') (hv : Int32.ofInt i = v) (G : Go md l Z n0 R bytes ml ret own mn Ψ cells slots sf h pc' L (.int v :: S)) : Go md l Z n0 R bytes ml ret own mn Ψ cells slots sf h pc L S := by
  subst hp; subst hv; exact Go.pure _ (fun p e below T target m c A hx hby k => XS.iconst A hx rfl (hb hby hd) k) G
theorem Go.bipush {i : Int} (pc' : Nat) (v : Int32) (hd : decode bytes pc = .ok (.bipush i, 2)) (hp : pc + 2 = pc') (hv : (Int8.ofInt i).toInt32 = v) (G : Go md l Z n0 R bytes ml ret own mn Ψ cells slots sf h pc' L (.int v :: S)) : Go md l Z n0 R bytes ml ret own mn Ψ cells slots sf h pc L S := by
  subst hp; subst hv; exact Go.pure _ (fun p e below T target m c A hx hby k => XS.bipush A hx rfl (hb hby hd) k) G
theorem Go.sipush {i : Int} (pc' : Nat) (v : Int32) (hd : decode bytes pc = .ok (.sipush i, 3)) (hp : pc + 3 = pc') (hv : (Int16.ofInt i).toInt32 = v) (G : Go md l Z n0 R bytes ml ret own mn Ψ cells slots sf h pc' L (.int v :: S)) : Go md l Z n0 R bytes ml ret own mn Ψ cells slots sf h pc L S := by
  subst hp; subst hv; exact Go.pure _ (fun p e below T target m c A hx hby k => XS.sipush A hx rfl (hb hby hd) k) G
theorem Go.lconst {i : Fin 2} (pc' : Nat) (v : Int64) (hd : decode bytes pc = .ok (.lconst i, 1)) (hp : pc + 1 = pc') (hv : Int64.ofNat i = v) (G : Go md l Z n0 R bytes ml ret own mn Ψ cells slots sf h pc' L (.long v :: S)) : Go md l Z n0 R bytes ml ret own mn Ψ cells slots sf h pc L S := by
  subst hp; subst hv; exact Go.pure _ (fun p e below T target m c A hx hby k => XS.lconst A hx rfl (hb hby hd) k) G
theorem Go.aconstNull (pc' : Nat) (hd : decode bytes pc = .ok (.aconst_null, 1)) (hp : pc + 1 = pc') (G : Go md l Z n0 R bytes ml ret own mn Ψ cells slots sf h pc' L (.null :: S)) : Go md l Z n0 R bytes ml ret own mn Ψ cells slots sf h pc L S := by
  subst hp; exact Go.pure _ (fun p e below T target m c A hx hby k => XS.aconstNull A hx rfl (hb hby hd) k) G
theorem Go.dup {v : Value} (pc' : Nat) (hd : decode bytes pc = .ok (.dup, 1)) (hp : pc + 1 = pc') (hv : v.category = 1) (G : Go md l Z n0 R bytes ml ret own mn Ψ cells slots sf h pc' L (v :: v :: S)) : Go md l Z n0 R bytes ml ret own mn Ψ cells slots sf h pc L (v :: S) := by
  subst hp; exact Go.pure _ (fun p e below T target m c A hx hby k => XS.dup A hx rfl (hb hby hd) rfl hv k) G
theorem Go.pop {v : Value} (pc' : Nat) (hd : decode bytes pc = .ok (.pop, 1)) (hp : pc + 1 = pc') (hv : v.category = 1) (G : Go md l Z n0 R bytes ml ret own mn Ψ cells slots sf h pc' L S) : Go md l Z n0 R bytes ml ret own mn Ψ cells slots sf h pc L (v :: S) := by
  subst hp; exact Go.pure _ (fun p e below T target m c A hx hby k => XS.pop A hx rfl (hb hby hd) rfl hv k) G
theorem Go.goto {o : Int} (pc' : Nat) (hd : decode bytes pc = .ok (.goto o, 3)) (ho' : 0 ≤ (pc : Int) + o) (hp : ((pc : Int) + o).toNat = pc') (G : Go md l Z n0 R bytes ml ret own mn Ψ cells slots sf h pc' L S) : Go md l Z n0 R bytes ml ret own mn Ψ cells slots sf h pc L S :=
  Go.pure pc' (fun p e below T target m c A hx hby k => XS.goto A hx rfl (pc0 := pc) (pc' := pc') rfl (hb hby hd) ho' hp k) G
theorem Go.ifY {cd : ClassFile.Cond} {x : Int32} {o : Int} (pc' : Nat) (hd : decode bytes pc = .ok (.ifCond cd o, 3)) (ho' : 0 ≤ (pc : Int) + o) (hp : ((pc : Int) + o).toNat = pc') (hc : if_icmp.holds cd x 0 = true) (G : Go md l Z n0 R bytes ml ret own mn Ψ cells slots sf h pc' L S) : Go md l Z n0 R bytes ml ret own mn Ψ cells slots sf h pc L (.int x :: S) :=
  Go.pure pc' (fun p e below T target m c A hx hby k => XS.ifYes A hx rfl (pc0 := pc) (pc' := pc') rfl (hb hby hd) rfl ((if0 _ _).trans hc) ho' hp k) G
theorem Go.ifN {cd : ClassFile.Cond} {x : Int32} {o : Int} (pc' : Nat) (hd : decode bytes pc = .ok (.ifCond cd o, 3)) (hp : pc + 3 = pc') (hc : if_icmp.holds cd x 0 = false) (G : Go md l Z n0 R bytes ml ret own mn Ψ cells slots sf h pc' L S) : Go md l Z n0 R bytes ml ret own mn Ψ cells slots sf h pc L (.int x :: S) := by
  subst hp; exact Go.pure _ (fun p e below T target m c A hx hby k => XS.ifNo A hx rfl (hb hby hd) rfl ((if0 _ _).trans hc) k) G
theorem Go.icmpY {cd : ClassFile.Cond} {x y : Int32} {o : Int} (pc' : Nat) (hd : decode bytes pc = .ok (.if_icmp cd o, 3)) (ho' : 0 ≤ (pc : Int) + o) (hp : ((pc : Int) + o).toNat = pc') (hc : if_icmp.holds cd x y = true) (G : Go md l Z n0 R bytes ml ret own mn Ψ cells slots sf h pc' L S) : Go md l Z n0 R bytes ml ret own mn Ψ cells slots sf h pc L (.int y :: .int x :: S) :=
  Go.pure pc' (fun p e below T target m c A hx hby k => XS.icmpYes A hx rfl (pc0 := pc) (pc' := pc') rfl (hb hby hd) rfl hc ho' hp k) G
theorem Go.icmpN {cd : ClassFile.Cond} {x y : Int32} {o : Int} (pc' : Nat) (hd : decode bytes pc = .ok (.if_icmp cd o, 3)) (hp : pc + 3 = pc') (hc : if_icmp.holds cd x y = false) (G : Go md l Z n0 R bytes ml ret own mn Ψ cells slots sf h pc' L S) : Go md l Z n0 R bytes ml ret own mn Ψ cells slots sf h pc L (.int y :: .int x :: S) := by
  subst hp; exact Go.pure _ (fun p e below T target m c A hx hby k => XS.icmpNo A hx rfl (hb hby hd) rfl hc k) G
theorem Go.acmpY {cd : ClassFile.ACond} {x y : Value} {o : Int} (pc' : Nat) (hd : decode bytes pc = .ok (.if_acmp cd o, 3)) (ho' : 0 ≤ (pc : Int) + o) (hp : ((pc : Int) + o).toNat = pc') (hx' : x.isRef = true) (hy' : y.isRef = true) (hc : acV cd (decide (x = y)) = true) (G : Go md l Z n0 R bytes ml ret own mn Ψ cells slots sf h pc' L S) : Go md l Z n0 R bytes ml ret own mn Ψ cells slots sf h pc L (y :: x :: S) :=
  Go.warm pc' (fun p e s m args below meth c T locs hx hby hml hZ hown X eT => ⟨T, X, eT, fun target k => Jvm.RoadKit.acmp (g := mkF m pc L (y :: x :: S)) X hx rfl hx' hy' (pc0 := pc) rfl (hb hby hd) rfl rfl ho' (by rw [if_pos hc]; exact hp.symm) k⟩) G
theorem Go.acmpN {cd : ClassFile.ACond} {x y : Value} {o : Int} (pc' : Nat) (hd : decode bytes pc = .ok (.if_acmp cd o, 3)) (ho' : 0 ≤ (pc : Int) + o) (hp : pc + 3 = pc') (hx' : x.isRef = true) (hy' : y.isRef = true) (hc : acV cd (decide (x = y)) = false) (G : Go md l Z n0 R bytes ml ret own mn Ψ cells slots sf h pc' L S) : Go md l Z n0 R bytes ml ret own mn Ψ cells slots sf h pc L (y :: x :: S) :=
  Go.warm pc' (fun p e s m args below meth c T locs hx hby hml hZ hown X eT => ⟨T, X, eT, fun target k => Jvm.RoadKit.acmp (g := mkF m pc L (y :: x :: S)) X hx rfl hx' hy' (pc0 := pc) rfl (hb hby hd) rfl rfl ho' (by rw [if_neg (by rw [hc]; exact Bool.false_ne_true)]; exact hp.symm) k⟩) G
theorem Go.nullY {o : Int} (pc' : Nat) (hd : decode bytes pc = .ok (.ifnull o, 3)) (ho' : 0 ≤ (pc : Int) + o) (hp : ((pc : Int) + o).toNat = pc') (G : Go md l Z n0 R bytes ml ret own mn Ψ cells slots sf h pc' L S) : Go md l Z n0 R bytes ml ret own mn Ψ cells slots sf h pc L (.null :: S) :=
  Go.pure pc' (fun p e below T target m c A hx hby k => XS.ifnullYes A hx rfl (pc0 := pc) (pc' := pc') rfl (hb hby hd) rfl ho' hp k) G
theorem Go.nullN {o : Int} {a : Addr} (pc' : Nat) (hd : decode bytes pc = .ok (.ifnull o, 3)) (hp : pc + 3 = pc') (G : Go md l Z n0 R bytes ml ret own mn Ψ cells slots sf h pc' L S) : Go md l Z n0 R bytes ml ret own mn Ψ cells slots sf h pc L (.ref a :: S) := by
  subst hp; exact Go.pure _ (fun p e below T target m c A hx hby k => XS.ifnullNo A hx rfl (hb hby hd) rfl k) G
theorem Go.nonnullY {o : Int} {a : Addr} (pc' : Nat) (hd : decode bytes pc = .ok (.ifnonnull o, 3)) (ho' : 0 ≤ (pc : Int) + o) (hp : ((pc : Int) + o).toNat = pc') (G : Go md l Z n0 R bytes ml ret own mn Ψ cells slots sf h pc' L S) : Go md l Z n0 R bytes ml ret own mn Ψ cells slots sf h pc L (.ref a :: S) :=
  Go.pure pc' (fun p e below T target m c A hx hby k => XS.ifnonnullYes A hx rfl (pc0 := pc) (pc' := pc') rfl (hb hby hd) rfl ho' hp k) G
theorem Go.nonnullN {o : Int} (pc' : Nat) (hd : decode bytes pc = .ok (.ifnonnull o, 3)) (hp : pc + 3 = pc') (G : Go md l Z n0 R bytes ml ret own mn Ψ cells slots sf h pc' L S) : Go md l Z n0 R bytes ml ret own mn Ψ cells slots sf h pc L (.null :: S) := by
  subst hp; exact Go.pure _ (fun p e below T target m c A hx hby k => XS.ifnonnullNo A hx rfl (hb hby hd) rfl k) G
theorem Go.iadd {x y : Int32} (pc' : Nat) (hd : decode bytes pc = .ok (.iadd, 1)) (hp : pc + 1 = pc') (G : Go md l Z n0 R bytes ml ret own mn Ψ cells slots sf h pc' L (.int (x + y) :: S)) : Go md l Z n0 R bytes ml ret own mn Ψ cells slots sf h pc L (.int y :: .int x :: S) := by
  subst hp; exact Go.pure _ (fun p e below T target m c A hx hby k => XS.iadd A hx rfl (hb hby hd) rfl k) G
theorem Go.isub {x y : Int32} (pc' : Nat) (hd : decode bytes pc = .ok (.isub, 1)) (hp : pc + 1 = pc') (G : Go md l Z n0 R bytes ml ret own mn Ψ cells slots sf h pc' L (.int (x - y) :: S)) : Go md l Z n0 R bytes ml ret own mn Ψ cells slots sf h pc L (.int y :: .int x :: S) := by
  subst hp; exact Go.pure _ (fun p e below T target m c A hx hby k => XS.isub A hx rfl (hb hby hd) rfl k) G
theorem Go.imul {x y : Int32} (pc' : Nat) (hd : decode bytes pc = .ok (.imul, 1)) (hp : pc + 1 = pc') (G : Go md l Z n0 R bytes ml ret own mn Ψ cells slots sf h pc' L (.int (x * y) :: S)) : Go md l Z n0 R bytes ml ret own mn Ψ cells slots sf h pc L (.int y :: .int x :: S) := by
  subst hp; exact Go.pure _ (fun p e below T target m c A hx hby k => XS.imul A hx rfl (hb hby hd) rfl k) G
theorem Go.iand {x y : Int32} (pc' : Nat) (hd : decode bytes pc = .ok (.iand, 1)) (hp : pc + 1 = pc') (G : Go md l Z n0 R bytes ml ret own mn Ψ cells slots sf h pc' L (.int (x &&& y) :: S)) : Go md l Z n0 R bytes ml ret own mn Ψ cells slots sf h pc L (.int y :: .int x :: S) := by
  subst hp; exact Go.pure _ (fun p e below T target m c A hx hby k => XS.iand A hx rfl (hb hby hd) rfl k) G
theorem Go.ior {x y : Int32} (pc' : Nat) (hd : decode bytes pc = .ok (.ior, 1)) (hp : pc + 1 = pc') (G : Go md l Z n0 R bytes ml ret own mn Ψ cells slots sf h pc' L (.int (x ||| y) :: S)) : Go md l Z n0 R bytes ml ret own mn Ψ cells slots sf h pc L (.int y :: .int x :: S) := by
  subst hp; exact Go.pure _ (fun p e below T target m c A hx hby k => XS.ior A hx rfl (hb hby hd) rfl k) G
theorem Go.ixor {x y : Int32} (pc' : Nat) (hd : decode bytes pc = .ok (.ixor, 1)) (hp : pc + 1 = pc') (G : Go md l Z n0 R bytes ml ret own mn Ψ cells slots sf h pc' L (.int (x ^^^ y) :: S)) : Go md l Z n0 R bytes ml ret own mn Ψ cells slots sf h pc L (.int y :: .int x :: S) := by
  subst hp; exact Go.pure _ (fun p e below T target m c A hx hby k => XS.ixor A hx rfl (hb hby hd) rfl k) G
theorem Go.ishl {x y : Int32} (pc' : Nat) (hd : decode bytes pc = .ok (.ishl, 1)) (hp : pc + 1 = pc') (G : Go md l Z n0 R bytes ml ret own mn Ψ cells slots sf h pc' L (.int (x <<< (y &&& 31)) :: S)) : Go md l Z n0 R bytes ml ret own mn Ψ cells slots sf h pc L (.int y :: .int x :: S) := by
  subst hp; exact Go.pure _ (fun p e below T target m c A hx hby k => XS.ishl A hx rfl (hb hby hd) rfl k) G
theorem Go.ishr {x y : Int32} (pc' : Nat) (hd : decode bytes pc = .ok (.ishr, 1)) (hp : pc + 1 = pc') (G : Go md l Z n0 R bytes ml ret own mn Ψ cells slots sf h pc' L (.int (x >>> (y &&& 31)) :: S)) : Go md l Z n0 R bytes ml ret own mn Ψ cells slots sf h pc L (.int y :: .int x :: S) := by
  subst hp; exact Go.pure _ (fun p e below T target m c A hx hby k => XS.ishr A hx rfl (hb hby hd) rfl k) G
theorem Go.iushr {x y : Int32} (pc' : Nat) (hd : decode bytes pc = .ok (.iushr, 1)) (hp : pc + 1 = pc') (G : Go md l Z n0 R bytes ml ret own mn Ψ cells slots sf h pc' L (.int (ushr x y) :: S)) : Go md l Z n0 R bytes ml ret own mn Ψ cells slots sf h pc L (.int y :: .int x :: S) := by
  subst hp; exact Go.pure _ (fun p e below T target m c A hx hby k => XS.iushr A hx rfl (hb hby hd) rfl k) G
theorem Go.idiv {x y : Int32} (pc' : Nat) (hd : decode bytes pc = .ok (.idiv, 1)) (hp : pc + 1 = pc') (hy : y ≠ 0) (G : Go md l Z n0 R bytes ml ret own mn Ψ cells slots sf h pc' L (.int (x / y) :: S)) : Go md l Z n0 R bytes ml ret own mn Ψ cells slots sf h pc L (.int y :: .int x :: S) := by
  subst hp; exact Go.pure _ (fun p e below T target m c A hx hby k => XS.idiv A hx rfl (hb hby hd) rfl hy k) G
theorem Go.ineg {x : Int32} (pc' : Nat) (hd : decode bytes pc = .ok (.ineg, 1)) (hp : pc + 1 = pc') (G : Go md l Z n0 R bytes ml ret own mn Ψ cells slots sf h pc' L (.int (-x) :: S)) : Go md l Z n0 R bytes ml ret own mn Ψ cells slots sf h pc L (.int x :: S) := by
  subst hp; exact Go.pure _ (fun p e below T target m c A hx hby k => XS.ineg A hx rfl (hb hby hd) rfl k) G
theorem Go.ladd {x y : Int64} (pc' : Nat) (hd : decode bytes pc = .ok (.ladd, 1)) (hp : pc + 1 = pc') (G : Go md l Z n0 R bytes ml ret own mn Ψ cells slots sf h pc' L (.long (x + y) :: S)) : Go md l Z n0 R bytes ml ret own mn Ψ cells slots sf h pc L (.long y :: .long x :: S) := by
  subst hp; exact Go.pure _ (fun p e below T target m c A hx hby k => XS.ladd A hx rfl (hb hby hd) rfl k) G
theorem Go.lsub {x y : Int64} (pc' : Nat) (hd : decode bytes pc = .ok (.lsub, 1)) (hp : pc + 1 = pc') (G : Go md l Z n0 R bytes ml ret own mn Ψ cells slots sf h pc' L (.long (x - y) :: S)) : Go md l Z n0 R bytes ml ret own mn Ψ cells slots sf h pc L (.long y :: .long x :: S) := by
  subst hp; exact Go.pure _ (fun p e below T target m c A hx hby k => XS.lsub A hx rfl (hb hby hd) rfl k) G
theorem Go.lmul {x y : Int64} (pc' : Nat) (hd : decode bytes pc = .ok (.lmul, 1)) (hp : pc + 1 = pc') (G : Go md l Z n0 R bytes ml ret own mn Ψ cells slots sf h pc' L (.long (x * y) :: S)) : Go md l Z n0 R bytes ml ret own mn Ψ cells slots sf h pc L (.long y :: .long x :: S) := by
  subst hp; exact Go.pure _ (fun p e below T target m c A hx hby k => XS.lmul A hx rfl (hb hby hd) rfl k) G
theorem Go.land {x y : Int64} (pc' : Nat) (hd : decode bytes pc = .ok (.land, 1)) (hp : pc + 1 = pc') (G : Go md l Z n0 R bytes ml ret own mn Ψ cells slots sf h pc' L (.long (x &&& y) :: S)) : Go md l Z n0 R bytes ml ret own mn Ψ cells slots sf h pc L (.long y :: .long x :: S) := by
  subst hp; exact Go.pure _ (fun p e below T target m c A hx hby k => XS.land A hx rfl (hb hby hd) rfl k) G
theorem Go.lor {x y : Int64} (pc' : Nat) (hd : decode bytes pc = .ok (.lor, 1)) (hp : pc + 1 = pc') (G : Go md l Z n0 R bytes ml ret own mn Ψ cells slots sf h pc' L (.long (x ||| y) :: S)) : Go md l Z n0 R bytes ml ret own mn Ψ cells slots sf h pc L (.long y :: .long x :: S) := by
  subst hp; exact Go.pure _ (fun p e below T target m c A hx hby k => XS.lor A hx rfl (hb hby hd) rfl k) G
theorem Go.lxor {x y : Int64} (pc' : Nat) (hd : decode bytes pc = .ok (.lxor, 1)) (hp : pc + 1 = pc') (G : Go md l Z n0 R bytes ml ret own mn Ψ cells slots sf h pc' L (.long (x ^^^ y) :: S)) : Go md l Z n0 R bytes ml ret own mn Ψ cells slots sf h pc L (.long y :: .long x :: S) := by
  subst hp; exact Go.pure _ (fun p e below T target m c A hx hby k => XS.lxor A hx rfl (hb hby hd) rfl k) G
theorem Go.lneg {x : Int64} (pc' : Nat) (hd : decode bytes pc = .ok (.lneg, 1)) (hp : pc + 1 = pc') (G : Go md l Z n0 R bytes ml ret own mn Ψ cells slots sf h pc' L (.long (-x) :: S)) : Go md l Z n0 R bytes ml ret own mn Ψ cells slots sf h pc L (.long x :: S) := by
  subst hp; exact Go.pure _ (fun p e below T target m c A hx hby k => XS.lneg A hx rfl (hb hby hd) rfl k) G
theorem Go.lcmp {x y : Int64} (pc' : Nat) (hd : decode bytes pc = .ok (.lcmp, 1)) (hp : pc + 1 = pc') (G : Go md l Z n0 R bytes ml ret own mn Ψ cells slots sf h pc' L (.int (lcmpW x y) :: S)) : Go md l Z n0 R bytes ml ret own mn Ψ cells slots sf h pc L (.long y :: .long x :: S) := by
  subst hp; exact Go.pure _ (fun p e below T target m c A hx hby k => XS.lcmp A hx rfl (hb hby hd) rfl k) G
theorem Go.lushr {x : Int64} {y : Int32} (pc' : Nat) (hd : decode bytes pc = .ok (.lushr, 1)) (hp : pc + 1 = pc') (G : Go md l Z n0 R bytes ml ret own mn Ψ cells slots sf h pc' L (.long (ushrL x y) :: S)) : Go md l Z n0 R bytes ml ret own mn Ψ cells slots sf h pc L (.int y :: .long x :: S) := by
  subst hp; exact Go.pure _ (fun p e below T target m c A hx hby k => XS.lushr A hx rfl (hb hby hd) rfl k) G
theorem Go.lshl {x : Int64} {y : Int32} (pc' : Nat) (hd : decode bytes pc = .ok (.lshl, 1)) (hp : pc + 1 = pc') (G : Go md l Z n0 R bytes ml ret own mn Ψ cells slots sf h pc' L (.long (x <<< (y &&& 0x3f).toInt64) :: S)) : Go md l Z n0 R bytes ml ret own mn Ψ cells slots sf h pc L (.int y :: .long x :: S) := by
  subst hp; exact Go.pure _ (fun p e below T target m c A hx hby k => XS.lshl A hx rfl (hb hby hd) rfl k) G
theorem Go.lrem {x y : Int64} (pc' : Nat) (hd : decode bytes pc = .ok (.lrem, 1)) (hp : pc + 1 = pc') (hy : y ≠ 0) (G : Go md l Z n0 R bytes ml ret own mn Ψ cells slots sf h pc' L (.long (x - (x / y) * y) :: S)) : Go md l Z n0 R bytes ml ret own mn Ψ cells slots sf h pc L (.long y :: .long x :: S) := by
  subst hp; exact Go.pure _ (fun p e below T target m c A hx hby k => XS.lrem A hx rfl (hb hby hd) rfl hy k) G
theorem Go.i2l {x : Int32} (pc' : Nat) (hd : decode bytes pc = .ok (.i2l, 1)) (hp : pc + 1 = pc') (G : Go md l Z n0 R bytes ml ret own mn Ψ cells slots sf h pc' L (.long x.toInt64 :: S)) : Go md l Z n0 R bytes ml ret own mn Ψ cells slots sf h pc L (.int x :: S) := by
  subst hp; exact Go.pure _ (fun p e below T target m c A hx hby k => XS.i2l A hx rfl (hb hby hd) rfl k) G
theorem Go.l2i {x : Int64} (pc' : Nat) (hd : decode bytes pc = .ok (.l2i, 1)) (hp : pc + 1 = pc') (G : Go md l Z n0 R bytes ml ret own mn Ψ cells slots sf h pc' L (.int x.toInt32 :: S)) : Go md l Z n0 R bytes ml ret own mn Ψ cells slots sf h pc L (.long x :: S) := by
  subst hp; exact Go.pure _ (fun p e below T target m c A hx hby k => XS.l2i A hx rfl (hb hby hd) rfl k) G
theorem Go.i2b {x : Int32} (pc' : Nat) (hd : decode bytes pc = .ok (.i2b, 1)) (hp : pc + 1 = pc') (G : Go md l Z n0 R bytes ml ret own mn Ψ cells slots sf h pc' L (.int x.toInt8.toInt32 :: S)) : Go md l Z n0 R bytes ml ret own mn Ψ cells slots sf h pc L (.int x :: S) := by
  subst hp; exact Go.pure _ (fun p e below T target m c A hx hby k => XS.i2b A hx rfl (hb hby hd) rfl k) G
theorem Go.i2c {x : Int32} (pc' : Nat) (hd : decode bytes pc = .ok (.i2c, 1)) (hp : pc + 1 = pc') (G : Go md l Z n0 R bytes ml ret own mn Ψ cells slots sf h pc' L (.int (chr x) :: S)) : Go md l Z n0 R bytes ml ret own mn Ψ cells slots sf h pc L (.int x :: S) := by
  subst hp; exact Go.pure _ (fun p e below T target m c A hx hby k => XS.i2c A hx rfl (hb hby hd) rfl k) G
theorem Go.dupX1 {v w : Value} (pc' : Nat) (hd : decode bytes pc = .ok (.dup_x1, 1)) (hp : pc + 1 = pc') (hv : v.category = 1) (hw : w.category = 1) (G : Go md l Z n0 R bytes ml ret own mn Ψ cells slots sf h pc' L (v :: w :: v :: S)) : Go md l Z n0 R bytes ml ret own mn Ψ cells slots sf h pc L (v :: w :: S) := by
  subst hp; exact Go.pure _ (fun p e below T target m c A hx hby k => XS.dupX1 A hx rfl (hb hby hd) rfl hv hw k) G
theorem sub1 {x : Addr} (q : x ∈ sf) : ∀ y ∈ [x], y ∈ sf := fun y hy => by cases List.mem_singleton.mp hy; exact q
/-- one field of an ordinary object known, each laid one holds something -/
theorem Fld.any {a : Addr} {C O n d O' n' d' : String} {v : Value} {k : Nat} (F : Fld Z h a O' n' d' v) (E : Exa Z h a C) (wi : (Jvm.Cond.instantiable C k).before a0 Z = true) (Lw : Laid Z a0 C O n d) : ∃ w, Fld Z h a O n d w := by
  obtain ⟨cell, cf, kk, i, f, h1, -, -, h4, h5, -, -⟩ := F
  obtain ⟨c2, k2, g1, g2, g3, g4, g5⟩ := E
  cases h1.symm.trans g1
  obtain ⟨c3, k3, i1, i2, i3, -⟩ := Cond.instantiable_spec wi
  cases g2.symm.trans i1
  cases g3.symm.trans i2
  obtain ⟨c, kc, cf', kf, j, f', a1, a2, a3, a4, a5, a6, -⟩ := Lw.spec
  cases g2.symm.trans a1
  cases g3.symm.trans a2
  have hs := g5 i3
  have hlt : f'.slot < cell.slots.size := by rw [hs]; exact (Array.getElem?_eq_some_iff.mp a6).1
  exact ⟨cell.slots[f'.slot], cell, cf', kf, j, f', h1, a3, a4, h4, h5, a5, Array.getElem?_eq_getElem hlt⟩
theorem Go.irem {x y : Int32} (pc' : Nat) (hd : decode bytes pc = .ok (.irem, 1)) (hp : pc + 1 = pc') (hy : y ≠ 0) (G : Go md l Z n0 R bytes ml ret own mn Ψ cells slots sf h pc' L (.int (x % y) :: S)) : Go md l Z n0 R bytes ml ret own mn Ψ cells slots sf h pc L (.int y :: .int x :: S) := by
  subst hp; exact Go.warm _ (fun p e s m args below meth c T locs hx hby hml hZ hown X eT => ⟨T, X, eT, fun target k => iremM (g := mkF m pc L (.int y :: .int x :: S)) X hx rfl (hb hby hd) rfl hy k⟩) G
theorem Go.ldcI {index : Nat} {v : Int32} (pc' : Nat) (hd : decode bytes pc = .ok (.ldc index, 2)) (hp : pc + 2 = pc') (w : (Jvm.Cond.constant own index v).before a0 Z = true) (G : Go md l Z n0 R bytes ml ret own mn Ψ cells slots sf h pc' L (.int v :: S)) : Go md l Z n0 R bytes ml ret own mn Ψ cells slots sf h pc L S := by
  subst hp; exact Go.warm _ (fun p e s m args below meth c T locs hx hby hml hZ hown X eT => ⟨T, X, eT, fun target k => X.ldcI (g := mkF m pc L S) hx hown (mvT hZ w) rfl (hb hby hd) k⟩) G
theorem Go.ldc2J {index : Nat} {v : Int64} (pc' : Nat) (hd : decode bytes pc = .ok (.ldc2_w index, 3)) (hp : pc + 3 = pc') (w : (Jvm.Cond.constantLong own index v).before a0 Z = true) (G : Go md l Z n0 R bytes ml ret own mn Ψ cells slots sf h pc' L (.long v :: S)) : Go md l Z n0 R bytes ml ret own mn Ψ cells slots sf h pc L S := by
  subst hp; exact Go.warm _ (fun p e s m args below meth c T locs hx hby hml hZ hown X eT => ⟨T, X, eT, fun target k => X.ldc2J (g := mkF m pc L S) hx hown (mvT hZ w) rfl (hb hby hd) k⟩) G
/-! fields -/
theorem Go.getF {R0 O n d : String} {index : Nat} {a : Addr} {v : Value} (pc' : Nat) (hd : decode bytes pc = .ok (.getfield index, 3)) (hp : pc + 3 = pc') (w : (Jvm.Cond.fieldLink own index R0 n d).before a0 Z = true) (via : Via Z R0 O n d) (F : Fld Z h a O n d v) (G : Go md l Z n0 R bytes ml ret own mn Ψ cells slots sf h pc' L (v :: S)) :
    Go md l Z n0 R bytes ml ret own mn Ψ cells slots sf h pc L (.ref a :: S) := by
  subst hp; exact Go.warm _ (fun p e s m args below meth c T locs hx hby hml hZ hown X eT => Jvm.RoadKit.getF X hx hZ hown (host := "") (Or.inl w) via eT F (g := mkF m pc L (.ref a :: S)) rfl rfl (hb hby hd)) G
theorem Go.getS {R0 O n d : String} {index : Nat} {v : Value} (pc' : Nat) (hd : decode bytes pc = .ok (.getstatic index, 3)) (hp : pc + 3 = pc') (w : (Jvm.Cond.fieldLink own index R0 n d).before a0 Z = true) (via : Via Z R0 O n d) (F : Sta Z Z.heap O n d v) (G : Go md l Z n0 R bytes ml ret own mn Ψ cells slots sf h pc' L (v :: S)) :
    Go md l Z n0 R bytes ml ret own mn Ψ cells slots sf h pc L S := by
  subst hp; exact Go.old fun o _ => Go.warm _ (fun p e s m args below meth c T locs hx hby hml hZ hown X eT => Jvm.RoadKit.getS (host := "") X hx hZ hown w via eT (F.ext o.2) (g := mkF m pc L S) rfl (hb hby hd)) G
theorem Go.putF {R0 O n d C : String} {index kk : Nat} {ty : FieldType} {a : Addr} {v old : Value} (pc' : Nat) (v' : Value) (hd : decode bytes pc = .ok (.putfield index, 3)) (hp : pc + 3 = pc') (w : (Jvm.Cond.fieldLink own index R0 n d).before a0 Z = true) (via : Via Z R0 O n d) (F : Fld Z h a O n d old) (E : Exa Z h a C)
    (Lw : (Jvm.Cond.lays C O n d).before a0 Z = true ∨ ((Jvm.Cond.laysFinal C O n d).before a0 Z = true ∧ own = O ∧ mn = "<init>")) (wi : (Jvm.Cond.instantiable C kk).before a0 Z = true) (hty : parseFieldDescriptor d = some ty) (hnw : narrow ty v = v') (hf : fits ty v' = true) (ha : a ∈ sf) (hn0 : n0 ≤ a)
    (G : ∀ h', Wr h h' a (Jvm.RoadKit.slotOf Z O n d) v' → Go md l Z n0 R bytes ml ret own mn Ψ cells slots sf h' pc' L S) : Go md l Z n0 R bytes ml ret own mn Ψ cells slots sf h pc L (v :: .ref a :: S) := by
  subst hp; exact Go.write _ ha hn0 (fun p e s m args below meth c T locs hx hby hml hnm hZ hown X eT => putFN X hx hZ hown w via eT F E (Lw.imp id fun q => ⟨q.1, q.2.1, hnm.trans q.2.2⟩) wi hty hnw hf (g := mkF m pc L (v :: .ref a :: S)) rfl rfl (hb hby hd)) G
/-! classes -/
theorem Go.castY {K : String} {index : Nat} {a : Addr} (pc' : Nat) (hd : decode bytes pc = .ok (.checkcast index, 3)) (hp : pc + 3 = pc') (w : (Jvm.Cond.classLink own index K).before a0 Z = true) (F : Ins Z h a K true) (G : Go md l Z n0 R bytes ml ret own mn Ψ cells slots sf h pc' L (.ref a :: S)) :
    Go md l Z n0 R bytes ml ret own mn Ψ cells slots sf h pc L (.ref a :: S) := by
  subst hp; exact Go.warm _ (fun p e s m args below meth c T locs hx hby hml hZ hown X eT => Jvm.RoadKit.castY X hx hZ hown w eT F (g := mkF m pc L (.ref a :: S)) rfl rfl (hb hby hd)) G
theorem Go.instY {K : String} {index : Nat} {a : Addr} (pc' : Nat) (hd : decode bytes pc = .ok (.instanceof index, 3)) (hp : pc + 3 = pc') (w : (Jvm.Cond.classLink own index K).before a0 Z = true) (F : Ins Z h a K true) (G : Go md l Z n0 R bytes ml ret own mn Ψ cells slots sf h pc' L (.int 1 :: S)) :
    Go md l Z n0 R bytes ml ret own mn Ψ cells slots sf h pc L (.ref a :: S) := by
  subst hp; exact Go.warm _ (fun p e s m args below meth c T locs hx hby hml hZ hown X eT => Jvm.RoadKit.instY X hx hZ hown w eT F (g := mkF m pc L (.ref a :: S)) rfl rfl (hb hby hd)) G
theorem Go.instNo {K C : String} {index : Nat} {a : Addr} (pc' : Nat) (hd : decode bytes pc = .ok (.instanceof index, 3)) (hp : pc + 3 = pc') (w : (Jvm.Cond.classLink own index K).before a0 Z = true) (E : Exa Z h a C) (F : ∃ c t, Z.vm.findClass C = some c ∧ Z.vm.findClass K = some t ∧ Z.vm.assignable c t = false) (G : Go md l Z n0 R bytes ml ret own mn Ψ cells slots sf h pc' L (.int 0 :: S)) :
    Go md l Z n0 R bytes ml ret own mn Ψ cells slots sf h pc L (.ref a :: S) := by
  subst hp; exact Go.warm _ (fun p e s m args below meth c T locs hx hby hml hZ hown X eT => Jvm.RoadKit.instNo X hx hZ hown w eT E F (g := mkF m pc L (.ref a :: S)) rfl rfl (hb hby hd)) G
theorem Go.instNull {index : Nat} (pc' : Nat) (hd : decode bytes pc = .ok (.instanceof index, 3)) (hp : pc + 3 = pc') (G : Go md l Z n0 R bytes ml ret own mn Ψ cells slots sf h pc' L (.int 0 :: S)) : Go md l Z n0 R bytes ml ret own mn Ψ cells slots sf h pc L (.null :: S) := by
  subst hp; exact Go.warm _ (fun p e s m args below meth c T locs hx hby hml hZ hown X eT => ⟨T, X, eT, fun target k => X.instanceofNull (g := mkF m pc L (.null :: S)) hx rfl rfl (hb hby hd) target k⟩) G
theorem Go.castNull {index : Nat} (pc' : Nat) (hd : decode bytes pc = .ok (.checkcast index, 3)) (hp : pc + 3 = pc') (G : Go md l Z n0 R bytes ml ret own mn Ψ cells slots sf h pc' L (.null :: S)) : Go md l Z n0 R bytes ml ret own mn Ψ cells slots sf h pc L (.null :: S) := by
  subst hp; exact Go.warm _ (fun p e s m args below meth c T locs hx hby hml hZ hown X eT => ⟨T, X, eT, fun target k => X.checkcastNull (g := mkF m pc L (.null :: S)) hx rfl rfl (hb hby hd) target k⟩) G
/-- Object's constructor -/
theorem Go.initO {idx : Nat} {a : Addr} {W : Nat} (pc' : Nat) (hd : decode bytes pc = .ok (.invokespecial idx, 3)) (hp : pc + 3 = pc') (w1 : (Jvm.Cond.methodLink own idx Lib.objectInit).before a0 Z = true) (w2 : (Jvm.Cond.instanceMethod Lib.objectInit).before a0 Z = true) (w3 : (Jvm.Cond.code Lib.objectInit ⟨#[0xb1]⟩ 1 none).before a0 Z = true)
    (hsz : L.size = ml) (hf : 1 ≤ R.frames) (hW : (S.map fun v => v.category).sum ≤ W) (hl : W + 12 ≤ R.locals) (G : Go md l Z n0 R bytes ml ret own mn Ψ cells slots sf h pc' L S) : Go md l Z n0 R bytes ml ret own mn Ψ cells slots sf h pc L (.ref a :: S) := by
  subst hp; exact Go.warm _ (fun p e s m args below meth c T locs hx hby hml hZ hown X eT => Jvm.RoadKit.initO X hx hZ hown w1 w2 w3 eT (g := mkF m pc L (.ref a :: S)) rfl (hsz.trans hml.symm) rfl (hb hby hd) hf (W := W) (by simpa using hW) hl) G
/-! what is made -/
theorem Go.new {C : String} {index n : Nat} (pc' : Nat) (hd : decode bytes pc = .ok (.new index, 3)) (hp : pc + 3 = pc') (w : (Jvm.Cond.classLink own index C).before a0 Z = true) (wi : (Jvm.Cond.instantiable C n).before a0 Z = true) (wz : (Jvm.Cond.initialized C).before a0 Z = true) (hc : cells + 1 ≤ R.cells) (hl : slots + n ≤ R.slots)
    (G : ∀ h' x, h.size = x → n0 ≤ x → Ext h h' → x < h'.size → Exa Z h' x C → (∀ {O nm d : String} {ty : FieldType}, Laid Z a0 C O nm d → parseFieldDescriptor d = some ty → Fld Z h' x O nm d (defaultValue ty)) → Go md l Z n0 R bytes ml ret own mn Ψ (cells + 1) (slots + n) (x :: sf) h' pc' L (.ref x :: S)) :
    Go md l Z n0 R bytes ml ret own mn Ψ cells slots sf h pc L S := by
  subst hp
  intro p e s m args below meth c vm0 T locs hx hby hml hr hlk hn ho X eT hZ B N
  obtain ⟨T', h', X', e', E, A, D, -, st⟩ := newO X hx hZ (by rw [show (s.setVm vm0).vm = vm0 from rfl, hZ.alike.findClass]; exact ho) w wi wz eT (g := mkF m pc L S) rfl (hb hby hd) hc hl
  obtain ⟨s₂, o, h1, r⟩ := G h' _ rfl B.n0le E A.lt A D p e s m args below meth c vm0 T' locs hx hby hml hr hlk hn ho X' e' hZ (B.new E A.lt (Nat.le_refl _)) N
  exact ⟨s₂, o, st _ h1, r⟩
/-- the array at a holds just these -/
def Ary (Z : State) (h : Heap) (a : Addr) (ty : FieldType) (vs : List Value) : Prop := ∃ c : Cell, Arr Z h a c ty ∧ c.slots.toList = vs ∧ vs.length < 2147483648 ∧ ∀ v ∈ vs, fits ty v = true
theorem Ary.lt {a : Addr} {ty : FieldType} {vs : List Value} (A : Ary Z h a ty vs) : a < h.size := by obtain ⟨c, A, -⟩ := A; exact A.lt
theorem Ary.ext {a : Addr} {ty : FieldType} {vs : List Value} (E : Ext h h') (A : Ary Z h a ty vs) : Ary Z h' a ty vs := by obtain ⟨c, A, r⟩ := A; exact ⟨c, A.ext E, r⟩
theorem Ary.other {a b : Addr} {ty : FieldType} {vs : List Value} {sl : Nat} {v : Value} (W : Wr h h' a sl v) (A : Ary Z h b ty vs) (q : b ≠ a) : Ary Z h' b ty vs := by obtain ⟨c, A, r⟩ := A; exact ⟨c, A.other W q, r⟩
theorem Ary.keep {a : Addr} {ty : FieldType} {vs : List Value} {ws : List Addr} (K : Keep h h' ws) (A : Ary Z h a ty vs) (q : a ∉ ws) : Ary Z h' a ty vs := by obtain ⟨c, A, r⟩ := A; exact ⟨c, ⟨K.2.1 a c A.1 q, A.2⟩, r⟩
theorem Ary.set {a : Addr} {ty : FieldType} {vs : List Value} {i : Nat} {v : Value} (W : Wr h h' a i v) (A : Ary Z h a ty vs) (hf : fits ty v = true) : Ary Z h' a ty (vs.set i v) := by
  obtain ⟨c, A, e1, e2, e3⟩ := A
  refine ⟨_, A.same W, by rw [← e1]; simp [Cell.setSlot, Array.toList_setIfInBounds], by simpa using e2, fun w hw => ?_⟩
  rcases List.mem_or_eq_of_mem_set hw with q | rfl
  · exact e3 w q
  · exact hf
theorem clamp_of {j : Int32} {i : Nat} (q : j.toInt = (i : Int)) : ¬ j < 0 ∧ j.toNatClampNeg = i := by
  refine ⟨fun z => ?_, ?_⟩
  · rw [Int32.lt_iff_toInt_lt] at z; rw [q] at z; have : (0 : Int32).toInt = 0 := rfl; omega
  · show j.toInt.toNat = i; rw [q]; rfl
theorem Ary.inb {a : Addr} {ty : FieldType} {vs : List Value} {c : Cell} {j : Int32} {i : Nat} (e1 : c.slots.toList = vs) (q : j.toInt = (i : Int)) (hi : i < vs.length) : ¬ (j < 0 ∨ c.slots.size ≤ j.toNatClampNeg) := by
  obtain ⟨q1, q2⟩ := clamp_of q
  rintro (z | z)
  · exact q1 z
  · rw [q2] at z; subst e1; simp at hi; omega
theorem Ary.at {c : Cell} {vs : List Value} {j : Int32} {i : Nat} {v : Value} (e1 : c.slots.toList = vs) (q : j.toInt = (i : Int)) (hv : vs[i]? = some v) : c.slots[j.toNatClampNeg]? = some v := by
  rw [(clamp_of q).2]; subst e1; rw [← hv]; simp
theorem Go.newA {aty : ArrayType} {n : Int32} {ty : FieldType} (k : Nat) (pc' : Nat) (hd : decode bytes pc = .ok (.newarray aty, 2)) (hp : pc + 2 = pc') (hty : newarray.typeOf aty = ty) (w : (Jvm.Cond.arrayClass ty).before a0 Z = true) (hk : n.toInt = (k : Int)) (cap : Nat) (hcap : k ≤ cap) (hb8 : cap * 8 ≤ 536870912) (hc : cells + 1 ≤ R.cells) (hl : slots + cap ≤ R.slots)
    (G : ∀ h' x, h.size = x → n0 ≤ x → Ext h h' → x < h'.size → Ary Z h' x ty (List.replicate k (defaultValue ty)) → Go md l Z n0 R bytes ml ret own mn Ψ (cells + 1) (slots + cap) (x :: sf) h' pc' L (.ref x :: S)) :
    Go md l Z n0 R bytes ml ret own mn Ψ cells slots sf h pc L (.int n :: S) := by
  subst hp; subst hty
  obtain ⟨q1, q2⟩ := clamp_of hk
  intro p e s m args below meth c vm0 T locs hx hby hml hr hlk hn ho X eT hZ B N
  obtain ⟨T', h', cA, X', e', E, A, st⟩ := newP X hx hZ w eT (g := mkF m pc L (.int n :: S)) rfl (hb hby hd) rfl q1 (cap := cap) (by rw [q2]; exact hcap) hb8 hc hl
  have A' : Ary Z h' h.size (newarray.typeOf aty) (List.replicate k (defaultValue (newarray.typeOf aty))) := ⟨_, A, by simp [Jvm.RoadKit.newA, q2], by simp; omega, fun v hv => by
    rw [(List.mem_replicate.mp hv).2]; cases aty <;> rfl⟩
  obtain ⟨s₂, o, h1, r⟩ := G h' _ rfl B.n0le E A'.lt A' p e s m args below meth c vm0 T' locs hx hby hml hr hlk hn ho X' e' hZ (B.new E A'.lt (Nat.le_refl _)) N
  exact ⟨s₂, o, st _ h1, r⟩
theorem Go.alen {a : Addr} {ty : FieldType} {vs : List Value} (pc' : Nat) (n : Int32) (hd : decode bytes pc = .ok (.arraylength, 1)) (hp : pc + 1 = pc') (A : Ary Z h a ty vs) (hn : Int32.ofNat vs.length = n) (G : Go md l Z n0 R bytes ml ret own mn Ψ cells slots sf h pc' L (.int n :: S)) :
    Go md l Z n0 R bytes ml ret own mn Ψ cells slots sf h pc L (.ref a :: S) := by
  subst hp; subst hn
  obtain ⟨c0, A, e1, e2, e3⟩ := A
  refine Go.warm _ (fun p e s m args below meth c T locs hx hby hml hZ hown X eT => ⟨T, X, eT, fun target k => X.arraylength hx (by rw [eT]; exact A.1) (State.isArrayOf_alike hZ.alike A.2.1) (g := mkF m pc L (.ref a :: S)) rfl rfl (hb hby hd) target ?_⟩) G
  subst e1; simpa using k
theorem Go.caload {a : Addr} {vs : List Value} {j : Int32} (i : Nat) {v : Value} (pc' : Nat) (hd : decode bytes pc = .ok (.caload, 1)) (hp : pc + 1 = pc') (A : Ary Z h a .char vs) (hj : j.toInt = (i : Int)) (hv : vs[i]? = some v) (G : Go md l Z n0 R bytes ml ret own mn Ψ cells slots sf h pc' L (v :: S)) :
    Go md l Z n0 R bytes ml ret own mn Ψ cells slots sf h pc L (.int j :: .ref a :: S) := by
  subst hp
  obtain ⟨c0, A, e1, e2, e3⟩ := A
  have hi := (List.getElem?_eq_some_iff.mp hv).1
  exact Go.warm _ (fun p e s m args below meth c T locs hx hby hml hZ hown X eT => ⟨T, X, eT, fun target k => X.caload hx (by rw [eT]; exact A.1) (State.isArrayOf_alike hZ.alike A.2.1) A.2.2 (Ary.inb (a := a) (ty := .char) e1 hj hi) (Ary.at e1 hj hv) (g := mkF m pc L (.int j :: .ref a :: S)) rfl rfl (hb hby hd) target k⟩) G
theorem Go.baload {a : Addr} {vs : List Value} {j : Int32} (i : Nat) {v : Value} (pc' : Nat) (hd : decode bytes pc = .ok (.baload, 1)) (hp : pc + 1 = pc') (A : Ary Z h a .byte vs) (hj : j.toInt = (i : Int)) (hv : vs[i]? = some v) (G : Go md l Z n0 R bytes ml ret own mn Ψ cells slots sf h pc' L (v :: S)) :
    Go md l Z n0 R bytes ml ret own mn Ψ cells slots sf h pc L (.int j :: .ref a :: S) := by
  subst hp
  obtain ⟨c0, A, e1, e2, e3⟩ := A
  have hi := (List.getElem?_eq_some_iff.mp hv).1
  exact Go.warm _ (fun p e s m args below meth c T locs hx hby hml hZ hown X eT => ⟨T, X, eT, fun target k => X.baloadBytes hx (by rw [eT]; exact A.1) (State.isArrayOf_alike hZ.alike A.2.1) A.2.2 (Ary.inb (a := a) (ty := .byte) e1 hj hi) (Ary.at e1 hj hv) (g := mkF m pc L (.int j :: .ref a :: S)) rfl rfl (hb hby hd) target k⟩) G
theorem Go.laload {a : Addr} {vs : List Value} {j : Int32} (i : Nat) {v : Value} (pc' : Nat) (hd : decode bytes pc = .ok (.laload, 1)) (hp : pc + 1 = pc') (A : Ary Z h a .long vs) (hj : j.toInt = (i : Int)) (hv : vs[i]? = some v) (G : Go md l Z n0 R bytes ml ret own mn Ψ cells slots sf h pc' L (v :: S)) :
    Go md l Z n0 R bytes ml ret own mn Ψ cells slots sf h pc L (.int j :: .ref a :: S) := by
  subst hp
  obtain ⟨c0, A, e1, e2, e3⟩ := A
  have hi := (List.getElem?_eq_some_iff.mp hv).1
  exact Go.warm _ (fun p e s m args below meth c T locs hx hby hml hZ hown X eT => ⟨T, X, eT, fun target k => X.laload hx (by rw [eT]; exact A.1) (State.isArrayOf_alike hZ.alike A.2.1) A.2.2 (Ary.inb (a := a) (ty := .long) e1 hj hi) (Ary.at e1 hj hv) (g := mkF m pc L (.int j :: .ref a :: S)) rfl rfl (hb hby hd) target k⟩) G
theorem Go.aaload {a : Addr} {vs : List Value} {j : Int32} {ty : FieldType} (i : Nat) {v : Value} (pc' : Nat) (hd : decode bytes pc = .ok (.aaload, 1)) (hp : pc + 1 = pc') (hty : ty.isReference = true) (A : Ary Z h a ty vs) (hj : j.toInt = (i : Int)) (hv : vs[i]? = some v) (G : Go md l Z n0 R bytes ml ret own mn Ψ cells slots sf h pc' L (v :: S)) :
    Go md l Z n0 R bytes ml ret own mn Ψ cells slots sf h pc L (.int j :: .ref a :: S) := by
  subst hp
  obtain ⟨c0, A, e1, e2, e3⟩ := A
  have hi := (List.getElem?_eq_some_iff.mp hv).1
  exact Go.warm _ (fun p e s m args below meth c T locs hx hby hml hZ hown X eT => ⟨T, X, eT, fun target k => X.aaload hx (by rw [eT]; exact A.1) (State.isArrayOf_alike hZ.alike A.2.1) hty A.2.2 (Ary.inb (a := a) (ty := ty) e1 hj hi) (Ary.at e1 hj hv) (g := mkF m pc L (.int j :: .ref a :: S)) rfl rfl (hb hby hd) target k⟩) G
theorem Go.castore {a : Addr} {vs : List Value} {j x : Int32} (i : Nat) (pc' : Nat) (hd : decode bytes pc = .ok (.castore, 1)) (hp : pc + 1 = pc') (A : Ary Z h a .char vs) (hj : j.toInt = (i : Int)) (hi : i < vs.length) (ha : a ∈ sf) (hn0 : n0 ≤ a)
    (G : ∀ h', Wr h h' a i (.int (nar .char x)) → Ary Z h' a .char (vs.set i (.int (nar .char x))) → Go md l Z n0 R bytes ml ret own mn Ψ cells slots sf h' pc' L S) : Go md l Z n0 R bytes ml ret own mn Ψ cells slots sf h pc L (.int x :: .int j :: .ref a :: S) := by
  subst hp
  obtain ⟨c0, A0, e1, e2, e3⟩ := A
  obtain ⟨-, q2⟩ := clamp_of hj
  exact Go.write _ ha hn0 (sl := i) (fun p e s m args below meth c T locs hx hby hml hnm hZ hown X eT => by rw [← q2]; exact stC X hx hZ eT A0 (Ary.inb (a := a) (ty := .char) e1 hj hi) (g := mkF m pc L (.int x :: .int j :: .ref a :: S)) rfl rfl (hb hby hd)) (fun h' W => G h' W (Ary.set W ⟨c0, A0, e1, e2, e3⟩ (fits_nar_char _)))
theorem Go.bastore {a : Addr} {vs : List Value} {j x : Int32} (i : Nat) (pc' : Nat) (hd : decode bytes pc = .ok (.bastore, 1)) (hp : pc + 1 = pc') (A : Ary Z h a .byte vs) (hj : j.toInt = (i : Int)) (hi : i < vs.length) (ha : a ∈ sf) (hn0 : n0 ≤ a)
    (G : ∀ h', Wr h h' a i (.int x.toInt8.toInt32) → Ary Z h' a .byte (vs.set i (.int x.toInt8.toInt32)) → Go md l Z n0 R bytes ml ret own mn Ψ cells slots sf h' pc' L S) : Go md l Z n0 R bytes ml ret own mn Ψ cells slots sf h pc L (.int x :: .int j :: .ref a :: S) := by
  subst hp
  obtain ⟨c0, A0, e1, e2, e3⟩ := A
  obtain ⟨-, q2⟩ := clamp_of hj
  exact Go.write _ ha hn0 (sl := i) (fun p e s m args below meth c T locs hx hby hml hnm hZ hown X eT => by rw [← q2]; exact stB X hx hZ eT A0 (Ary.inb (a := a) (ty := .byte) e1 hj hi) (g := mkF m pc L (.int x :: .int j :: .ref a :: S)) rfl rfl (hb hby hd)) (fun h' W => G h' W (Ary.set W ⟨c0, A0, e1, e2, e3⟩ (fits_nar_byte _)))
/-! calls -/
abbrev CPre (R : Room) (as : Array Value) (h : Heap) (kc ks : Nat) : Pt → Array Value → Prop := fun A a => a = as ∧ A.U.heap = h ∧ A.cells + kc ≤ R.cells ∧ A.slots + ks ≤ R.slots
abbrev CPost (Z : State) (n0 : Nat) (Q : Option Value → Heap → List Addr → Prop) (kc ks : Nat) : Pt → Array Value → Option Value → Pt → Prop := fun A _ v B => ∃ (L : List Loc) (sf' : List Addr), Q v B.U.heap sf' ∧ Old Z n0 B.U.heap ∧ Fr n0 L ∧ B.locs = A.locs ++ L ∧ B.cells = A.cells + kc ∧ B.slots = A.slots + ks
abbrev CPostW (Z : State) (EL : List (String × Nat)) (vm0 : Vm) (h : Heap) (n0 : Nat) (Q : Option Value → Heap → List Addr → Prop) (kc ks : Nat) : Pt → Array Value → Option Value → Pt → Prop := fun A _ v B => ∃ (L : List Loc) (sf' : List Addr), Q v B.U.heap sf' ∧ Old Z n0 B.U.heap ∧ Fr n0 L ∧ B.locs = A.locs ++ L ∧ B.cells = A.cells + kc ∧ B.slots = A.slots + ks ∧ CHr Z EL vm0 h B.U.vm B.U.heap ∧ ∀ x ∈ sf', x < B.U.heap.size ∧ Safe Z EL B.U.vm B.U.heap x
def Call (md : Md) (l : Launch) (Z : State) (n0 : Nat) (R : Room) (y : MethodName) (len W : Nat) (as : Array Value) (h : Heap) (sf : List Addr) (kc ks : Nat) (Q : Option Value → Heap → List Addr → Prop) : Prop :=
  ∀ (p : Program) (e : Env) (below : List Frame) (s : State) (vm0 : Vm) (sargs : Array Value), Z.Warmed39 vm0 → Bok md Z n0 s sf vm0 h →
    match md with
    | none => Back l R p e below (s.setVm vm0) sargs y len W (CPre R as h kc ks) (CPost Z n0 Q kc ks)
    | some EL => BackS l R p e below (s.setVm vm0) sargs y len W (CPre R as h kc ks) (CPostW Z EL vm0 h n0 Q kc ks)
theorem Bok.called {s U : State} {vm0 : Vm} {sf' : List Addr} (B : Bok (some EL) Z n0 s sf vm0 h) (h2 : (s.setVm vm0).Since U.vm U.heap.size) (o : Old Z n0 U.heap) (C : CHr Z EL vm0 h U.vm U.heap) (q : ∀ x ∈ sf', x < U.heap.size ∧ Safe Z EL U.vm U.heap x) : Bok (some EL) Z n0 s (sf' ++ sf) U.vm U.heap := by
  obtain ⟨-, ⟨k, b1, b2⟩, b3, b4, b5⟩ := B
  refine ⟨o, ⟨_, b1.trans h2 (Nat.le_trans b2 C.2.1), Nat.le_refl _⟩, b3, b4.trans C, fun x hx => ?_⟩
  rcases List.mem_append.mp hx with hx | hx
  · exact q x hx
  · exact ⟨Nat.lt_of_lt_of_le (b5 x hx).1 C.2.1, C.safe (b5 x hx).1 (b5 x hx).2⟩
theorem Go.callS {y : MethodName} {index maxY kc ks W : Nat} {bytesY : ByteArray} {retY : Option FieldType} {sfc : List Addr} {Q : Option Value → Heap → List Addr → Prop} {St : List Value} (pc' : Nat) (argsL : List Value) (hd : decode bytes pc = .ok (.invokestatic index, 3)) (hp : pc + 3 = pc') (hst : St = argsL.reverse ++ S)
    (wl : (Jvm.Cond.methodLink own index y).before a0 Z = true) (ws : (Jvm.Cond.static y).before a0 Z = true) (wi : (Jvm.Cond.initialized y.cls).before a0 Z = true) (wc : (Jvm.Cond.code y bytesY maxY retY).before a0 Z = true) (hy : y.cls ≠ "java/lang/invoke/MethodHandle" ∧ y.cls ≠ "java/lang/invoke/VarHandle")
    (hC : Call md l Z n0 R y 3 W argsL.toArray h sfc kc ks Q) (hlen : ∀ sig, parseMethodDescriptor y.desc = some sig → argsL.length = sig.parameters.length) (hW : (S.map fun v => v.category).sum ≤ W) (hsz : L.size = ml) (hc : cells + kc ≤ R.cells) (hs : slots + ks ≤ R.slots) (hsf : ∀ x ∈ sfc, x ∈ sf)
    (G : ∀ v h' sf', Q v h' sf' → Go md l Z n0 R bytes ml ret own mn Ψ (cells + kc) (slots + ks) (sf' ++ sf) h' pc' L (v.toList ++ S)) : Go md l Z n0 R bytes ml ret own mn Ψ cells slots sf h pc L St := by
  subst hp; subst hst
  intro p e s m args below meth c vm0 T locs hx hby hml hr hlk hn ho X eT hZ B N
  have hown : (s.setVm vm0).vm.findClass own = some m.cls := by rw [show (s.setVm vm0).vm = vm0 from rfl, hZ.alike.findClass]; exact ho
  have K := hC p e below s vm0 args hZ (B.sub hsf)
  cases md with
  | none =>
    obtain ⟨v, vm₁, ⟨U, L1, c1, n1⟩, -, X', ⟨L', sf', q1, q0, q2, q3, q4, q5⟩, st⟩ := Jvm.LawKit.callS X hx hown (mvT hZ wl) (mvT hZ ws) (mvT hZ wi) (mvT hZ wc) hy K (g := mkF m pc L (argsL.reverse ++ S)) rfl (hsz.trans hml.symm) hlen rfl (by simpa using hW) (hb hby hd) (fun _ _ => ⟨rfl, eT, hc, hs⟩)
    dsimp only [Pt.U, Pt.locs, Pt.cells, Pt.slots] at q1 q0 q3 q4 q5 X' st
    subst q3 q4 q5
    obtain ⟨s₂, o, h1, r⟩ := G v U.heap sf' q1 p e s m args below meth c vm0 U _ hx hby hml hr hlk hn ho X' rfl hZ ⟨q0, B.2⟩ (N.app q2)
    exact ⟨s₂, o, st _ h1, r⟩
  | some EL =>
    obtain ⟨v, vm₁, ⟨U, L1, c1, n1⟩, -, X', hS, hgr, ⟨L', sf', q1, q0, q2, q3, q4, q5, q6, q7⟩, st⟩ := callSS X hx hown (mvT hZ wl) (mvT hZ ws) (mvT hZ wi) (mvT hZ wc) hy K (g := mkF m pc L (argsL.reverse ++ S)) rfl (hsz.trans hml.symm) hlen rfl (by simpa using hW) (hb hby hd) (fun _ _ => ⟨rfl, eT, hc, hs⟩)
    dsimp only [Pt.U, Pt.locs, Pt.cells, Pt.slots] at q1 q0 q3 q4 q5 q6 q7 X' st hS hgr
    subst q3 q4 q5
    obtain ⟨s₂, o, h1, r⟩ := G v U.heap sf' q1 p e s m args below meth c U.vm U _ hx hby hml hr hlk hn ho X' rfl (State.Warmed39.trans (t := s.setVm vm0) hZ hS.1) (B.called hS q0 q6 q7) (N.app q2)
    exact ⟨s₂, o, st.trans h1, r⟩
theorem Go.callC {y : MethodName} {index maxY kc ks W : Nat} {bytesY : ByteArray} {sfc : List Addr} {Q : Option Value → Heap → List Addr → Prop} {St : List Value} {a : Addr} (pc' : Nat) (argsL : List Value) (hd : decode bytes pc = .ok (.invokespecial index, 3)) (hp : pc + 3 = pc') (hst : St = argsL.reverse ++ .ref a :: S) (hy1 : y.name = "<init>")
    (wl : (Jvm.Cond.methodLink own index y).before a0 Z = true) (ws : (Jvm.Cond.instanceMethod y).before a0 Z = true) (wc : (Jvm.Cond.code y bytesY maxY none).before a0 Z = true) (hy : y.cls ≠ "java/lang/invoke/MethodHandle" ∧ y.cls ≠ "java/lang/invoke/VarHandle")
    (hC : Call md l Z n0 R y 3 W (.ref a :: argsL).toArray h sfc kc ks Q) (hlen : ∀ sig, parseMethodDescriptor y.desc = some sig → argsL.length = sig.parameters.length) (hW : (S.map fun v => v.category).sum ≤ W) (hsz : L.size = ml) (hc : cells + kc ≤ R.cells) (hs : slots + ks ≤ R.slots) (hsf : ∀ x ∈ sfc, x ∈ sf)
    (G : ∀ v h' sf', Q v h' sf' → Go md l Z n0 R bytes ml ret own mn Ψ (cells + kc) (slots + ks) (sf' ++ sf) h' pc' L (v.toList ++ S)) : Go md l Z n0 R bytes ml ret own mn Ψ cells slots sf h pc L St := by
  subst hp; subst hst
  intro p e s m args below meth c vm0 T locs hx hby hml hr hlk hn ho X eT hZ B N
  have hown : (s.setVm vm0).vm.findClass own = some m.cls := by rw [show (s.setVm vm0).vm = vm0 from rfl, hZ.alike.findClass]; exact ho
  have K := hC p e below s vm0 args hZ (B.sub hsf)
  cases md with
  | none =>
    obtain ⟨v, vm₁, ⟨U, L1, c1, n1⟩, -, X', ⟨L', sf', q1, q0, q2, q3, q4, q5⟩, st⟩ := X.specialBack hx hy1 hown (mvT hZ wl) (mvT hZ ws) (mvT hZ wc) hy K (g := mkF m pc L (argsL.reverse ++ .ref a :: S)) rfl (hsz.trans hml.symm) (Steps.refl _) hlen rfl (by simpa using hW) (hb hby hd) (fun _ _ => ⟨rfl, eT, hc, hs⟩)
    dsimp only [Pt.U, Pt.locs, Pt.cells, Pt.slots] at q1 q0 q3 q4 q5 X' st
    subst q3 q4 q5
    obtain ⟨s₂, o, h1, r⟩ := G v U.heap sf' q1 p e s m args below meth c vm0 U _ hx hby hml hr hlk hn ho X' rfl hZ ⟨q0, B.2⟩ (N.app q2)
    exact ⟨s₂, o, st.trans h1, r⟩
  | some EL =>
    obtain ⟨v, vm₁, ⟨U, L1, c1, n1⟩, -, X', hS, hgr, ⟨L', sf', q1, q0, q2, q3, q4, q5, q6, q7⟩, st⟩ := X.specialBackS hx hy1 hown (mvT hZ wl) (mvT hZ ws) (mvT hZ wc) hy K (g := mkF m pc L (argsL.reverse ++ .ref a :: S)) rfl (hsz.trans hml.symm) (Steps.refl _) hlen rfl (by simpa using hW) (hb hby hd) (fun _ _ => ⟨rfl, eT, hc, hs⟩)
    dsimp only [Pt.U, Pt.locs, Pt.cells, Pt.slots] at q1 q0 q3 q4 q5 q6 q7 X' st hS hgr
    subst q3 q4 q5
    obtain ⟨s₂, o, h1, r⟩ := G v U.heap sf' q1 p e s m args below meth c U.vm U _ hx hby hml hr hlk hn ho X' rfl (State.Warmed39.trans (t := s.setVm vm0) hZ hS.1) (B.called hS q0 q6 q7) (N.app q2)
    exact ⟨s₂, o, st.trans h1, r⟩
theorem Go.callV {y z : MethodName} {index kc ks W : Nat} {C : String} {sfc : List Addr} {Q : Option Value → Heap → List Addr → Prop} {St : List Value} {a : Addr} (pc' : Nat) (argsL : List Value) (hd : decode bytes pc = .ok (.invokevirtual index, 3)) (hp : pc + 3 = pc') (hst : St = argsL.reverse ++ .ref a :: S)
    (wl : (Jvm.Cond.methodLink own index y).before a0 Z = true) (wd : (Jvm.Cond.declares y).before a0 Z = true) (wse : (Jvm.Cond.selects C y z).before a0 Z = true) (ws : (Jvm.Cond.instanceMethod z).before a0 Z = true) (hnf : ∀ (s : State), Z.Warmed39 s.vm → NotFace s y) (hy : y.cls ≠ "java/lang/invoke/MethodHandle" ∧ y.cls ≠ "java/lang/invoke/VarHandle")
    (E : Exa Z h a C) (hC : Call md l Z n0 R z 3 W (.ref a :: argsL).toArray h sfc kc ks Q) (hlen : ∀ sig, parseMethodDescriptor y.desc = some sig → argsL.length = sig.parameters.length) (hW : (S.map fun v => v.category).sum ≤ W) (hsz : L.size = ml) (hc : cells + kc ≤ R.cells) (hs : slots + ks ≤ R.slots) (hsf : ∀ x ∈ sfc, x ∈ sf)
    (G : ∀ v h' sf', Q v h' sf' → Go md l Z n0 R bytes ml ret own mn Ψ (cells + kc) (slots + ks) (sf' ++ sf) h' pc' L (v.toList ++ S)) : Go md l Z n0 R bytes ml ret own mn Ψ cells slots sf h pc L St := by
  subst hp; subst hst
  intro p e s m args below meth c vm0 T locs hx hby hml hr hlk hn ho X eT hZ B N
  have hown : (s.setVm vm0).vm.findClass own = some m.cls := by rw [show (s.setVm vm0).vm = vm0 from rfl, hZ.alike.findClass]; exact ho
  have K := hC p e below s vm0 args hZ (B.sub hsf)
  obtain ⟨cB, kB, i1, -, i3⟩ := isOf (s := s.setVm vm0) hZ eT E
  cases md with
  | none =>
    obtain ⟨v, vm₁, ⟨U, L1, c1, n1⟩, -, X', ⟨L', sf', q1, q0, q2, q3, q4, q5⟩, st⟩ := X.virtualBack hx hown (mvT hZ wl) (mvT hZ wd) (hnf _ hZ) (mvT hZ wse) (mvT hZ ws) hy K i1 i3 (g := mkF m pc L (argsL.reverse ++ .ref a :: S)) rfl (hsz.trans hml.symm) (Steps.refl _) hlen rfl (by simpa using hW) (hb hby hd) (fun _ _ => ⟨rfl, eT, hc, hs⟩)
    dsimp only [Pt.U, Pt.locs, Pt.cells, Pt.slots] at q1 q0 q3 q4 q5 X' st
    subst q3 q4 q5
    obtain ⟨s₂, o, h1, r⟩ := G v U.heap sf' q1 p e s m args below meth c vm0 U _ hx hby hml hr hlk hn ho X' rfl hZ ⟨q0, B.2⟩ (N.app q2)
    exact ⟨s₂, o, st.trans h1, r⟩
  | some EL =>
    obtain ⟨v, vm₁, ⟨U, L1, c1, n1⟩, -, X', hS, hgr, ⟨L', sf', q1, q0, q2, q3, q4, q5, q6, q7⟩, st⟩ := X.virtualBackS hx hown (mvT hZ wl) (mvT hZ wd) (hnf _ hZ) (mvT hZ wse) (mvT hZ ws) hy K i1 i3 (g := mkF m pc L (argsL.reverse ++ .ref a :: S)) rfl (hsz.trans hml.symm) (Steps.refl _) hlen rfl (by simpa using hW) (hb hby hd) (fun _ _ => ⟨rfl, eT, hc, hs⟩)
    dsimp only [Pt.U, Pt.locs, Pt.cells, Pt.slots] at q1 q0 q3 q4 q5 q6 q7 X' st hS hgr
    subst q3 q4 q5
    obtain ⟨s₂, o, h1, r⟩ := G v U.heap sf' q1 p e s m args below meth c U.vm U _ hx hby hml hr hlk hn ho X' rfl (State.Warmed39.trans (t := s.setVm vm0) hZ hS.1) (B.called hS q0 q6 q7) (N.app q2)
    exact ⟨s₂, o, st.trans h1, r⟩
/-! from a body to a call -/
theorem met_of_go {cls name desc : String} {as : Array Value} {L0 : Array Slot} {Q : Option Value → Heap → List Addr → Prop} {ws : List Jvm.Cond} (hpn : plainFor ⟨cls, name, desc⟩ = true) (hef : ∀ m, entryFrame m as ml = mkF m 0 L0 []) (G : Go md l Z n0 R bytes ml ret cls name Q 0 0 sf h 0 L0 []) :
    MetFree l ⟨cls, name, desc⟩ (head1 (Jvm.Cond.code ⟨cls, name, desc⟩ bytes ml ret :: ws) R) (fun a U => a = as ∧ Z.Warmed39 U.vm ∧ U.heap = h ∧ Bok md Z n0 U sf U.vm h) (fun _ _ _ _ _ => True)
      (fun _ U o U' => ∃ (v : Option Value) (L' : List Loc) (sf' : List Addr), o = .returned v ∧ Q v U'.heap sf' ∧ Old Z n0 U'.heap ∧ Fr n0 L' ∧ SafeAll md Z sf' U'.vm U'.heap ∧ FinE md Z U o U' L' R.cells R.slots) := by
  refine MetFree.of_bodySF hpn hisR ?_
  intro p e s m args below meth c s₁ Bd hml0 hP hK
  obtain ⟨rfl, hZ, hh, hB⟩ := hP
  have X0 : Stand p l e R s m args below meth c s₁ [] 0 0 := Stand.of_body Bd
  have e0 : s₁.heap = h := by rw [← hh, Bd.state]; rfl
  have q := G p e s m args below meth c s.vm s₁ [] Bd.exec Bd.bytes hml0 Bd.returns (BodyLoose.notSynchronized Bd) (name_of_methodNamed Bd.named Bd.method).1 (by rw [← hZ.alike.findClass]; exact findClass_of_methodNamed Bd.named) X0 e0 hZ hB (Fr.nil n0)
  rw [hef]; exact q
theorem call_of_go {cls name desc : String} {as : Array Value} {L0 : Array Slot} {Q : Option Value → Heap → List Addr → Prop} {rm : Room} {len W : Nat} (hpn : plainFor ⟨cls, name, desc⟩ = true) (hef : ∀ m, entryFrame m as ml = mkF m 0 L0 []) (G : Go md l Z n0 rm bytes ml ret cls name Q 0 0 sf h 0 L0 [])
    (wc : (Jvm.Cond.code ⟨cls, name, desc⟩ bytes ml ret).before a0 Z = true) (wz : (Jvm.Cond.initialized cls).before a0 Z = true) (hf : rm.frames + 1 ≤ R.frames) (hl : W + (ml + 11) + rm.locals ≤ R.locals) :
    Call md l Z n0 R ⟨cls, name, desc⟩ len W as h sf rm.cells rm.slots Q := by
  have hM := met_of_go (desc := desc) (ws := []) hpn hef G
  intro p e below s vm0 sargs hZ B
  cases md with
  | none =>
    have hM' : MetFree l ⟨cls, name, desc⟩ (head1 [Jvm.Cond.code ⟨cls, name, desc⟩ bytes ml ret] rm) (fun a U => a = as ∧ Z.Warmed39 U.vm ∧ U.heap = h) (fun _ _ _ _ _ => True) (fun _ U o U' => ∃ v L, o = .returned v ∧ (fun v h' L => ∃ sf', Q v h' sf' ∧ Old Z n0 h' ∧ Fr n0 L) v U'.heap L ∧ FrameEnd U o U' L rm.cells rm.slots) :=
      fun p e ha hc hk s m args below hfr happ hP hK => by
        obtain ⟨n, o, h1, h2, h3, v, L', sf', e1, q1, q0, q2, -, q4⟩ := hM p e ha hc hk s m args below hfr happ ⟨hP.1, hP.2.1, hP.2.2, B.1, rfl⟩ hK
        exact ⟨n, o, h1, h2, h3, v, L', e1, ⟨sf', q1, q0, q2⟩, q4⟩
    have K := backOf (Q := fun v h' L => ∃ sf', Q v h' sf' ∧ Old Z n0 h' ∧ Fr n0 L) (R := R) (p := p) (e := e) (below := below) (s := s.setVm vm0) (args := sargs) (len := len) (W := W) hM' hZ wc wz hf hl
    intro m meth c A g ig mk a X hg hsize hdg hW hn hp
    obtain ⟨v, P, X', ⟨L', ⟨sf', q1, q0, q2⟩, q3, q4, q5⟩, st⟩ := K m meth c A g ig mk a X hg hsize hdg hW hn hp
    exact ⟨v, P, X', ⟨L', sf', q1, q0, q2, q3, q4, q5⟩, st⟩
  | some EL =>
    obtain ⟨b0, ⟨k, b1, b2⟩, ⟨a1, b3⟩, b4, b5⟩ := B
    exact BackS.of_freeW (bytes := bytes) (maxL := ml) (ret := ret) (E := fun _ first o t L k n => k = rm.cells ∧ n = rm.slots ∧ (∃ v sf', o = .returned v ∧ Q v t.heap sf' ∧ Old Z n0 t.heap ∧ Fr n0 L ∧ ∀ x ∈ sf', x < t.heap.size ∧ Safe Z EL t.vm t.heap x) ∧ CHr Z EL first.vm first.heap t.vm t.heap) hM hf hl
      (fun m meth c A a Y hp => have hU : Z.Warmed39 A.U.vm := wtrans (s := s.setVm vm0) hZ Y.warmed
        ⟨by show (Jvm.Cond.and _ .tt).before a A.U = true; rw [Cond.before_and, mv hU wc]; rfl, mv hU wc, mv hU wz, hp.2.2.1, hp.2.2.2⟩)
      (fun m meth c A a g mk Y hp => by
        have C := CHv.at Y hZ b3 b4.1
        exact ⟨hp.1, wtrans (s := s.setVm vm0) hZ Y.warmed, hp.2.1, b0, ⟨_, (State.WarmedH.refl _).since _, Nat.le_refl _⟩, ⟨a1, b3⟩, by show CHr Z EL A.U.vm A.U.heap A.U.vm h; rw [hp.2.1]; exact CHr.refl C.1, fun x hx => ⟨(b5 x hx).1, C.safe (b5 x hx).1 (b5 x hx).2⟩⟩)
      (fun _ _ _ _ _ _ _ _ _ => trivial)
      (fun _ _ _ _ ⟨v, L', sf', e1, q1, q0, q2, q3, q4, q5⟩ => ⟨L', _, _, q5, rfl, rfl, ⟨v, sf', e1, q1, q0, q2, q3⟩, q4⟩)
      (fun m meth c A a g mk v t L' k n Y hp _ _ ⟨e1, e2, ⟨v', sf', e3, q1, q0, q2, q3⟩, q4⟩ => by
        cases e3; subst e1 e2
        refine ⟨L', sf', q1, q0, q2, rfl, rfl, rfl, (CHv.at Y hZ b3 b4.1).trans ?_, q3⟩
        rw [← hp.2.1]; exact q4)
/-- a law of the library or of a pasted text, in backOf's shape -/
theorem call_of_back {y : MethodName} {as : Array Value} {len W kc ks : Nat} {QB : Option Value → Heap → List Loc → Prop} {Q : Option Value → Heap → List Addr → Prop} (ws : List Addr)
    (hB : ∀ (p : Program) (e : Env) (below : List Frame) (s : State) (sargs : Array Value), Z.Warmed39 s.vm → Back l R p e below s sargs y len W (fun A a => a = as ∧ A.U.heap = h ∧ A.cells + kc ≤ R.cells ∧ A.slots + ks ≤ R.slots) (fun A _ v B => ∃ L, QB v B.U.heap L ∧ B.locs = A.locs ++ L ∧ B.cells = A.cells + kc ∧ B.slots = A.slots + ks))
    (hQ : ∀ v h' L, QB v h' L → Fr n0 L ∧ Keep h h' ws ∧ Q v h' []) (hws : ∀ x ∈ ws, x ∈ sf) (hw0 : ∀ x ∈ ws, n0 ≤ x) : Call md l Z n0 R y len W as h sf kc ks Q := by
  intro p e below s vm0 sargs hZ B
  have K := hB p e below (s.setVm vm0) sargs hZ
  cases md with
  | none =>
    intro m meth c A g ig mk a X hg hsize hdg hW hn hp
    obtain ⟨v, P, X', ⟨L', q1, q3, q4, q5⟩, st⟩ := K m meth c A g ig mk a X hg hsize hdg hW hn hp
    obtain ⟨r1, r2, r3⟩ := hQ _ _ _ q1
    exact ⟨v, P, X', ⟨L', [], r3, B.1.keep r2 hw0, r1, q3, q4, q5⟩, st⟩
  | some EL =>
    obtain ⟨b0, ⟨k, b1, b2⟩, ⟨a1, b3⟩, b4, b5⟩ := B
    intro m meth c A g ig mk a X hg hsize hdg hW hn hp
    obtain ⟨v, P, X', ⟨L', q1, q3, q4, q5⟩, st⟩ := K m meth c A g ig mk a X hg hsize hdg hW hn hp
    obtain ⟨r1, r2, r3⟩ := hQ _ _ _ q1
    have C1 : CHr Z EL vm0 h vm0 P.U.heap := CHr.keep r2 (fun x hx => (b5 x (hws x hx)).2) b4.1
    have C2 : CHr Z EL vm0 P.U.heap P.U.vm P.U.heap := CHv.at X' hZ b3 C1.1
    exact ⟨v, P, X'.retabled X'.warmed.wide, X'.warmed.since _, by rw [hp.2.1]; exact r2.1, ⟨L', [], r3, b0.keep r2 hw0, r1, q3, q4, q5, C1.trans C2, fun x hx => nomatch hx⟩, st⟩
/-! String constants -/
theorem Go.ldcL {index : Nat} {text : String} {vs : List Value} {z : Int32} (n : Nat) (pc' : Nat) (hd : decode bytes pc = .ok (.ldc index, 2)) (hp : pc + 2 = pc') (w : (Jvm.Cond.stringLink own index text).before a0 Z = true) (wS : ∀ a ∈ Bundle.stringAtoms, a.before a0 Z = true) (hmem : (own, index) ∈ EL)
    (ht : (∀ c ∈ text.toList, c.toNat < 256) ∧ text.toList.map (fun c => Value.int (Jvm.Lit.byteI c.toNat.toUInt16)) = vs) (hz : ¬ z < 0) (hl : z.toNatClampNeg = vs.length) (hn : 4 * text.toList.length ≤ n) (hbig : n ≤ 536870912) (hc : cells + 2 ≤ R.cells) (hl' : slots + (n + 4) ≤ R.slots)
    (G : ∀ h' a b k, Ext h h' → Exa Z h' a "java/lang/String" → Fld Z h' a "java/lang/String" "coder" "B" (.int 0) → Fld Z h' a "java/lang/String" "value" "[B" (.ref b) → Arv Z h' b k .byte z vs (.int 0) → (∀ x ∈ sf, x ≠ a ∧ x ≠ b) → Go (some EL) l Z n0 R bytes ml ret own mn Ψ (cells + 2) (slots + (n + 4)) sf h' pc' L (.ref a :: S)) :
    Go (some EL) l Z n0 R bytes ml ret own mn Ψ cells slots sf h pc L S := by
  subst hp
  intro p e s m args below meth c vm0 T locs hx hby hml hr hlk hnm ho X eT hZ B N
  obtain ⟨b0, ⟨k0, b1, b2⟩, ⟨a1, b3⟩, b4, b5⟩ := B
  have hown : vm0.findClass own = some m.cls := by rw [hZ.alike.findClass]; exact ho
  obtain ⟨a, T', h', k1, b, k, X', e', E, hS, hk1, hZ', hown', x1, x2, x3, x4, x5, x6, C, -, hsf, st⟩ := ldcCH X hx hZ hown w wS eT b1 b2 b3 hmem b4.1 ht hz hl (g := mkF m pc L S) rfl (hb hby hd) hn hbig hc hl'
  obtain ⟨s₂, o, h1, r⟩ := G h' a b k E x1 x2 x3 x4 (fun x hx => hsf x (C.safe (b5 x hx).1 (b5 x hx).2)) p e s m args below meth c T'.vm T' locs hx hby hml hr hlk hnm ho X' e' hZ' ⟨b0.ext E, ⟨k1, hS, hk1⟩, ⟨a1, b3⟩, b4.trans C, fun x hx => ⟨Nat.lt_of_lt_of_le (b5 x hx).1 C.2.1, C.safe (b5 x hx).1 (b5 x hx).2⟩⟩ N
  exact ⟨s₂, o, st _ h1, r⟩
theorem ofNat_toInt {n : Nat} (q : n < 2147483648) : (Int32.ofNat n).toInt = (n : Int) := Int32.toInt_ofNat_of_lt (by omega)
theorem Ary.arv {a : Addr} {ty : FieldType} {vs : List Value} (A : Ary Z h a ty vs) (d : Value) : ∃ k, Arv Z h a k ty (Int32.ofNat vs.length) vs d := by
  obtain ⟨c, A, e1, e2, e3⟩ := A
  obtain ⟨q1, q2⟩ := clamp_of (ofNat_toInt e2)
  subst e1
  refine ⟨c.cls, c, A, rfl, by rw [q2]; simp, q1, fun k hk => ?_, fun i hi => ?_⟩
  · simp [List.getD, hk]
  · have : c.slots.toList.getD i d = c.slots[i] := by simp [List.getD, hi]
    rw [this]; exact e3 _ (by simp)
theorem Ary.ofArv {a : Addr} {ty : FieldType} {vs : List Value} {k : ClassId} {z : Int32} {d : Value} (A : Arv Z h a k ty z vs d) (hl : z.toNatClampNeg = vs.length) (hb31 : vs.length < 2147483648) : Ary Z h a ty vs := by
  obtain ⟨c, A, -, e2, -, e4, e5⟩ := A
  have hs : c.slots.size = vs.length := e2.trans hl
  have e1 : c.slots.toList = vs := by
    refine List.ext_getElem? fun i => ?_
    by_cases hi : i < vs.length
    · have := e4 i (by omega)
      simp only [List.getD, List.getElem?_eq_getElem hi, Option.getD_some] at this
      rw [List.getElem?_eq_getElem hi, ← this]; simp
    · rw [List.getElem?_eq_none (by simpa using by omega), List.getElem?_eq_none (by omega)]
  refine ⟨c, A, e1, hb31, fun v hv => ?_⟩
  obtain ⟨i, hi, rfl⟩ := List.mem_iff_getElem.mp hv
  have := e5 i (by omega)
  simpa [List.getD, List.getElem?_eq_getElem hi] using this
theorem fld_int {args : Array Value} {s : State} {t : Term} {O n d : String} {v : Int32} {a : Addr} (hv : (Jvm.Cond.eq (Term.field t O n d) (Term.int v)).value args s none s [] = some true) (ev : t.eval args s none [] s = some (.ref a)) : Fld s s.heap a O n d (.int v) := by
  obtain ⟨x, y, e1, e2, k1, k2⟩ := cmp_v (Or.inl hv)
  cases (Term.int_eval v).symm.trans e2
  obtain ⟨z, rfl⟩ := k2
  have := gotT (Cond.eq_ints e1 (Term.int_eval v)) hv
  subst this
  exact Fld.start ((fld_at ev).symm.trans e1)
theorem no_sub {C O K : String} {k : Nat} (w : (Jvm.Cond.superclass C O).before a0 Z = true) (w0 : (Jvm.Cond.noSuperclass O).before a0 Z = true) (wi : (Jvm.Cond.instantiable K k).before a0 Z = true) (hn : C ≠ K) (hn2 : O ≠ K) : ∃ c t, Z.vm.findClass C = some c ∧ Z.vm.findClass K = some t ∧ Z.vm.assignable c t = false := by
  obtain ⟨c, h0⟩ := found_sup w
  obtain ⟨p, kc, kp, h1, h2, h3, h4, h5, -, h7⟩ := Cond.superclass_spec h0 w
  obtain ⟨c', k', g1, g2, g3, -, -⟩ := Cond.noSuperclass_spec w0
  cases h1.symm.trans g1
  obtain ⟨t, kt, i1, i2, i3, i4, -⟩ := Cond.instantiable_spec wi
  have ne1 := ids_ne h0 i1 hn
  have ne2 := ids_ne g1 i1 hn2
  have i5 : kt.isInterface = false := by simp only [Bool.or_eq_false_iff] at i4; exact i4.1
  refine ⟨c, t, h0, i1, ?_⟩
  show Z.vm.assignableAux (255 + 1) c t = false
  have j1 : ∀ f, Z.vm.isSubclassAux f p t = false := fun f => by cases f <;> simp [Vm.isSubclassAux, ne2, g2, g3]
  have j2 : ∀ f, Z.vm.isSubclassAux f c t = false := fun f => by cases f <;> simp [Vm.isSubclassAux, ne1, h2, h4, j1]
  simp [Vm.assignableAux, ne1, h2, i2, h5, i3, i5, Vm.isSubclass, j2]
theorem range_take {vs : List Value} {i n : Nat} {dv : Value} (q : i + n ≤ vs.length) : (List.range n).map (fun k => vs.getD (i + k) dv) = (vs.drop i).take n := by
  refine List.ext_getElem (by simp; omega) fun k h1 h2 => ?_
  have hk : i + k < vs.length := by simp at h1; omega
  simp [List.getD, List.getElem?_eq_getElem hk]
/-- System.arraycopy between two arrays of one primitive kind -/
theorem Go.acopy {index : Nat} {a b : Addr} {ty : FieldType} {vs vd : List Value} {sp dp nn : Int32} {W : Nat} (i j n : Nat) (pc' : Nat) (hd : decode bytes pc = .ok (.invokestatic index, 3)) (hp : pc + 3 = pc') (w1 : (Jvm.Cond.methodLink own index Jvm.Stand.acN).before a0 Z = true) (w2 : (Jvm.Cond.native Jvm.Stand.acN).before a0 Z = true) (w3 : (Jvm.Cond.static Jvm.Stand.acN).before a0 Z = true) (w4 : (Jvm.Cond.initialized "java/lang/System").before a0 Z = true)
    (A : Ary Z h a ty vs) (B : Ary Z h b ty vd) (hty : refKind ty = false) (hi : sp.toInt = (i : Int)) (hj : dp.toInt = (j : Int)) (hn : nn.toInt = (n : Int)) (h4 : i + n ≤ vs.length) (h5 : j + n ≤ vd.length) (hb' : b ∈ sf) (hn0 : n0 ≤ b) (hsz : L.size = ml) (hf : 1 ≤ R.frames) (hW : (S.map fun v => v.category).sum ≤ W) (hlo : W + (nativeFrameWords "java/lang/System" "arraycopy" 5 + 11) ≤ R.locals)
    (G : ∀ h', Keep h h' [b] → Ary Z h' b ty (vd.take j ++ (vs.drop i).take n ++ vd.drop (j + n)) → Go md l Z n0 R bytes ml ret own mn Ψ cells slots sf h' pc' L S) : Go md l Z n0 R bytes ml ret own mn Ψ cells slots sf h pc L (.int nn :: .int dp :: .ref b :: .int sp :: .ref a :: S) := by
  subst hp
  intro p e s m args below meth c vm0 T locs hx hby hml hr hlk hnm ho X eT hZ B0 N
  obtain ⟨i1, i2⟩ := clamp_of hi
  obtain ⟨j1, j2⟩ := clamp_of hj
  obtain ⟨n1, n2⟩ := clamp_of hn
  have la : vs.length < 2147483648 := by obtain ⟨_, _, _, q, _⟩ := A; exact q
  have lb : vd.length < 2147483648 := by obtain ⟨_, _, _, q, _⟩ := B; exact q
  obtain ⟨ka, KA⟩ := A.arv (.int 0)
  obtain ⟨kb, KB⟩ := B.arv (.int 0)
  have za := (clamp_of (ofNat_toInt la)).2
  have zb := (clamp_of (ofNat_toInt lb)).2
  obtain ⟨T', h', L', X', e', N', K, B', st⟩ := cpA X hx hZ (by rw [show (s.setVm vm0).vm = vm0 from rfl, hZ.alike.findClass]; exact ho) w1 w2 w3 w4 eT (us := (vs.drop i).take n) KA KB (Or.inl ⟨rfl, hty⟩) i1 j1 n1 (by rw [i2, n2, za]; exact h4) (by rw [j2, n2, zb]; exact h5) (by rw [i2, n2]; exact (range_take h4).symm) (by rw [j2, n2]; exact h5) N hn0 (g := mkF m pc L (.int nn :: .int dp :: .ref b :: .int sp :: .ref a :: S)) rfl (hsz.trans hml.symm) rfl (hb hby hd) hf (W := W) (by simpa using hW) hlo
  rw [j2, n2] at B'
  have lz : (vd.take j ++ (vs.drop i).take n ++ vd.drop (j + n)).length = vd.length := by simp; omega
  obtain ⟨s₂, o, h1, r⟩ := G h' K (Ary.ofArv B' (by rw [zb, lz]) (by rw [lz]; exact lb)) p e s m args below meth c vm0 T' L' hx hby hml hr hlk hnm ho X' e' hZ (B0.keep K (sub1 hb') (fun y hy => by cases List.mem_singleton.mp hy; exact hn0)) N'
  exact ⟨s₂, o, st _ h1, r⟩
/-- one place of an array known -/
def At1 (Z : State) (h : Heap) (a : Addr) (ty : FieldType) (i : Nat) (v : Value) : Prop := ∃ c : Cell, Arr Z h a c ty ∧ c.slots[i]? = some v
theorem At1.ext {a : Addr} {ty : FieldType} {i : Nat} {v : Value} (A : At1 Z h a ty i v) (E : Ext h h') : At1 Z h' a ty i v := by obtain ⟨c, A, r⟩ := A; exact ⟨c, A.ext E, r⟩
theorem Go.laload1 {a : Addr} {j : Int32} (i : Nat) {v : Value} (pc' : Nat) (hd : decode bytes pc = .ok (.laload, 1)) (hp : pc + 1 = pc') (A : At1 Z h a .long i v) (hj : j.toInt = (i : Int)) (G : Go md l Z n0 R bytes ml ret own mn Ψ cells slots sf h pc' L (v :: S)) :
    Go md l Z n0 R bytes ml ret own mn Ψ cells slots sf h pc L (.int j :: .ref a :: S) := by
  subst hp
  obtain ⟨c0, A, e1⟩ := A
  obtain ⟨q1, q2⟩ := clamp_of hj
  have hi := (Array.getElem?_eq_some_iff.mp e1).1
  exact Go.warm _ (fun p e s m args below meth c T locs hx hby hml hZ hown X eT => ⟨T, X, eT, fun target k => X.laload hx (by rw [eT]; exact A.1) (State.isArrayOf_alike hZ.alike A.2.1) A.2.2 (by rw [q2]; rintro (z | z); exact q1 z; omega) (by rw [q2]; exact e1) (g := mkF m pc L (.int j :: .ref a :: S)) rfl rfl (hb hby hd) target k⟩) G
/-! arrays of references, longs stored, switches -/
/-- the array at a is one over the class C -/
def Ova (Z : State) (h : Heap) (a : Addr) (C : String) : Prop := ∃ c : Cell, h[a]? = some c ∧ Ovr Z c.cls C
theorem Ova.ext {a : Addr} {C : String} (O : Ova Z h a C) (E : Ext h h') : Ova Z h' a C := by obtain ⟨c, q, r⟩ := O; exact ⟨c, E.2 _ _ q, r⟩
theorem Ova.wr {a b : Addr} {C : String} {sl : Nat} {v : Value} (O : Ova Z h a C) (W : Wr h h' b sl v) : Ova Z h' a C := by
  obtain ⟨c, q, r⟩ := O
  obtain ⟨c', e1, e2, -⟩ := wr_at W q
  exact ⟨c', e1, by rw [e2]; exact r⟩
theorem Ova.keep {a : Addr} {C : String} {ws : List Addr} (O : Ova Z h a C) (K : Keep h h' ws) : Ova Z h' a C := by
  obtain ⟨c, q, r⟩ := O
  obtain ⟨c', e1, e2, -⟩ := K.2.2 a c q
  exact ⟨c', e1, by rw [e2]; exact r⟩
theorem sto_of {a y : Addr} {ty : FieldType} {C : String} {vs : List Value} (A : Ary Z h a ty vs) (O : Ova Z h a C) (I : Ins Z h y C true) : Sto Z h a (.ref y) := by
  obtain ⟨c, A, -⟩ := A
  obtain ⟨c', q, r⟩ := O
  cases A.1.symm.trans q
  exact Sto.of A r I
theorem Go.newR {C : String} {index : Nat} {n : Int32} (k : Nat) (pc' : Nat) (hd : decode bytes pc = .ok (.anewarray index, 3)) (hp : pc + 3 = pc') (w1 : (Jvm.Cond.classLink own index C).before a0 Z = true) (w2 : (Jvm.Cond.arrayOver (.object C)).before a0 Z = true) (hk : n.toInt = (k : Int)) (cap : Nat) (hcap : k ≤ cap) (hb8 : cap * 8 ≤ 536870912) (hc : cells + 1 ≤ R.cells) (hl : slots + cap ≤ R.slots)
    (G : ∀ h' x, h.size = x → n0 ≤ x → Ext h h' → x < h'.size → Ary Z h' x (.object C) (List.replicate k .null) → Ova Z h' x C → Go md l Z n0 R bytes ml ret own mn Ψ (cells + 1) (slots + cap) (x :: sf) h' pc' L (.ref x :: S)) :
    Go md l Z n0 R bytes ml ret own mn Ψ cells slots sf h pc L (.int n :: S) := by
  subst hp
  obtain ⟨q1, q2⟩ := clamp_of hk
  intro p e s m args below meth c vm0 T locs hx hby hml hr hlk hn ho X eT hZ B N
  obtain ⟨T', h', cA, X', e', E, A, O, st⟩ := Jvm.RoadKit.newR X hx hZ (by rw [show (s.setVm vm0).vm = vm0 from rfl, hZ.alike.findClass]; exact ho) w1 w2 eT (g := mkF m pc L (.int n :: S)) rfl (hb hby hd) rfl q1 (cap := cap) (by rw [q2]; exact hcap) hb8 hc hl
  have A' : Ary Z h' h.size (.object C) (List.replicate k .null) := ⟨_, A, by simp [Jvm.RoadKit.newA, q2, defaultValue], by simp; omega, fun v hv => by
    rw [(List.mem_replicate.mp hv).2]; rfl⟩
  obtain ⟨s₂, o, h1, r⟩ := G h' _ rfl B.n0le E A'.lt A' ⟨_, A.1, O⟩ p e s m args below meth c vm0 T' locs hx hby hml hr hlk hn ho X' e' hZ (B.new E A'.lt (Nat.le_refl _)) N
  exact ⟨s₂, o, st _ h1, r⟩
theorem Go.aastore {a : Addr} {C : String} {vs : List Value} {j : Int32} {v : Value} (i : Nat) (pc' : Nat) (hd : decode bytes pc = .ok (.aastore, 1)) (hp : pc + 1 = pc') (A : Ary Z h a (.object C) vs) (hj : j.toInt = (i : Int)) (hi : i < vs.length) (F : Sto Z h a v) (hf : fits (.object C) v = true) (ha : a ∈ sf) (hn0 : n0 ≤ a)
    (G : ∀ h', Wr h h' a i v → Ary Z h' a (.object C) (vs.set i v) → Go md l Z n0 R bytes ml ret own mn Ψ cells slots sf h' pc' L S) : Go md l Z n0 R bytes ml ret own mn Ψ cells slots sf h pc L (v :: .int j :: .ref a :: S) := by
  subst hp
  obtain ⟨c0, A0, e1, e2, e3⟩ := A
  obtain ⟨-, q2⟩ := clamp_of hj
  exact Go.write _ ha hn0 (sl := i) (fun p e s m args below meth c T locs hx hby hml hnm hZ hown X eT => by rw [← q2]; exact stR X hx hZ eT A0 (Ary.inb (a := a) (ty := .object C) e1 hj hi) rfl F (g := mkF m pc L (v :: .int j :: .ref a :: S)) rfl rfl (hb hby hd)) (fun h' W => G h' W (Ary.set W ⟨c0, A0, e1, e2, e3⟩ hf))
theorem Go.lastore {a : Addr} {vs : List Value} {j : Int32} {x : Int64} (i : Nat) (pc' : Nat) (hd : decode bytes pc = .ok (.lastore, 1)) (hp : pc + 1 = pc') (A : Ary Z h a .long vs) (hj : j.toInt = (i : Int)) (hi : i < vs.length) (ha : a ∈ sf) (hn0 : n0 ≤ a)
    (G : ∀ h', Wr h h' a i (.long x) → Ary Z h' a .long (vs.set i (.long x)) → Go md l Z n0 R bytes ml ret own mn Ψ cells slots sf h' pc' L S) : Go md l Z n0 R bytes ml ret own mn Ψ cells slots sf h pc L (.long x :: .int j :: .ref a :: S) := by
  subst hp
  obtain ⟨c0, A0, e1, e2, e3⟩ := A
  obtain ⟨-, q2⟩ := clamp_of hj
  exact Go.write _ ha hn0 (sl := i) (fun p e s m args below meth c T locs hx hby hml hnm hZ hown X eT => by rw [← q2]; exact stJ X hx hZ eT A0 (Ary.inb (a := a) (ty := .long) e1 hj hi) (g := mkF m pc L (.long x :: .int j :: .ref a :: S)) rfl rfl (hb hby hd)) (fun h' W => G h' W (Ary.set W ⟨c0, A0, e1, e2, e3⟩ rfl))
theorem Go.dup2 {v w : Value} (pc' : Nat) (hd : decode bytes pc = .ok (.dup2, 1)) (hp : pc + 1 = pc') (hv : v.category = 1) (hw : w.category = 1) (G : Go md l Z n0 R bytes ml ret own mn Ψ cells slots sf h pc' L (v :: w :: v :: w :: S)) : Go md l Z n0 R bytes ml ret own mn Ψ cells slots sf h pc L (v :: w :: S) := by
  subst hp; exact Go.pure _ (fun p e below T target m c A hx hby k => Jvm.Free.XT.dup2 A hx rfl (hb hby hd) rfl hv hw k) G
theorem Go.lswY {k : Int32} {default : Int} {pairs : Array (Int × Int)} {len : Nat} {b off : Int} (pc' : Nat) (hd : decode bytes pc = .ok (.lookupswitch default pairs, len)) (hs : (pairs.toList.zip (pairs.toList.drop 1)).all (fun (a, next) => a.1 < next.1) = true) (hf : pairs.find? (·.1 == k.toInt) = some (b, off)) (h0 : 0 ≤ (pc : Int) + off) (hp : ((pc : Int) + off).toNat = pc')
    (G : Go md l Z n0 R bytes ml ret own mn Ψ cells slots sf h pc' L S) : Go md l Z n0 R bytes ml ret own mn Ψ cells slots sf h pc L (.int k :: S) := by
  subst hp
  exact Go.warm _ (fun p e s m args below meth c T locs hx hby hml hZ hown X eT => ⟨T, X, eT, fun target q => X.lookupswitchHit hx (g := mkF m pc L (.int k :: S)) rfl rfl (hb hby hd) hs hf h0 target q⟩) G
theorem Go.lswN {k : Int32} {default : Int} {pairs : Array (Int × Int)} {len : Nat} (pc' : Nat) (hd : decode bytes pc = .ok (.lookupswitch default pairs, len)) (hs : (pairs.toList.zip (pairs.toList.drop 1)).all (fun (a, next) => a.1 < next.1) = true) (hf : pairs.find? (·.1 == k.toInt) = none) (h0 : 0 ≤ (pc : Int) + default) (hp : ((pc : Int) + default).toNat = pc')
    (G : Go md l Z n0 R bytes ml ret own mn Ψ cells slots sf h pc' L S) : Go md l Z n0 R bytes ml ret own mn Ψ cells slots sf h pc L (.int k :: S) := by
  subst hp
  exact Go.warm _ (fun p e s m args below meth c T locs hx hby hml hZ hown X eT => ⟨T, X, eT, fun target q => X.lookupswitchMiss hx (g := mkF m pc L (.int k :: S)) rfl rfl (hb hby hd) hs hf h0 target q⟩) G
theorem Go.tswY {k : Int32} {default low high : Int} {offs : Array Int} {len : Nat} {off : Int} (pc' : Nat) (hd : decode bytes pc = .ok (.tableswitch default low high offs, len)) (hi : ¬ (k.toInt < low ∨ k.toInt > high)) (hf : offs[(k.toInt - low).toNat]? = some off) (h0 : 0 ≤ (pc : Int) + off) (hp : ((pc : Int) + off).toNat = pc')
    (G : Go md l Z n0 R bytes ml ret own mn Ψ cells slots sf h pc' L S) : Go md l Z n0 R bytes ml ret own mn Ψ cells slots sf h pc L (.int k :: S) := by
  subst hp
  exact Go.warm _ (fun p e s m args below meth c T locs hx hby hml hZ hown X eT => ⟨T, X, eT, fun target q => X.tableswitchIn hx (g := mkF m pc L (.int k :: S)) rfl rfl (hb hby hd) hi hf h0 target q⟩) G
theorem Go.getFN {R0 O n d host : String} {index : Nat} {a : Addr} {v : Value} (pc' : Nat) (hd : decode bytes pc = .ok (.getfield index, 3)) (hp : pc + 3 = pc') (w : (Jvm.Cond.fieldLinkNest own index R0 n d host).before a0 Z = true) (via : Via Z R0 O n d) (F : Fld Z h a O n d v) (G : Go md l Z n0 R bytes ml ret own mn Ψ cells slots sf h pc' L (v :: S)) :
    Go md l Z n0 R bytes ml ret own mn Ψ cells slots sf h pc L (.ref a :: S) := by
  subst hp; exact Go.warm _ (fun p e s m args below meth c T locs hx hby hml hZ hown X eT => Jvm.RoadKit.getF X hx hZ hown (Or.inr w) via eT F (g := mkF m pc L (.ref a :: S)) rfl rfl (hb hby hd)) G
/-- without String constants every address may be written that is new -/
theorem Go.sfN (sf' : List Addr) (G : Go none l Z n0 R bytes ml ret own mn Ψ cells slots sf' h pc L S) : Go none l Z n0 R bytes ml ret own mn Ψ cells slots sf h pc L S := by
  intro p e s m args below meth c vm0 T locs hx hby hml hr hlk hn ho X eT hZ B N
  exact G p e s m args below meth c vm0 T locs hx hby hml hr hlk hn ho X eT hZ B N
theorem Go.callP {y : MethodName} {index maxY kc ks W : Nat} {bytesY : ByteArray} {retY : Option FieldType} {C : String} {sfc : List Addr} {Q : Option Value → Heap → List Addr → Prop} {St : List Value} {a : Addr} (pc' : Nat) (argsL : List Value) (hd : decode bytes pc = .ok (.invokevirtual index, 3)) (hp : pc + 3 = pc') (hst : St = argsL.reverse ++ .ref a :: S)
    (wl : (Jvm.Cond.methodLink own index y).before a0 Z = true) (ws : (Jvm.Cond.instanceMethod y).before a0 Z = true) (wse : (Jvm.Cond.selects y.cls y y).before a0 Z = true) (wp : (Jvm.Cond.privateMethod y).before a0 Z = true) (wc : (Jvm.Cond.code y bytesY maxY retY).before a0 Z = true) (hy : y.cls ≠ "java/lang/invoke/MethodHandle" ∧ y.cls ≠ "java/lang/invoke/VarHandle")
    (E : Exa Z h a C) (hC : Call md l Z n0 R y 3 W (.ref a :: argsL).toArray h sfc kc ks Q) (hlen : ∀ sig, parseMethodDescriptor y.desc = some sig → argsL.length = sig.parameters.length) (hW : (S.map fun v => v.category).sum ≤ W) (hsz : L.size = ml) (hc : cells + kc ≤ R.cells) (hs : slots + ks ≤ R.slots) (hsf : ∀ x ∈ sfc, x ∈ sf)
    (G : ∀ v h' sf', Q v h' sf' → Go md l Z n0 R bytes ml ret own mn Ψ (cells + kc) (slots + ks) (sf' ++ sf) h' pc' L (v.toList ++ S)) : Go md l Z n0 R bytes ml ret own mn Ψ cells slots sf h pc L St := by
  subst hp; subst hst
  intro p e s m args below meth c vm0 T locs hx hby hml hr hlk hn ho X eT hZ B N
  have hown : (s.setVm vm0).vm.findClass own = some m.cls := by rw [show (s.setVm vm0).vm = vm0 from rfl, hZ.alike.findClass]; exact ho
  have K := hC p e below s vm0 args hZ (B.sub hsf)
  obtain ⟨cell, g1, g2⟩ := E.cell
  have g1' : T.heap[a]? = some cell := by rw [eT]; exact g1
  cases md with
  | none =>
    obtain ⟨v, vm₁, ⟨U, L1, c1, n1⟩, -, X', ⟨L', sf', q1, q0, q2, q3, q4, q5⟩, st⟩ := X.privateBack hx hown (mvT hZ wl) (mvT hZ ws) (mvT hZ wse) (Cond.privateMethod_at (mvP (args := args) (s := s.setVm vm0) hZ wp)) (mvT hZ wc) hy K (g := mkF m pc L (argsL.reverse ++ .ref a :: S)) rfl (hsz.trans hml.symm) (Steps.refl _) g1' g2 hlen rfl (by simpa using hW) (hb hby hd) (fun _ _ => ⟨rfl, eT, hc, hs⟩)
    dsimp only [Pt.U, Pt.locs, Pt.cells, Pt.slots] at q1 q0 q3 q4 q5 X' st
    subst q3 q4 q5
    obtain ⟨s₂, o, h1, r⟩ := G v U.heap sf' q1 p e s m args below meth c vm0 U _ hx hby hml hr hlk hn ho X' rfl hZ ⟨q0, B.2⟩ (N.app q2)
    exact ⟨s₂, o, st.trans h1, r⟩
  | some EL =>
    obtain ⟨v, vm₁, ⟨U, L1, c1, n1⟩, -, X', hS, hgr, ⟨L', sf', q1, q0, q2, q3, q4, q5, q6, q7⟩, st⟩ := X.privateBackS hx hown (mvT hZ wl) (mvT hZ ws) (mvT hZ wse) (Cond.privateMethod_at (mvP (args := args) (s := s.setVm vm0) hZ wp)) (mvT hZ wc) hy K (g := mkF m pc L (argsL.reverse ++ .ref a :: S)) rfl (hsz.trans hml.symm) (Steps.refl _) g1' g2 hlen rfl (by simpa using hW) (hb hby hd) (fun _ _ => ⟨rfl, eT, hc, hs⟩)
    dsimp only [Pt.U, Pt.locs, Pt.cells, Pt.slots] at q1 q0 q3 q4 q5 q6 q7 X' st hS hgr
    subst q3 q4 q5
    obtain ⟨s₂, o, h1, r⟩ := G v U.heap sf' q1 p e s m args below meth c U.vm U _ hx hby hml hr hlk hn ho X' rfl (State.Warmed39.trans (t := s.setVm vm0) hZ hS.1) (B.called hS q0 q6 q7) (N.app q2)
    exact ⟨s₂, o, st.trans h1, r⟩
theorem Go.ldcWI {index : Nat} {v : Int32} (pc' : Nat) (hd : decode bytes pc = .ok (.ldc_w index, 3)) (hp : pc + 3 = pc') (w : (Jvm.Cond.constant own index v).before a0 Z = true) (G : Go md l Z n0 R bytes ml ret own mn Ψ cells slots sf h pc' L (.int v :: S)) : Go md l Z n0 R bytes ml ret own mn Ψ cells slots sf h pc L S := by
  subst hp; exact Go.warm _ (fun p e s m args below meth c T locs hx hby hml hZ hown X eT => ⟨T, X, eT, fun target k => X.ldcWI (g := mkF m pc L S) hx hown (mvT hZ w) rfl (hb hby hd) k⟩) G
/-- ldc of a String constant of which nothing is asked -/
theorem Go.ldcO {EL : List (String × Nat)} {index : Nat} {text : String} (n : Nat) (pc' : Nat) (hd : decode bytes pc = .ok (.ldc index, 2)) (hp : pc + 2 = pc') (w : (Jvm.Cond.stringLink own index text).before a0 Z = true) (wS : ∀ a ∈ Bundle.stringAtoms, a.before a0 Z = true) (hn : 4 * text.toList.length ≤ n) (hbig : n ≤ 536870912) (hc : cells + 2 ≤ R.cells) (hl' : slots + (n + 4) ≤ R.slots)
    (G : ∀ h' a, Ext h h' → Go (some EL) l Z n0 R bytes ml ret own mn Ψ (cells + 2) (slots + (n + 4)) sf h' pc' L (.ref a :: S)) : Go (some EL) l Z n0 R bytes ml ret own mn Ψ cells slots sf h pc L S := by
  subst hp
  intro p e s m args below meth c vm0 T locs hx hby hml hr hlk hnm ho X eT hZ B N
  obtain ⟨b0, ⟨k0, b1, b2⟩, ⟨a1, b3⟩, b4, b5⟩ := B
  have hown : vm0.findClass own = some m.cls := by rw [hZ.alike.findClass]; exact ho
  obtain ⟨a, T', h', k1, X', e', E, hS, hk1, hZ', hown', C, -, st⟩ := ldcOH X hx hZ hown w wS eT b1 b2 b3 b4.1 (g := mkF m pc L S) rfl (hb hby hd) hn hbig hc hl'
  obtain ⟨s₂, o, h1, r⟩ := G h' a E p e s m args below meth c T'.vm T' locs hx hby hml hr hlk hnm ho X' e' hZ' ⟨b0.ext E, ⟨k1, hS, hk1⟩, ⟨a1, b3⟩, b4.trans C, fun x hx => ⟨Nat.lt_of_lt_of_le (b5 x hx).1 C.2.1, C.safe (b5 x hx).1 (b5 x hx).2⟩⟩ N
  exact ⟨s₂, o, st _ h1, r⟩
/-- newarray: the array's class by its name too -/
theorem Go.newE {aty : ArrayType} {n : Int32} {ty : FieldType} {C : String} (k : Nat) (pc' : Nat) (hd : decode bytes pc = .ok (.newarray aty, 2)) (hp : pc + 2 = pc') (hty : newarray.typeOf aty = ty) (hC : "[" ++ ty.toString = C) (w : (Jvm.Cond.arrayClass ty).before a0 Z = true) (hk : n.toInt = (k : Int)) (cap : Nat) (hcap : k ≤ cap) (hb8 : cap * 8 ≤ 536870912) (hc : cells + 1 ≤ R.cells) (hl : slots + cap ≤ R.slots)
    (G : ∀ h' x, h.size = x → n0 ≤ x → Ext h h' → x < h'.size → Ary Z h' x ty (List.replicate k (defaultValue ty)) → Exa Z h' x C → Go md l Z n0 R bytes ml ret own mn Ψ (cells + 1) (slots + cap) (x :: sf) h' pc' L (.ref x :: S)) :
    Go md l Z n0 R bytes ml ret own mn Ψ cells slots sf h pc L (.int n :: S) := by
  subst hp; subst hty; subst hC
  obtain ⟨q1, q2⟩ := clamp_of hk
  intro p e s m args below meth c vm0 T locs hx hby hml hr hlk hn ho X eT hZ B N
  obtain ⟨T', h', cA, X', e', E, A, EX, st⟩ := newPE X hx hZ w eT (g := mkF m pc L (.int n :: S)) rfl (hb hby hd) rfl q1 (cap := cap) (by rw [q2]; exact hcap) hb8 hc hl rfl
  have A' : Ary Z h' h.size (newarray.typeOf aty) (List.replicate k (defaultValue (newarray.typeOf aty))) := ⟨_, A, by simp [Jvm.RoadKit.newA, q2], by simp; omega, fun v hv => by
    rw [(List.mem_replicate.mp hv).2]; cases aty <;> rfl⟩
  obtain ⟨s₂, o, h1, r⟩ := G h' _ rfl B.n0le E A'.lt A' EX p e s m args below meth c vm0 T' locs hx hby hml hr hlk hn ho X' e' hZ (B.new E A'.lt (Nat.le_refl _)) N
  exact ⟨s₂, o, st _ h1, r⟩
/-- a virtual call whose name stands under the entry's class by inheritance (W-mode) -/
theorem Go.callU {EL : List (String × Nat)} {y z : MethodName} {index kc ks W : Nat} {C owner : String} {sfc : List Addr} {Q : Option Value → Heap → List Addr → Prop} {St : List Value} {a : Addr} (pc' : Nat) (argsL : List Value) (hd : decode bytes pc = .ok (.invokevirtual index, 3)) (hp : pc + 3 = pc') (hst : St = argsL.reverse ++ .ref a :: S)
    (wl : (Jvm.Cond.methodLink own index y).before a0 Z = true) (wsm : (Jvm.Cond.sameMethod y.cls owner y.name y.desc).before a0 Z = true) (wd : (Jvm.Cond.declares ⟨owner, y.name, y.desc⟩).before a0 Z = true) (wse : (Jvm.Cond.selects C y z).before a0 Z = true) (ws : (Jvm.Cond.instanceMethod z).before a0 Z = true) (hy : owner ≠ "java/lang/invoke/MethodHandle" ∧ owner ≠ "java/lang/invoke/VarHandle")
    (E : Exa Z h a C) (hC : Call (some EL) l Z n0 R z 3 W (.ref a :: argsL).toArray h sfc kc ks Q) (hlen : ∀ sig, parseMethodDescriptor y.desc = some sig → argsL.length = sig.parameters.length) (hW : (S.map fun v => v.category).sum ≤ W) (hsz : L.size = ml) (hc : cells + kc ≤ R.cells) (hs : slots + ks ≤ R.slots) (hsf : ∀ x ∈ sfc, x ∈ sf)
    (G : ∀ v h' sf', Q v h' sf' → Go (some EL) l Z n0 R bytes ml ret own mn Ψ (cells + kc) (slots + ks) (sf' ++ sf) h' pc' L (v.toList ++ S)) : Go (some EL) l Z n0 R bytes ml ret own mn Ψ cells slots sf h pc L St := by
  subst hp; subst hst
  intro p e s m args below meth c vm0 T locs hx hby hml hr hlk hn ho X eT hZ B N
  have hown : (s.setVm vm0).vm.findClass own = some m.cls := by rw [show (s.setVm vm0).vm = vm0 from rfl, hZ.alike.findClass]; exact ho
  have K := hC p e below s vm0 args hZ (B.sub hsf)
  obtain ⟨cB, kB, i1, -, i3⟩ := isOf (s := s.setVm vm0) hZ eT E
  obtain ⟨v, vm₁, ⟨U, L1, c1, n1⟩, -, X', hS, hgr, ⟨L', sf', q1, q0, q2, q3, q4, q5, q6, q7⟩, st⟩ := X.virtualBackUpS hx hown (mvT hZ wl) (mvT hZ wsm) (mvT hZ wd) hy (mvT hZ wse) (mvT hZ ws) K i1 i3 (g := mkF m pc L (argsL.reverse ++ .ref a :: S)) rfl (hsz.trans hml.symm) (Steps.refl _) hlen rfl (by simpa using hW) (hb hby hd) (fun _ _ => ⟨rfl, eT, hc, hs⟩)
  dsimp only [Pt.U, Pt.locs, Pt.cells, Pt.slots] at q1 q0 q3 q4 q5 q6 q7 X' st hS hgr
  subst q3 q4 q5
  obtain ⟨s₂, o, h1, r⟩ := G v U.heap sf' q1 p e s m args below meth c U.vm U _ hx hby hml hr hlk hn ho X' rfl (State.Warmed39.trans (t := s.setVm vm0) hZ hS.1) (B.called hS q0 q6 q7) (N.app q2)
  exact ⟨s₂, o, st.trans h1, r⟩
theorem Go.aaload1 {a : Addr} {j : Int32} {ty : FieldType} (i : Nat) {v : Value} (pc' : Nat) (hd : decode bytes pc = .ok (.aaload, 1)) (hp : pc + 1 = pc') (hty : ty.isReference = true) (A : At1 Z h a ty i v) (hj : j.toInt = (i : Int)) (G : Go md l Z n0 R bytes ml ret own mn Ψ cells slots sf h pc' L (v :: S)) :
    Go md l Z n0 R bytes ml ret own mn Ψ cells slots sf h pc L (.int j :: .ref a :: S) := by
  subst hp
  obtain ⟨c0, A, e1⟩ := A
  obtain ⟨q1, q2⟩ := clamp_of hj
  have hi := (Array.getElem?_eq_some_iff.mp e1).1
  exact Go.warm _ (fun p e s m args below meth c T locs hx hby hml hZ hown X eT => ⟨T, X, eT, fun target k => X.aaload hx (by rw [eT]; exact A.1) (State.isArrayOf_alike hZ.alike A.2.1) hty A.2.2 (by rw [q2]; rintro (z | z); exact q1 z; omega) (by rw [q2]; exact e1) (g := mkF m pc L (.int j :: .ref a :: S)) rfl rfl (hb hby hd) target k⟩) G
theorem cls_of_selects {C : String} {y : MethodName} (w : (Jvm.Cond.selects C y y).before a0 Z = true) : ∃ (c : ClassId) (k : Class), Z.vm.findClass y.cls = some c ∧ Z.vm.classes[c]? = some k ∧ k.isInterface = false := by
  obtain ⟨c2, r2, m2, q1, q2, q3, q4, kP, hkP, hkPi⟩ := Cond.selects_spec w
  exact ⟨_, kP, findClass_of_methodNamed q3, hkP, hkPi⟩
theorem same_self {y : MethodName} {c : ClassId} {k : Class} {mk : MethodId} (hc : Z.vm.findClass y.cls = some c) (hk : Z.vm.classes[c]? = some k) (hni : k.isInterface = false) (hn : Z.methodNamed? y = some mk) (hy : y.cls ≠ "java/lang/invoke/MethodHandle" ∧ y.cls ≠ "java/lang/invoke/VarHandle") : (Jvm.Cond.sameMethod y.cls y.cls y.name y.desc).before a0 Z = true := by
  have hf := State.methodFound?_of_named hn hy
  simp only [Cond.before, Cond.holds, Cond.value, hc, hf, hk]
  simp [hn, hni, hk]
/-- a private method by invokevirtual, the object of a subclass (W-mode) -/
theorem Go.callQ {EL : List (String × Nat)} {y : MethodName} {index maxY kc ks W : Nat} {bytesY : ByteArray} {retY : Option FieldType} {C D : String} {sfc : List Addr} {Q : Option Value → Heap → List Addr → Prop} {St : List Value} {a : Addr} (pc' : Nat) (argsL : List Value) (hd : decode bytes pc = .ok (.invokevirtual index, 3)) (hp : pc + 3 = pc') (hst : St = argsL.reverse ++ .ref a :: S)
    (wl : (Jvm.Cond.methodLink own index y).before a0 Z = true) (ws : (Jvm.Cond.instanceMethod y).before a0 Z = true) (wse : (Jvm.Cond.selects D y y).before a0 Z = true) (wp : (Jvm.Cond.privateMethod y).before a0 Z = true) (wc : (Jvm.Cond.code y bytesY maxY retY).before a0 Z = true) (hy : y.cls ≠ "java/lang/invoke/MethodHandle" ∧ y.cls ≠ "java/lang/invoke/VarHandle")
    (E : Exa Z h a C) (hC : Call (some EL) l Z n0 R y 3 W (.ref a :: argsL).toArray h sfc kc ks Q) (hlen : ∀ sig, parseMethodDescriptor y.desc = some sig → argsL.length = sig.parameters.length) (hW : (S.map fun v => v.category).sum ≤ W) (hsz : L.size = ml) (hc : cells + kc ≤ R.cells) (hs : slots + ks ≤ R.slots) (hsf : ∀ x ∈ sfc, x ∈ sf)
    (G : ∀ v h' sf', Q v h' sf' → Go (some EL) l Z n0 R bytes ml ret own mn Ψ (cells + kc) (slots + ks) (sf' ++ sf) h' pc' L (v.toList ++ S)) : Go (some EL) l Z n0 R bytes ml ret own mn Ψ cells slots sf h pc L St := by
  subst hp; subst hst
  intro p e s m args below meth c vm0 T locs hx hby hml hr hlk hn ho X eT hZ B N
  have hown : (s.setVm vm0).vm.findClass own = some m.cls := by rw [show (s.setVm vm0).vm = vm0 from rfl, hZ.alike.findClass]; exact ho
  have K := hC p e below s vm0 args hZ (B.sub hsf)
  obtain ⟨cell, g1, g2⟩ := E.cell
  have g1' : T.heap[a]? = some cell := by rw [eT]; exact g1
  obtain ⟨cc, kk, u1, u2, u3⟩ := cls_of_selects (Z := s.setVm vm0) (a0 := args) (mvT hZ wse)
  have hp' := Cond.privateMethod_at (mvP (args := args) (s := s.setVm vm0) hZ wp)
  obtain ⟨v, vm₁, ⟨U, L1, c1, n1⟩, -, X', hS, hgr, ⟨L', sf', q1, q0, q2, q3, q4, q5, q6, q7⟩, st⟩ := X.privateBackS hx hown (mvT hZ wl) (mvT hZ ws) (selects_self_of_private u1 u2 u3 hp' (mvT hZ ws) hy) hp' (mvT hZ wc) hy K (g := mkF m pc L (argsL.reverse ++ .ref a :: S)) rfl (hsz.trans hml.symm) (Steps.refl _) g1' g2 hlen rfl (by simpa using hW) (hb hby hd) (fun _ _ => ⟨rfl, eT, hc, hs⟩)
  dsimp only [Pt.U, Pt.locs, Pt.cells, Pt.slots] at q1 q0 q3 q4 q5 q6 q7 X' st hS hgr
  subst q3 q4 q5
  obtain ⟨s₂, o, h1, r⟩ := G v U.heap sf' q1 p e s m args below meth c U.vm U _ hx hby hml hr hlk hn ho X' rfl (State.Warmed39.trans (t := s.setVm vm0) hZ hS.1) (B.called hS q0 q6 q7) (N.app q2)
  exact ⟨s₂, o, st.trans h1, r⟩
/-- a super call (W-mode) -/
theorem Go.callSup {EL : List (String × Nat)} {y z : MethodName} {index maxY kc ks W : Nat} {bytesY : ByteArray} {retY : Option FieldType} {C D : String} {sfc : List Addr} {Q : Option Value → Heap → List Addr → Prop} {St : List Value} {a : Addr} (pc' : Nat) (argsL : List Value) (hd : decode bytes pc = .ok (.invokespecial index, 3)) (hp : pc + 3 = pc') (hst : St = argsL.reverse ++ .ref a :: S)
    (wl : (Jvm.Cond.methodLink own index y).before a0 Z = true) (ws : (Jvm.Cond.instanceMethod y).before a0 Z = true) (wse : (Jvm.Cond.selects D z z).before a0 Z = true) (hzy : z.cls = y.cls) (wsu : (Jvm.Cond.superclass own y.cls).before a0 Z = true) (hni : y.name ≠ "<init>") (wc : (Jvm.Cond.code y bytesY maxY retY).before a0 Z = true) (hy : y.cls ≠ "java/lang/invoke/MethodHandle" ∧ y.cls ≠ "java/lang/invoke/VarHandle")
    (E : Exa Z h a C) (hC : Call (some EL) l Z n0 R y 3 W (.ref a :: argsL).toArray h sfc kc ks Q) (hlen : ∀ sig, parseMethodDescriptor y.desc = some sig → argsL.length = sig.parameters.length) (hW : (S.map fun v => v.category).sum ≤ W) (hsz : L.size = ml) (hc : cells + kc ≤ R.cells) (hs : slots + ks ≤ R.slots) (hsf : ∀ x ∈ sfc, x ∈ sf)
    (G : ∀ v h' sf', Q v h' sf' → Go (some EL) l Z n0 R bytes ml ret own mn Ψ (cells + kc) (slots + ks) (sf' ++ sf) h' pc' L (v.toList ++ S)) : Go (some EL) l Z n0 R bytes ml ret own mn Ψ cells slots sf h pc L St := by
  subst hp; subst hst
  intro p e s m args below meth c vm0 T locs hx hby hml hr hlk hn ho X eT hZ B N
  have hown : (s.setVm vm0).vm.findClass own = some m.cls := by rw [show (s.setVm vm0).vm = vm0 from rfl, hZ.alike.findClass]; exact ho
  have K := hC p e below s vm0 args hZ (B.sub hsf)
  obtain ⟨cc, kk, u1, u2, u3⟩ := cls_of_selects wse
  rw [hzy] at u1
  obtain ⟨mk, methM, hnamed, hmethM, hstM, habM⟩ := Cond.instanceMethod_spec ws
  obtain ⟨v, vm₁, ⟨U, L1, c1, n1⟩, -, X', hS, hgr, ⟨L', sf', q1, q0, q2, q3, q4, q5, q6, q7⟩, st⟩ := superBackS X hx hZ hown wl (same_self u1 u2 u3 hnamed hy) ws wsu hni K eT (Ins.self E) (g := mkF m pc L (argsL.reverse ++ .ref a :: S)) rfl (hsz.trans hml.symm) wc hlen rfl (by simpa using hW) (hb hby hd) (fun _ _ => ⟨rfl, eT, hc, hs⟩)
  dsimp only [Pt.U, Pt.locs, Pt.cells, Pt.slots] at q1 q0 q3 q4 q5 q6 q7 X' st hS hgr
  subst q3 q4 q5
  obtain ⟨s₂, o, h1, r⟩ := G v U.heap sf' q1 p e s m args below meth c U.vm U _ hx hby hml hr hlk hn ho X' rfl (State.Warmed39.trans (t := s.setVm vm0) hZ hS.1) (B.called hS q0 q6 q7) (N.app q2)
  exact ⟨s₂, o, st.trans h1, r⟩
/-- an interface call (W-mode) -/
theorem Go.callI {EL : List (String × Nat)} {y z : MethodName} {index count kc ks W : Nat} {C : String} {sfc : List Addr} {Q : Option Value → Heap → List Addr → Prop} {St : List Value} {a : Addr} (pc' : Nat) (argsL : List Value) (hd : decode bytes pc = .ok (.invokeinterface index count, 5)) (hp : pc + 5 = pc') (hst : St = argsL.reverse ++ .ref a :: S)
    (wl : (Jvm.Cond.methodLink own index y).before a0 Z = true) (wd : (Jvm.Cond.declares y).before a0 Z = true) (wf : (Jvm.Cond.interfaceMethod y.cls y.cls y.name y.desc).before a0 Z = true) (wse : (Jvm.Cond.selects C y z).before a0 Z = true) (ws : (Jvm.Cond.instanceMethod z).before a0 Z = true) (wpb : (Jvm.Cond.publicMethod z).before a0 Z = true) (wu : (Jvm.Cond.unhidden C y.name y.desc).before a0 Z = true) (wca : (Jvm.Cond.castable C y.cls).before a0 Z = true) (hy : y.cls ≠ "java/lang/invoke/MethodHandle" ∧ y.cls ≠ "java/lang/invoke/VarHandle")
    (E : Exa Z h a C) (hC : Call (some EL) l Z n0 R z 5 W (.ref a :: argsL).toArray h sfc kc ks Q) (hlen : ∀ sig, parseMethodDescriptor y.desc = some sig → argsL.length = sig.parameters.length) (hW : (S.map fun v => v.category).sum ≤ W) (hsz : L.size = ml) (hc : cells + kc ≤ R.cells) (hs : slots + ks ≤ R.slots) (hsf : ∀ x ∈ sfc, x ∈ sf)
    (G : ∀ v h' sf', Q v h' sf' → Go (some EL) l Z n0 R bytes ml ret own mn Ψ (cells + kc) (slots + ks) (sf' ++ sf) h' pc' L (v.toList ++ S)) : Go (some EL) l Z n0 R bytes ml ret own mn Ψ cells slots sf h pc L St := by
  subst hp; subst hst
  intro p e s m args below meth c vm0 T locs hx hby hml hr hlk hn ho X eT hZ B N
  have hown : (s.setVm vm0).vm.findClass own = some m.cls := by rw [show (s.setVm vm0).vm = vm0 from rfl, hZ.alike.findClass]; exact ho
  have K := hC p e below s vm0 args hZ (B.sub hsf)
  obtain ⟨cB, kB, i1, i2, i3⟩ := isOf (s := s.setVm vm0) hZ eT E
  obtain ⟨v, vm₁, ⟨U, L1, c1, n1⟩, -, X', hS, hgr, ⟨L', sf', q1, q0, q2, q3, q4, q5, q6, q7⟩, st⟩ := X.interfaceBackS hx hown (mvT hZ wl) (mvT hZ wd) (mvT hZ wf (by simp [Cond.onTables, Cond.keepsFace, Cond.keeps, Cond.steady, Cond.faceAtom, hy.1, hy.2])) (mvT hZ wse) (mvT hZ ws) (mvT hZ wpb) (mvT hZ wu) (mvT hZ wca) hy K i1 i2 i3 (g := mkF m pc L (argsL.reverse ++ .ref a :: S)) rfl (hsz.trans hml.symm) (Steps.refl _) hlen rfl (by simpa using hW) (hb hby hd) (fun _ _ => ⟨rfl, eT, hc, hs⟩)
  dsimp only [Pt.U, Pt.locs, Pt.cells, Pt.slots] at q1 q0 q3 q4 q5 q6 q7 X' st hS hgr
  subst q3 q4 q5
  obtain ⟨s₂, o, h1, r⟩ := G v U.heap sf' q1 p e s m args below meth c U.vm U _ hx hby hml hr hlk hn ho X' rfl (State.Warmed39.trans (t := s.setVm vm0) hZ hS.1) (B.called hS q0 q6 q7) (N.app q2)
  exact ⟨s₂, o, st.trans h1, r⟩
/-- clone of an array -/
theorem Go.clone {index : Nat} {a : Addr} {ad : String} {ty : FieldType} {vs : List Value} {W : Nat} (pc' : Nat) (hd : decode bytes pc = .ok (.invokevirtual index, 3)) (hp : pc + 3 = pc') (w1 : (Jvm.Cond.methodLink own index ⟨ad, "clone", "()Ljava/lang/Object;"⟩).before a0 Z = true) (w2 : (Jvm.Cond.sameMethod ad "java/lang/Object" "clone" "()Ljava/lang/Object;").before a0 Z = true) (w3 : (Jvm.Cond.native ⟨"java/lang/Object", "clone", "()Ljava/lang/Object;"⟩).before a0 Z = true)
    (w4 : (Jvm.Cond.instanceMethod ⟨"java/lang/Object", "clone", "()Ljava/lang/Object;"⟩).before a0 Z = true) (w5 : (Jvm.Cond.selects ad ⟨ad, "clone", "()Ljava/lang/Object;"⟩ ⟨"java/lang/Object", "clone", "()Ljava/lang/Object;"⟩).before a0 Z = true) (w6 : (Jvm.Cond.castable ad "java/lang/Cloneable").before a0 Z = true)
    (A : Ary Z h a ty vs) (EX : Exa Z h a ad) (cap : Nat) (hcap : vs.length ≤ cap) (hsz : L.size = ml) (hf : 1 ≤ R.frames) (hW : (S.map fun v => v.category).sum ≤ W) (hlo : W + 14 ≤ R.locals) (hc : cells + 1 ≤ R.cells) (hl : slots + cap ≤ R.slots)
    (G : ∀ h' x, h.size = x → n0 ≤ x → Ext h h' → x < h'.size → Ary Z h' x ty vs → Exa Z h' x ad → Go md l Z n0 R bytes ml ret own mn Ψ (cells + 1) (slots + cap) (x :: sf) h' pc' L (.ref x :: S)) :
    Go md l Z n0 R bytes ml ret own mn Ψ cells slots sf h pc L (.ref a :: S) := by
  subst hp
  intro p e s m args below meth c vm0 T locs hx hby hml hr hlk hn ho X eT hZ B N
  have hown : (s.setVm vm0).vm.findClass own = some m.cls := by rw [show (s.setVm vm0).vm = vm0 from rfl, hZ.alike.findClass]; exact ho
  obtain ⟨c0, A0, e1, e2, e3⟩ := A
  have FC : FitC Z c0 := fitC_of A0 fun i hi v hv => e3 v (by rw [← e1]; exact Array.mem_toList_iff.mpr (Array.mem_of_getElem? hv))
  obtain ⟨T', h', X', e', E, A', EX', st⟩ := cloneA X hx hZ hown w1 w2 w3 w4 w5 w6 eT A0 EX FC (g := mkF m pc L (.ref a :: S)) rfl (hsz.trans hml.symm) rfl (hb hby hd) hf (W := W) (cap := cap) (by simpa using hW) hlo (by rw [← Array.length_toList, e1]; exact hcap) hc hl
  have A'' : Ary Z h' h.size ty vs := ⟨_, A', e1, e2, e3⟩
  obtain ⟨s₂, o, h1, r⟩ := G h' _ rfl B.n0le E A''.lt A'' EX' p e s m args below meth c vm0 T' locs hx hby hml hr hlk hn ho X' e' hZ (B.new E A''.lt (Nat.le_refl _)) N
  exact ⟨s₂, o, st _ h1, r⟩
theorem notFace_obj {args : Array Value} {s : State} {y : MethodName} (w : (Jvm.Cond.noSuperclass y.cls).before args s = true) : NotFace s y := fun r0 h0 => by
  obtain ⟨c, k, g1, g2, -, -, g5⟩ := Cond.noSuperclass_spec w
  cases g1.symm.trans (findClass_of_methodNamed h0)
  exact ⟨k, g2, g5⟩
theorem notFace_cls {args : Array Value} {s : State} {D : String} {y z : MethodName} (w : (Jvm.Cond.selects D z z).before args s = true) (e : z.cls = y.cls) : NotFace s y := fun r0 h0 => by
  obtain ⟨c, k, u1, u2, u3⟩ := cls_of_selects w
  rw [e] at u1
  cases u1.symm.trans (findClass_of_methodNamed h0)
  exact ⟨k, u2, u3⟩
end G
end GK
end Jvm.Pilot.@@N@@
/- laws to paste: Road.backV (cut by pick.py; bodies as the Statement names them) -/
namespace Jvm.Pilot.@@N@@
namespace StrChars
open Jvm Sem ClassFile Op Lib Jvm.Stand Jvm.Free.XT Jvm.Free.ALB Jvm.Free.JM Jvm.Free
open Jvm.Lib.Cold (StaticIs)
/-- a char array whose places are chars -/
def Ch (a : Addr) (A : Cell) (U : State) : Prop := Arr .char a A U ∧ Typed .char A
theorem Ch.mv {a : Addr} {A : Cell} {U U' : State} (h : Ch a A U) (hal : U.vm.Alike U'.vm) (hh : U'.heap = U.heap) : Ch a A U' := ⟨h.1.mv hal hh, h.2⟩
theorem Ch.keep {a : Addr} {A : Cell} {U U' : State} (h : Ch a A U) (hal : U.vm.Alike U'.vm) (hk : U'.heap[a]? = some A) : Ch a A U' := ⟨h.1.keep hal hk, h.2⟩
/-- what place i of a char[]'s cell holds -/
def cv (A : Cell) (i : Nat) : Int32 := match A.slots[i]? with | some (.int x) => x | _ => 0
theorem Ch.get {a : Addr} {A : Cell} {U : State} (h : Ch a A U) {i : Nat} (hi : i < A.slots.size) : A.slots[i]? = some (.int (cv A i)) := by
  have e := Array.getElem?_eq_getElem hi
  have f := h.2 i _ e
  unfold cv; rw [e]
  generalize A.slots[i] = v at f
  cases v <;> simp [fits] at f ⊢
/-- the byte that i2b leaves of a char -/
def lo8 (x : Int32) : Int32 := x.toInt8.toInt32
theorem fits_lo8 (y : Int32) : fits .byte (.int (lo8 y)) = true := by
  have h1 := y.toInt8.le_toInt
  have h2 := y.toInt8.toInt_lt
  simp only [lo8, fits, Bool.and_eq_true, decide_eq_true_eq, Int32.le_iff_toInt_le, Int8.toInt_toInt32, show (-128 : Int32).toInt = -128 from by decide, show (127 : Int32).toInt = 127 from by decide]
  omega
/-- A' is A but that each place j of lo .. hi - 1 holds f j -/
def Laid (A A' : Cell) (lo hi : Nat) (f : Nat → Value) : Prop := A'.cls = A.cls ∧ A'.vm = A.vm ∧ A'.slots.size = A.slots.size ∧ ∀ i, A'.slots[i]? = if lo ≤ i ∧ i < hi then some (f i) else A.slots[i]?
theorem Laid.zero (A : Cell) (lo : Nat) (f : Nat → Value) : Laid A A lo (lo + 0) f := ⟨rfl, rfl, rfl, fun i => by rw [if_neg (by omega)]⟩
theorem Laid.step {A Ak : Cell} {lo k : Nat} {f : Nat → Value} {v : Value} (h : Laid A Ak lo k f) (hlo : lo ≤ k) (hk : k < Ak.slots.size) (hv : v = f k) : Laid A (Ak.setSlot k v) lo (k + 1) f := by
  refine ⟨h.1, h.2.1, by simpa [Cell.setSlot] using h.2.2.1, fun i => ?_⟩
  by_cases e : k = i
  · subst e; rw [Cell.slots_setSlot_self v hk, if_pos (by omega), hv]
  · rw [Cell.slots_setSlot_ne v e, h.2.2.2 i]
    by_cases q : lo ≤ i ∧ i < k
    · rw [if_pos q, if_pos (by omega)]
    · rw [if_neg q, if_neg (by omega)]
def U16 : String := "java/lang/StringUTF16"
namespace Cmp5
def yN : MethodName := ⟨"java/lang/StringUTF16", "compress", "([CI[BII)I"⟩
abbrev yB : ByteArray := jdk_52_method_21_code
theorem d0 : decode yB 0 = .ok (.iconst 0, 1) := by decide +kernel
theorem d1 : decode yB 1 = .ok (.istore 5, 2) := by decide +kernel
theorem d3 : decode yB 3 = .ok (.iload 5, 2) := by decide +kernel
theorem d5 : decode yB 5 = .ok (.iload 4, 2) := by decide +kernel
theorem d7 : decode yB 7 = .ok (.if_icmp (.ge) 37, 3) := by decide +kernel
theorem d10 : decode yB 10 = .ok (.aload_n 0, 1) := by decide +kernel
theorem d11 : decode yB 11 = .ok (.iload_n 1, 1) := by decide +kernel
theorem d12 : decode yB 12 = .ok (.caload, 1) := by decide +kernel
theorem d13 : decode yB 13 = .ok (.istore 6, 2) := by decide +kernel
theorem d15 : decode yB 15 = .ok (.iload 6, 2) := by decide +kernel
theorem d17 : decode yB 17 = .ok (.sipush 255, 3) := by decide +kernel
theorem d20 : decode yB 20 = .ok (.if_icmp (.le) 6, 3) := by decide +kernel
theorem d26 : decode yB 26 = .ok (.aload_n 2, 1) := by decide +kernel
theorem d27 : decode yB 27 = .ok (.iload_n 3, 1) := by decide +kernel
theorem d28 : decode yB 28 = .ok (.iload 6, 2) := by decide +kernel
theorem d30 : decode yB 30 = .ok (.i2b, 1) := by decide +kernel
theorem d31 : decode yB 31 = .ok (.bastore, 1) := by decide +kernel
theorem d32 : decode yB 32 = .ok (.iinc 1 1, 3) := by decide +kernel
theorem d35 : decode yB 35 = .ok (.iinc 3 1, 3) := by decide +kernel
theorem d38 : decode yB 38 = .ok (.iinc 5 1, 3) := by decide +kernel
theorem d41 : decode yB 41 = .ok (.goto (-38), 3) := by decide +kernel
theorem d44 : decode yB 44 = .ok (.iload 4, 2) := by decide +kernel
theorem d46 : decode yB 46 = .ok (.ireturn, 1) := by decide +kernel
def site : List Cond := []
def tab : Cond := tabOf yN yB 7 (some .int) site
def P (b : Addr) (A : Cell) (d : Addr) (B : Cell) (o q len : Nat) (args : Array Value) (s : State) : Prop := args = #[.ref b, .int (Int32.ofNat o), .ref d, .int (Int32.ofNat q), .int (Int32.ofNat len)] ∧ Ch b A s ∧ Arr .byte d B s ∧ b ≠ d ∧ o + len ≤ A.slots.size ∧ q + len ≤ B.slots.size ∧ ∀ i, i < len → ¬ 255 < cv A (o + i)
def E (b : Addr) (A : Cell) (d : Addr) (B : Cell) (o q len : Nat) (r : Option Value) (s u : State) : Prop := r = some (.int (Int32.ofNat len)) ∧ ∃ B', Put d B' s u ∧ Laid B B' q (q + len) (fun j => Value.int (lo8 (cv A (o + (j - q)))))
/-- no char of the range above 255: len; the places written hold each char's low byte -/
theorem law (l : Launch) (b : Addr) (A : Cell) (d : Addr) (B : Cell) (o q len : Nat) : Law l yN 5 5 0 0 yB 7 (some .int) site (P b A d B o q len) (E b A d B o q len) (copyLocs d q len) 0 0 := by
  refine Law.of_walk (plainFor_of_name (by decide +kernel)) (by decide +kernel) (by decide +kernel) (by decide) (fun _ _ h => by rw [h.1]; rfl) (fun _ U U' hal hh h => ⟨h.1, h.2.1.mv hal hh, h.2.2.1.mv hal hh, h.2.2.2⟩) (fun r U U' V V' h1 hal h2 h => ⟨h.1, h.2.elim fun B' q => ⟨B', q.1.mv h1 h2, q.2⟩⟩) ?_
  intro p e s m args below meth c s₁ X0 hexec hbytes hml hret hlk hnm hown hh0 W hP
  obtain ⟨rfl, hA, hB, hne, l1, l2, hp⟩ := hP
  have c1 : Steps p.tables e below (s₁.setTop (entryFrame m #[.ref b, .int (Int32.ofNat o), .ref d, .int (Int32.ofNat q), .int (Int32.ofNat len)] 7)) (s₁.setTop (mkF m 0 #[.val (.ref b), .val (.int (Int32.ofNat o)), .val (.ref d), .val (.int (Int32.ofNat q)), .val (.int (Int32.ofNat len)), .unset, .unset] [])) := entry rfl
  have hA0 := hA.1.mv X0.warmed.alike hh0
  have hB0 := hB.mv X0.warmed.alike hh0
  have a31 := hA.1.2.2.2
  have c2 : Steps p.tables e below (s₁.setTop (entryFrame m #[.ref b, .int (Int32.ofNat o), .ref d, .int (Int32.ofNat q), .int (Int32.ofNat len)] 7)) (s₁.setTop (mkF m 3 #[.val (.ref b), .val (.int (Int32.ofNat o)), .val (.ref d), .val (.int (Int32.ofNat q)), .val (.int (Int32.ofNat len)), .val (.int 0), .unset] [])) := c1.trans (by
    refine iconstV X0.here hexec rfl 0 (hb hbytes d0) (by decide) ?_
    refine XS.istore X0.here hexec rfl (hb hbytes d1) rfl rfl ?_
    exact Steps.refl _)
  have loop : ∀ (r i : Nat), i + r = len → ∀ (z : Slot), (z = .unset ∨ ∃ w, z = .val w ∧ w.category = 1) → ∀ (Tl : State) (Bk : Cell), Stand p l e { frames := 0, locals := 0, cells := 0, slots := 0 } s m #[.ref b, .int (Int32.ofNat o), .ref d, .int (Int32.ofNat q), .int (Int32.ofNat len)] below meth c Tl ([] ++ copyLocs d q i) 0 0 → Put d Bk s₁ Tl → Laid B Bk q (q + i) (fun j => Value.int (lo8 (cv A (o + (j - q))))) →
      Steps p.tables e below (s₁.setTop (entryFrame m #[.ref b, .int (Int32.ofNat o), .ref d, .int (Int32.ofNat q), .int (Int32.ofNat len)] 7)) (Tl.setTop (mkF m 3 #[.val (.ref b), .val (.int (Int32.ofNat (o + i))), .val (.ref d), .val (.int (Int32.ofNat (q + i))), .val (.int (Int32.ofNat len)), .val (.int (Int32.ofNat i)), z] [])) → ∃ (T' : State) (B' : Cell) (z' : Slot), Stand p l e { frames := 0, locals := 0, cells := 0, slots := 0 } s m #[.ref b, .int (Int32.ofNat o), .ref d, .int (Int32.ofNat q), .int (Int32.ofNat len)] below meth c T' ([] ++ copyLocs d q len) 0 0 ∧ Put d B' s₁ T' ∧ Laid B B' q (q + len) (fun j => Value.int (lo8 (cv A (o + (j - q))))) ∧
      Steps p.tables e below (s₁.setTop (entryFrame m #[.ref b, .int (Int32.ofNat o), .ref d, .int (Int32.ofNat q), .int (Int32.ofNat len)] 7)) (T'.setTop (mkF m 3 #[.val (.ref b), .val (.int (Int32.ofNat (o + len))), .val (.ref d), .val (.int (Int32.ofNat (q + len))), .val (.int (Int32.ofNat len)), .val (.int (Int32.ofNat len)), z'] [])) := by
    intro r
    induction r with
    | zero =>
      intro i hi z hz Tl Bk Xl pl fl cl
      have hil : i = len := by omega
      rw [hil] at Xl fl cl
      exact ⟨Tl, Bk, z, Xl, pl, fl, cl⟩
    | succ r ih =>
      intro i hi z hz Tl Bk Xl pl fl cl
      have all := X0.warmed.alike.symm.trans Xl.warmed.alike
      have hAl := hA0.keep all (pl.other hne hA0.1)
      have hBk := hB0.like all pl.1 fl.1 fl.2.1 fl.2.2.1
      have hlt : q + i < Bk.slots.size := by rw [fl.2.2.1]; omega
      have c3 : Steps p.tables e below (s₁.setTop (entryFrame m #[.ref b, .int (Int32.ofNat o), .ref d, .int (Int32.ofNat q), .int (Int32.ofNat len)] 7)) (Tl.setTop (mkF m 12 #[.val (.ref b), .val (.int (Int32.ofNat (o + i))), .val (.ref d), .val (.int (Int32.ofNat (q + i))), .val (.int (Int32.ofNat len)), .val (.int (Int32.ofNat i)), z] [.int (Int32.ofNat (o + i)), .ref b])) := cl.trans (by
        refine XS.iload Xl.here hexec rfl (hb hbytes d3) rfl ?_
        refine XS.iload Xl.here hexec rfl (hb hbytes d5) rfl ?_
        refine XS.icmpNo Xl.here hexec rfl (hb hbytes d7) rfl (ii_ge_f (lt32 (by omega) (by omega))) ?_
        refine XS.aloadN Xl.here hexec rfl (hb hbytes d10) rfl rfl ?_
        refine XS.iloadN Xl.here hexec rfl (hb hbytes d11) rfl ?_
        exact Steps.refl _)
      have c4 : Steps p.tables e below (s₁.setTop (entryFrame m #[.ref b, .int (Int32.ofNat o), .ref d, .int (Int32.ofNat q), .int (Int32.ofNat len)] 7)) (Tl.setTop (mkF m 13 #[.val (.ref b), .val (.int (Int32.ofNat (o + i))), .val (.ref d), .val (.int (Int32.ofNat (q + i))), .val (.int (Int32.ofNat len)), .val (.int (Int32.ofNat i)), z] [.int (cv A (o + i))])) := c3.trans (by
        refine Xl.aget hexec hAl rfl (hA.get (i := o + i) (by omega)) rfl rfl (hb hbytes d12) ?_
        exact Steps.refl _)
      have c5 : Steps p.tables e below (s₁.setTop (entryFrame m #[.ref b, .int (Int32.ofNat o), .ref d, .int (Int32.ofNat q), .int (Int32.ofNat len)] 7)) (Tl.setTop (mkF m 15 #[.val (.ref b), .val (.int (Int32.ofNat (o + i))), .val (.ref d), .val (.int (Int32.ofNat (q + i))), .val (.int (Int32.ofNat len)), .val (.int (Int32.ofNat i)), .val (.int (cv A (o + i)))] [])) := c4.trans (by
        refine XS.istoreS Xl.here hexec rfl (hb hbytes d13) rfl rfl hz ?_
        exact Steps.refl _)
      have c6 : Steps p.tables e below (s₁.setTop (entryFrame m #[.ref b, .int (Int32.ofNat o), .ref d, .int (Int32.ofNat q), .int (Int32.ofNat len)] 7)) (Tl.setTop (mkF m 31 #[.val (.ref b), .val (.int (Int32.ofNat (o + i))), .val (.ref d), .val (.int (Int32.ofNat (q + i))), .val (.int (Int32.ofNat len)), .val (.int (Int32.ofNat i)), .val (.int (cv A (o + i)))] [.int (lo8 (cv A (o + i))), .int (Int32.ofNat (q + i)), .ref d])) := c5.trans (by
        refine XS.iload Xl.here hexec rfl (hb hbytes d15) rfl ?_
        refine sipushV Xl.here hexec rfl 255 (hb hbytes d17) (by decide) ?_
        refine XS.icmpYes Xl.here hexec rfl (pc0 := 20) rfl (hb hbytes d20) rfl (ii_le_t (hp i (by omega))) (by decide) rfl ?_
        refine XS.aloadN Xl.here hexec rfl (hb hbytes d26) rfl rfl ?_
        refine XS.iloadN Xl.here hexec rfl (hb hbytes d27) rfl ?_
        refine XS.iload Xl.here hexec rfl (hb hbytes d28) rfl ?_
        refine i2b Xl.here hexec rfl (hb hbytes d30) rfl ?_
        exact Steps.refl _)
      obtain ⟨T7, X7, p7, st7⟩ := Xl.aput hexec hBk rfl hlt rfl (fits_lo8 (cv A (o + i))) (g := (mkF m 31 #[.val (.ref b), .val (.int (Int32.ofNat (o + i))), .val (.ref d), .val (.int (Int32.ofNat (q + i))), .val (.int (Int32.ofNat len)), .val (.int (Int32.ofNat i)), .val (.int (cv A (o + i)))] [.int (lo8 (cv A (o + i))), .int (Int32.ofNat (q + i)), .ref d])) rfl (rest := []) rfl (hb hbytes d31)
      have c8 : Steps p.tables e below (s₁.setTop (entryFrame m #[.ref b, .int (Int32.ofNat o), .ref d, .int (Int32.ofNat q), .int (Int32.ofNat len)] 7)) (T7.setTop (mkF m 32 #[.val (.ref b), .val (.int (Int32.ofNat (o + i))), .val (.ref d), .val (.int (Int32.ofNat (q + i))), .val (.int (Int32.ofNat len)), .val (.int (Int32.ofNat i)), .val (.int (cv A (o + i)))] [])) := c6.trans (st7 _ (Steps.refl _))
      have c9 : Steps p.tables e below (s₁.setTop (entryFrame m #[.ref b, .int (Int32.ofNat o), .ref d, .int (Int32.ofNat q), .int (Int32.ofNat len)] 7)) (T7.setTop (mkF m 3 #[.val (.ref b), .val (.int (Int32.ofNat (o + i) + 1)), .val (.ref d), .val (.int (Int32.ofNat (q + i) + 1)), .val (.int (Int32.ofNat len)), .val (.int (Int32.ofNat i + 1)), .val (.int (cv A (o + i)))] [])) := c8.trans (by
        refine iincV X7.here hexec rfl 1 (hb hbytes d32) (by decide) rfl rfl ?_
        refine iincV X7.here hexec rfl 1 (hb hbytes d35) (by decide) rfl rfl ?_
        refine iincV X7.here hexec rfl 1 (hb hbytes d38) (by decide) rfl rfl ?_
        refine XS.goto X7.here hexec rfl (pc0 := 41) rfl (hb hbytes d41) (by decide) rfl ?_
        exact Steps.refl _)
      have c10 : Steps p.tables e below (s₁.setTop (entryFrame m #[.ref b, .int (Int32.ofNat o), .ref d, .int (Int32.ofNat q), .int (Int32.ofNat len)] 7)) (T7.setTop (mkF m 3 #[.val (.ref b), .val (.int (Int32.ofNat (o + (i + 1)))), .val (.ref d), .val (.int (Int32.ofNat (q + (i + 1)))), .val (.int (Int32.ofNat len)), .val (.int (Int32.ofNat (i + 1))), .val (.int (cv A (o + i)))] [])) := by
        have := c9
        rw [succ32, succ32, succ32] at this
        exact this
      exact ih (i + 1) (by omega) _ (Or.inr ⟨_, rfl, rfl⟩) T7 _ (by rw [copyLocs_step, ← List.append_assoc]; exact X7) (pl.trans p7) (fl.step (by omega) hlt (by simp)) c10
  obtain ⟨T9, B9, z9, X9, p9, f9, g9⟩ := loop len 0 (by omega) .unset (Or.inl rfl) s₁ B (by simpa [copyLocs] using X0) ⟨hB0.1, fun _ _ => rfl, rfl⟩ (Laid.zero _ _ _) c2
  have c11 : Steps p.tables e below (s₁.setTop (entryFrame m #[.ref b, .int (Int32.ofNat o), .ref d, .int (Int32.ofNat q), .int (Int32.ofNat len)] 7)) (T9.setTop (mkF m 46 #[.val (.ref b), .val (.int (Int32.ofNat (o + len))), .val (.ref d), .val (.int (Int32.ofNat (q + len))), .val (.int (Int32.ofNat len)), .val (.int (Int32.ofNat len)), z9] [.int (Int32.ofNat len)])) := g9.trans (by
    refine XS.iload X9.here hexec rfl (hb hbytes d3) rfl ?_
    refine XS.iload X9.here hexec rfl (hb hbytes d5) rfl ?_
    refine XS.icmpYes X9.here hexec rfl (pc0 := 7) rfl (hb hbytes d7) rfl (ii_ge_t (nlt32 (by omega) (Nat.le_refl _))) (by decide) rfl ?_
    refine XS.iload X9.here hexec rfl (hb hbytes d44) rfl ?_
    exact Steps.refl _)
  exact ⟨T9, some (.int (Int32.ofNat len)), _, _, _, X9, by simp, rfl, rfl, (fun h => by cases h), ⟨rfl, B9, p9.from hh0, f9⟩, fun fs hl => c11.trans (X9.ireturnOut hexec hret rfl (Or.inl rfl) (hb hbytes d46) hl)⟩
end Cmp5
namespace Cmp3
def yN : MethodName := ⟨"java/lang/StringUTF16", "compress", "([CII)[B"⟩
abbrev yB : ByteArray := jdk_52_method_16_code
theorem d0 : decode yB 0 = .ok (.iload_n 2, 1) := by decide +kernel
theorem d1 : decode yB 1 = .ok (.newarray .byte, 2) := by decide +kernel
theorem d3 : decode yB 3 = .ok (.astore_n 3, 1) := by decide +kernel
theorem d4 : decode yB 4 = .ok (.aload_n 0, 1) := by decide +kernel
theorem d5 : decode yB 5 = .ok (.iload_n 1, 1) := by decide +kernel
theorem d6 : decode yB 6 = .ok (.aload_n 3, 1) := by decide +kernel
theorem d7 : decode yB 7 = .ok (.iconst 0, 1) := by decide +kernel
theorem d8 : decode yB 8 = .ok (.iload_n 2, 1) := by decide +kernel
theorem d9 : decode yB 9 = .ok (.invokestatic 115, 3) := by decide +kernel
theorem d12 : decode yB 12 = .ok (.istore 4, 2) := by decide +kernel
theorem d14 : decode yB 14 = .ok (.iload 4, 2) := by decide +kernel
theorem d16 : decode yB 16 = .ok (.iload_n 2, 1) := by decide +kernel
theorem d17 : decode yB 17 = .ok (.if_icmp (.eq) 40, 3) := by decide +kernel
theorem d57 : decode yB 57 = .ok (.aload_n 3, 1) := by decide +kernel
theorem d58 : decode yB 58 = .ok (.areturn, 1) := by decide +kernel
def site : List Cond := [.arrayClass .byte, Cmp5.tab] ++ staticW U16 115 Cmp5.yN
def tab : Cond := tabOf yN yB 6 (some (.array .byte)) site
def P (b : Addr) (A : Cell) (o len : Nat) (args : Array Value) (s : State) : Prop := args = #[.ref b, .int (Int32.ofNat o), .int (Int32.ofNat len)] ∧ Ch b A s ∧ o + len ≤ A.slots.size ∧ len ≤ 536870912 ∧ ∀ i, i < len → ¬ 255 < cv A (o + i)
def E (b : Addr) (A : Cell) (o len : Nat) (r : Option Value) (s u : State) : Prop := NewArr .byte "[B" len (fun j => .int (lo8 (cv A (o + j)))) r s u ∧ u.heap.size = s.heap.size + 1
/-- no char of the range above 255: a new byte[] of their low bytes -/
theorem law (l : Launch) (b : Addr) (A : Cell) (o len : Nat) : Law l yN 3 3 1 18 yB 6 (some (.array .byte)) site (P b A o len) (E b A o len) [] 1 len := by
  refine Law.of_walk (plainFor_of_name (by decide +kernel)) (by decide +kernel) (by decide +kernel) (by decide) (fun _ _ h => by rw [h.1]; rfl) (fun _ U U' hal hh h => ⟨h.1, h.2.1.mv hal hh, h.2.2⟩) (fun r U U' V V' h1 hal h2 h => ⟨NewArr.mv r U U' V V' h1 hal h2 h.1, by rw [h1, h2]; exact h.2⟩) ?_
  intro p e s m args below meth c s₁ X0 hexec hbytes hml hret hlk hnm hown hh0 W hP
  obtain ⟨rfl, hA, l1, l2, hp⟩ := hP
  have a31 := hA.1.2.2.2
  have c1 : Steps p.tables e below (s₁.setTop (entryFrame m #[.ref b, .int (Int32.ofNat o), .int (Int32.ofNat len)] 6)) (s₁.setTop (mkF m 0 #[.val (.ref b), .val (.int (Int32.ofNat o)), .val (.int (Int32.ofNat len)), .unset, .unset, .unset] [])) := entry rfl
  have c2 : Steps p.tables e below (s₁.setTop (entryFrame m #[.ref b, .int (Int32.ofNat o), .int (Int32.ofNat len)] 6)) (s₁.setTop (mkF m 1 #[.val (.ref b), .val (.int (Int32.ofNat o)), .val (.int (Int32.ofNat len)), .unset, .unset, .unset] [.int (Int32.ofNat len)])) := c1.trans (by
    refine XS.iloadN X0.here hexec rfl (hb hbytes d0) rfl ?_
    exact Steps.refl _)
  obtain ⟨T3, B3, X3, ba3, bs3, bv3, bh3, bf3, st3⟩ := X0.anew hexec (atype := .byte) (wk W (.arrayClass .byte)) rfl (by show len * 1 ≤ _; omega) (by omega) (g := (mkF m 1 #[.val (.ref b), .val (.int (Int32.ofNat o)), .val (.int (Int32.ofNat len)), .unset, .unset, .unset] [.int (Int32.ofNat len)])) rfl (hb hbytes d1) (rest := []) rfl (Nat.le_refl _) (by show 0 + len ≤ len; omega)
  rw [hh0] at ba3 st3
  have kp3 : XT.Kept s T3 := (XT.Kept.of_eq hh0).push bh3
  have hA3 := hA.keep X3.warmed.alike (kp3 _ _ hA.1.1)
  have hne : b ≠ s.heap.size := hA.1.ne
  have c4 : Steps p.tables e below (s₁.setTop (entryFrame m #[.ref b, .int (Int32.ofNat o), .int (Int32.ofNat len)] 6)) (T3.setTop (mkF m 3 #[.val (.ref b), .val (.int (Int32.ofNat o)), .val (.int (Int32.ofNat len)), .unset, .unset, .unset] [.ref s.heap.size])) := c2.trans (st3 _ (Steps.refl _))
  have c5 : Steps p.tables e below (s₁.setTop (entryFrame m #[.ref b, .int (Int32.ofNat o), .int (Int32.ofNat len)] 6)) (T3.setTop (mkF m 9 #[.val (.ref b), .val (.int (Int32.ofNat o)), .val (.int (Int32.ofNat len)), .val (.ref s.heap.size), .unset, .unset] [.int (Int32.ofNat len), .int 0, .ref s.heap.size, .int (Int32.ofNat o), .ref b])) := c4.trans (by
    refine XS.astoreN X3.here hexec rfl (hb hbytes d3) rfl rfl rfl ?_
    refine XS.aloadN X3.here hexec rfl (hb hbytes d4) rfl rfl ?_
    refine XS.iloadN X3.here hexec rfl (hb hbytes d5) rfl ?_
    refine XS.aloadN X3.here hexec rfl (hb hbytes d6) rfl rfl ?_
    refine iconstV X3.here hexec rfl 0 (hb hbytes d7) (by decide) ?_
    refine XS.iloadN X3.here hexec rfl (hb hbytes d8) rfl ?_
    exact Steps.refl _)
  obtain ⟨v6, T6, X6, E6, g6⟩ := X3.callS hexec (Cmp5.law l b A s.heap.size B3 o 0 len) hown (wks W (staticW U16 115 Cmp5.yN)) (wk W Cmp5.tab) (W := 0) (Nat.le_of_ble_eq_true rfl) (Nat.le_of_ble_eq_true rfl) (Nat.le_refl _) (by show 0 + len + 0 ≤ len; omega) (g := (mkF m 9 #[.val (.ref b), .val (.int (Int32.ofNat o)), .val (.int (Int32.ofNat len)), .val (.ref s.heap.size), .unset, .unset] [.int (Int32.ofNat len), .int (Int32.ofNat 0), .ref s.heap.size, .int (Int32.ofNat o), .ref b])) rfl (by rw [hml]; rfl) c5 (argsL := [.ref b, .int (Int32.ofNat o), .ref s.heap.size, .int (Int32.ofNat 0), .int (Int32.ofNat len)]) (rest := []) rfl rfl (by show 2 * 0 + 0 ≤ _; decide) (hb hbytes d9) (⟨rfl, hA3, ba3, hne, l1, by rw [bs3]; simp, hp⟩)
  obtain ⟨rfl, B6, p6, f6⟩ := E6
  have c7 : Steps p.tables e below (s₁.setTop (entryFrame m #[.ref b, .int (Int32.ofNat o), .int (Int32.ofNat len)] 6)) (T6.setTop (mkF m 12 #[.val (.ref b), .val (.int (Int32.ofNat o)), .val (.int (Int32.ofNat len)), .val (.ref s.heap.size), .unset, .unset] [.int (Int32.ofNat len)])) := g6
  have c8 : Steps p.tables e below (s₁.setTop (entryFrame m #[.ref b, .int (Int32.ofNat o), .int (Int32.ofNat len)] 6)) (T6.setTop (mkF m 58 #[.val (.ref b), .val (.int (Int32.ofNat o)), .val (.int (Int32.ofNat len)), .val (.ref s.heap.size), .val (.int (Int32.ofNat len)), .unset] [.ref s.heap.size])) := c7.trans (by
    refine XS.istore X6.here hexec rfl (hb hbytes d12) rfl rfl ?_
    refine XS.iload X6.here hexec rfl (hb hbytes d14) rfl ?_
    refine XS.iloadN X6.here hexec rfl (hb hbytes d16) rfl ?_
    refine XS.icmpYes X6.here hexec rfl (pc0 := 17) rfl (hb hbytes d17) rfl (ii_eq_t rfl) (by decide) rfl ?_
    refine XS.aloadN X6.here hexec rfl (hb hbytes d57) rfl rfl ?_
    exact Steps.refl _)
  have X8 := X6.wide (L' := []) (cells' := 1) (slots' := len) (fun x hx hlt => by
    simp only [List.nil_append, copyLocs, List.mem_map, List.mem_range] at hx
    obtain ⟨i, -, rfl⟩ := hx
    exact absurd hlt (Nat.lt_irrefl _)) (Nat.le_refl _) (by omega)
  exact ⟨T6, some (.ref s.heap.size), _, _, _, X8, rfl, rfl, rfl, (fun h => by cases h), ⟨⟨rfl, B6, ba3.like (X3.warmed.alike.symm.trans X6.warmed.alike) p6.1 f6.1 f6.2.1 f6.2.2.1, f6.2.1.trans bv3, by rw [X6.warmed.alike.findClass, f6.1]; exact bf3, by rw [f6.2.2.1, bs3]; simp, fun j hj => by rw [f6.2.2.2 j, if_pos (by omega)]; rfl, kp3.put p6 (Nat.le_refl _)⟩, by rw [p6.2.2, bh3, hh0]; simp⟩, fun fs hl => c8.trans (X8.areturnOut hexec rfl hret rfl (hb hbytes d58) hl)⟩
end Cmp3
namespace CodL
def yN : MethodName := ⟨"java/lang/StringUTF16", "coderFromArrayLen", "([BI)B"⟩
abbrev yB : ByteArray := jdk_52_method_15_code
theorem d0 : decode yB 0 = .ok (.iload_n 1, 1) := by decide +kernel
theorem d1 : decode yB 1 = .ok (.aload_n 0, 1) := by decide +kernel
theorem d2 : decode yB 2 = .ok (.arraylength, 1) := by decide +kernel
theorem d3 : decode yB 3 = .ok (.isub, 1) := by decide +kernel
theorem d4 : decode yB 4 = .ok (.bipush 31, 2) := by decide +kernel
theorem d6 : decode yB 6 = .ok (.iushr, 1) := by decide +kernel
theorem d7 : decode yB 7 = .ok (.i2b, 1) := by decide +kernel
theorem d8 : decode yB 8 = .ok (.ireturn, 1) := by decide +kernel
def site : List Cond := []
def tab : Cond := tabOf yN yB 2 (some .byte) site
def P (d : Addr) (B : Cell) (args : Array Value) (s : State) : Prop := args = #[.ref d, .int (Int32.ofNat B.slots.size)] ∧ Arr .byte d B s
def E (r : Option Value) (s u : State) : Prop := XT.PureE (some (.int 0)) r s u
/-- an array as long as the number of chars: LATIN1 -/
theorem law (l : Launch) (d : Addr) (B : Cell) : Law l yN 2 2 0 0 yB 2 (some .byte) site (P d B) E [] 0 0 := by
  refine Law.of_walk (plainFor_of_name (by decide +kernel)) (by decide +kernel) (by decide +kernel) (by decide) (fun _ _ h => by rw [h.1]; rfl) (fun _ U U' hal hh h => ⟨h.1, h.2.mv hal hh⟩) (fun r U U' V V' h1 hal h2 h => XT.PureE.mv r U U' V V' h1 hal h2 h) ?_
  intro p e s m args below meth c s₁ X0 hexec hbytes hml hret hlk hnm hown hh0 W hP
  obtain ⟨rfl, hB⟩ := hP
  have hB0 := hB.mv X0.warmed.alike hh0
  have c1 : Steps p.tables e below (s₁.setTop (entryFrame m #[.ref d, .int (Int32.ofNat B.slots.size)] 2)) (s₁.setTop (mkF m 0 #[.val (.ref d), .val (.int (Int32.ofNat B.slots.size))] [])) := entry rfl
  have c2 : Steps p.tables e below (s₁.setTop (entryFrame m #[.ref d, .int (Int32.ofNat B.slots.size)] 2)) (s₁.setTop (mkF m 2 #[.val (.ref d), .val (.int (Int32.ofNat B.slots.size))] [.ref d, .int (Int32.ofNat B.slots.size)])) := c1.trans (by
    refine XS.iloadN X0.here hexec rfl (hb hbytes d0) rfl ?_
    refine XS.aloadN X0.here hexec rfl (hb hbytes d1) rfl rfl ?_
    exact Steps.refl _)
  have c3 : Steps p.tables e below (s₁.setTop (entryFrame m #[.ref d, .int (Int32.ofNat B.slots.size)] 2)) (s₁.setTop (mkF m 8 #[.val (.ref d), .val (.int (Int32.ofNat B.slots.size))] [.int (lo8 (ushr (Int32.ofNat B.slots.size - Int32.ofNat B.slots.size) 31))])) := c2.trans (by
    refine X0.alen hexec hB0 rfl rfl (hb hbytes d2) ?_
    refine XS.isub X0.here hexec rfl (hb hbytes d3) rfl ?_
    refine bipushV X0.here hexec rfl 31 (hb hbytes d4) (by decide) ?_
    refine iushr X0.here hexec rfl (hb hbytes d6) rfl ?_
    refine i2b X0.here hexec rfl (hb hbytes d7) rfl ?_
    exact Steps.refl _)
  have e0 : lo8 (ushr (Int32.ofNat B.slots.size - Int32.ofNat B.slots.size) 31) = 0 := by rw [Int32.sub_self]; decide
  rw [e0] at c3
  exact ⟨s₁, some (.int 0), _, _, _, X0, rfl, rfl, rfl, (fun h => by cases h), ⟨rfl, hh0⟩, fun fs hl => c3.trans (X0.ireturnOut hexec hret rfl (Or.inr (Or.inr (Or.inl rfl))) (hb hbytes d8) hl)⟩
end CodL
/-- the String at a is Latin-1 over a new byte[] (the heap's one new cell): the low bytes of the len chars of A from o on; every cell but a is kept -/
def Got (a : Addr) (D : Cell) (fV fC : Field) (A : Cell) (o len : Nat) (r : Option Value) (s u : State) : Prop := r = none ∧ ∃ D' V : Cell, Blank "java/lang/String" a D' u ∧ Same D D' [fV.slot, fC.slot] ∧ D'.slots[fV.slot]? = some (.ref s.heap.size) ∧ D'.slots[fC.slot]? = some (.int 0) ∧ Arr .byte s.heap.size V u ∧ V.vm = .none ∧ u.vm.findClass "[B" = some V.cls ∧ V.slots.size = len ∧ (∀ j, j < len → V.slots[j]? = some (.int (lo8 (cv A (o + j))))) ∧ (∀ (y : Addr) (c : Cell), y ≠ a → s.heap[y]? = some c → u.heap[y]? = some c) ∧ u.heap.size = s.heap.size + 1
theorem Got.mv {a : Addr} {D A : Cell} {fV fC : Field} {o len : Nat} : ∀ r (U U' V V' : State), U'.heap = U.heap → V.vm.Alike V'.vm → V'.heap = V.heap → Got a D fV fC A o len r U V → Got a D fV fC A o len r U' V' :=
  fun r U U' V V' h1 hal h2 ⟨e0, D', X, a1, a2, a3, a4, a5, a6, a7, a8, a9, a10, a11⟩ => ⟨e0, D', X, a1.mv hal h2, a2, by rw [h1]; exact a3, a4, by rw [h1]; exact a5.mv hal h2, a6, by rw [hal.findClass]; exact a7, a8, a9, by rw [h1, h2]; exact a10, by rw [h1, h2]; exact a11⟩
namespace New4
def yN : MethodName := ⟨"java/lang/String", "<init>", "([CIILjava/lang/Void;)V"⟩
abbrev yB : ByteArray := jdk_42_method_149_code
theorem d0 : decode yB 0 = .ok (.aload_n 0, 1) := by decide +kernel
theorem d1 : decode yB 1 = .ok (.invokespecial 1, 3) := by decide +kernel
theorem d4 : decode yB 4 = .ok (.iload_n 3, 1) := by decide +kernel
theorem d5 : decode yB 5 = .ok (.ifCond (.ne) 22, 3) := by decide +kernel
theorem d27 : decode yB 27 = .ok (.getstatic 38, 3) := by decide +kernel
theorem d30 : decode yB 30 = .ok (.ifCond (.eq) 28, 3) := by decide +kernel
theorem d33 : decode yB 33 = .ok (.aload_n 1, 1) := by decide +kernel
theorem d34 : decode yB 34 = .ok (.iload_n 2, 1) := by decide +kernel
theorem d35 : decode yB 35 = .ok (.iload_n 3, 1) := by decide +kernel
theorem d36 : decode yB 36 = .ok (.invokestatic 177, 3) := by decide +kernel
theorem d39 : decode yB 39 = .ok (.astore 5, 2) := by decide +kernel
theorem d41 : decode yB 41 = .ok (.aload_n 0, 1) := by decide +kernel
theorem d42 : decode yB 42 = .ok (.aload 5, 2) := by decide +kernel
theorem d44 : decode yB 44 = .ok (.iload_n 3, 1) := by decide +kernel
theorem d45 : decode yB 45 = .ok (.invokestatic 47, 3) := by decide +kernel
theorem d48 : decode yB 48 = .ok (.putfield 15, 3) := by decide +kernel
theorem d51 : decode yB 51 = .ok (.aload_n 0, 1) := by decide +kernel
theorem d52 : decode yB 52 = .ok (.aload 5, 2) := by decide +kernel
theorem d54 : decode yB 54 = .ok (.putfield 9, 3) := by decide +kernel
theorem d57 : decode yB 57 = .ok (.return_, 1) := by decide +kernel
def site : List Cond := [.fieldLink "java/lang/String" 38 "java/lang/String" "COMPACT_STRINGS" "Z", Cmp3.tab, CodL.tab, .laysFinal "java/lang/String" "java/lang/String" "value" "[B", .fieldLink "java/lang/String" 9 "java/lang/String" "value" "[B", .laysFinal "java/lang/String" "java/lang/String" "coder" "B", .fieldLink "java/lang/String" 15 "java/lang/String" "coder" "B"] ++ objW "java/lang/String" 1 ++ staticW "java/lang/String" 177 Cmp3.yN ++ staticW "java/lang/String" 47 CodL.yN
def tab : Cond := tabOf yN yB 6 none site
def P (a : Addr) (D : Cell) (fV fC : Field) (b : Addr) (A : Cell) (z : Int32) (o len : Nat) (args : Array Value) (s : State) : Prop := args = #[.ref a, .ref b, .int (Int32.ofNat o), .int (Int32.ofNat len), .null] ∧ Blank "java/lang/String" a D s ∧ Found "java/lang/String" "value" "[B" fV s ∧ Found "java/lang/String" "coder" "B" fC s ∧ Ch b A s ∧ StaticIs s "java/lang/String" "COMPACT_STRINGS" "Z" (.int z) ∧ ¬ z = 0 ∧ 0 < len ∧ o + len ≤ A.slots.size ∧ len ≤ 536870912 ∧ ∀ i, i < len → ¬ 255 < cv A (o + i)
def E (a : Addr) (D : Cell) (fV fC : Field) (A : Cell) (o len : Nat) (r : Option Value) (s u : State) : Prop := Got a D fV fC A o len r s u
/-- len > 0, no char of the range above 255: a Latin-1 String of their low bytes -/
theorem law (l : Launch) (a : Addr) (D : Cell) (fV fC : Field) (b : Addr) (A : Cell) (z : Int32) (o len : Nat) : Law l yN 5 4 2 35 yB 6 none site (P a D fV fC b A z o len) (E a D fV fC A o len) [⟨a, fC.slot⟩, ⟨a, fV.slot⟩] 1 len := by
  refine Law.of_walk (plainFor_of_name (by decide +kernel)) (by decide +kernel) (by decide +kernel) (by decide) (fun _ _ h => by rw [h.1]; rfl) (fun _ U U' hal hh h => ⟨h.1, h.2.1.mv hal hh, h.2.2.1.al hal, h.2.2.2.1.al hal, h.2.2.2.2.1.mv hal hh, h.2.2.2.2.2.1.there hal hh, h.2.2.2.2.2.2⟩) (fun r U U' V V' h1 hal h2 h => Got.mv r U U' V V' h1 hal h2 h) ?_
  intro p e s m args below meth c s₁ X0 hexec hbytes hml hret hlk hnm hown hh0 W hP
  obtain ⟨rfl, hB, f1, f2, hA, s1, hz, l0, l1, l2, hp⟩ := hP
  have a31 := hA.1.2.2.2
  have c1 : Steps p.tables e below (s₁.setTop (entryFrame m #[.ref a, .ref b, .int (Int32.ofNat o), .int (Int32.ofNat len), .null] 6)) (s₁.setTop (mkF m 0 #[.val (.ref a), .val (.ref b), .val (.int (Int32.ofNat o)), .val (.int (Int32.ofNat len)), .val .null, .unset] [])) := entry rfl
  have c2 : Steps p.tables e below (s₁.setTop (entryFrame m #[.ref a, .ref b, .int (Int32.ofNat o), .int (Int32.ofNat len), .null] 6)) (s₁.setTop (mkF m 1 #[.val (.ref a), .val (.ref b), .val (.int (Int32.ofNat o)), .val (.int (Int32.ofNat len)), .val .null, .unset] [.ref a])) := c1.trans (by
    refine XS.aloadN X0.here hexec rfl (hb hbytes d0) rfl rfl ?_
    exact Steps.refl _)
  obtain ⟨T3, X3, q3, st3⟩ := X0.oinit hexec hown (wks W (objW "java/lang/String" 1)) (g := (mkF m 1 #[.val (.ref a), .val (.ref b), .val (.int (Int32.ofNat o)), .val (.int (Int32.ofNat len)), .val .null, .unset] [.ref a])) rfl (by rw [hml]; rfl) (rest := []) rfl (hb hbytes d1) (W := 0) (by show 2 * 0 + 0 ≤ _; decide) (Nat.le_of_ble_eq_true rfl) (Nat.le_of_ble_eq_true rfl)
  have hh3 := q3.trans hh0
  have c4 : Steps p.tables e below (s₁.setTop (entryFrame m #[.ref a, .ref b, .int (Int32.ofNat o), .int (Int32.ofNat len), .null] 6)) (T3.setTop (mkF m 27 #[.val (.ref a), .val (.ref b), .val (.int (Int32.ofNat o)), .val (.int (Int32.ofNat len)), .val .null, .unset] [])) := (c2.trans (st3 _ (Steps.refl _))).trans (by
    refine XS.iloadN X3.here hexec rfl (hb hbytes d4) rfl ?_
    refine XS.ifYes X3.here hexec rfl (pc0 := 5) rfl (hb hbytes d5) rfl (i0_ne_t (nz32 (by omega) l0)) (by decide) rfl ?_
    exact Steps.refl _)
  obtain ⟨T5, X5, q5, st5⟩ := X3.sget hexec hown (wk W (.fieldLink "java/lang/String" 38 "java/lang/String" "COMPACT_STRINGS" "Z")) s1 (fun _ _ h => by rw [hh3]; exact h) (g := (mkF m 27 #[.val (.ref a), .val (.ref b), .val (.int (Int32.ofNat o)), .val (.int (Int32.ofNat len)), .val .null, .unset] [])) rfl (hb hbytes d27)
  have hh5 := q5.trans hh3
  have c6 : Steps p.tables e below (s₁.setTop (entryFrame m #[.ref a, .ref b, .int (Int32.ofNat o), .int (Int32.ofNat len), .null] 6)) (T5.setTop (mkF m 30 #[.val (.ref a), .val (.ref b), .val (.int (Int32.ofNat o)), .val (.int (Int32.ofNat len)), .val .null, .unset] [.int z])) := c4.trans (st5 _ (Steps.refl _))
  have c7 : Steps p.tables e below (s₁.setTop (entryFrame m #[.ref a, .ref b, .int (Int32.ofNat o), .int (Int32.ofNat len), .null] 6)) (T5.setTop (mkF m 36 #[.val (.ref a), .val (.ref b), .val (.int (Int32.ofNat o)), .val (.int (Int32.ofNat len)), .val .null, .unset] [.int (Int32.ofNat len), .int (Int32.ofNat o), .ref b])) := c6.trans (by
    refine XS.ifNo X5.here hexec rfl (hb hbytes d30) rfl (i0_eq_f hz) ?_
    refine XS.aloadN X5.here hexec rfl (hb hbytes d33) rfl rfl ?_
    refine XS.iloadN X5.here hexec rfl (hb hbytes d34) rfl ?_
    refine XS.iloadN X5.here hexec rfl (hb hbytes d35) rfl ?_
    exact Steps.refl _)
  obtain ⟨v8, T8, X8, E8, g8⟩ := X5.callS hexec (Cmp3.law l b A o len) hown (wks W (staticW "java/lang/String" 177 Cmp3.yN)) (wk W Cmp3.tab) (W := 0) (Nat.le_of_ble_eq_true rfl) (Nat.le_of_ble_eq_true rfl) (Nat.le_refl _) (by show 0 + len ≤ len; omega) (g := (mkF m 36 #[.val (.ref a), .val (.ref b), .val (.int (Int32.ofNat o)), .val (.int (Int32.ofNat len)), .val .null, .unset] [.int (Int32.ofNat len), .int (Int32.ofNat o), .ref b])) rfl (by rw [hml]; rfl) c7 (argsL := [.ref b, .int (Int32.ofNat o), .int (Int32.ofNat len)]) (rest := []) rfl rfl (by show 2 * 0 + 0 ≤ _; decide) (hb hbytes d36) (⟨rfl, hA.mv X5.warmed.alike hh5, l1, l2, hp⟩)
  obtain ⟨e8, z8⟩ := E8
  obtain ⟨rfl, N, n1, n2, n3, n4, n5, n6⟩ := NewArr.mv _ T5 s _ _ hh5.symm (Vm.Alike.refl _) rfl e8
  rw [hh5] at z8
  have hB1 := hB.keep X8.warmed.alike (n6 _ _ hB.1)
  have hne : s.heap.size ≠ a := (Nat.ne_of_lt (Array.getElem?_eq_some_iff.mp hB.1).1).symm
  have c9 : Steps p.tables e below (s₁.setTop (entryFrame m #[.ref a, .ref b, .int (Int32.ofNat o), .int (Int32.ofNat len), .null] 6)) (T8.setTop (mkF m 39 #[.val (.ref a), .val (.ref b), .val (.int (Int32.ofNat o)), .val (.int (Int32.ofNat len)), .val .null, .unset] [.ref s.heap.size])) := g8
  have c10 : Steps p.tables e below (s₁.setTop (entryFrame m #[.ref a, .ref b, .int (Int32.ofNat o), .int (Int32.ofNat len), .null] 6)) (T8.setTop (mkF m 45 #[.val (.ref a), .val (.ref b), .val (.int (Int32.ofNat o)), .val (.int (Int32.ofNat len)), .val .null, .val (.ref s.heap.size)] [.int (Int32.ofNat N.slots.size), .ref s.heap.size, .ref a])) := by
    have hc : Steps p.tables e below (s₁.setTop (entryFrame m #[.ref a, .ref b, .int (Int32.ofNat o), .int (Int32.ofNat len), .null] 6)) (T8.setTop (mkF m 45 #[.val (.ref a), .val (.ref b), .val (.int (Int32.ofNat o)), .val (.int (Int32.ofNat len)), .val .null, .val (.ref s.heap.size)] [.int (Int32.ofNat len), .ref s.heap.size, .ref a])) := c9.trans (by
      refine XS.astore X8.here hexec rfl (hb hbytes d39) rfl rfl rfl ?_
      refine XS.aloadN X8.here hexec rfl (hb hbytes d41) rfl rfl ?_
      refine XS.aload X8.here hexec rfl (hb hbytes d42) rfl rfl ?_
      refine XS.iloadN X8.here hexec rfl (hb hbytes d44) rfl ?_
      exact Steps.refl _)
    rw [n4]; exact hc
  obtain ⟨v11, T11, X11, E11, g11⟩ := X8.callS hexec (CodL.law l s.heap.size N) hown (wks W (staticW "java/lang/String" 47 CodL.yN)) (wk W CodL.tab) (W := 1) (Nat.le_of_ble_eq_true rfl) (Nat.le_of_ble_eq_true rfl) (Nat.le_refl _) (by show 0 + len + 0 ≤ len; omega) (g := (mkF m 45 #[.val (.ref a), .val (.ref b), .val (.int (Int32.ofNat o)), .val (.int (Int32.ofNat len)), .val .null, .val (.ref s.heap.size)] [.int (Int32.ofNat N.slots.size), .ref s.heap.size, .ref a])) rfl (by rw [hml]; rfl) c10 (argsL := [.ref s.heap.size, .int (Int32.ofNat N.slots.size)]) (rest := [.ref a]) rfl rfl (by show 2 * 0 + (1 + 0) ≤ _; decide) (hb hbytes d45) (⟨rfl, n1⟩)
  obtain ⟨rfl, q11⟩ := E11
  have hB11 := hB1.mv (X8.warmed.alike.symm.trans X11.warmed.alike) q11
  have c12 : Steps p.tables e below (s₁.setTop (entryFrame m #[.ref a, .ref b, .int (Int32.ofNat o), .int (Int32.ofNat len), .null] 6)) (T11.setTop (mkF m 48 #[.val (.ref a), .val (.ref b), .val (.int (Int32.ofNat o)), .val (.int (Int32.ofNat len)), .val .null, .val (.ref s.heap.size)] [.int 0, .ref a])) := g11
  obtain ⟨T13, X13, p13, bl13, sl13, st13⟩ := X11.finit hexec hown (wk W (.fieldLink "java/lang/String" 15 "java/lang/String" "coder" "B")) (Or.inr ⟨_, (wk W (.laysFinal "java/lang/String" "java/lang/String" "coder" "B"))⟩) (Or.inl ⟨rfl, hnm⟩) f2 (Or.inl rfl) hB11 (t := .byte) (by decide +kernel) rfl (g := (mkF m 48 #[.val (.ref a), .val (.ref b), .val (.int (Int32.ofNat o)), .val (.int (Int32.ofNat len)), .val .null, .val (.ref s.heap.size)] [.int 0, .ref a])) rfl (rest := []) rfl (hb hbytes d48)
  have c14 : Steps p.tables e below (s₁.setTop (entryFrame m #[.ref a, .ref b, .int (Int32.ofNat o), .int (Int32.ofNat len), .null] 6)) (T13.setTop (mkF m 54 #[.val (.ref a), .val (.ref b), .val (.int (Int32.ofNat o)), .val (.int (Int32.ofNat len)), .val .null, .val (.ref s.heap.size)] [.ref s.heap.size, .ref a])) := (c12.trans (st13 _ (Steps.refl _))).trans (by
    refine XS.aloadN X13.here hexec rfl (hb hbytes d51) rfl rfl ?_
    refine XS.aload X13.here hexec rfl (hb hbytes d52) rfl rfl ?_
    exact Steps.refl _)
  obtain ⟨T15, X15, p15, bl15, sl15, st15⟩ := X13.finit hexec hown (wk W (.fieldLink "java/lang/String" 9 "java/lang/String" "value" "[B")) (Or.inr ⟨_, (wk W (.laysFinal "java/lang/String" "java/lang/String" "value" "[B"))⟩) (Or.inl ⟨rfl, hnm⟩) f1 (Or.inl rfl) bl13 (t := (.array .byte)) (by decide +kernel) rfl (g := (mkF m 54 #[.val (.ref a), .val (.ref b), .val (.int (Int32.ofNat o)), .val (.int (Int32.ofNat len)), .val .null, .val (.ref s.heap.size)] [.ref s.heap.size, .ref a])) rfl (rest := []) rfl (hb hbytes d54)
  have c16 : Steps p.tables e below (s₁.setTop (entryFrame m #[.ref a, .ref b, .int (Int32.ofNat o), .int (Int32.ofNat len), .null] 6)) (T15.setTop (mkF m 57 #[.val (.ref a), .val (.ref b), .val (.int (Int32.ofNat o)), .val (.int (Int32.ofNat len)), .val .null, .val (.ref s.heap.size)] [])) := c14.trans (st15 _ (Steps.refl _))
  have ap := apart (Or.inr ⟨_, (wk W (.laysFinal "java/lang/String" "java/lang/String" "value" "[B"))⟩) (Or.inr ⟨_, (wk W (.laysFinal "java/lang/String" "java/lang/String" "coder" "B"))⟩) f1 f2 (t₁ := .array .byte) (t₂ := .byte) (by decide +kernel) (by decide +kernel) (by decide)
  have al := X8.warmed.alike.symm.trans X15.warmed.alike
  have n7 : T11.heap[s.heap.size]? = some N := by rw [q11]; exact n1.1
  exact ⟨T15, none, _, _, _, X15, by simp, rfl, by omega, (fun _ => rfl), ⟨rfl, _, N, bl15, ((Same.refl D _).set _ (by simp)).set _ (by simp), sl15, (Cell.slots_setSlot_ne _ ap).trans sl13, n1.keep al (p15.other hne (p13.other hne n7)), n2, by rw [al.findClass]; exact n3, n4, n5, fun y c h1 h2 => p15.other h1 (p13.other h1 (by rw [q11]; exact n6 y c h2)), by rw [p15.2.2, p13.2.2, q11]; exact z8⟩, fun fs hl => c16.trans (X15.returnOut hexec hret (hb hbytes d57) hl)⟩
end New4
namespace New1
def yN : MethodName := ⟨"java/lang/String", "<init>", "([C)V"⟩
abbrev yB : ByteArray := jdk_42_method_3_code
theorem d0 : decode yB 0 = .ok (.aload_n 0, 1) := by decide +kernel
theorem d1 : decode yB 1 = .ok (.aload_n 1, 1) := by decide +kernel
theorem d2 : decode yB 2 = .ok (.iconst 0, 1) := by decide +kernel
theorem d3 : decode yB 3 = .ok (.aload_n 1, 1) := by decide +kernel
theorem d4 : decode yB 4 = .ok (.arraylength, 1) := by decide +kernel
theorem d5 : decode yB 5 = .ok (.aconst_null, 1) := by decide +kernel
theorem d6 : decode yB 6 = .ok (.invokespecial 27, 3) := by decide +kernel
theorem d9 : decode yB 9 = .ok (.return_, 1) := by decide +kernel
def site : List Cond := [New4.tab] ++ initW "java/lang/String" 27 New4.yN
def tab : Cond := tabOf yN yB 2 none site
def P (a : Addr) (D : Cell) (fV fC : Field) (b : Addr) (A : Cell) (z : Int32) (args : Array Value) (s : State) : Prop := args = #[.ref a, .ref b] ∧ Blank "java/lang/String" a D s ∧ Found "java/lang/String" "value" "[B" fV s ∧ Found "java/lang/String" "coder" "B" fC s ∧ Ch b A s ∧ StaticIs s "java/lang/String" "COMPACT_STRINGS" "Z" (.int z) ∧ ¬ z = 0 ∧ 0 < A.slots.size ∧ A.slots.size ≤ 536870912 ∧ ∀ i, i < A.slots.size → ¬ 255 < cv A i
def E (a : Addr) (D : Cell) (fV fC : Field) (A : Cell) (r : Option Value) (s u : State) : Prop := Got a D fV fC A 0 A.slots.size r s u
/-- new String(chars), not empty, no char above 255: a Latin-1 String of their low bytes -/
theorem law (l : Launch) (a : Addr) (D : Cell) (fV fC : Field) (b : Addr) (A : Cell) (z : Int32) : Law l yN 2 1 3 52 yB 2 none site (P a D fV fC b A z) (E a D fV fC A) [⟨a, fC.slot⟩, ⟨a, fV.slot⟩] 1 A.slots.size := by
  refine Law.of_walk (plainFor_of_name (by decide +kernel)) (by decide +kernel) (by decide +kernel) (by decide) (fun _ _ h => by rw [h.1]; rfl) (fun _ U U' hal hh h => ⟨h.1, h.2.1.mv hal hh, h.2.2.1.al hal, h.2.2.2.1.al hal, h.2.2.2.2.1.mv hal hh, h.2.2.2.2.2.1.there hal hh, h.2.2.2.2.2.2⟩) (fun r U U' V V' h1 hal h2 h => Got.mv r U U' V V' h1 hal h2 h) ?_
  intro p e s m args below meth c s₁ X0 hexec hbytes hml hret hlk hnm hown hh0 W hP
  obtain ⟨rfl, hB, f1, f2, hA, s1, hz, l0, l2, hp⟩ := hP
  have c1 : Steps p.tables e below (s₁.setTop (entryFrame m #[.ref a, .ref b] 2)) (s₁.setTop (mkF m 0 #[.val (.ref a), .val (.ref b)] [])) := entry rfl
  have c2 : Steps p.tables e below (s₁.setTop (entryFrame m #[.ref a, .ref b] 2)) (s₁.setTop (mkF m 6 #[.val (.ref a), .val (.ref b)] [.null, .int (Int32.ofNat A.slots.size), .int 0, .ref b, .ref a])) := c1.trans (by
    refine XS.aloadN X0.here hexec rfl (hb hbytes d0) rfl rfl ?_
    refine XS.aloadN X0.here hexec rfl (hb hbytes d1) rfl rfl ?_
    refine iconstV X0.here hexec rfl 0 (hb hbytes d2) (by decide) ?_
    refine XS.aloadN X0.here hexec rfl (hb hbytes d3) rfl rfl ?_
    refine X0.alen hexec (hA.1.mv X0.warmed.alike hh0) rfl rfl (hb hbytes d4) ?_
    refine XS.aconstNull X0.here hexec rfl (hb hbytes d5) ?_
    exact Steps.refl _)
  obtain ⟨v3, T3, X3, E3, g3⟩ := X0.callN hexec (New4.law l a D fV fC b A z 0 A.slots.size) rfl hown (wks W (initW "java/lang/String" 27 New4.yN)) (W New4.tab (by simp only [site, List.mem_cons, List.mem_append, true_or, or_true])) (W := 0) (Nat.le_of_ble_eq_true rfl) (Nat.le_of_ble_eq_true rfl) (Nat.le_refl _) (by show 0 + A.slots.size ≤ A.slots.size; omega) (g := (mkF m 6 #[.val (.ref a), .val (.ref b)] [.null, .int (Int32.ofNat A.slots.size), .int (Int32.ofNat 0), .ref b, .ref a])) rfl (by rw [hml]; rfl) c2 (argsL := [.ref b, .int (Int32.ofNat 0), .int (Int32.ofNat A.slots.size), .null]) (rest := []) rfl rfl (by show 2 * 0 + 0 ≤ _; decide) (hb hbytes d6) (⟨rfl, hB.mv X0.warmed.alike hh0, f1.al X0.warmed.alike, f2.al X0.warmed.alike, hA.mv X0.warmed.alike hh0, s1.there X0.warmed.alike hh0, hz, l0, by omega, l2, fun i hi => by rw [Nat.zero_add]; exact hp i hi⟩)
  have e0 := Got.mv _ s₁ s _ _ hh0.symm (Vm.Alike.refl _) rfl E3
  obtain rfl := e0.1
  have c4 : Steps p.tables e below (s₁.setTop (entryFrame m #[.ref a, .ref b] 2)) (T3.setTop (mkF m 9 #[.val (.ref a), .val (.ref b)] [])) := g3
  exact ⟨T3, none, _, _, _, X3, by simp, rfl, by omega, (fun _ => rfl), e0, fun fs hl => c4.trans (X3.returnOut hexec hret (hb hbytes d9) hl)⟩
theorem pays {l : Launch} {R : Room} {p : Program} {e : Env} {below : List Frame} {s : State} {sargs : Array Value} {len W : Nat} (a : Addr) (D : Cell) (fV fC : Field) (b : Addr) (A : Cell) (z : Int32) (htab : tab.before sargs s = true) (hfr : 4 ≤ R.frames) (hlo : W + 65 ≤ R.locals) :
    Back l R p e below s sargs yN len W (fun A₁ a₁ => A₁.cells + 1 ≤ R.cells ∧ A₁.slots + A.slots.size ≤ R.slots ∧ P a D fV fC b A z a₁ A₁.U) (fun A₁ _ v₁ B₁ => E a D fV fC A v₁ A₁.U B₁.U ∧ B₁.locs = A₁.locs ++ [⟨a, fC.slot⟩, ⟨a, fV.slot⟩] ∧ B₁.cells = A₁.cells + 1 ∧ B₁.slots = A₁.slots + A.slots.size) :=
  (law l a D fV fC b A z).pays htab hfr (by omega)
end New1
end StrChars
namespace StrChars.Road
open Jvm Sem ClassFile Op Lib Jvm.Stand Jvm.Free Jvm.Free.XT
open Jvm.Lib.Cold (StaticIs)
abbrev ST : String := "java/lang/String"
/-- every table word that New1's law asks, flat -/
abbrev words : List Jvm.Cond := [.code New1.yN New1.yB 2 none, .initialized ST, .methodLink ST 27 New4.yN, .instanceMethod New4.yN,
  .code New4.yN New4.yB 6 none, .fieldLink ST 38 ST "COMPACT_STRINGS" "Z", .laysFinal ST ST "value" "[B", .fieldLink ST 9 ST "value" "[B", .laysFinal ST ST "coder" "B", .fieldLink ST 15 ST "coder" "B",
  .methodLink ST 1 Lib.objectInit, .instanceMethod Lib.objectInit, .code Lib.objectInit ⟨#[0xb1]⟩ 1 none, .methodLink ST 177 Cmp3.yN, .static Cmp3.yN, .methodLink ST 47 CodL.yN, .static CodL.yN,
  .code Cmp3.yN Cmp3.yB 6 (some (.array .byte)), .initialized U16, .arrayClass .byte, .methodLink U16 115 Cmp5.yN, .static Cmp5.yN, .code Cmp5.yN Cmp5.yB 7 (some .int), .code CodL.yN CodL.yB 2 (some .byte)]
theorem tab_of {a : Array Value} {s : State} (h : ∀ w ∈ words, w.before a s = true) : New1.tab.before a s = true := by
  have h5 : Cmp5.tab.before a s = true := unparts (wk h (.code Cmp5.yN Cmp5.yB 7 (some .int))) (wks h (.initialized Cmp5.yN.cls :: Cmp5.site))
  have hc : CodL.tab.before a s = true := unparts (wk h (.code CodL.yN CodL.yB 2 (some .byte))) (wks h (.initialized CodL.yN.cls :: CodL.site))
  have q5 : ∀ w ∈ Cmp5.tab :: words, w.before a s = true := fun w hw => (List.mem_cons.mp hw).elim (fun e => e ▸ h5) (h w)
  have h3 : Cmp3.tab.before a s = true := unparts (wk q5 (.code Cmp3.yN Cmp3.yB 6 (some (.array .byte)))) (wks q5 (.initialized Cmp3.yN.cls :: Cmp3.site))
  have q3 : ∀ w ∈ Cmp3.tab :: CodL.tab :: words, w.before a s = true := fun w hw => (List.mem_cons.mp hw).elim (fun e => e ▸ h3) fun hw => (List.mem_cons.mp hw).elim (fun e => e ▸ hc) (h w)
  have h4 : New4.tab.before a s = true := unparts (wk q3 (.code New4.yN New4.yB 6 none)) (wks q3 (.initialized New4.yN.cls :: New4.site))
  have q4 : ∀ w ∈ New4.tab :: words, w.before a s = true := fun w hw => (List.mem_cons.mp hw).elim (fun e => e ▸ h4) (h w)
  exact unparts (wk q4 (.code New1.yN New1.yB 2 none)) (wks q4 (.initialized New1.yN.cls :: New1.site))
/-- the words ride from the start Z to the walk's own state -/
theorem moved {Z s : State} {a0 args : Array Value} (hZ : Z.Warmed39 s.vm) (hw : ∀ d ∈ words, d.before a0 Z = true) : ∀ d ∈ words, d.before args s = true := fun d hd => by
  have q := hw d hd
  have t : ∀ d ∈ words, d = .arrayClass .byte ∨ (d.onTables && d.keepsFace) = true := by decide +kernel
  rcases t d hd with rfl | t
  · exact RoadKit.mvA hZ q
  · exact RoadKit.mv hZ q t
/-- WHAT COMES BACK, over the tables of the start Z: h the heap at the call, h' behind it -/
def Q (Z : State) (x : Addr) (A : Cell) (h : Heap) (v : Option Value) (h' : Heap) (L : List Loc) : Prop := v = none ∧ (∀ y ∈ L, y.base = x) ∧ RoadKit.Keep h h' [x] ∧ h'.size = h.size + 1 ∧ RoadKit.Exa Z h' x ST ∧ RoadKit.Fld Z h' x ST "value" "[B" (.ref h.size) ∧ RoadKit.Fld Z h' x ST "coder" "B" (.int 0) ∧
  (∃ V : Cell, RoadKit.Arr Z h' h.size V .byte ∧ V.vm = .none ∧ Z.vm.findClass "[B" = some V.cls ∧ V.slots.size = A.slots.size ∧ ∀ j, j < A.slots.size → V.slots[j]? = some (.int (lo8 (cv A j)))) ∧
  ∀ (O n d : String) (w : Value), RoadKit.Fld Z h x O n d w → RoadKit.slotOf Z O n d ≠ RoadKit.slotOf Z ST "value" "[B" → RoadKit.slotOf Z O n d ≠ RoadKit.slotOf Z ST "coder" "B" → RoadKit.Fld Z h' x O n d w
/-- **new String(chars) AT A CALL, IN THE ROAD'S FORM**: for specialBack behind newO: x the fresh String, b the char[] with the cell A -/
theorem back {p : Program} {l : Launch} {e : Env} {R : Room} {s : State} {args : Array Value} {below : List Frame} {len W : Nat} {Z : State} {a0 : Array Value} {h : Heap} (hZ : Z.Warmed39 s.vm) (hw : ∀ d ∈ words, d.before a0 Z = true) {kI : Nat} (wi : (Jvm.Cond.instantiable ST kI).before a0 Z = true)
    {x b : Addr} {A : Cell} {z : Int32} {v0 c0 : Value} (E : RoadKit.Exa Z h x ST) (V : RoadKit.Fld Z h x ST "value" "[B" v0) (C : RoadKit.Fld Z h x ST "coder" "B" c0) (K : RoadKit.Arr Z h b A .char) (hty : Typed .char A) (S : RoadKit.Sta Z h ST "COMPACT_STRINGS" "Z" (.int z)) (hz : ¬ z = 0)
    (l0 : 0 < A.slots.size) (l2 : A.slots.size ≤ 536870912) (hp : ∀ i, i < A.slots.size → ¬ 255 < cv A i) (hfr : 4 ≤ R.frames) (hlo : W + 65 ≤ R.locals) :
    Back l R p e below s args New1.yN len W (fun P a => a = #[.ref x, .ref b] ∧ P.U.heap = h ∧ P.cells + 1 ≤ R.cells ∧ P.slots + A.slots.size ≤ R.slots)
      (fun P _ v B => ∃ L, Q Z x A h v B.U.heap L ∧ B.locs = P.locs ++ L ∧ B.cells = P.cells + 1 ∧ B.slots = P.slots + A.slots.size) := by
  intro m meth c P g ig mk a X hg hsize hdg hW hn hp'
  obtain ⟨rfl, rfl, r1, r2⟩ := hp'
  have al : Z.vm.Alike P.U.vm := hZ.alike.trans X.warmed.alike
  obtain ⟨D, cfV, kV, iV, fV, hD, gV, stV, knV, obV, asV, slV⟩ := id V
  obtain ⟨D', cfC, kC, iC, fC, hD', gC, stC, -, -, asC, slC⟩ := id C
  cases hD.symm.trans hD'
  obtain ⟨D2, kD, e1, e2, e3, e4, e5⟩ := id E
  cases hD.symm.trans e1
  obtain ⟨c2, k2, i1, i2, i3, -⟩ := Cond.instantiable_spec wi
  cases e2.symm.trans i1
  cases e3.symm.trans i2
  obtain ⟨kU, u1, u2⟩ := al.2.2 _ _ e3
  have hB : Blank ST x D P.U := ⟨hD, ⟨knV, fun q hq => by rw [hq] at obV; cases obV⟩, by rw [al.findClass]; exact e2, kU, u1, by rw [u2]; exact i3, by rw [u2]; exact e5 i3⟩
  have F1 : Found ST "value" "[B" fV P.U := ⟨SBG.found_only al ⟨cfV, kV, iV, gV⟩, stV⟩
  have F2 : Found ST "coder" "B" fC P.U := ⟨SBG.found_only al ⟨cfC, kC, iC, gC⟩, stC⟩
  have hA : Ch b A P.U := ⟨⟨K.1, State.isArrayOf_alike al K.2.1, K.2.2, by omega⟩, hty⟩
  have hS : StaticIs P.U ST "COMPACT_STRINGS" "Z" (.int z) := by
    obtain ⟨cfS, iS, kS, fS, st, cS, t1, t2, t3, t4, t5, t6, t7⟩ := S
    exact StaticIs.there (s := { Z with heap := P.U.heap }) ⟨cfS, iS, kS, fS, st, cS, t1, t2, t3, t4, t5, (fun q => by rw [q] at t6; cases t6), t7⟩ al rfl
  obtain ⟨v, B, X', ⟨⟨hv, E', V', q1, q2, q3, q4, q5, q6, q7, q8, q9, q10, q11⟩, hl, hc, hs⟩, st⟩ := New1.pays x D fV fC b A z (tab_of (moved hZ hw)) hfr hlo m meth c P g ig mk _ X hg hsize hdg hW hn ⟨r1, r2, rfl, hB, F1, F2, hA, hS, hz, l0, l2, hp⟩
  have al' : Z.vm.Alike B.U.vm := hZ.alike.trans X'.warmed.alike
  have hsz : E'.slots.size = D.slots.size := by
    obtain ⟨-, -, -, kB, w1, w2, w3⟩ := q1
    obtain ⟨kB', y1, y2⟩ := al'.2.2 _ _ e3
    rw [q2.2.1] at w1
    cases w1.symm.trans y1
    rw [w3, e5 i3, y2]
  refine ⟨v, B, X', ⟨_, ⟨hv, ?_, ⟨by omega, fun y cy hy hn' => q10 y cy (by simpa using hn') hy, fun y cy hy => ?_⟩, q11, ⟨E', _, q1.1, by rw [q2.2.1]; exact e2, by rw [q2.2.1]; exact e3, by rw [q2.1]; exact obV, fun _ => by rw [hsz]; exact e5 i3⟩,
    ⟨E', cfV, kV, iV, fV, q1.1, gV, stV, by rw [q2.1]; exact knV, by rw [q2.1]; exact obV, by rw [q2.2.1]; exact asV, q3⟩, ⟨E', cfC, kC, iC, fC, q1.1, gC, stC, by rw [q2.1]; exact knV, by rw [q2.1]; exact obV, by rw [q2.2.1]; exact asC, q4⟩,
    ⟨V', ⟨q5.1, State.isArrayOf_alike al'.symm q5.2.1, q5.2.2.1⟩, q6, by rw [← al'.findClass]; exact q7, q8, fun j hj => by have := q9 j hj; rwa [Nat.zero_add] at this⟩, fun O n d w F n1 n2 => ?_⟩, hl, hc, hs⟩, st⟩
  · intro y hy
    simp only [List.mem_cons, List.not_mem_nil, or_false] at hy
    rcases hy with rfl | rfl <;> rfl
  · by_cases q : y = x
    · subst q
      cases hD.symm.trans hy
      exact ⟨E', q1.1, q2.2.1, q2.1, hsz⟩
    · exact ⟨cy, q10 y cy q hy, rfl, rfl, rfl⟩
  · obtain ⟨D3, cf, k, i, f, g1, g2, g3, g4, g5, g6, g7⟩ := F
    cases hD.symm.trans g1
    simp only [RoadKit.slotOf, g2, gV, gC, Option.map_some, Option.getD_some] at n1 n2
    exact ⟨E', cf, k, i, f, q1.1, g2, g3, by rw [q2.1]; exact g4, by rw [q2.1]; exact g5, by rw [q2.2.1]; exact g6, by rw [q2.2.2 f.slot (by simp [n1, n2])]; exact g7⟩
end StrChars.Road
namespace StrChars.Road
open Jvm Sem ClassFile Op Lib Jvm.Stand Jvm.Free Jvm.Free.XT
/-- WHAT COMES BACK, the byte[] as a list of values -/
def QA (Z : State) (x : Addr) (zn : Int32) (cs : List Int32) (h : Heap) (v : Option Value) (h' : Heap) (L : List Loc) : Prop := v = none ∧ (∀ y ∈ L, y.base = x) ∧ RoadKit.Keep h h' [x] ∧ h'.size = h.size + 1 ∧ RoadKit.Exa Z h' x ST ∧ RoadKit.Fld Z h' x ST "value" "[B" (.ref h.size) ∧ RoadKit.Fld Z h' x ST "coder" "B" (.int 0) ∧
  (∃ kb, Z.vm.findClass "[B" = some kb ∧ RoadKit.Arv Z h' h.size kb .byte zn (cs.map fun c => .int (lo8 c)) (.int 0)) ∧
  ∀ (O n d : String) (w : Value), RoadKit.Fld Z h x O n d w → RoadKit.slotOf Z O n d ≠ RoadKit.slotOf Z ST "value" "[B" → RoadKit.slotOf Z O n d ≠ RoadKit.slotOf Z ST "coder" "B" → RoadKit.Fld Z h' x O n d w
/-- **new String(chars) AT A CALL, THE ARRAYS AS LISTS**: the char[] at b holds cs, not empty, no char above 255 -/
theorem backArv {p : Program} {l : Launch} {e : Env} {R : Room} {s : State} {args : Array Value} {below : List Frame} {len W : Nat} {Z : State} {a0 : Array Value} {h : Heap} (hZ : Z.Warmed39 s.vm) (hw : ∀ d ∈ words, d.before a0 Z = true) {kI : Nat} (wi : (Jvm.Cond.instantiable ST kI).before a0 Z = true)
    {x b : Addr} {k : ClassId} {zn z : Int32} {cs : List Int32} {dv v0 c0 : Value} (E : RoadKit.Exa Z h x ST) (V : RoadKit.Fld Z h x ST "value" "[B" v0) (C : RoadKit.Fld Z h x ST "coder" "B" c0) (K : RoadKit.Arv Z h b k .char zn (cs.map Value.int) dv) (S : RoadKit.Sta Z h ST "COMPACT_STRINGS" "Z" (.int z)) (hz : ¬ z = 0)
    (hlen : zn.toNatClampNeg = cs.length) (h0 : 0 < cs.length) (hbig : cs.length ≤ 536870912) (hall : ∀ c ∈ cs, ¬ 255 < c) (hfr : 4 ≤ R.frames) (hlo : W + 65 ≤ R.locals) :
    Back l R p e below s args New1.yN len W (fun P a => a = #[.ref x, .ref b] ∧ P.U.heap = h ∧ P.cells + 1 ≤ R.cells ∧ P.slots + cs.length ≤ R.slots)
      (fun P _ v B => ∃ L, QA Z x zn cs h v B.U.heap L ∧ B.locs = P.locs ++ L ∧ B.cells = P.cells + 1 ∧ B.slots = P.slots + cs.length) := by
  obtain ⟨A, K1, K2, K3, K4, K5, K6⟩ := K
  have e : A.slots.size = cs.length := K3.trans hlen
  have hat : ∀ (i : Nat) (hi : i < cs.length), A.slots[i]? = some (.int cs[i]) := fun i hi => by rw [K5 i (by omega)]; simp [List.getD_eq_getElem?_getD, hi]
  have hcv : ∀ (i : Nat) (hi : i < cs.length), cv A i = cs[i] := fun i hi => by unfold cv; rw [hat i hi]
  have hty : Typed .char A := fun i v hv => by
    have hi : i < A.slots.size := (Array.getElem?_eq_some_iff.mp hv).1
    have q := K5 i hi
    rw [hv] at q
    rw [Option.some.inj q]
    exact K6 i hi
  refine Back.mono (back hZ hw wi E V C K1 hty S hz (by omega) (by omega) (fun i hi => by rw [hcv i (by omega)]; exact hall _ (List.getElem_mem _)) hfr hlo) (fun P a hp => ⟨hp.1, hp.2.1, hp.2.2.1, by rw [e]; exact hp.2.2.2⟩) (fun P a v B hp hq => ?_)
  obtain ⟨L, ⟨q1, q2, q3, q4, q5, q6, q7, ⟨V', v1, v2, v3, v4, v5⟩, q9⟩, hl, hc, hs⟩ := hq
  refine ⟨L, ⟨q1, q2, q3, q4, q5, q6, q7, ⟨V'.cls, v3, V', v1, rfl, by rw [v4, e, hlen], K4, fun i hi => ?_, fun i hi => ?_⟩, q9⟩, hl, hc, by rw [hs, e]⟩
  · have hi' : i < cs.length := by omega
    rw [v5 i (by omega), hcv i hi']; simp [List.getD_eq_getElem?_getD, hi']
  · have hi' : i < cs.length := by omega
    simp only [List.getD_eq_getElem?_getD, List.getElem?_map, List.getElem?_eq_getElem hi', Option.map_some, Option.getD_some]
    exact fits_lo8 _
end StrChars.Road
namespace StrChars.Road
open Jvm Sem ClassFile Op Lib Jvm.Stand Jvm.Free Jvm.Free.XT
/-- WHAT COMES BACK, in the writer's own shape -/
def QV (Z : State) (x : Addr) (N : Int32) (bs : List Int32) (h : Heap) (n0 : Nat) (v : Option Value) (h' : Heap) (L : List Loc) : Prop := v = none ∧ RoadKit.Fr n0 L ∧ RoadKit.Keep h h' [x] ∧ RoadKit.Exa Z h' x ST ∧ RoadKit.Fld Z h' x ST "coder" "B" (.int 0) ∧
  ∃ (t : Addr) (kb : ClassId), n0 ≤ t ∧ h.size ≤ t ∧ ¬ t = x ∧ RoadKit.Fld Z h' x ST "value" "[B" (.ref t) ∧ RoadKit.Arv Z h' t kb .byte N (bs.map Value.int) (.int 0)
/-- **new String(chars) AT A CALL, FOR THE WRITER**: a char[] of n known ints, each 0 to 255 -/
theorem backV {p : Program} {l : Launch} {e : Env} {R : Room} {s : State} {args : Array Value} {below : List Frame} {len W : Nat} {Z : State} {a0 : Array Value} {h : Heap} (hZ : Z.Warmed39 s.vm) (hw : ∀ d ∈ words, d.before a0 Z = true) {kI : Nat} (wi : (Jvm.Cond.instantiable ST kI).before a0 Z = true)
    {x b : Addr} {kC : ClassId} {cs bs : List Int32} {d v0 c0 : Value} {z N : Int32} {n n0 : Nat} (hx0 : n0 ≤ x) (hh0 : n0 ≤ h.size) (E : RoadKit.Exa Z h x ST) (V : RoadKit.Fld Z h x ST "value" "[B" v0) (C : RoadKit.Fld Z h x ST "coder" "B" c0) (K : RoadKit.Arv Z h b kC .char N (cs.map Value.int) d) (S : RoadKit.Sta Z h ST "COMPACT_STRINGS" "Z" (.int z)) (hz : ¬ z = 0)
    (hn : cs.length = n) (hN : N = Int32.ofNat n) (l0 : 0 < n) (l2 : n ≤ 4000) (hp : ∀ c ∈ cs, ¬ c < 0 ∧ ¬ (255 : Int32) < c) (hb : bs = cs.map (fun c => c.toInt8.toInt32)) (hfr : 4 ≤ R.frames) (hlo : W + 65 ≤ R.locals) :
    Back l R p e below s args (⟨"java/lang/String", "<init>", "([C)V"⟩ : MethodName) len W (fun P a => a = #[.ref x, .ref b] ∧ P.U.heap = h ∧ P.cells + 1 ≤ R.cells ∧ P.slots + n ≤ R.slots)
      (fun P _ v B => ∃ L, QV Z x N bs h n0 v B.U.heap L ∧ B.locs = P.locs ++ L ∧ B.cells = P.cells + 1 ∧ B.slots = P.slots + n) := by
  subst hn hN hb
  refine Back.mono (backArv hZ hw wi E V C K S hz (n32 (by omega)) l0 (by omega) (fun c hc => (hp c hc).2) hfr hlo) (fun P a hp => hp) (fun P a v B hp hq => ?_)
  obtain ⟨L, ⟨q1, q2, q3, q4, q5, q6, q7, ⟨kb, v1, v2⟩, q9⟩, hl, hc, hs⟩ := hq
  exact ⟨L, ⟨q1, fun y hy => by rw [q2 y hy]; exact hx0, q3, q5, q7, h.size, kb, hh0, Nat.le_refl _, Nat.ne_of_gt E.lt, q6, by rw [List.map_map]; exact v2⟩, hl, hc, hs⟩
end StrChars.Road
end Jvm.Pilot.@@N@@
namespace Jvm.Pilot.@@N@@
namespace GK
open Jvm Jvm.ClassFile Sem Op Lib Jvm.Free Jvm.Stand Jvm.LawKit Jvm.RoadKit Bundle
section Strs
variable {md : Md} {l : Launch} {Z : State} {n0 : Nat} {R : Room} {h h' : Heap} {sf : List Addr} {a0 : Array Value} {x b : Addr} {cs ds : List Int32}
abbrev ST : String := "java/lang/String"
def Lat (cs : List Int32) : Prop := ∀ c ∈ cs, ¬ c < 0 ∧ ¬ (255 : Int32) < c
/-- x is a Latin-1 String of these chars -/
def Str (Z : State) (h : Heap) (x : Addr) (cs : List Int32) : Prop := ∃ t : Addr, Exa Z h x ST ∧ Fld Z h x ST "coder" "B" (.int 0) ∧ Fld Z h x ST "value" "[B" (.ref t) ∧ Ary Z h t .byte ((cs.map fun c => c.toInt8.toInt32).map Value.int) ∧ Lat cs
theorem Str.ext (S : Str Z h x cs) (E : Ext h h') : Str Z h' x cs := by obtain ⟨t, s1, s2, s3, s4, s5⟩ := S; exact ⟨t, s1.ext E, s2.ext E, s3.ext E, s4.ext E, s5⟩
theorem Str.exa (S : Str Z h x cs) : Exa Z h x ST := by obtain ⟨t, s1, -⟩ := S; exact s1
theorem Str.lt (S : Str Z h x cs) : x < h.size := S.exa.lt
theorem Str.keepO {a : Addr} {C : String} {k : Nat} (S : Str Z h x cs) (E : Exa Z h a C) (hn : C ≠ ST) (wi : (Jvm.Cond.instantiable C k).before a0 Z = true) (K : Keep h h' [a]) : Str Z h' x cs := by
  obtain ⟨t, s1, s2, s3, s4, s5⟩ := S
  have n1 : x ≠ a := Ne.symm (ne_exa E s1 hn)
  have n2 : t ≠ a := by obtain ⟨c, A, -⟩ := s4; exact Ne.symm (ne_arr E wi A)
  exact ⟨t, s1.keep K, s2.keep K (ninS n1 nin0), s3.keep K (ninS n1 nin0), Ary.keep K s4 (ninS n2 nin0), s5⟩
theorem strNew {W : Nat} {v0 c0 : Value} {z : Int32} (hws : ∀ d ∈ StrChars.Road.words, d.before a0 Z = true) (wi : (Jvm.Cond.instantiable ST 4).before a0 Z = true) (hx0 : n0 ≤ x) (o : Old Z n0 h) (E : Exa Z h x ST) (V : Fld Z h x ST "value" "[B" v0) (C : Fld Z h x ST "coder" "B" c0) (K : Ary Z h b .char (cs.map Value.int))
    (S : Sta Z Z.heap ST "COMPACT_STRINGS" "Z" (.int z)) (hz : ¬ z = 0) (n : Nat) (hn : cs.length = n) (l0 : 0 < n) (l2 : n ≤ 4000) (hp : Lat cs) (hfr : 4 ≤ R.frames) (hlo : W + 65 ≤ R.locals) (hsf : x ∈ sf) :
    Call md l Z n0 R ⟨"java/lang/String", "<init>", "([C)V"⟩ 3 W #[.ref x, .ref b] h sf 1 n (fun v h' _ => v = none ∧ Keep h h' [x] ∧ Str Z h' x cs) := by
  subst hn
  obtain ⟨kC, K'⟩ := K.arv (.int 0)
  rw [List.length_map] at K'
  refine call_of_back [x] (QB := StrChars.Road.QV Z x (Int32.ofNat cs.length) (cs.map fun c => c.toInt8.toInt32) h n0) (fun p e below s sargs hZ => StrChars.Road.backV hZ hws wi hx0 (o.1 ▸ o.2.1) E V C K' (S.ext o.2) hz rfl rfl l0 l2 hp rfl hfr hlo) ?_ (sub1 hsf) (fun y hy => by cases List.mem_singleton.mp hy; exact hx0)
  rintro v h' L ⟨rfl, q2, q3, q4, q5, t, kb, -, -, -, q9, q10⟩
  refine ⟨q2, q3, rfl, q3, t, q4, q5, q9, Ary.ofArv q10 ?_ (by simp; omega), hp⟩
  rw [(clamp_of (ofNat_toInt (by omega))).2]; simp
theorem toInt_lt {x y : Int32} : x < y ↔ x.toInt < y.toInt := Int32.lt_iff_toInt_lt
theorem lat_iff {c : Int32} : (¬ c < 0 ∧ ¬ (255 : Int32) < c) ↔ (0 ≤ c.toInt ∧ c.toInt ≤ 255) := by
  rw [toInt_lt, toInt_lt]
  have e1 : (0 : Int32).toInt = 0 := rfl
  have e2 : (255 : Int32).toInt = 255 := rfl
  omega
theorem chr_id {c : Int32} (q : 0 ≤ c.toInt ∧ c.toInt ≤ 65535) : chr c = c := Int32.toInt_inj.mp (by have := c_i2c c; show (c.toUInt32.toUInt16.toUInt32.toInt32).toInt = c.toInt; omega)
theorem chr_rng (x : Int32) : 0 ≤ (chr x).toInt ∧ (chr x).toInt ≤ 65535 := by have := c_i2c x; show 0 ≤ (x.toUInt32.toUInt16.toUInt32.toInt32).toInt ∧ (x.toUInt32.toUInt16.toUInt32.toInt32).toInt ≤ 65535; omega
theorem and255 (x : Int32) : 0 ≤ (x &&& (255 : Int32)).toInt ∧ (x &&& (255 : Int32)).toInt ≤ 255 := c_and x 255 (by decide)
theorem chr255 (x : Int32) : ¬ chr (x &&& (255 : Int32)) < 0 ∧ ¬ (255 : Int32) < chr (x &&& (255 : Int32)) := by
  have q := and255 x
  rw [chr_id (by omega)]; exact lat_iff.mpr q
theorem nar_chr (c : Int32) : nar .char c = chr c := rfl
theorem nar_c {c : Int32} (q : ¬ c < 0 ∧ ¬ (255 : Int32) < c) : nar .char c = c := by
  have := lat_iff.mp q
  rw [nar_chr, chr_id (by omega)]
theorem i8_idem (x : Int32) : x.toInt8.toInt32.toInt8.toInt32 = x.toInt8.toInt32 := Int32.toInt_inj.mp (by have h1 := c_i2b x; have h2 := c_i2b (x.toInt8.toInt32); omega)
theorem latN : Lat [] := fun c hc => nomatch hc
theorem latC {c : Int32} {cs : List Int32} (q : ¬ c < 0 ∧ ¬ (255 : Int32) < c) (r : Lat cs) : Lat (c :: cs) := fun y hy => (List.mem_cons.mp hy).elim (fun u => u ▸ q) (r y)
theorem lat1 {c : Int32} (q : ¬ c < 0 ∧ ¬ (255 : Int32) < c) : Lat [c] := latC q latN
theorem lat2 {c d : Int32} (q : ¬ c < 0 ∧ ¬ (255 : Int32) < c) (r : ¬ d < 0 ∧ ¬ (255 : Int32) < d) : Lat [c, d] := latC q (lat1 r)
end Strs
end GK
end Jvm.Pilot.@@N@@
namespace Jvm.Pilot.@@N@@
open Jvm Jvm.ClassFile Sem Op Lib Jvm.Free Jvm.Stand Jvm.LawKit Jvm.RoadKit Bundle Jvm.Pilot.@@N@@.Jvm.D Jvm.Pilot.@@N@@.GK
abbrev HW (a0 : Array Value) (Z : State) : Prop := ∀ d ∈ tables_1, d.before a0 Z = true
theorem w0 {a0 : Array Value} {Z : State} (hw : HW a0 Z) : (Jvm.Cond.methodLink "com/example/tugas/tugas/cli/HttpGetPinLaw" (7 : Nat) ({ cls := "com/example/tugas/tugas/cli/HttpGetPinLaw", name := "make", desc := "(ICC)Ljava/lang/String;" } : Jvm.MethodName)).before a0 Z = true := hw _ (List.mem_of_getElem? (i := 0) rfl)
theorem w1 {a0 : Array Value} {Z : State} (hw : HW a0 Z) : (Jvm.Cond.static ({ cls := "com/example/tugas/tugas/cli/HttpGetPinLaw", name := "make", desc := "(ICC)Ljava/lang/String;" } : Jvm.MethodName)).before a0 Z = true := hw _ (List.mem_of_getElem? (i := 1) rfl)
theorem w2 {a0 : Array Value} {Z : State} (hw : HW a0 Z) : (Jvm.Cond.initialized "com/example/tugas/tugas/cli/HttpGetPinLaw").before a0 Z = true := hw _ (List.mem_of_getElem? (i := 2) rfl)
theorem w3 {a0 : Array Value} {Z : State} (hw : HW a0 Z) : (Jvm.Cond.code ({ cls := "com/example/tugas/tugas/cli/HttpGetPinLaw", name := "make", desc := "(ICC)Ljava/lang/String;" } : Jvm.MethodName) method_3_code (3 : Nat) (Option.some (Jvm.ClassFile.FieldType.object "java/lang/String"))).before a0 Z = true := hw _ (List.mem_of_getElem? (i := 3) rfl)
theorem w4 {a0 : Array Value} {Z : State} (hw : HW a0 Z) : (Jvm.Cond.classLink "com/example/tugas/tugas/cli/HttpGetPinLaw" (27 : Nat) "java/lang/String").before a0 Z = true := hw _ (List.mem_of_getElem? (i := 4) rfl)
theorem w5 {a0 : Array Value} {Z : State} (hw : HW a0 Z) : (Jvm.Cond.instantiable "java/lang/String" (4 : Nat)).before a0 Z = true := hw _ (List.mem_of_getElem? (i := 5) rfl)
theorem w6 {a0 : Array Value} {Z : State} (hw : HW a0 Z) : (Jvm.Cond.initialized "java/lang/String").before a0 Z = true := hw _ (List.mem_of_getElem? (i := 6) rfl)
theorem w7 {a0 : Array Value} {Z : State} (hw : HW a0 Z) : (Jvm.Cond.arrayClass Jvm.ClassFile.FieldType.char).before a0 Z = true := hw _ (List.mem_of_getElem? (i := 7) rfl)
theorem w8 {a0 : Array Value} {Z : State} (hw : HW a0 Z) : (Jvm.Cond.methodLink "com/example/tugas/tugas/cli/HttpGetPinLaw" (29 : Nat) ({ cls := "java/lang/String", name := "<init>", desc := "([C)V" } : Jvm.MethodName)).before a0 Z = true := hw _ (List.mem_of_getElem? (i := 8) rfl)
theorem w9 {a0 : Array Value} {Z : State} (hw : HW a0 Z) : (Jvm.Cond.instanceMethod ({ cls := "java/lang/String", name := "<init>", desc := "([C)V" } : Jvm.MethodName)).before a0 Z = true := hw _ (List.mem_of_getElem? (i := 9) rfl)
theorem w10 {a0 : Array Value} {Z : State} (hw : HW a0 Z) : (Jvm.Cond.code ({ cls := "java/lang/String", name := "<init>", desc := "([C)V" } : Jvm.MethodName) jdk_42_method_3_code (2 : Nat) (Option.none : Option Jvm.ClassFile.FieldType)).before a0 Z = true := hw _ (List.mem_of_getElem? (i := 10) rfl)
theorem w11 {a0 : Array Value} {Z : State} (hw : HW a0 Z) : (Jvm.Cond.methodLink "java/lang/String" (27 : Nat) ({ cls := "java/lang/String", name := "<init>", desc := "([CIILjava/lang/Void;)V" } : Jvm.MethodName)).before a0 Z = true := hw _ (List.mem_of_getElem? (i := 11) rfl)
theorem w12 {a0 : Array Value} {Z : State} (hw : HW a0 Z) : (Jvm.Cond.instanceMethod ({ cls := "java/lang/String", name := "<init>", desc := "([CIILjava/lang/Void;)V" } : Jvm.MethodName)).before a0 Z = true := hw _ (List.mem_of_getElem? (i := 12) rfl)
theorem w14 {a0 : Array Value} {Z : State} (hw : HW a0 Z) : (Jvm.Cond.code ({ cls := "java/lang/String", name := "<init>", desc := "([CIILjava/lang/Void;)V" } : Jvm.MethodName) jdk_42_method_149_code (6 : Nat) (Option.none : Option Jvm.ClassFile.FieldType)).before a0 Z = true := hw _ (List.mem_of_getElem? (i := 14) rfl)
theorem w15 {a0 : Array Value} {Z : State} (hw : HW a0 Z) : (Jvm.Cond.methodLink "java/lang/String" (1 : Nat) ({ cls := "java/lang/Object", name := "<init>", desc := "()V" } : Jvm.MethodName)).before a0 Z = true := hw _ (List.mem_of_getElem? (i := 15) rfl)
theorem w16 {a0 : Array Value} {Z : State} (hw : HW a0 Z) : (Jvm.Cond.instanceMethod ({ cls := "java/lang/Object", name := "<init>", desc := "()V" } : Jvm.MethodName)).before a0 Z = true := hw _ (List.mem_of_getElem? (i := 16) rfl)
theorem w17 {a0 : Array Value} {Z : State} (hw : HW a0 Z) : (Jvm.Cond.code ({ cls := "java/lang/Object", name := "<init>", desc := "()V" } : Jvm.MethodName) object_method_1_code (1 : Nat) (Option.none : Option Jvm.ClassFile.FieldType)).before a0 Z = true := hw _ (List.mem_of_getElem? (i := 17) rfl)
theorem w18 {a0 : Array Value} {Z : State} (hw : HW a0 Z) : (Jvm.Cond.stringLink "java/lang/String" (7 : Nat) "").before a0 Z = true := hw _ (List.mem_of_getElem? (i := 18) rfl)
theorem w19 {a0 : Array Value} {Z : State} (hw : HW a0 Z) : (Jvm.Cond.arrayClass Jvm.ClassFile.FieldType.byte).before a0 Z = true := hw _ (List.mem_of_getElem? (i := 19) rfl)
theorem w20 {a0 : Array Value} {Z : State} (hw : HW a0 Z) : (Jvm.Cond.laysFinal "java/lang/String" "java/lang/String" "value" "[B").before a0 Z = true := hw _ (List.mem_of_getElem? (i := 20) rfl)
theorem w21 {a0 : Array Value} {Z : State} (hw : HW a0 Z) : (Jvm.Cond.laysFinal "java/lang/String" "java/lang/String" "coder" "B").before a0 Z = true := hw _ (List.mem_of_getElem? (i := 21) rfl)
theorem w24 {a0 : Array Value} {Z : State} (hw : HW a0 Z) : (Jvm.Cond.fieldLink "java/lang/String" (9 : Nat) "java/lang/String" "value" "[B").before a0 Z = true := hw _ (List.mem_of_getElem? (i := 24) rfl)
theorem w25 {a0 : Array Value} {Z : State} (hw : HW a0 Z) : (Jvm.Cond.fieldLink "java/lang/String" (15 : Nat) "java/lang/String" "coder" "B").before a0 Z = true := hw _ (List.mem_of_getElem? (i := 25) rfl)
theorem w26 {a0 : Array Value} {Z : State} (hw : HW a0 Z) : (Jvm.Cond.methodLink "com/example/tugas/tugas/cli/HttpGetPinLaw" (13 : Nat) ({ cls := "com/example/tugas/tugas/cli/Http", name := "get", desc := "(Ljava/lang/String;Ljava/lang/String;)[B" } : Jvm.MethodName)).before a0 Z = true := hw _ (List.mem_of_getElem? (i := 26) rfl)
theorem w27 {a0 : Array Value} {Z : State} (hw : HW a0 Z) : (Jvm.Cond.static ({ cls := "com/example/tugas/tugas/cli/Http", name := "get", desc := "(Ljava/lang/String;Ljava/lang/String;)[B" } : Jvm.MethodName)).before a0 Z = true := hw _ (List.mem_of_getElem? (i := 27) rfl)
theorem w28 {a0 : Array Value} {Z : State} (hw : HW a0 Z) : (Jvm.Cond.initialized "com/example/tugas/tugas/cli/Http").before a0 Z = true := hw _ (List.mem_of_getElem? (i := 28) rfl)
theorem w29 {a0 : Array Value} {Z : State} (hw : HW a0 Z) : (Jvm.Cond.code ({ cls := "com/example/tugas/tugas/cli/Http", name := "get", desc := "(Ljava/lang/String;Ljava/lang/String;)[B" } : Jvm.MethodName) prog_21_method_2_code (2 : Nat) (Option.some (Jvm.ClassFile.FieldType.array Jvm.ClassFile.FieldType.byte))).before a0 Z = true := hw _ (List.mem_of_getElem? (i := 29) rfl)
theorem w30 {a0 : Array Value} {Z : State} (hw : HW a0 Z) : (Jvm.Cond.classLink "com/example/tugas/tugas/cli/Http" (7 : Nat) "java/lang/StringBuilder").before a0 Z = true := hw _ (List.mem_of_getElem? (i := 30) rfl)
theorem w31 {a0 : Array Value} {Z : State} (hw : HW a0 Z) : (Jvm.Cond.instantiable "java/lang/StringBuilder" (4 : Nat)).before a0 Z = true := hw _ (List.mem_of_getElem? (i := 31) rfl)
theorem w32 {a0 : Array Value} {Z : State} (hw : HW a0 Z) : (Jvm.Cond.initialized "java/lang/StringBuilder").before a0 Z = true := hw _ (List.mem_of_getElem? (i := 32) rfl)
theorem w33 {a0 : Array Value} {Z : State} (hw : HW a0 Z) : (Jvm.Cond.methodLink "com/example/tugas/tugas/cli/Http" (9 : Nat) ({ cls := "java/lang/StringBuilder", name := "<init>", desc := "()V" } : Jvm.MethodName)).before a0 Z = true := hw _ (List.mem_of_getElem? (i := 33) rfl)
theorem w34 {a0 : Array Value} {Z : State} (hw : HW a0 Z) : (Jvm.Cond.instanceMethod ({ cls := "java/lang/StringBuilder", name := "<init>", desc := "()V" } : Jvm.MethodName)).before a0 Z = true := hw _ (List.mem_of_getElem? (i := 34) rfl)
theorem w35 {a0 : Array Value} {Z : State} (hw : HW a0 Z) : (Jvm.Cond.code ({ cls := "java/lang/StringBuilder", name := "<init>", desc := "()V" } : Jvm.MethodName) jdk_67_method_1_code (1 : Nat) (Option.none : Option Jvm.ClassFile.FieldType)).before a0 Z = true := hw _ (List.mem_of_getElem? (i := 35) rfl)
theorem w36 {a0 : Array Value} {Z : State} (hw : HW a0 Z) : (Jvm.Cond.methodLink "java/lang/StringBuilder" (1 : Nat) ({ cls := "java/lang/AbstractStringBuilder", name := "<init>", desc := "(I)V" } : Jvm.MethodName)).before a0 Z = true := hw _ (List.mem_of_getElem? (i := 36) rfl)
theorem w37 {a0 : Array Value} {Z : State} (hw : HW a0 Z) : (Jvm.Cond.instanceMethod ({ cls := "java/lang/AbstractStringBuilder", name := "<init>", desc := "(I)V" } : Jvm.MethodName)).before a0 Z = true := hw _ (List.mem_of_getElem? (i := 37) rfl)
theorem w40 {a0 : Array Value} {Z : State} (hw : HW a0 Z) : (Jvm.Cond.initialized "java/lang/AbstractStringBuilder").before a0 Z = true := hw _ (List.mem_of_getElem? (i := 40) rfl)
theorem w41 {a0 : Array Value} {Z : State} (hw : HW a0 Z) : (Jvm.Cond.code ({ cls := "java/lang/AbstractStringBuilder", name := "<init>", desc := "(I)V" } : Jvm.MethodName) jdk_68_method_2_code (2 : Nat) (Option.none : Option Jvm.ClassFile.FieldType)).before a0 Z = true := hw _ (List.mem_of_getElem? (i := 41) rfl)
theorem w42 {a0 : Array Value} {Z : State} (hw : HW a0 Z) : (Jvm.Cond.methodLink "java/lang/AbstractStringBuilder" (3 : Nat) ({ cls := "java/lang/Object", name := "<init>", desc := "()V" } : Jvm.MethodName)).before a0 Z = true := hw _ (List.mem_of_getElem? (i := 42) rfl)
theorem w43 {a0 : Array Value} {Z : State} (hw : HW a0 Z) : (Jvm.Cond.fieldLink "java/lang/AbstractStringBuilder" (18 : Nat) "java/lang/String" "COMPACT_STRINGS" "Z").before a0 Z = true := hw _ (List.mem_of_getElem? (i := 43) rfl)
theorem w44 {a0 : Array Value} {Z : State} (hw : HW a0 Z) : (Jvm.Cond.fieldLink "java/lang/AbstractStringBuilder" (15 : Nat) "java/lang/AbstractStringBuilder" "value" "[B").before a0 Z = true := hw _ (List.mem_of_getElem? (i := 44) rfl)
theorem w45 {a0 : Array Value} {Z : State} (hw : HW a0 Z) : (Jvm.Cond.lays "java/lang/StringBuilder" "java/lang/AbstractStringBuilder" "value" "[B").before a0 Z = true := hw _ (List.mem_of_getElem? (i := 45) rfl)
theorem w46 {a0 : Array Value} {Z : State} (hw : HW a0 Z) : (Jvm.Cond.fieldLink "java/lang/AbstractStringBuilder" (22 : Nat) "java/lang/AbstractStringBuilder" "coder" "B").before a0 Z = true := hw _ (List.mem_of_getElem? (i := 46) rfl)
theorem w47 {a0 : Array Value} {Z : State} (hw : HW a0 Z) : (Jvm.Cond.lays "java/lang/StringBuilder" "java/lang/AbstractStringBuilder" "coder" "B").before a0 Z = true := hw _ (List.mem_of_getElem? (i := 47) rfl)
theorem w48 {a0 : Array Value} {Z : State} (hw : HW a0 Z) : (Jvm.Cond.stringLink "com/example/tugas/tugas/cli/Http" (10 : Nat) "GET").before a0 Z = true := hw _ (List.mem_of_getElem? (i := 48) rfl)
theorem w49 {a0 : Array Value} {Z : State} (hw : HW a0 Z) : (Jvm.Cond.methodLink "com/example/tugas/tugas/cli/Http" (12 : Nat) ({ cls := "com/example/tugas/tugas/cli/Http", name := "headStart", desc := "(Ljava/lang/String;Ljava/lang/String;Ljava/lang/String;)Ljava/lang/String;" } : Jvm.MethodName)).before a0 Z = true := hw _ (List.mem_of_getElem? (i := 49) rfl)
theorem w50 {a0 : Array Value} {Z : State} (hw : HW a0 Z) : (Jvm.Cond.static ({ cls := "com/example/tugas/tugas/cli/Http", name := "headStart", desc := "(Ljava/lang/String;Ljava/lang/String;Ljava/lang/String;)Ljava/lang/String;" } : Jvm.MethodName)).before a0 Z = true := hw _ (List.mem_of_getElem? (i := 50) rfl)
theorem w51 {a0 : Array Value} {Z : State} (hw : HW a0 Z) : (Jvm.Cond.code ({ cls := "com/example/tugas/tugas/cli/Http", name := "headStart", desc := "(Ljava/lang/String;Ljava/lang/String;Ljava/lang/String;)Ljava/lang/String;" } : Jvm.MethodName) prog_21_method_4_code (3 : Nat) (Option.some (Jvm.ClassFile.FieldType.object "java/lang/String"))).before a0 Z = true := hw _ (List.mem_of_getElem? (i := 51) rfl)
theorem w52 {a0 : Array Value} {Z : State} (hw : HW a0 Z) : (Jvm.Cond.methodLink "com/example/tugas/tugas/cli/Http" (18 : Nat) ({ cls := "java/lang/StringBuilder", name := "append", desc := "(Ljava/lang/String;)Ljava/lang/StringBuilder;" } : Jvm.MethodName)).before a0 Z = true := hw _ (List.mem_of_getElem? (i := 52) rfl)
theorem w53 {a0 : Array Value} {Z : State} (hw : HW a0 Z) : (Jvm.Cond.declares ({ cls := "java/lang/StringBuilder", name := "append", desc := "(Ljava/lang/String;)Ljava/lang/StringBuilder;" } : Jvm.MethodName)).before a0 Z = true := hw _ (List.mem_of_getElem? (i := 53) rfl)
theorem w54 {a0 : Array Value} {Z : State} (hw : HW a0 Z) : (Jvm.Cond.instanceMethod ({ cls := "java/lang/StringBuilder", name := "append", desc := "(Ljava/lang/String;)Ljava/lang/StringBuilder;" } : Jvm.MethodName)).before a0 Z = true := hw _ (List.mem_of_getElem? (i := 54) rfl)
theorem w55 {a0 : Array Value} {Z : State} (hw : HW a0 Z) : (Jvm.Cond.selects "java/lang/StringBuilder" ({ cls := "java/lang/StringBuilder", name := "append", desc := "(Ljava/lang/String;)Ljava/lang/StringBuilder;" } : Jvm.MethodName) ({ cls := "java/lang/StringBuilder", name := "append", desc := "(Ljava/lang/String;)Ljava/lang/StringBuilder;" } : Jvm.MethodName)).before a0 Z = true := hw _ (List.mem_of_getElem? (i := 55) rfl)
theorem w56 {a0 : Array Value} {Z : State} (hw : HW a0 Z) : (Jvm.Cond.code ({ cls := "java/lang/StringBuilder", name := "append", desc := "(Ljava/lang/String;)Ljava/lang/StringBuilder;" } : Jvm.MethodName) jdk_67_method_7_code (2 : Nat) (Option.some (Jvm.ClassFile.FieldType.object "java/lang/StringBuilder"))).before a0 Z = true := hw _ (List.mem_of_getElem? (i := 56) rfl)
theorem w57 {a0 : Array Value} {Z : State} (hw : HW a0 Z) : (Jvm.Cond.methodLink "java/lang/StringBuilder" (29 : Nat) ({ cls := "java/lang/AbstractStringBuilder", name := "append", desc := "(Ljava/lang/String;)Ljava/lang/AbstractStringBuilder;" } : Jvm.MethodName)).before a0 Z = true := hw _ (List.mem_of_getElem? (i := 57) rfl)
theorem w58 {a0 : Array Value} {Z : State} (hw : HW a0 Z) : (Jvm.Cond.instanceMethod ({ cls := "java/lang/AbstractStringBuilder", name := "append", desc := "(Ljava/lang/String;)Ljava/lang/AbstractStringBuilder;" } : Jvm.MethodName)).before a0 Z = true := hw _ (List.mem_of_getElem? (i := 58) rfl)
theorem w59 {a0 : Array Value} {Z : State} (hw : HW a0 Z) : (Jvm.Cond.superclass "java/lang/StringBuilder" "java/lang/AbstractStringBuilder").before a0 Z = true := hw _ (List.mem_of_getElem? (i := 59) rfl)
theorem w61 {a0 : Array Value} {Z : State} (hw : HW a0 Z) : (Jvm.Cond.code ({ cls := "java/lang/AbstractStringBuilder", name := "append", desc := "(Ljava/lang/String;)Ljava/lang/AbstractStringBuilder;" } : Jvm.MethodName) jdk_68_method_22_code (3 : Nat) (Option.some (Jvm.ClassFile.FieldType.object "java/lang/AbstractStringBuilder"))).before a0 Z = true := hw _ (List.mem_of_getElem? (i := 61) rfl)
theorem w62 {a0 : Array Value} {Z : State} (hw : HW a0 Z) : (Jvm.Cond.methodLink "java/lang/AbstractStringBuilder" (32 : Nat) ({ cls := "java/lang/String", name := "length", desc := "()I" } : Jvm.MethodName)).before a0 Z = true := hw _ (List.mem_of_getElem? (i := 62) rfl)
theorem w63 {a0 : Array Value} {Z : State} (hw : HW a0 Z) : (Jvm.Cond.declares ({ cls := "java/lang/String", name := "length", desc := "()I" } : Jvm.MethodName)).before a0 Z = true := hw _ (List.mem_of_getElem? (i := 63) rfl)
theorem w64 {a0 : Array Value} {Z : State} (hw : HW a0 Z) : (Jvm.Cond.instanceMethod ({ cls := "java/lang/String", name := "length", desc := "()I" } : Jvm.MethodName)).before a0 Z = true := hw _ (List.mem_of_getElem? (i := 64) rfl)
theorem w65 {a0 : Array Value} {Z : State} (hw : HW a0 Z) : (Jvm.Cond.selects "java/lang/String" ({ cls := "java/lang/String", name := "length", desc := "()I" } : Jvm.MethodName) ({ cls := "java/lang/String", name := "length", desc := "()I" } : Jvm.MethodName)).before a0 Z = true := hw _ (List.mem_of_getElem? (i := 65) rfl)
theorem w66 {a0 : Array Value} {Z : State} (hw : HW a0 Z) : (Jvm.Cond.code ({ cls := "java/lang/String", name := "length", desc := "()I" } : Jvm.MethodName) jdk_42_method_54_code (1 : Nat) (Option.some Jvm.ClassFile.FieldType.int)).before a0 Z = true := hw _ (List.mem_of_getElem? (i := 66) rfl)
theorem w67 {a0 : Array Value} {Z : State} (hw : HW a0 Z) : (Jvm.Cond.methodLink "java/lang/String" (335 : Nat) ({ cls := "java/lang/String", name := "coder", desc := "()B" } : Jvm.MethodName)).before a0 Z = true := hw _ (List.mem_of_getElem? (i := 67) rfl)
theorem w68 {a0 : Array Value} {Z : State} (hw : HW a0 Z) : (Jvm.Cond.declares ({ cls := "java/lang/String", name := "coder", desc := "()B" } : Jvm.MethodName)).before a0 Z = true := hw _ (List.mem_of_getElem? (i := 68) rfl)
theorem w69 {a0 : Array Value} {Z : State} (hw : HW a0 Z) : (Jvm.Cond.instanceMethod ({ cls := "java/lang/String", name := "coder", desc := "()B" } : Jvm.MethodName)).before a0 Z = true := hw _ (List.mem_of_getElem? (i := 69) rfl)
theorem w70 {a0 : Array Value} {Z : State} (hw : HW a0 Z) : (Jvm.Cond.selects "java/lang/String" ({ cls := "java/lang/String", name := "coder", desc := "()B" } : Jvm.MethodName) ({ cls := "java/lang/String", name := "coder", desc := "()B" } : Jvm.MethodName)).before a0 Z = true := hw _ (List.mem_of_getElem? (i := 70) rfl)
theorem w71 {a0 : Array Value} {Z : State} (hw : HW a0 Z) : (Jvm.Cond.code ({ cls := "java/lang/String", name := "coder", desc := "()B" } : Jvm.MethodName) jdk_42_method_152_code (1 : Nat) (Option.some Jvm.ClassFile.FieldType.byte)).before a0 Z = true := hw _ (List.mem_of_getElem? (i := 71) rfl)
theorem w72 {a0 : Array Value} {Z : State} (hw : HW a0 Z) : (Jvm.Cond.fieldLink "java/lang/String" (38 : Nat) "java/lang/String" "COMPACT_STRINGS" "Z").before a0 Z = true := hw _ (List.mem_of_getElem? (i := 72) rfl)
theorem w73 {a0 : Array Value} {Z : State} (hw : HW a0 Z) : (Jvm.Cond.fieldLink "java/lang/AbstractStringBuilder" (79 : Nat) "java/lang/AbstractStringBuilder" "count" "I").before a0 Z = true := hw _ (List.mem_of_getElem? (i := 73) rfl)
theorem w74 {a0 : Array Value} {Z : State} (hw : HW a0 Z) : (Jvm.Cond.lays "java/lang/StringBuilder" "java/lang/AbstractStringBuilder" "count" "I").before a0 Z = true := hw _ (List.mem_of_getElem? (i := 74) rfl)
theorem w75 {a0 : Array Value} {Z : State} (hw : HW a0 Z) : (Jvm.Cond.methodLink "java/lang/AbstractStringBuilder" (100 : Nat) ({ cls := "java/lang/AbstractStringBuilder", name := "ensureCapacityInternal", desc := "(I)V" } : Jvm.MethodName)).before a0 Z = true := hw _ (List.mem_of_getElem? (i := 75) rfl)
theorem w76 {a0 : Array Value} {Z : State} (hw : HW a0 Z) : (Jvm.Cond.instanceMethod ({ cls := "java/lang/AbstractStringBuilder", name := "ensureCapacityInternal", desc := "(I)V" } : Jvm.MethodName)).before a0 Z = true := hw _ (List.mem_of_getElem? (i := 76) rfl)
theorem w77 {a0 : Array Value} {Z : State} (hw : HW a0 Z) : (Jvm.Cond.privateMethod ({ cls := "java/lang/AbstractStringBuilder", name := "ensureCapacityInternal", desc := "(I)V" } : Jvm.MethodName)).before a0 Z = true := hw _ (List.mem_of_getElem? (i := 77) rfl)
theorem w78 {a0 : Array Value} {Z : State} (hw : HW a0 Z) : (Jvm.Cond.selects "java/lang/StringBuilder" ({ cls := "java/lang/AbstractStringBuilder", name := "ensureCapacityInternal", desc := "(I)V" } : Jvm.MethodName) ({ cls := "java/lang/AbstractStringBuilder", name := "ensureCapacityInternal", desc := "(I)V" } : Jvm.MethodName)).before a0 Z = true := hw _ (List.mem_of_getElem? (i := 78) rfl)
theorem w79 {a0 : Array Value} {Z : State} (hw : HW a0 Z) : (Jvm.Cond.code ({ cls := "java/lang/AbstractStringBuilder", name := "ensureCapacityInternal", desc := "(I)V" } : Jvm.MethodName) jdk_68_method_9_code (3 : Nat) (Option.none : Option Jvm.ClassFile.FieldType)).before a0 Z = true := hw _ (List.mem_of_getElem? (i := 79) rfl)
theorem w80 {a0 : Array Value} {Z : State} (hw : HW a0 Z) : (Jvm.Cond.methodLink "java/lang/AbstractStringBuilder" (208 : Nat) ({ cls := "java/lang/AbstractStringBuilder", name := "putStringAt", desc := "(ILjava/lang/String;)V" } : Jvm.MethodName)).before a0 Z = true := hw _ (List.mem_of_getElem? (i := 80) rfl)
theorem w81 {a0 : Array Value} {Z : State} (hw : HW a0 Z) : (Jvm.Cond.instanceMethod ({ cls := "java/lang/AbstractStringBuilder", name := "putStringAt", desc := "(ILjava/lang/String;)V" } : Jvm.MethodName)).before a0 Z = true := hw _ (List.mem_of_getElem? (i := 81) rfl)
theorem w82 {a0 : Array Value} {Z : State} (hw : HW a0 Z) : (Jvm.Cond.privateMethod ({ cls := "java/lang/AbstractStringBuilder", name := "putStringAt", desc := "(ILjava/lang/String;)V" } : Jvm.MethodName)).before a0 Z = true := hw _ (List.mem_of_getElem? (i := 82) rfl)
theorem w83 {a0 : Array Value} {Z : State} (hw : HW a0 Z) : (Jvm.Cond.selects "java/lang/StringBuilder" ({ cls := "java/lang/AbstractStringBuilder", name := "putStringAt", desc := "(ILjava/lang/String;)V" } : Jvm.MethodName) ({ cls := "java/lang/AbstractStringBuilder", name := "putStringAt", desc := "(ILjava/lang/String;)V" } : Jvm.MethodName)).before a0 Z = true := hw _ (List.mem_of_getElem? (i := 83) rfl)
theorem w84 {a0 : Array Value} {Z : State} (hw : HW a0 Z) : (Jvm.Cond.code ({ cls := "java/lang/AbstractStringBuilder", name := "putStringAt", desc := "(ILjava/lang/String;)V" } : Jvm.MethodName) jdk_68_method_73_code (3 : Nat) (Option.none : Option Jvm.ClassFile.FieldType)).before a0 Z = true := hw _ (List.mem_of_getElem? (i := 84) rfl)
theorem w85 {a0 : Array Value} {Z : State} (hw : HW a0 Z) : (Jvm.Cond.methodLink "java/lang/AbstractStringBuilder" (397 : Nat) ({ cls := "java/lang/AbstractStringBuilder", name := "inflateIfNeededFor", desc := "(Ljava/lang/String;)V" } : Jvm.MethodName)).before a0 Z = true := hw _ (List.mem_of_getElem? (i := 85) rfl)
theorem w86 {a0 : Array Value} {Z : State} (hw : HW a0 Z) : (Jvm.Cond.instanceMethod ({ cls := "java/lang/AbstractStringBuilder", name := "inflateIfNeededFor", desc := "(Ljava/lang/String;)V" } : Jvm.MethodName)).before a0 Z = true := hw _ (List.mem_of_getElem? (i := 86) rfl)
theorem w87 {a0 : Array Value} {Z : State} (hw : HW a0 Z) : (Jvm.Cond.privateMethod ({ cls := "java/lang/AbstractStringBuilder", name := "inflateIfNeededFor", desc := "(Ljava/lang/String;)V" } : Jvm.MethodName)).before a0 Z = true := hw _ (List.mem_of_getElem? (i := 87) rfl)
theorem w88 {a0 : Array Value} {Z : State} (hw : HW a0 Z) : (Jvm.Cond.selects "java/lang/StringBuilder" ({ cls := "java/lang/AbstractStringBuilder", name := "inflateIfNeededFor", desc := "(Ljava/lang/String;)V" } : Jvm.MethodName) ({ cls := "java/lang/AbstractStringBuilder", name := "inflateIfNeededFor", desc := "(Ljava/lang/String;)V" } : Jvm.MethodName)).before a0 Z = true := hw _ (List.mem_of_getElem? (i := 88) rfl)
theorem w89 {a0 : Array Value} {Z : State} (hw : HW a0 Z) : (Jvm.Cond.code ({ cls := "java/lang/AbstractStringBuilder", name := "inflateIfNeededFor", desc := "(Ljava/lang/String;)V" } : Jvm.MethodName) jdk_68_method_71_code (2 : Nat) (Option.none : Option Jvm.ClassFile.FieldType)).before a0 Z = true := hw _ (List.mem_of_getElem? (i := 89) rfl)
theorem w90 {a0 : Array Value} {Z : State} (hw : HW a0 Z) : (Jvm.Cond.methodLink "java/lang/AbstractStringBuilder" (40 : Nat) ({ cls := "java/lang/String", name := "coder", desc := "()B" } : Jvm.MethodName)).before a0 Z = true := hw _ (List.mem_of_getElem? (i := 90) rfl)
theorem w91 {a0 : Array Value} {Z : State} (hw : HW a0 Z) : (Jvm.Cond.methodLink "java/lang/AbstractStringBuilder" (399 : Nat) ({ cls := "java/lang/String", name := "getBytes", desc := "([BIB)V" } : Jvm.MethodName)).before a0 Z = true := hw _ (List.mem_of_getElem? (i := 91) rfl)
theorem w92 {a0 : Array Value} {Z : State} (hw : HW a0 Z) : (Jvm.Cond.declares ({ cls := "java/lang/String", name := "getBytes", desc := "([BIB)V" } : Jvm.MethodName)).before a0 Z = true := hw _ (List.mem_of_getElem? (i := 92) rfl)
theorem w93 {a0 : Array Value} {Z : State} (hw : HW a0 Z) : (Jvm.Cond.instanceMethod ({ cls := "java/lang/String", name := "getBytes", desc := "([BIB)V" } : Jvm.MethodName)).before a0 Z = true := hw _ (List.mem_of_getElem? (i := 93) rfl)
theorem w94 {a0 : Array Value} {Z : State} (hw : HW a0 Z) : (Jvm.Cond.selects "java/lang/String" ({ cls := "java/lang/String", name := "getBytes", desc := "([BIB)V" } : Jvm.MethodName) ({ cls := "java/lang/String", name := "getBytes", desc := "([BIB)V" } : Jvm.MethodName)).before a0 Z = true := hw _ (List.mem_of_getElem? (i := 94) rfl)
theorem w95 {a0 : Array Value} {Z : State} (hw : HW a0 Z) : (Jvm.Cond.code ({ cls := "java/lang/String", name := "getBytes", desc := "([BIB)V" } : Jvm.MethodName) jdk_42_method_147_code (4 : Nat) (Option.none : Option Jvm.ClassFile.FieldType)).before a0 Z = true := hw _ (List.mem_of_getElem? (i := 95) rfl)
theorem w96 {a0 : Array Value} {Z : State} (hw : HW a0 Z) : (Jvm.Cond.methodLink "java/lang/String" (212 : Nat) ({ cls := "java/lang/System", name := "arraycopy", desc := "(Ljava/lang/Object;ILjava/lang/Object;II)V" } : Jvm.MethodName)).before a0 Z = true := hw _ (List.mem_of_getElem? (i := 96) rfl)
theorem w97 {a0 : Array Value} {Z : State} (hw : HW a0 Z) : (Jvm.Cond.static ({ cls := "java/lang/System", name := "arraycopy", desc := "(Ljava/lang/Object;ILjava/lang/Object;II)V" } : Jvm.MethodName)).before a0 Z = true := hw _ (List.mem_of_getElem? (i := 97) rfl)
theorem w98 {a0 : Array Value} {Z : State} (hw : HW a0 Z) : (Jvm.Cond.initialized "java/lang/System").before a0 Z = true := hw _ (List.mem_of_getElem? (i := 98) rfl)
theorem w99 {a0 : Array Value} {Z : State} (hw : HW a0 Z) : (Jvm.Cond.native ({ cls := "java/lang/System", name := "arraycopy", desc := "(Ljava/lang/Object;ILjava/lang/Object;II)V" } : Jvm.MethodName)).before a0 Z = true := hw _ (List.mem_of_getElem? (i := 99) rfl)
theorem w100 {a0 : Array Value} {Z : State} (hw : HW a0 Z) : (Jvm.Cond.stringLink "com/example/tugas/tugas/cli/Http" (61 : Nat) " ").before a0 Z = true := hw _ (List.mem_of_getElem? (i := 100) rfl)
theorem w101 {a0 : Array Value} {Z : State} (hw : HW a0 Z) : (Jvm.Cond.stringLink "com/example/tugas/tugas/cli/Http" (63 : Nat) " HTTP/1.1\r\nHost: ").before a0 Z = true := hw _ (List.mem_of_getElem? (i := 101) rfl)
theorem w102 {a0 : Array Value} {Z : State} (hw : HW a0 Z) : (Jvm.Cond.methodLink "java/lang/AbstractStringBuilder" (104 : Nat) ({ cls := "java/lang/AbstractStringBuilder", name := "newCapacity", desc := "(I)I" } : Jvm.MethodName)).before a0 Z = true := hw _ (List.mem_of_getElem? (i := 102) rfl)
theorem w103 {a0 : Array Value} {Z : State} (hw : HW a0 Z) : (Jvm.Cond.instanceMethod ({ cls := "java/lang/AbstractStringBuilder", name := "newCapacity", desc := "(I)I" } : Jvm.MethodName)).before a0 Z = true := hw _ (List.mem_of_getElem? (i := 103) rfl)
theorem w104 {a0 : Array Value} {Z : State} (hw : HW a0 Z) : (Jvm.Cond.privateMethod ({ cls := "java/lang/AbstractStringBuilder", name := "newCapacity", desc := "(I)I" } : Jvm.MethodName)).before a0 Z = true := hw _ (List.mem_of_getElem? (i := 104) rfl)
theorem w105 {a0 : Array Value} {Z : State} (hw : HW a0 Z) : (Jvm.Cond.selects "java/lang/StringBuilder" ({ cls := "java/lang/AbstractStringBuilder", name := "newCapacity", desc := "(I)I" } : Jvm.MethodName) ({ cls := "java/lang/AbstractStringBuilder", name := "newCapacity", desc := "(I)I" } : Jvm.MethodName)).before a0 Z = true := hw _ (List.mem_of_getElem? (i := 105) rfl)
theorem w106 {a0 : Array Value} {Z : State} (hw : HW a0 Z) : (Jvm.Cond.code ({ cls := "java/lang/AbstractStringBuilder", name := "newCapacity", desc := "(I)I" } : Jvm.MethodName) jdk_68_method_10_code (6 : Nat) (Option.some Jvm.ClassFile.FieldType.int)).before a0 Z = true := hw _ (List.mem_of_getElem? (i := 106) rfl)
theorem w107 {a0 : Array Value} {Z : State} (hw : HW a0 Z) : (Jvm.Cond.methodLink "java/lang/AbstractStringBuilder" (114 : Nat) ({ cls := "jdk/internal/util/ArraysSupport", name := "newLength", desc := "(III)I" } : Jvm.MethodName)).before a0 Z = true := hw _ (List.mem_of_getElem? (i := 107) rfl)
theorem w108 {a0 : Array Value} {Z : State} (hw : HW a0 Z) : (Jvm.Cond.static ({ cls := "jdk/internal/util/ArraysSupport", name := "newLength", desc := "(III)I" } : Jvm.MethodName)).before a0 Z = true := hw _ (List.mem_of_getElem? (i := 108) rfl)
theorem w109 {a0 : Array Value} {Z : State} (hw : HW a0 Z) : (Jvm.Cond.initialized "jdk/internal/util/ArraysSupport").before a0 Z = true := hw _ (List.mem_of_getElem? (i := 109) rfl)
theorem w110 {a0 : Array Value} {Z : State} (hw : HW a0 Z) : (Jvm.Cond.code ({ cls := "jdk/internal/util/ArraysSupport", name := "newLength", desc := "(III)I" } : Jvm.MethodName) jdk_48_method_27_code (4 : Nat) (Option.some Jvm.ClassFile.FieldType.int)).before a0 Z = true := hw _ (List.mem_of_getElem? (i := 110) rfl)
theorem w111 {a0 : Array Value} {Z : State} (hw : HW a0 Z) : (Jvm.Cond.methodLink "jdk/internal/util/ArraysSupport" (194 : Nat) ({ cls := "java/lang/Math", name := "max", desc := "(II)I" } : Jvm.MethodName)).before a0 Z = true := hw _ (List.mem_of_getElem? (i := 111) rfl)
theorem w112 {a0 : Array Value} {Z : State} (hw : HW a0 Z) : (Jvm.Cond.static ({ cls := "java/lang/Math", name := "max", desc := "(II)I" } : Jvm.MethodName)).before a0 Z = true := hw _ (List.mem_of_getElem? (i := 112) rfl)
theorem w113 {a0 : Array Value} {Z : State} (hw : HW a0 Z) : (Jvm.Cond.initialized "java/lang/Math").before a0 Z = true := hw _ (List.mem_of_getElem? (i := 113) rfl)
theorem w114 {a0 : Array Value} {Z : State} (hw : HW a0 Z) : (Jvm.Cond.code ({ cls := "java/lang/Math", name := "max", desc := "(II)I" } : Jvm.MethodName) jdk_29_method_65_code (2 : Nat) (Option.some Jvm.ClassFile.FieldType.int)).before a0 Z = true := hw _ (List.mem_of_getElem? (i := 114) rfl)
theorem w115 {a0 : Array Value} {Z : State} (hw : HW a0 Z) : (Jvm.Cond.constant "jdk/internal/util/ArraysSupport" (200 : Nat) (2147483639 : Int32)).before a0 Z = true := hw _ (List.mem_of_getElem? (i := 115) rfl)
theorem w116 {a0 : Array Value} {Z : State} (hw : HW a0 Z) : (Jvm.Cond.constant "java/lang/AbstractStringBuilder" (39 : Nat) (2147483647 : Int32)).before a0 Z = true := hw _ (List.mem_of_getElem? (i := 116) rfl)
theorem w117 {a0 : Array Value} {Z : State} (hw : HW a0 Z) : (Jvm.Cond.methodLink "java/lang/AbstractStringBuilder" (108 : Nat) ({ cls := "java/util/Arrays", name := "copyOf", desc := "([BI)[B" } : Jvm.MethodName)).before a0 Z = true := hw _ (List.mem_of_getElem? (i := 117) rfl)
theorem w118 {a0 : Array Value} {Z : State} (hw : HW a0 Z) : (Jvm.Cond.static ({ cls := "java/util/Arrays", name := "copyOf", desc := "([BI)[B" } : Jvm.MethodName)).before a0 Z = true := hw _ (List.mem_of_getElem? (i := 118) rfl)
theorem w119 {a0 : Array Value} {Z : State} (hw : HW a0 Z) : (Jvm.Cond.initialized "java/util/Arrays").before a0 Z = true := hw _ (List.mem_of_getElem? (i := 119) rfl)
theorem w120 {a0 : Array Value} {Z : State} (hw : HW a0 Z) : (Jvm.Cond.code ({ cls := "java/util/Arrays", name := "copyOf", desc := "([BI)[B" } : Jvm.MethodName) jdk_65_method_121_code (3 : Nat) (Option.some (Jvm.ClassFile.FieldType.array Jvm.ClassFile.FieldType.byte))).before a0 Z = true := hw _ (List.mem_of_getElem? (i := 120) rfl)
theorem w121 {a0 : Array Value} {Z : State} (hw : HW a0 Z) : (Jvm.Cond.methodLink "java/util/Arrays" (304 : Nat) ({ cls := "java/lang/Math", name := "min", desc := "(II)I" } : Jvm.MethodName)).before a0 Z = true := hw _ (List.mem_of_getElem? (i := 121) rfl)
theorem w122 {a0 : Array Value} {Z : State} (hw : HW a0 Z) : (Jvm.Cond.static ({ cls := "java/lang/Math", name := "min", desc := "(II)I" } : Jvm.MethodName)).before a0 Z = true := hw _ (List.mem_of_getElem? (i := 122) rfl)
theorem w123 {a0 : Array Value} {Z : State} (hw : HW a0 Z) : (Jvm.Cond.code ({ cls := "java/lang/Math", name := "min", desc := "(II)I" } : Jvm.MethodName) jdk_29_method_69_code (2 : Nat) (Option.some Jvm.ClassFile.FieldType.int)).before a0 Z = true := hw _ (List.mem_of_getElem? (i := 123) rfl)
theorem w124 {a0 : Array Value} {Z : State} (hw : HW a0 Z) : (Jvm.Cond.methodLink "java/util/Arrays" (150 : Nat) ({ cls := "java/lang/System", name := "arraycopy", desc := "(Ljava/lang/Object;ILjava/lang/Object;II)V" } : Jvm.MethodName)).before a0 Z = true := hw _ (List.mem_of_getElem? (i := 124) rfl)
theorem w125 {a0 : Array Value} {Z : State} (hw : HW a0 Z) : (Jvm.Cond.stringLink "com/example/tugas/tugas/cli/Http" (22 : Nat) "\r\n").before a0 Z = true := hw _ (List.mem_of_getElem? (i := 125) rfl)
theorem w126 {a0 : Array Value} {Z : State} (hw : HW a0 Z) : (Jvm.Cond.methodLink "com/example/tugas/tugas/cli/Http" (24 : Nat) ({ cls := "java/lang/StringBuilder", name := "toString", desc := "()Ljava/lang/String;" } : Jvm.MethodName)).before a0 Z = true := hw _ (List.mem_of_getElem? (i := 126) rfl)
theorem w127 {a0 : Array Value} {Z : State} (hw : HW a0 Z) : (Jvm.Cond.declares ({ cls := "java/lang/StringBuilder", name := "toString", desc := "()Ljava/lang/String;" } : Jvm.MethodName)).before a0 Z = true := hw _ (List.mem_of_getElem? (i := 127) rfl)
theorem w128 {a0 : Array Value} {Z : State} (hw : HW a0 Z) : (Jvm.Cond.instanceMethod ({ cls := "java/lang/StringBuilder", name := "toString", desc := "()Ljava/lang/String;" } : Jvm.MethodName)).before a0 Z = true := hw _ (List.mem_of_getElem? (i := 128) rfl)
theorem w129 {a0 : Array Value} {Z : State} (hw : HW a0 Z) : (Jvm.Cond.selects "java/lang/StringBuilder" ({ cls := "java/lang/StringBuilder", name := "toString", desc := "()Ljava/lang/String;" } : Jvm.MethodName) ({ cls := "java/lang/StringBuilder", name := "toString", desc := "()Ljava/lang/String;" } : Jvm.MethodName)).before a0 Z = true := hw _ (List.mem_of_getElem? (i := 129) rfl)
theorem w130 {a0 : Array Value} {Z : State} (hw : HW a0 Z) : (Jvm.Cond.code ({ cls := "java/lang/StringBuilder", name := "toString", desc := "()Ljava/lang/String;" } : Jvm.MethodName) jdk_67_method_42_code (1 : Nat) (Option.some (Jvm.ClassFile.FieldType.object "java/lang/String"))).before a0 Z = true := hw _ (List.mem_of_getElem? (i := 130) rfl)
theorem w131 {a0 : Array Value} {Z : State} (hw : HW a0 Z) : (Jvm.Cond.classLink "java/lang/StringBuilder" (18 : Nat) "java/lang/String").before a0 Z = true := hw _ (List.mem_of_getElem? (i := 131) rfl)
theorem w132 {a0 : Array Value} {Z : State} (hw : HW a0 Z) : (Jvm.Cond.methodLink "java/lang/StringBuilder" (137 : Nat) ({ cls := "java/lang/String", name := "<init>", desc := "(Ljava/lang/StringBuilder;)V" } : Jvm.MethodName)).before a0 Z = true := hw _ (List.mem_of_getElem? (i := 132) rfl)
theorem w133 {a0 : Array Value} {Z : State} (hw : HW a0 Z) : (Jvm.Cond.instanceMethod ({ cls := "java/lang/String", name := "<init>", desc := "(Ljava/lang/StringBuilder;)V" } : Jvm.MethodName)).before a0 Z = true := hw _ (List.mem_of_getElem? (i := 133) rfl)
theorem w134 {a0 : Array Value} {Z : State} (hw : HW a0 Z) : (Jvm.Cond.code ({ cls := "java/lang/String", name := "<init>", desc := "(Ljava/lang/StringBuilder;)V" } : Jvm.MethodName) jdk_42_method_53_code (2 : Nat) (Option.none : Option Jvm.ClassFile.FieldType)).before a0 Z = true := hw _ (List.mem_of_getElem? (i := 134) rfl)
theorem w135 {a0 : Array Value} {Z : State} (hw : HW a0 Z) : (Jvm.Cond.methodLink "java/lang/String" (489 : Nat) ({ cls := "java/lang/String", name := "<init>", desc := "(Ljava/lang/AbstractStringBuilder;Ljava/lang/Void;)V" } : Jvm.MethodName)).before a0 Z = true := hw _ (List.mem_of_getElem? (i := 135) rfl)
theorem w136 {a0 : Array Value} {Z : State} (hw : HW a0 Z) : (Jvm.Cond.instanceMethod ({ cls := "java/lang/String", name := "<init>", desc := "(Ljava/lang/AbstractStringBuilder;Ljava/lang/Void;)V" } : Jvm.MethodName)).before a0 Z = true := hw _ (List.mem_of_getElem? (i := 136) rfl)
theorem w137 {a0 : Array Value} {Z : State} (hw : HW a0 Z) : (Jvm.Cond.code ({ cls := "java/lang/String", name := "<init>", desc := "(Ljava/lang/AbstractStringBuilder;Ljava/lang/Void;)V" } : Jvm.MethodName) jdk_42_method_150_code (5 : Nat) (Option.none : Option Jvm.ClassFile.FieldType)).before a0 Z = true := hw _ (List.mem_of_getElem? (i := 137) rfl)
theorem w138 {a0 : Array Value} {Z : State} (hw : HW a0 Z) : (Jvm.Cond.methodLink "java/lang/String" (552 : Nat) ({ cls := "java/lang/AbstractStringBuilder", name := "getValue", desc := "()[B" } : Jvm.MethodName)).before a0 Z = true := hw _ (List.mem_of_getElem? (i := 138) rfl)
theorem w139 {a0 : Array Value} {Z : State} (hw : HW a0 Z) : (Jvm.Cond.declares ({ cls := "java/lang/AbstractStringBuilder", name := "getValue", desc := "()[B" } : Jvm.MethodName)).before a0 Z = true := hw _ (List.mem_of_getElem? (i := 139) rfl)
theorem w140 {a0 : Array Value} {Z : State} (hw : HW a0 Z) : (Jvm.Cond.instanceMethod ({ cls := "java/lang/AbstractStringBuilder", name := "getValue", desc := "()[B" } : Jvm.MethodName)).before a0 Z = true := hw _ (List.mem_of_getElem? (i := 140) rfl)
theorem w141 {a0 : Array Value} {Z : State} (hw : HW a0 Z) : (Jvm.Cond.selects "java/lang/StringBuilder" ({ cls := "java/lang/AbstractStringBuilder", name := "getValue", desc := "()[B" } : Jvm.MethodName) ({ cls := "java/lang/AbstractStringBuilder", name := "getValue", desc := "()[B" } : Jvm.MethodName)).before a0 Z = true := hw _ (List.mem_of_getElem? (i := 141) rfl)
theorem w142 {a0 : Array Value} {Z : State} (hw : HW a0 Z) : (Jvm.Cond.code ({ cls := "java/lang/AbstractStringBuilder", name := "getValue", desc := "()[B" } : Jvm.MethodName) jdk_68_method_64_code (1 : Nat) (Option.some (Jvm.ClassFile.FieldType.array Jvm.ClassFile.FieldType.byte))).before a0 Z = true := hw _ (List.mem_of_getElem? (i := 142) rfl)
theorem w143 {a0 : Array Value} {Z : State} (hw : HW a0 Z) : (Jvm.Cond.methodLink "java/lang/String" (549 : Nat) ({ cls := "java/lang/AbstractStringBuilder", name := "length", desc := "()I" } : Jvm.MethodName)).before a0 Z = true := hw _ (List.mem_of_getElem? (i := 143) rfl)
theorem w144 {a0 : Array Value} {Z : State} (hw : HW a0 Z) : (Jvm.Cond.declares ({ cls := "java/lang/AbstractStringBuilder", name := "length", desc := "()I" } : Jvm.MethodName)).before a0 Z = true := hw _ (List.mem_of_getElem? (i := 144) rfl)
theorem w145 {a0 : Array Value} {Z : State} (hw : HW a0 Z) : (Jvm.Cond.instanceMethod ({ cls := "java/lang/AbstractStringBuilder", name := "length", desc := "()I" } : Jvm.MethodName)).before a0 Z = true := hw _ (List.mem_of_getElem? (i := 145) rfl)
theorem w146 {a0 : Array Value} {Z : State} (hw : HW a0 Z) : (Jvm.Cond.selects "java/lang/StringBuilder" ({ cls := "java/lang/AbstractStringBuilder", name := "length", desc := "()I" } : Jvm.MethodName) ({ cls := "java/lang/StringBuilder", name := "length", desc := "()I" } : Jvm.MethodName)).before a0 Z = true := hw _ (List.mem_of_getElem? (i := 146) rfl)
theorem w147 {a0 : Array Value} {Z : State} (hw : HW a0 Z) : (Jvm.Cond.instanceMethod ({ cls := "java/lang/StringBuilder", name := "length", desc := "()I" } : Jvm.MethodName)).before a0 Z = true := hw _ (List.mem_of_getElem? (i := 147) rfl)
theorem w148 {a0 : Array Value} {Z : State} (hw : HW a0 Z) : (Jvm.Cond.code ({ cls := "java/lang/StringBuilder", name := "length", desc := "()I" } : Jvm.MethodName) jdk_67_method_93_code (1 : Nat) (Option.some Jvm.ClassFile.FieldType.int)).before a0 Z = true := hw _ (List.mem_of_getElem? (i := 148) rfl)
theorem w149 {a0 : Array Value} {Z : State} (hw : HW a0 Z) : (Jvm.Cond.methodLink "java/lang/StringBuilder" (343 : Nat) ({ cls := "java/lang/AbstractStringBuilder", name := "length", desc := "()I" } : Jvm.MethodName)).before a0 Z = true := hw _ (List.mem_of_getElem? (i := 149) rfl)
theorem w150 {a0 : Array Value} {Z : State} (hw : HW a0 Z) : (Jvm.Cond.code ({ cls := "java/lang/AbstractStringBuilder", name := "length", desc := "()I" } : Jvm.MethodName) jdk_68_method_6_code (1 : Nat) (Option.some Jvm.ClassFile.FieldType.int)).before a0 Z = true := hw _ (List.mem_of_getElem? (i := 150) rfl)
theorem w151 {a0 : Array Value} {Z : State} (hw : HW a0 Z) : (Jvm.Cond.methodLink "java/lang/String" (1047 : Nat) ({ cls := "java/lang/AbstractStringBuilder", name := "isLatin1", desc := "()Z" } : Jvm.MethodName)).before a0 Z = true := hw _ (List.mem_of_getElem? (i := 151) rfl)
theorem w152 {a0 : Array Value} {Z : State} (hw : HW a0 Z) : (Jvm.Cond.declares ({ cls := "java/lang/AbstractStringBuilder", name := "isLatin1", desc := "()Z" } : Jvm.MethodName)).before a0 Z = true := hw _ (List.mem_of_getElem? (i := 152) rfl)
theorem w153 {a0 : Array Value} {Z : State} (hw : HW a0 Z) : (Jvm.Cond.instanceMethod ({ cls := "java/lang/AbstractStringBuilder", name := "isLatin1", desc := "()Z" } : Jvm.MethodName)).before a0 Z = true := hw _ (List.mem_of_getElem? (i := 153) rfl)
theorem w154 {a0 : Array Value} {Z : State} (hw : HW a0 Z) : (Jvm.Cond.selects "java/lang/StringBuilder" ({ cls := "java/lang/AbstractStringBuilder", name := "isLatin1", desc := "()Z" } : Jvm.MethodName) ({ cls := "java/lang/AbstractStringBuilder", name := "isLatin1", desc := "()Z" } : Jvm.MethodName)).before a0 Z = true := hw _ (List.mem_of_getElem? (i := 154) rfl)
theorem w155 {a0 : Array Value} {Z : State} (hw : HW a0 Z) : (Jvm.Cond.code ({ cls := "java/lang/AbstractStringBuilder", name := "isLatin1", desc := "()Z" } : Jvm.MethodName) jdk_68_method_68_code (1 : Nat) (Option.some Jvm.ClassFile.FieldType.boolean)).before a0 Z = true := hw _ (List.mem_of_getElem? (i := 155) rfl)
theorem w156 {a0 : Array Value} {Z : State} (hw : HW a0 Z) : (Jvm.Cond.methodLink "java/lang/String" (54 : Nat) ({ cls := "java/util/Arrays", name := "copyOfRange", desc := "([BII)[B" } : Jvm.MethodName)).before a0 Z = true := hw _ (List.mem_of_getElem? (i := 156) rfl)
theorem w157 {a0 : Array Value} {Z : State} (hw : HW a0 Z) : (Jvm.Cond.static ({ cls := "java/util/Arrays", name := "copyOfRange", desc := "([BII)[B" } : Jvm.MethodName)).before a0 Z = true := hw _ (List.mem_of_getElem? (i := 157) rfl)
theorem w158 {a0 : Array Value} {Z : State} (hw : HW a0 Z) : (Jvm.Cond.code ({ cls := "java/util/Arrays", name := "copyOfRange", desc := "([BII)[B" } : Jvm.MethodName) jdk_65_method_132_code (3 : Nat) (Option.some (Jvm.ClassFile.FieldType.array Jvm.ClassFile.FieldType.byte))).before a0 Z = true := hw _ (List.mem_of_getElem? (i := 158) rfl)
theorem w159 {a0 : Array Value} {Z : State} (hw : HW a0 Z) : (Jvm.Cond.methodLink "java/util/Arrays" (339 : Nat) ({ cls := "java/util/Arrays", name := "copyOfRangeByte", desc := "([BII)[B" } : Jvm.MethodName)).before a0 Z = true := hw _ (List.mem_of_getElem? (i := 159) rfl)
theorem w160 {a0 : Array Value} {Z : State} (hw : HW a0 Z) : (Jvm.Cond.static ({ cls := "java/util/Arrays", name := "copyOfRangeByte", desc := "([BII)[B" } : Jvm.MethodName)).before a0 Z = true := hw _ (List.mem_of_getElem? (i := 160) rfl)
theorem w161 {a0 : Array Value} {Z : State} (hw : HW a0 Z) : (Jvm.Cond.code ({ cls := "java/util/Arrays", name := "copyOfRangeByte", desc := "([BII)[B" } : Jvm.MethodName) jdk_65_method_133_code (5 : Nat) (Option.some (Jvm.ClassFile.FieldType.array Jvm.ClassFile.FieldType.byte))).before a0 Z = true := hw _ (List.mem_of_getElem? (i := 161) rfl)
theorem w162 {a0 : Array Value} {Z : State} (hw : HW a0 Z) : (Jvm.Cond.methodLink "java/util/Arrays" (343 : Nat) ({ cls := "java/util/Arrays", name := "checkLength", desc := "(II)V" } : Jvm.MethodName)).before a0 Z = true := hw _ (List.mem_of_getElem? (i := 162) rfl)
theorem w163 {a0 : Array Value} {Z : State} (hw : HW a0 Z) : (Jvm.Cond.static ({ cls := "java/util/Arrays", name := "checkLength", desc := "(II)V" } : Jvm.MethodName)).before a0 Z = true := hw _ (List.mem_of_getElem? (i := 163) rfl)
theorem w164 {a0 : Array Value} {Z : State} (hw : HW a0 Z) : (Jvm.Cond.code ({ cls := "java/util/Arrays", name := "checkLength", desc := "(II)V" } : Jvm.MethodName) jdk_65_method_131_code (2 : Nat) (Option.none : Option Jvm.ClassFile.FieldType)).before a0 Z = true := hw _ (List.mem_of_getElem? (i := 164) rfl)
theorem w165 {a0 : Array Value} {Z : State} (hw : HW a0 Z) : (Jvm.Cond.fieldLink "com/example/tugas/tugas/cli/Http" (28 : Nat) "java/nio/charset/StandardCharsets" "US_ASCII" "Ljava/nio/charset/Charset;").before a0 Z = true := hw _ (List.mem_of_getElem? (i := 165) rfl)
theorem w167 {a0 : Array Value} {Z : State} (hw : HW a0 Z) : (Jvm.Cond.methodLink "com/example/tugas/tugas/cli/Http" (34 : Nat) ({ cls := "java/lang/String", name := "getBytes", desc := "(Ljava/nio/charset/Charset;)[B" } : Jvm.MethodName)).before a0 Z = true := hw _ (List.mem_of_getElem? (i := 167) rfl)
theorem w168 {a0 : Array Value} {Z : State} (hw : HW a0 Z) : (Jvm.Cond.declares ({ cls := "java/lang/String", name := "getBytes", desc := "(Ljava/nio/charset/Charset;)[B" } : Jvm.MethodName)).before a0 Z = true := hw _ (List.mem_of_getElem? (i := 168) rfl)
theorem w169 {a0 : Array Value} {Z : State} (hw : HW a0 Z) : (Jvm.Cond.instanceMethod ({ cls := "java/lang/String", name := "getBytes", desc := "(Ljava/nio/charset/Charset;)[B" } : Jvm.MethodName)).before a0 Z = true := hw _ (List.mem_of_getElem? (i := 169) rfl)
theorem w170 {a0 : Array Value} {Z : State} (hw : HW a0 Z) : (Jvm.Cond.selects "java/lang/String" ({ cls := "java/lang/String", name := "getBytes", desc := "(Ljava/nio/charset/Charset;)[B" } : Jvm.MethodName) ({ cls := "java/lang/String", name := "getBytes", desc := "(Ljava/nio/charset/Charset;)[B" } : Jvm.MethodName)).before a0 Z = true := hw _ (List.mem_of_getElem? (i := 170) rfl)
theorem w171 {a0 : Array Value} {Z : State} (hw : HW a0 Z) : (Jvm.Cond.code ({ cls := "java/lang/String", name := "getBytes", desc := "(Ljava/nio/charset/Charset;)[B" } : Jvm.MethodName) jdk_42_method_64_code (2 : Nat) (Option.some (Jvm.ClassFile.FieldType.array Jvm.ClassFile.FieldType.byte))).before a0 Z = true := hw _ (List.mem_of_getElem? (i := 171) rfl)
theorem w172 {a0 : Array Value} {Z : State} (hw : HW a0 Z) : (Jvm.Cond.methodLink "java/lang/String" (535 : Nat) ({ cls := "java/lang/String", name := "encode", desc := "(Ljava/nio/charset/Charset;B[B)[B" } : Jvm.MethodName)).before a0 Z = true := hw _ (List.mem_of_getElem? (i := 172) rfl)
theorem w173 {a0 : Array Value} {Z : State} (hw : HW a0 Z) : (Jvm.Cond.static ({ cls := "java/lang/String", name := "encode", desc := "(Ljava/nio/charset/Charset;B[B)[B" } : Jvm.MethodName)).before a0 Z = true := hw _ (List.mem_of_getElem? (i := 173) rfl)
theorem w174 {a0 : Array Value} {Z : State} (hw : HW a0 Z) : (Jvm.Cond.code ({ cls := "java/lang/String", name := "encode", desc := "(Ljava/nio/charset/Charset;B[B)[B" } : Jvm.MethodName) jdk_42_method_18_code (3 : Nat) (Option.some (Jvm.ClassFile.FieldType.array Jvm.ClassFile.FieldType.byte))).before a0 Z = true := hw _ (List.mem_of_getElem? (i := 174) rfl)
theorem w175 {a0 : Array Value} {Z : State} (hw : HW a0 Z) : (Jvm.Cond.fieldLink "java/lang/String" (86 : Nat) "sun/nio/cs/UTF_8" "INSTANCE" "Lsun/nio/cs/UTF_8;").before a0 Z = true := hw _ (List.mem_of_getElem? (i := 175) rfl)
theorem w177 {a0 : Array Value} {Z : State} (hw : HW a0 Z) : (Jvm.Cond.fieldLink "java/lang/String" (116 : Nat) "sun/nio/cs/ISO_8859_1" "INSTANCE" "Lsun/nio/cs/ISO_8859_1;").before a0 Z = true := hw _ (List.mem_of_getElem? (i := 177) rfl)
theorem w179 {a0 : Array Value} {Z : State} (hw : HW a0 Z) : (Jvm.Cond.fieldLink "java/lang/String" (123 : Nat) "sun/nio/cs/US_ASCII" "INSTANCE" "Lsun/nio/cs/US_ASCII;").before a0 Z = true := hw _ (List.mem_of_getElem? (i := 179) rfl)
theorem w181 {a0 : Array Value} {Z : State} (hw : HW a0 Z) : (Jvm.Cond.methodLink "java/lang/String" (260 : Nat) ({ cls := "java/lang/String", name := "encodeASCII", desc := "(B[B)[B" } : Jvm.MethodName)).before a0 Z = true := hw _ (List.mem_of_getElem? (i := 181) rfl)
theorem w182 {a0 : Array Value} {Z : State} (hw : HW a0 Z) : (Jvm.Cond.static ({ cls := "java/lang/String", name := "encodeASCII", desc := "(B[B)[B" } : Jvm.MethodName)).before a0 Z = true := hw _ (List.mem_of_getElem? (i := 182) rfl)
theorem w183 {a0 : Array Value} {Z : State} (hw : HW a0 Z) : (Jvm.Cond.code ({ cls := "java/lang/String", name := "encodeASCII", desc := "(B[B)[B" } : Jvm.MethodName) jdk_42_method_24_code (7 : Nat) (Option.some (Jvm.ClassFile.FieldType.array Jvm.ClassFile.FieldType.byte))).before a0 Z = true := hw _ (List.mem_of_getElem? (i := 183) rfl)
theorem w184 {a0 : Array Value} {Z : State} (hw : HW a0 Z) : (Jvm.Cond.methodLink "java/lang/String" (92 : Nat) ({ cls := "java/lang/StringCoding", name := "countPositives", desc := "([BII)I" } : Jvm.MethodName)).before a0 Z = true := hw _ (List.mem_of_getElem? (i := 184) rfl)
theorem w185 {a0 : Array Value} {Z : State} (hw : HW a0 Z) : (Jvm.Cond.static ({ cls := "java/lang/StringCoding", name := "countPositives", desc := "([BII)I" } : Jvm.MethodName)).before a0 Z = true := hw _ (List.mem_of_getElem? (i := 185) rfl)
theorem w186 {a0 : Array Value} {Z : State} (hw : HW a0 Z) : (Jvm.Cond.initialized "java/lang/StringCoding").before a0 Z = true := hw _ (List.mem_of_getElem? (i := 186) rfl)
theorem w187 {a0 : Array Value} {Z : State} (hw : HW a0 Z) : (Jvm.Cond.code ({ cls := "java/lang/StringCoding", name := "countPositives", desc := "([BII)I" } : Jvm.MethodName) jdk_123_method_3_code (5 : Nat) (Option.some Jvm.ClassFile.FieldType.int)).before a0 Z = true := hw _ (List.mem_of_getElem? (i := 187) rfl)
theorem w188 {a0 : Array Value} {Z : State} (hw : HW a0 Z) : (Jvm.Cond.methodLink "java/lang/String" (279 : Nat) ({ cls := "[B", name := "clone", desc := "()Ljava/lang/Object;" } : Jvm.MethodName)).before a0 Z = true := hw _ (List.mem_of_getElem? (i := 188) rfl)
theorem w189 {a0 : Array Value} {Z : State} (hw : HW a0 Z) : (Jvm.Cond.sameMethod "[B" "java/lang/Object" "clone" "()Ljava/lang/Object;").before a0 Z = true := hw _ (List.mem_of_getElem? (i := 189) rfl)
theorem w191 {a0 : Array Value} {Z : State} (hw : HW a0 Z) : (Jvm.Cond.instanceMethod ({ cls := "java/lang/Object", name := "clone", desc := "()Ljava/lang/Object;" } : Jvm.MethodName)).before a0 Z = true := hw _ (List.mem_of_getElem? (i := 191) rfl)
theorem w192 {a0 : Array Value} {Z : State} (hw : HW a0 Z) : (Jvm.Cond.selects "[B" ({ cls := "[B", name := "clone", desc := "()Ljava/lang/Object;" } : Jvm.MethodName) ({ cls := "java/lang/Object", name := "clone", desc := "()Ljava/lang/Object;" } : Jvm.MethodName)).before a0 Z = true := hw _ (List.mem_of_getElem? (i := 192) rfl)
theorem w193 {a0 : Array Value} {Z : State} (hw : HW a0 Z) : (Jvm.Cond.native ({ cls := "java/lang/Object", name := "clone", desc := "()Ljava/lang/Object;" } : Jvm.MethodName)).before a0 Z = true := hw _ (List.mem_of_getElem? (i := 193) rfl)
theorem w194 {a0 : Array Value} {Z : State} (hw : HW a0 Z) : (Jvm.Cond.castable "[B" "java/lang/Cloneable").before a0 Z = true := hw _ (List.mem_of_getElem? (i := 194) rfl)
theorem w195 {a0 : Array Value} {Z : State} (hw : HW a0 Z) : (Jvm.Cond.classLink "java/lang/String" (280 : Nat) "[B").before a0 Z = true := hw _ (List.mem_of_getElem? (i := 195) rfl)
theorem w197 {a0 : Array Value} {Z : State} (hw : HW a0 Z) : (Jvm.Cond.methodLink "com/example/tugas/tugas/cli/HttpGetPinLaw" (19 : Nat) ({ cls := "com/example/tugas/tugas/cli/HttpGetPinLaw", name := "at", desc := "([BII)Z" } : Jvm.MethodName)).before a0 Z = true := hw _ (List.mem_of_getElem? (i := 197) rfl)
theorem w198 {a0 : Array Value} {Z : State} (hw : HW a0 Z) : (Jvm.Cond.static ({ cls := "com/example/tugas/tugas/cli/HttpGetPinLaw", name := "at", desc := "([BII)Z" } : Jvm.MethodName)).before a0 Z = true := hw _ (List.mem_of_getElem? (i := 198) rfl)
theorem w199 {a0 : Array Value} {Z : State} (hw : HW a0 Z) : (Jvm.Cond.code ({ cls := "com/example/tugas/tugas/cli/HttpGetPinLaw", name := "at", desc := "([BII)Z" } : Jvm.MethodName) method_5_code (3 : Nat) (Option.some Jvm.ClassFile.FieldType.boolean)).before a0 Z = true := hw _ (List.mem_of_getElem? (i := 199) rfl)
theorem w210 {a0 : Array Value} {Z : State} (hw : HW a0 Z) : (Jvm.Cond.methodLink "java/lang/String" (356 : Nat) ({ cls := "java/lang/String", name := "replaceNegatives", desc := "([BI)V" } : Jvm.MethodName)).before a0 Z = true := hw _ (List.mem_of_getElem? (i := 210) rfl)
theorem w211 {a0 : Array Value} {Z : State} (hw : HW a0 Z) : (Jvm.Cond.static ({ cls := "java/lang/String", name := "replaceNegatives", desc := "([BI)V" } : Jvm.MethodName)).before a0 Z = true := hw _ (List.mem_of_getElem? (i := 211) rfl)
theorem w212 {a0 : Array Value} {Z : State} (hw : HW a0 Z) : (Jvm.Cond.code ({ cls := "java/lang/String", name := "replaceNegatives", desc := "([BI)V" } : Jvm.MethodName) jdk_42_method_25_code (3 : Nat) (Option.none : Option Jvm.ClassFile.FieldType)).before a0 Z = true := hw _ (List.mem_of_getElem? (i := 212) rfl)
theorem w213 {a0 : Array Value} {Z : State} (hw : HW a0 Z) : (Jvm.Cond.methodLink "com/example/tugas/tugas/cli/HttpGetPinLaw" (23 : Nat) ({ cls := "com/example/tugas/tugas/cli/HttpGetPinLaw", name := "enc", desc := "(C)I" } : Jvm.MethodName)).before a0 Z = true := hw _ (List.mem_of_getElem? (i := 213) rfl)
theorem w214 {a0 : Array Value} {Z : State} (hw : HW a0 Z) : (Jvm.Cond.static ({ cls := "com/example/tugas/tugas/cli/HttpGetPinLaw", name := "enc", desc := "(C)I" } : Jvm.MethodName)).before a0 Z = true := hw _ (List.mem_of_getElem? (i := 214) rfl)
theorem w215 {a0 : Array Value} {Z : State} (hw : HW a0 Z) : (Jvm.Cond.code ({ cls := "com/example/tugas/tugas/cli/HttpGetPinLaw", name := "enc", desc := "(C)I" } : Jvm.MethodName) method_4_code (1 : Nat) (Option.some Jvm.ClassFile.FieldType.int)).before a0 Z = true := hw _ (List.mem_of_getElem? (i := 215) rfl)
theorem w216 {a0 : Array Value} {Z : State} (hw : HW a0 Z) : (Jvm.Cond.methodLink "com/example/tugas/tugas/cli/HttpGetPinLaw" (32 : Nat) ({ cls := "java/lang/String", name := "valueOf", desc := "(C)Ljava/lang/String;" } : Jvm.MethodName)).before a0 Z = true := hw _ (List.mem_of_getElem? (i := 216) rfl)
theorem w217 {a0 : Array Value} {Z : State} (hw : HW a0 Z) : (Jvm.Cond.static ({ cls := "java/lang/String", name := "valueOf", desc := "(C)Ljava/lang/String;" } : Jvm.MethodName)).before a0 Z = true := hw _ (List.mem_of_getElem? (i := 217) rfl)
theorem w218 {a0 : Array Value} {Z : State} (hw : HW a0 Z) : (Jvm.Cond.code ({ cls := "java/lang/String", name := "valueOf", desc := "(C)Ljava/lang/String;" } : Jvm.MethodName) jdk_42_method_139_code (1 : Nat) (Option.some (Jvm.ClassFile.FieldType.object "java/lang/String"))).before a0 Z = true := hw _ (List.mem_of_getElem? (i := 218) rfl)
theorem w219 {a0 : Array Value} {Z : State} (hw : HW a0 Z) : (Jvm.Cond.methodLink "java/lang/String" (1015 : Nat) ({ cls := "java/lang/StringLatin1", name := "canEncode", desc := "(C)Z" } : Jvm.MethodName)).before a0 Z = true := hw _ (List.mem_of_getElem? (i := 219) rfl)
theorem w220 {a0 : Array Value} {Z : State} (hw : HW a0 Z) : (Jvm.Cond.static ({ cls := "java/lang/StringLatin1", name := "canEncode", desc := "(C)Z" } : Jvm.MethodName)).before a0 Z = true := hw _ (List.mem_of_getElem? (i := 220) rfl)
theorem w221 {a0 : Array Value} {Z : State} (hw : HW a0 Z) : (Jvm.Cond.initialized "java/lang/StringLatin1").before a0 Z = true := hw _ (List.mem_of_getElem? (i := 221) rfl)
theorem w222 {a0 : Array Value} {Z : State} (hw : HW a0 Z) : (Jvm.Cond.code ({ cls := "java/lang/StringLatin1", name := "canEncode", desc := "(C)Z" } : Jvm.MethodName) jdk_43_method_3_code (1 : Nat) (Option.some Jvm.ClassFile.FieldType.boolean)).before a0 Z = true := hw _ (List.mem_of_getElem? (i := 222) rfl)
theorem w223 {a0 : Array Value} {Z : State} (hw : HW a0 Z) : (Jvm.Cond.classLink "java/lang/String" (10 : Nat) "java/lang/String").before a0 Z = true := hw _ (List.mem_of_getElem? (i := 223) rfl)
theorem w224 {a0 : Array Value} {Z : State} (hw : HW a0 Z) : (Jvm.Cond.methodLink "java/lang/String" (1018 : Nat) ({ cls := "java/lang/StringLatin1", name := "toBytes", desc := "(C)[B" } : Jvm.MethodName)).before a0 Z = true := hw _ (List.mem_of_getElem? (i := 224) rfl)
theorem w225 {a0 : Array Value} {Z : State} (hw : HW a0 Z) : (Jvm.Cond.static ({ cls := "java/lang/StringLatin1", name := "toBytes", desc := "(C)[B" } : Jvm.MethodName)).before a0 Z = true := hw _ (List.mem_of_getElem? (i := 225) rfl)
theorem w226 {a0 : Array Value} {Z : State} (hw : HW a0 Z) : (Jvm.Cond.code ({ cls := "java/lang/StringLatin1", name := "toBytes", desc := "(C)[B" } : Jvm.MethodName) jdk_43_method_46_code (1 : Nat) (Option.some (Jvm.ClassFile.FieldType.array Jvm.ClassFile.FieldType.byte))).before a0 Z = true := hw _ (List.mem_of_getElem? (i := 226) rfl)
theorem w227 {a0 : Array Value} {Z : State} (hw : HW a0 Z) : (Jvm.Cond.methodLink "java/lang/String" (209 : Nat) ({ cls := "java/lang/String", name := "<init>", desc := "([BB)V" } : Jvm.MethodName)).before a0 Z = true := hw _ (List.mem_of_getElem? (i := 227) rfl)
theorem w228 {a0 : Array Value} {Z : State} (hw : HW a0 Z) : (Jvm.Cond.instanceMethod ({ cls := "java/lang/String", name := "<init>", desc := "([BB)V" } : Jvm.MethodName)).before a0 Z = true := hw _ (List.mem_of_getElem? (i := 228) rfl)
theorem w229 {a0 : Array Value} {Z : State} (hw : HW a0 Z) : (Jvm.Cond.code ({ cls := "java/lang/String", name := "<init>", desc := "([BB)V" } : Jvm.MethodName) jdk_42_method_151_code (3 : Nat) (Option.none : Option Jvm.ClassFile.FieldType)).before a0 Z = true := hw _ (List.mem_of_getElem? (i := 229) rfl)
theorem d1_0 : decode method_3_code 0 = .ok (.iload_n 0, 1) := by decide +kernel
theorem d1_1 : decode method_3_code 1 = .ok (.ifCond .ne 14, 3) := by decide +kernel
theorem d1_4 : decode method_3_code 4 = .ok (.new 27, 3) := by decide +kernel
theorem d1_7 : decode method_3_code 7 = .ok (.dup, 1) := by decide +kernel
theorem d1_8 : decode method_3_code 8 = .ok (.iconst 0, 1) := by decide +kernel
theorem d1_9 : decode method_3_code 9 = .ok (.newarray .char, 2) := by decide +kernel
theorem d1_11 : decode method_3_code 11 = .ok (.invokespecial 29, 3) := by decide +kernel
theorem d1_14 : decode method_3_code 14 = .ok (.areturn, 1) := by decide +kernel
theorem d1_15 : decode method_3_code 15 = .ok (.iload_n 0, 1) := by decide +kernel
theorem d1_16 : decode method_3_code 16 = .ok (.iconst 1, 1) := by decide +kernel
theorem d1_17 : decode method_3_code 17 = .ok (.if_icmp .ne 8, 3) := by decide +kernel
theorem d1_20 : decode method_3_code 20 = .ok (.iload_n 1, 1) := by decide +kernel
theorem d1_21 : decode method_3_code 21 = .ok (.invokestatic 32, 3) := by decide +kernel
theorem d1_24 : decode method_3_code 24 = .ok (.areturn, 1) := by decide +kernel
theorem d1_25 : decode method_3_code 25 = .ok (.new 27, 3) := by decide +kernel
theorem d1_28 : decode method_3_code 28 = .ok (.dup, 1) := by decide +kernel
theorem d1_29 : decode method_3_code 29 = .ok (.iconst 2, 1) := by decide +kernel
theorem d1_30 : decode method_3_code 30 = .ok (.newarray .char, 2) := by decide +kernel
theorem d1_32 : decode method_3_code 32 = .ok (.dup, 1) := by decide +kernel
theorem d1_33 : decode method_3_code 33 = .ok (.iconst 0, 1) := by decide +kernel
theorem d1_34 : decode method_3_code 34 = .ok (.iload_n 1, 1) := by decide +kernel
theorem d1_35 : decode method_3_code 35 = .ok (.castore, 1) := by decide +kernel
theorem d1_36 : decode method_3_code 36 = .ok (.dup, 1) := by decide +kernel
theorem d1_37 : decode method_3_code 37 = .ok (.iconst 1, 1) := by decide +kernel
theorem d1_38 : decode method_3_code 38 = .ok (.iload_n 2, 1) := by decide +kernel
theorem d1_39 : decode method_3_code 39 = .ok (.castore, 1) := by decide +kernel
theorem d1_40 : decode method_3_code 40 = .ok (.invokespecial 29, 3) := by decide +kernel
theorem d1_43 : decode method_3_code 43 = .ok (.areturn, 1) := by decide +kernel
theorem d2_0 : decode jdk_42_method_3_code 0 = .ok (.aload_n 0, 1) := by decide +kernel
theorem d2_1 : decode jdk_42_method_3_code 1 = .ok (.aload_n 1, 1) := by decide +kernel
theorem d2_2 : decode jdk_42_method_3_code 2 = .ok (.iconst 0, 1) := by decide +kernel
theorem d2_3 : decode jdk_42_method_3_code 3 = .ok (.aload_n 1, 1) := by decide +kernel
theorem d2_4 : decode jdk_42_method_3_code 4 = .ok (.arraylength, 1) := by decide +kernel
theorem d2_5 : decode jdk_42_method_3_code 5 = .ok (.aconst_null, 1) := by decide +kernel
theorem d2_6 : decode jdk_42_method_3_code 6 = .ok (.invokespecial 27, 3) := by decide +kernel
theorem d2_9 : decode jdk_42_method_3_code 9 = .ok (.return_, 1) := by decide +kernel
theorem d3_0 : decode jdk_42_method_149_code 0 = .ok (.aload_n 0, 1) := by decide +kernel
theorem d3_1 : decode jdk_42_method_149_code 1 = .ok (.invokespecial 1, 3) := by decide +kernel
theorem d3_4 : decode jdk_42_method_149_code 4 = .ok (.iload_n 3, 1) := by decide +kernel
theorem d3_5 : decode jdk_42_method_149_code 5 = .ok (.ifCond .ne 22, 3) := by decide +kernel
theorem d3_8 : decode jdk_42_method_149_code 8 = .ok (.aload_n 0, 1) := by decide +kernel
theorem d3_9 : decode jdk_42_method_149_code 9 = .ok (.ldc 7, 2) := by decide +kernel
theorem d3_11 : decode jdk_42_method_149_code 11 = .ok (.getfield 9, 3) := by decide +kernel
theorem d3_14 : decode jdk_42_method_149_code 14 = .ok (.putfield 9, 3) := by decide +kernel
theorem d3_17 : decode jdk_42_method_149_code 17 = .ok (.aload_n 0, 1) := by decide +kernel
theorem d3_18 : decode jdk_42_method_149_code 18 = .ok (.ldc 7, 2) := by decide +kernel
theorem d3_20 : decode jdk_42_method_149_code 20 = .ok (.getfield 15, 3) := by decide +kernel
theorem d3_23 : decode jdk_42_method_149_code 23 = .ok (.putfield 15, 3) := by decide +kernel
theorem d3_26 : decode jdk_42_method_149_code 26 = .ok (.return_, 1) := by decide +kernel
theorem d5_0 : decode prog_21_method_2_code 0 = .ok (.new 7, 3) := by decide +kernel
theorem d5_3 : decode prog_21_method_2_code 3 = .ok (.dup, 1) := by decide +kernel
theorem d5_4 : decode prog_21_method_2_code 4 = .ok (.invokespecial 9, 3) := by decide +kernel
theorem d5_7 : decode prog_21_method_2_code 7 = .ok (.ldc 10, 2) := by decide +kernel
theorem d5_9 : decode prog_21_method_2_code 9 = .ok (.aload_n 0, 1) := by decide +kernel
theorem d5_10 : decode prog_21_method_2_code 10 = .ok (.aload_n 1, 1) := by decide +kernel
theorem d5_11 : decode prog_21_method_2_code 11 = .ok (.invokestatic 12, 3) := by decide +kernel
theorem d5_14 : decode prog_21_method_2_code 14 = .ok (.invokevirtual 18, 3) := by decide +kernel
theorem d5_17 : decode prog_21_method_2_code 17 = .ok (.ldc 22, 2) := by decide +kernel
theorem d5_19 : decode prog_21_method_2_code 19 = .ok (.invokevirtual 18, 3) := by decide +kernel
theorem d5_22 : decode prog_21_method_2_code 22 = .ok (.invokevirtual 24, 3) := by decide +kernel
theorem d5_25 : decode prog_21_method_2_code 25 = .ok (.getstatic 28, 3) := by decide +kernel
theorem d5_28 : decode prog_21_method_2_code 28 = .ok (.invokevirtual 34, 3) := by decide +kernel
theorem d5_31 : decode prog_21_method_2_code 31 = .ok (.areturn, 1) := by decide +kernel
theorem d6_0 : decode jdk_67_method_1_code 0 = .ok (.aload_n 0, 1) := by decide +kernel
theorem d6_1 : decode jdk_67_method_1_code 1 = .ok (.bipush 16, 2) := by decide +kernel
theorem d6_3 : decode jdk_67_method_1_code 3 = .ok (.invokespecial 1, 3) := by decide +kernel
theorem d6_6 : decode jdk_67_method_1_code 6 = .ok (.return_, 1) := by decide +kernel
theorem d7_0 : decode jdk_68_method_2_code 0 = .ok (.aload_n 0, 1) := by decide +kernel
theorem d7_1 : decode jdk_68_method_2_code 1 = .ok (.invokespecial 3, 3) := by decide +kernel
theorem d7_4 : decode jdk_68_method_2_code 4 = .ok (.getstatic 18, 3) := by decide +kernel
theorem d7_7 : decode jdk_68_method_2_code 7 = .ok (.ifCond .eq 18, 3) := by decide +kernel
theorem d7_10 : decode jdk_68_method_2_code 10 = .ok (.aload_n 0, 1) := by decide +kernel
theorem d7_11 : decode jdk_68_method_2_code 11 = .ok (.iload_n 1, 1) := by decide +kernel
theorem d7_12 : decode jdk_68_method_2_code 12 = .ok (.newarray .byte, 2) := by decide +kernel
theorem d7_14 : decode jdk_68_method_2_code 14 = .ok (.putfield 15, 3) := by decide +kernel
theorem d7_17 : decode jdk_68_method_2_code 17 = .ok (.aload_n 0, 1) := by decide +kernel
theorem d7_18 : decode jdk_68_method_2_code 18 = .ok (.iconst 0, 1) := by decide +kernel
theorem d7_19 : decode jdk_68_method_2_code 19 = .ok (.putfield 22, 3) := by decide +kernel
theorem d7_22 : decode jdk_68_method_2_code 22 = .ok (.goto 16, 3) := by decide +kernel
theorem d7_38 : decode jdk_68_method_2_code 38 = .ok (.return_, 1) := by decide +kernel
theorem d8_0 : decode prog_21_method_4_code 0 = .ok (.new 7, 3) := by decide +kernel
theorem d8_3 : decode prog_21_method_4_code 3 = .ok (.dup, 1) := by decide +kernel
theorem d8_4 : decode prog_21_method_4_code 4 = .ok (.invokespecial 9, 3) := by decide +kernel
theorem d8_7 : decode prog_21_method_4_code 7 = .ok (.aload_n 0, 1) := by decide +kernel
theorem d8_8 : decode prog_21_method_4_code 8 = .ok (.invokevirtual 18, 3) := by decide +kernel
theorem d8_11 : decode prog_21_method_4_code 11 = .ok (.ldc 61, 2) := by decide +kernel
theorem d8_13 : decode prog_21_method_4_code 13 = .ok (.invokevirtual 18, 3) := by decide +kernel
theorem d8_16 : decode prog_21_method_4_code 16 = .ok (.aload_n 2, 1) := by decide +kernel
theorem d8_17 : decode prog_21_method_4_code 17 = .ok (.invokevirtual 18, 3) := by decide +kernel
theorem d8_20 : decode prog_21_method_4_code 20 = .ok (.ldc 63, 2) := by decide +kernel
theorem d8_22 : decode prog_21_method_4_code 22 = .ok (.invokevirtual 18, 3) := by decide +kernel
theorem d8_25 : decode prog_21_method_4_code 25 = .ok (.aload_n 1, 1) := by decide +kernel
theorem d8_26 : decode prog_21_method_4_code 26 = .ok (.invokevirtual 18, 3) := by decide +kernel
theorem d8_29 : decode prog_21_method_4_code 29 = .ok (.ldc 22, 2) := by decide +kernel
theorem d8_31 : decode prog_21_method_4_code 31 = .ok (.invokevirtual 18, 3) := by decide +kernel
theorem d8_34 : decode prog_21_method_4_code 34 = .ok (.invokevirtual 24, 3) := by decide +kernel
theorem d8_37 : decode prog_21_method_4_code 37 = .ok (.areturn, 1) := by decide +kernel
theorem d9_0 : decode jdk_67_method_7_code 0 = .ok (.aload_n 0, 1) := by decide +kernel
theorem d9_1 : decode jdk_67_method_7_code 1 = .ok (.aload_n 1, 1) := by decide +kernel
theorem d9_2 : decode jdk_67_method_7_code 2 = .ok (.invokespecial 29, 3) := by decide +kernel
theorem d9_5 : decode jdk_67_method_7_code 5 = .ok (.pop, 1) := by decide +kernel
theorem d9_6 : decode jdk_67_method_7_code 6 = .ok (.aload_n 0, 1) := by decide +kernel
theorem d9_7 : decode jdk_67_method_7_code 7 = .ok (.areturn, 1) := by decide +kernel
theorem d10_0 : decode jdk_68_method_22_code 0 = .ok (.aload_n 1, 1) := by decide +kernel
theorem d10_1 : decode jdk_68_method_22_code 1 = .ok (.ifnonnull 8, 3) := by decide +kernel
theorem d10_9 : decode jdk_68_method_22_code 9 = .ok (.aload_n 1, 1) := by decide +kernel
theorem d10_10 : decode jdk_68_method_22_code 10 = .ok (.invokevirtual 32, 3) := by decide +kernel
theorem d10_13 : decode jdk_68_method_22_code 13 = .ok (.istore_n 2, 1) := by decide +kernel
theorem d10_14 : decode jdk_68_method_22_code 14 = .ok (.aload_n 0, 1) := by decide +kernel
theorem d10_15 : decode jdk_68_method_22_code 15 = .ok (.aload_n 0, 1) := by decide +kernel
theorem d10_16 : decode jdk_68_method_22_code 16 = .ok (.getfield 79, 3) := by decide +kernel
theorem d10_19 : decode jdk_68_method_22_code 19 = .ok (.iload_n 2, 1) := by decide +kernel
theorem d10_20 : decode jdk_68_method_22_code 20 = .ok (.iadd, 1) := by decide +kernel
theorem d10_21 : decode jdk_68_method_22_code 21 = .ok (.invokevirtual 100, 3) := by decide +kernel
theorem d10_24 : decode jdk_68_method_22_code 24 = .ok (.aload_n 0, 1) := by decide +kernel
theorem d10_25 : decode jdk_68_method_22_code 25 = .ok (.aload_n 0, 1) := by decide +kernel
theorem d10_26 : decode jdk_68_method_22_code 26 = .ok (.getfield 79, 3) := by decide +kernel
theorem d10_29 : decode jdk_68_method_22_code 29 = .ok (.aload_n 1, 1) := by decide +kernel
theorem d10_30 : decode jdk_68_method_22_code 30 = .ok (.invokevirtual 208, 3) := by decide +kernel
theorem d10_33 : decode jdk_68_method_22_code 33 = .ok (.aload_n 0, 1) := by decide +kernel
theorem d10_34 : decode jdk_68_method_22_code 34 = .ok (.dup, 1) := by decide +kernel
theorem d10_35 : decode jdk_68_method_22_code 35 = .ok (.getfield 79, 3) := by decide +kernel
theorem d10_38 : decode jdk_68_method_22_code 38 = .ok (.iload_n 2, 1) := by decide +kernel
theorem d10_39 : decode jdk_68_method_22_code 39 = .ok (.iadd, 1) := by decide +kernel
theorem d10_40 : decode jdk_68_method_22_code 40 = .ok (.putfield 79, 3) := by decide +kernel
theorem d10_43 : decode jdk_68_method_22_code 43 = .ok (.aload_n 0, 1) := by decide +kernel
theorem d10_44 : decode jdk_68_method_22_code 44 = .ok (.areturn, 1) := by decide +kernel
theorem d11_0 : decode jdk_42_method_54_code 0 = .ok (.aload_n 0, 1) := by decide +kernel
theorem d11_1 : decode jdk_42_method_54_code 1 = .ok (.getfield 9, 3) := by decide +kernel
theorem d11_4 : decode jdk_42_method_54_code 4 = .ok (.arraylength, 1) := by decide +kernel
theorem d11_5 : decode jdk_42_method_54_code 5 = .ok (.aload_n 0, 1) := by decide +kernel
theorem d11_6 : decode jdk_42_method_54_code 6 = .ok (.invokevirtual 335, 3) := by decide +kernel
theorem d11_9 : decode jdk_42_method_54_code 9 = .ok (.ishr, 1) := by decide +kernel
theorem d11_10 : decode jdk_42_method_54_code 10 = .ok (.ireturn, 1) := by decide +kernel
theorem d12_0 : decode jdk_42_method_152_code 0 = .ok (.getstatic 38, 3) := by decide +kernel
theorem d12_3 : decode jdk_42_method_152_code 3 = .ok (.ifCond .eq 10, 3) := by decide +kernel
theorem d12_6 : decode jdk_42_method_152_code 6 = .ok (.aload_n 0, 1) := by decide +kernel
theorem d12_7 : decode jdk_42_method_152_code 7 = .ok (.getfield 15, 3) := by decide +kernel
theorem d12_10 : decode jdk_42_method_152_code 10 = .ok (.goto 4, 3) := by decide +kernel
theorem d12_14 : decode jdk_42_method_152_code 14 = .ok (.ireturn, 1) := by decide +kernel
theorem d13_0 : decode jdk_68_method_9_code 0 = .ok (.aload_n 0, 1) := by decide +kernel
theorem d13_1 : decode jdk_68_method_9_code 1 = .ok (.getfield 15, 3) := by decide +kernel
theorem d13_4 : decode jdk_68_method_9_code 4 = .ok (.arraylength, 1) := by decide +kernel
theorem d13_5 : decode jdk_68_method_9_code 5 = .ok (.aload_n 0, 1) := by decide +kernel
theorem d13_6 : decode jdk_68_method_9_code 6 = .ok (.getfield 22, 3) := by decide +kernel
theorem d13_9 : decode jdk_68_method_9_code 9 = .ok (.ishr, 1) := by decide +kernel
theorem d13_10 : decode jdk_68_method_9_code 10 = .ok (.istore_n 2, 1) := by decide +kernel
theorem d13_11 : decode jdk_68_method_9_code 11 = .ok (.iload_n 1, 1) := by decide +kernel
theorem d13_12 : decode jdk_68_method_9_code 12 = .ok (.iload_n 2, 1) := by decide +kernel
theorem d13_13 : decode jdk_68_method_9_code 13 = .ok (.isub, 1) := by decide +kernel
theorem d13_14 : decode jdk_68_method_9_code 14 = .ok (.ifCond .le 24, 3) := by decide +kernel
theorem d13_17 : decode jdk_68_method_9_code 17 = .ok (.aload_n 0, 1) := by decide +kernel
theorem d13_18 : decode jdk_68_method_9_code 18 = .ok (.aload_n 0, 1) := by decide +kernel
theorem d13_19 : decode jdk_68_method_9_code 19 = .ok (.getfield 15, 3) := by decide +kernel
theorem d13_22 : decode jdk_68_method_9_code 22 = .ok (.aload_n 0, 1) := by decide +kernel
theorem d13_23 : decode jdk_68_method_9_code 23 = .ok (.iload_n 1, 1) := by decide +kernel
theorem d13_24 : decode jdk_68_method_9_code 24 = .ok (.invokevirtual 104, 3) := by decide +kernel
theorem d13_27 : decode jdk_68_method_9_code 27 = .ok (.aload_n 0, 1) := by decide +kernel
theorem d13_28 : decode jdk_68_method_9_code 28 = .ok (.getfield 22, 3) := by decide +kernel
theorem d13_31 : decode jdk_68_method_9_code 31 = .ok (.ishl, 1) := by decide +kernel
theorem d13_32 : decode jdk_68_method_9_code 32 = .ok (.invokestatic 108, 3) := by decide +kernel
theorem d13_35 : decode jdk_68_method_9_code 35 = .ok (.putfield 15, 3) := by decide +kernel
theorem d13_38 : decode jdk_68_method_9_code 38 = .ok (.return_, 1) := by decide +kernel
theorem d14_0 : decode jdk_68_method_73_code 0 = .ok (.aload_n 0, 1) := by decide +kernel
theorem d14_1 : decode jdk_68_method_73_code 1 = .ok (.aload_n 2, 1) := by decide +kernel
theorem d14_2 : decode jdk_68_method_73_code 2 = .ok (.invokevirtual 397, 3) := by decide +kernel
theorem d14_5 : decode jdk_68_method_73_code 5 = .ok (.aload_n 2, 1) := by decide +kernel
theorem d14_6 : decode jdk_68_method_73_code 6 = .ok (.aload_n 0, 1) := by decide +kernel
theorem d14_7 : decode jdk_68_method_73_code 7 = .ok (.getfield 15, 3) := by decide +kernel
theorem d14_10 : decode jdk_68_method_73_code 10 = .ok (.iload_n 1, 1) := by decide +kernel
theorem d14_11 : decode jdk_68_method_73_code 11 = .ok (.aload_n 0, 1) := by decide +kernel
theorem d14_12 : decode jdk_68_method_73_code 12 = .ok (.getfield 22, 3) := by decide +kernel
theorem d14_15 : decode jdk_68_method_73_code 15 = .ok (.invokevirtual 399, 3) := by decide +kernel
theorem d14_18 : decode jdk_68_method_73_code 18 = .ok (.return_, 1) := by decide +kernel
theorem d15_0 : decode jdk_68_method_71_code 0 = .ok (.getstatic 18, 3) := by decide +kernel
theorem d15_3 : decode jdk_68_method_71_code 3 = .ok (.ifCond .eq 18, 3) := by decide +kernel
theorem d15_6 : decode jdk_68_method_71_code 6 = .ok (.aload_n 0, 1) := by decide +kernel
theorem d15_7 : decode jdk_68_method_71_code 7 = .ok (.getfield 22, 3) := by decide +kernel
theorem d15_10 : decode jdk_68_method_71_code 10 = .ok (.aload_n 1, 1) := by decide +kernel
theorem d15_11 : decode jdk_68_method_71_code 11 = .ok (.invokevirtual 40, 3) := by decide +kernel
theorem d15_14 : decode jdk_68_method_71_code 14 = .ok (.if_icmp .eq 7, 3) := by decide +kernel
theorem d15_21 : decode jdk_68_method_71_code 21 = .ok (.return_, 1) := by decide +kernel
theorem d16_0 : decode jdk_42_method_147_code 0 = .ok (.aload_n 0, 1) := by decide +kernel
theorem d16_1 : decode jdk_42_method_147_code 1 = .ok (.invokevirtual 335, 3) := by decide +kernel
theorem d16_4 : decode jdk_42_method_147_code 4 = .ok (.iload_n 3, 1) := by decide +kernel
theorem d16_5 : decode jdk_42_method_147_code 5 = .ok (.if_icmp .ne 23, 3) := by decide +kernel
theorem d16_8 : decode jdk_42_method_147_code 8 = .ok (.aload_n 0, 1) := by decide +kernel
theorem d16_9 : decode jdk_42_method_147_code 9 = .ok (.getfield 9, 3) := by decide +kernel
theorem d16_12 : decode jdk_42_method_147_code 12 = .ok (.iconst 0, 1) := by decide +kernel
theorem d16_13 : decode jdk_42_method_147_code 13 = .ok (.aload_n 1, 1) := by decide +kernel
theorem d16_14 : decode jdk_42_method_147_code 14 = .ok (.iload_n 2, 1) := by decide +kernel
theorem d16_15 : decode jdk_42_method_147_code 15 = .ok (.iload_n 3, 1) := by decide +kernel
theorem d16_16 : decode jdk_42_method_147_code 16 = .ok (.ishl, 1) := by decide +kernel
theorem d16_17 : decode jdk_42_method_147_code 17 = .ok (.aload_n 0, 1) := by decide +kernel
theorem d16_18 : decode jdk_42_method_147_code 18 = .ok (.getfield 9, 3) := by decide +kernel
theorem d16_21 : decode jdk_42_method_147_code 21 = .ok (.arraylength, 1) := by decide +kernel
theorem d16_22 : decode jdk_42_method_147_code 22 = .ok (.invokestatic 212, 3) := by decide +kernel
theorem d16_25 : decode jdk_42_method_147_code 25 = .ok (.goto 18, 3) := by decide +kernel
theorem d16_43 : decode jdk_42_method_147_code 43 = .ok (.return_, 1) := by decide +kernel
theorem d17_0 : decode jdk_68_method_10_code 0 = .ok (.aload_n 0, 1) := by decide +kernel
theorem d17_1 : decode jdk_68_method_10_code 1 = .ok (.getfield 15, 3) := by decide +kernel
theorem d17_4 : decode jdk_68_method_10_code 4 = .ok (.arraylength, 1) := by decide +kernel
theorem d17_5 : decode jdk_68_method_10_code 5 = .ok (.istore_n 2, 1) := by decide +kernel
theorem d17_6 : decode jdk_68_method_10_code 6 = .ok (.iload_n 1, 1) := by decide +kernel
theorem d17_7 : decode jdk_68_method_10_code 7 = .ok (.aload_n 0, 1) := by decide +kernel
theorem d17_8 : decode jdk_68_method_10_code 8 = .ok (.getfield 22, 3) := by decide +kernel
theorem d17_11 : decode jdk_68_method_10_code 11 = .ok (.ishl, 1) := by decide +kernel
theorem d17_12 : decode jdk_68_method_10_code 12 = .ok (.istore_n 3, 1) := by decide +kernel
theorem d17_13 : decode jdk_68_method_10_code 13 = .ok (.iload_n 3, 1) := by decide +kernel
theorem d17_14 : decode jdk_68_method_10_code 14 = .ok (.iload_n 2, 1) := by decide +kernel
theorem d17_15 : decode jdk_68_method_10_code 15 = .ok (.isub, 1) := by decide +kernel
theorem d17_16 : decode jdk_68_method_10_code 16 = .ok (.istore 4, 2) := by decide +kernel
theorem d17_18 : decode jdk_68_method_10_code 18 = .ok (.iload_n 2, 1) := by decide +kernel
theorem d17_19 : decode jdk_68_method_10_code 19 = .ok (.iload 4, 2) := by decide +kernel
theorem d17_21 : decode jdk_68_method_10_code 21 = .ok (.iload_n 2, 1) := by decide +kernel
theorem d17_22 : decode jdk_68_method_10_code 22 = .ok (.iconst 2, 1) := by decide +kernel
theorem d17_23 : decode jdk_68_method_10_code 23 = .ok (.aload_n 0, 1) := by decide +kernel
theorem d17_24 : decode jdk_68_method_10_code 24 = .ok (.getfield 22, 3) := by decide +kernel
theorem d17_27 : decode jdk_68_method_10_code 27 = .ok (.ishl, 1) := by decide +kernel
theorem d17_28 : decode jdk_68_method_10_code 28 = .ok (.iadd, 1) := by decide +kernel
theorem d17_29 : decode jdk_68_method_10_code 29 = .ok (.invokestatic 114, 3) := by decide +kernel
theorem d17_32 : decode jdk_68_method_10_code 32 = .ok (.istore 5, 2) := by decide +kernel
theorem d17_34 : decode jdk_68_method_10_code 34 = .ok (.iload 5, 2) := by decide +kernel
theorem d17_36 : decode jdk_68_method_10_code 36 = .ok (.ldc 39, 2) := by decide +kernel
theorem d17_38 : decode jdk_68_method_10_code 38 = .ok (.if_icmp .ne 13, 3) := by decide +kernel
theorem d17_51 : decode jdk_68_method_10_code 51 = .ok (.iload 5, 2) := by decide +kernel
theorem d17_53 : decode jdk_68_method_10_code 53 = .ok (.aload_n 0, 1) := by decide +kernel
theorem d17_54 : decode jdk_68_method_10_code 54 = .ok (.getfield 22, 3) := by decide +kernel
theorem d17_57 : decode jdk_68_method_10_code 57 = .ok (.ishr, 1) := by decide +kernel
theorem d17_58 : decode jdk_68_method_10_code 58 = .ok (.ireturn, 1) := by decide +kernel
theorem d18_0 : decode jdk_48_method_27_code 0 = .ok (.iload_n 0, 1) := by decide +kernel
theorem d18_1 : decode jdk_48_method_27_code 1 = .ok (.iload_n 1, 1) := by decide +kernel
theorem d18_2 : decode jdk_48_method_27_code 2 = .ok (.iload_n 2, 1) := by decide +kernel
theorem d18_3 : decode jdk_48_method_27_code 3 = .ok (.invokestatic 194, 3) := by decide +kernel
theorem d18_6 : decode jdk_48_method_27_code 6 = .ok (.iadd, 1) := by decide +kernel
theorem d18_7 : decode jdk_48_method_27_code 7 = .ok (.istore_n 3, 1) := by decide +kernel
theorem d18_8 : decode jdk_48_method_27_code 8 = .ok (.iconst 0, 1) := by decide +kernel
theorem d18_9 : decode jdk_48_method_27_code 9 = .ok (.iload_n 3, 1) := by decide +kernel
theorem d18_10 : decode jdk_48_method_27_code 10 = .ok (.if_icmp .ge 11, 3) := by decide +kernel
theorem d18_13 : decode jdk_48_method_27_code 13 = .ok (.iload_n 3, 1) := by decide +kernel
theorem d18_14 : decode jdk_48_method_27_code 14 = .ok (.ldc 200, 2) := by decide +kernel
theorem d18_16 : decode jdk_48_method_27_code 16 = .ok (.if_icmp .gt 5, 3) := by decide +kernel
theorem d18_19 : decode jdk_48_method_27_code 19 = .ok (.iload_n 3, 1) := by decide +kernel
theorem d18_20 : decode jdk_48_method_27_code 20 = .ok (.ireturn, 1) := by decide +kernel
theorem d19_0 : decode jdk_29_method_65_code 0 = .ok (.iload_n 0, 1) := by decide +kernel
theorem d19_1 : decode jdk_29_method_65_code 1 = .ok (.iload_n 1, 1) := by decide +kernel
theorem d19_2 : decode jdk_29_method_65_code 2 = .ok (.if_icmp .lt 7, 3) := by decide +kernel
theorem d19_5 : decode jdk_29_method_65_code 5 = .ok (.iload_n 0, 1) := by decide +kernel
theorem d19_6 : decode jdk_29_method_65_code 6 = .ok (.goto 4, 3) := by decide +kernel
theorem d19_9 : decode jdk_29_method_65_code 9 = .ok (.iload_n 1, 1) := by decide +kernel
theorem d19_10 : decode jdk_29_method_65_code 10 = .ok (.ireturn, 1) := by decide +kernel
theorem d20_0 : decode jdk_65_method_121_code 0 = .ok (.iload_n 1, 1) := by decide +kernel
theorem d20_1 : decode jdk_65_method_121_code 1 = .ok (.aload_n 0, 1) := by decide +kernel
theorem d20_2 : decode jdk_65_method_121_code 2 = .ok (.arraylength, 1) := by decide +kernel
theorem d20_3 : decode jdk_65_method_121_code 3 = .ok (.if_icmp .ne 11, 3) := by decide +kernel
theorem d20_14 : decode jdk_65_method_121_code 14 = .ok (.iload_n 1, 1) := by decide +kernel
theorem d20_15 : decode jdk_65_method_121_code 15 = .ok (.newarray .byte, 2) := by decide +kernel
theorem d20_17 : decode jdk_65_method_121_code 17 = .ok (.astore_n 2, 1) := by decide +kernel
theorem d20_18 : decode jdk_65_method_121_code 18 = .ok (.aload_n 0, 1) := by decide +kernel
theorem d20_19 : decode jdk_65_method_121_code 19 = .ok (.iconst 0, 1) := by decide +kernel
theorem d20_20 : decode jdk_65_method_121_code 20 = .ok (.aload_n 2, 1) := by decide +kernel
theorem d20_21 : decode jdk_65_method_121_code 21 = .ok (.iconst 0, 1) := by decide +kernel
theorem d20_22 : decode jdk_65_method_121_code 22 = .ok (.aload_n 0, 1) := by decide +kernel
theorem d20_23 : decode jdk_65_method_121_code 23 = .ok (.arraylength, 1) := by decide +kernel
theorem d20_24 : decode jdk_65_method_121_code 24 = .ok (.iload_n 1, 1) := by decide +kernel
theorem d20_25 : decode jdk_65_method_121_code 25 = .ok (.invokestatic 304, 3) := by decide +kernel
theorem d20_28 : decode jdk_65_method_121_code 28 = .ok (.invokestatic 150, 3) := by decide +kernel
theorem d20_31 : decode jdk_65_method_121_code 31 = .ok (.aload_n 2, 1) := by decide +kernel
theorem d20_32 : decode jdk_65_method_121_code 32 = .ok (.areturn, 1) := by decide +kernel
theorem d21_0 : decode jdk_29_method_69_code 0 = .ok (.iload_n 0, 1) := by decide +kernel
theorem d21_1 : decode jdk_29_method_69_code 1 = .ok (.iload_n 1, 1) := by decide +kernel
theorem d21_2 : decode jdk_29_method_69_code 2 = .ok (.if_icmp .gt 7, 3) := by decide +kernel
theorem d21_5 : decode jdk_29_method_69_code 5 = .ok (.iload_n 0, 1) := by decide +kernel
theorem d21_6 : decode jdk_29_method_69_code 6 = .ok (.goto 4, 3) := by decide +kernel
theorem d21_9 : decode jdk_29_method_69_code 9 = .ok (.iload_n 1, 1) := by decide +kernel
theorem d21_10 : decode jdk_29_method_69_code 10 = .ok (.ireturn, 1) := by decide +kernel
theorem d22_0 : decode jdk_67_method_42_code 0 = .ok (.new 18, 3) := by decide +kernel
theorem d22_3 : decode jdk_67_method_42_code 3 = .ok (.dup, 1) := by decide +kernel
theorem d22_4 : decode jdk_67_method_42_code 4 = .ok (.aload_n 0, 1) := by decide +kernel
theorem d22_5 : decode jdk_67_method_42_code 5 = .ok (.invokespecial 137, 3) := by decide +kernel
theorem d22_8 : decode jdk_67_method_42_code 8 = .ok (.areturn, 1) := by decide +kernel
theorem d23_0 : decode jdk_42_method_53_code 0 = .ok (.aload_n 0, 1) := by decide +kernel
theorem d23_1 : decode jdk_42_method_53_code 1 = .ok (.aload_n 1, 1) := by decide +kernel
theorem d23_2 : decode jdk_42_method_53_code 2 = .ok (.aconst_null, 1) := by decide +kernel
theorem d23_3 : decode jdk_42_method_53_code 3 = .ok (.invokespecial 489, 3) := by decide +kernel
theorem d23_6 : decode jdk_42_method_53_code 6 = .ok (.return_, 1) := by decide +kernel
theorem d24_0 : decode jdk_42_method_150_code 0 = .ok (.aload_n 0, 1) := by decide +kernel
theorem d24_1 : decode jdk_42_method_150_code 1 = .ok (.invokespecial 1, 3) := by decide +kernel
theorem d24_4 : decode jdk_42_method_150_code 4 = .ok (.aload_n 1, 1) := by decide +kernel
theorem d24_5 : decode jdk_42_method_150_code 5 = .ok (.invokevirtual 552, 3) := by decide +kernel
theorem d24_8 : decode jdk_42_method_150_code 8 = .ok (.astore_n 3, 1) := by decide +kernel
theorem d24_9 : decode jdk_42_method_150_code 9 = .ok (.aload_n 1, 1) := by decide +kernel
theorem d24_10 : decode jdk_42_method_150_code 10 = .ok (.invokevirtual 549, 3) := by decide +kernel
theorem d24_13 : decode jdk_42_method_150_code 13 = .ok (.istore 4, 2) := by decide +kernel
theorem d24_15 : decode jdk_42_method_150_code 15 = .ok (.aload_n 1, 1) := by decide +kernel
theorem d24_16 : decode jdk_42_method_150_code 16 = .ok (.invokevirtual 1047, 3) := by decide +kernel
theorem d24_19 : decode jdk_42_method_150_code 19 = .ok (.ifCond .eq 22, 3) := by decide +kernel
theorem d24_22 : decode jdk_42_method_150_code 22 = .ok (.aload_n 0, 1) := by decide +kernel
theorem d24_23 : decode jdk_42_method_150_code 23 = .ok (.iconst 0, 1) := by decide +kernel
theorem d24_24 : decode jdk_42_method_150_code 24 = .ok (.putfield 15, 3) := by decide +kernel
theorem d24_27 : decode jdk_42_method_150_code 27 = .ok (.aload_n 0, 1) := by decide +kernel
theorem d24_28 : decode jdk_42_method_150_code 28 = .ok (.aload_n 3, 1) := by decide +kernel
theorem d24_29 : decode jdk_42_method_150_code 29 = .ok (.iconst 0, 1) := by decide +kernel
theorem d24_30 : decode jdk_42_method_150_code 30 = .ok (.iload 4, 2) := by decide +kernel
theorem d24_32 : decode jdk_42_method_150_code 32 = .ok (.invokestatic 54, 3) := by decide +kernel
theorem d24_35 : decode jdk_42_method_150_code 35 = .ok (.putfield 9, 3) := by decide +kernel
theorem d24_38 : decode jdk_42_method_150_code 38 = .ok (.goto 59, 3) := by decide +kernel
theorem d24_97 : decode jdk_42_method_150_code 97 = .ok (.return_, 1) := by decide +kernel
theorem d25_0 : decode jdk_68_method_64_code 0 = .ok (.aload_n 0, 1) := by decide +kernel
theorem d25_1 : decode jdk_68_method_64_code 1 = .ok (.getfield 15, 3) := by decide +kernel
theorem d25_4 : decode jdk_68_method_64_code 4 = .ok (.areturn, 1) := by decide +kernel
theorem d26_0 : decode jdk_67_method_93_code 0 = .ok (.aload_n 0, 1) := by decide +kernel
theorem d26_1 : decode jdk_67_method_93_code 1 = .ok (.invokespecial 343, 3) := by decide +kernel
theorem d26_4 : decode jdk_67_method_93_code 4 = .ok (.ireturn, 1) := by decide +kernel
theorem d27_0 : decode jdk_68_method_6_code 0 = .ok (.aload_n 0, 1) := by decide +kernel
theorem d27_1 : decode jdk_68_method_6_code 1 = .ok (.getfield 79, 3) := by decide +kernel
theorem d27_4 : decode jdk_68_method_6_code 4 = .ok (.ireturn, 1) := by decide +kernel
theorem d28_0 : decode jdk_68_method_68_code 0 = .ok (.getstatic 18, 3) := by decide +kernel
theorem d28_3 : decode jdk_68_method_68_code 3 = .ok (.ifCond .eq 14, 3) := by decide +kernel
theorem d28_6 : decode jdk_68_method_68_code 6 = .ok (.aload_n 0, 1) := by decide +kernel
theorem d28_7 : decode jdk_68_method_68_code 7 = .ok (.getfield 22, 3) := by decide +kernel
theorem d28_10 : decode jdk_68_method_68_code 10 = .ok (.ifCond .ne 7, 3) := by decide +kernel
theorem d28_13 : decode jdk_68_method_68_code 13 = .ok (.iconst 1, 1) := by decide +kernel
theorem d28_14 : decode jdk_68_method_68_code 14 = .ok (.goto 4, 3) := by decide +kernel
theorem d28_18 : decode jdk_68_method_68_code 18 = .ok (.ireturn, 1) := by decide +kernel
theorem d29_0 : decode jdk_65_method_132_code 0 = .ok (.iload_n 1, 1) := by decide +kernel
theorem d29_1 : decode jdk_65_method_132_code 1 = .ok (.ifCond .ne 9, 3) := by decide +kernel
theorem d29_4 : decode jdk_65_method_132_code 4 = .ok (.iload_n 2, 1) := by decide +kernel
theorem d29_5 : decode jdk_65_method_132_code 5 = .ok (.aload_n 0, 1) := by decide +kernel
theorem d29_6 : decode jdk_65_method_132_code 6 = .ok (.arraylength, 1) := by decide +kernel
theorem d29_7 : decode jdk_65_method_132_code 7 = .ok (.if_icmp .eq 10, 3) := by decide +kernel
theorem d29_10 : decode jdk_65_method_132_code 10 = .ok (.aload_n 0, 1) := by decide +kernel
theorem d29_11 : decode jdk_65_method_132_code 11 = .ok (.iload_n 1, 1) := by decide +kernel
theorem d29_12 : decode jdk_65_method_132_code 12 = .ok (.iload_n 2, 1) := by decide +kernel
theorem d29_13 : decode jdk_65_method_132_code 13 = .ok (.invokestatic 339, 3) := by decide +kernel
theorem d29_16 : decode jdk_65_method_132_code 16 = .ok (.areturn, 1) := by decide +kernel
theorem d30_0 : decode jdk_65_method_133_code 0 = .ok (.iload_n 1, 1) := by decide +kernel
theorem d30_1 : decode jdk_65_method_133_code 1 = .ok (.iload_n 2, 1) := by decide +kernel
theorem d30_2 : decode jdk_65_method_133_code 2 = .ok (.invokestatic 343, 3) := by decide +kernel
theorem d30_5 : decode jdk_65_method_133_code 5 = .ok (.iload_n 2, 1) := by decide +kernel
theorem d30_6 : decode jdk_65_method_133_code 6 = .ok (.iload_n 1, 1) := by decide +kernel
theorem d30_7 : decode jdk_65_method_133_code 7 = .ok (.isub, 1) := by decide +kernel
theorem d30_8 : decode jdk_65_method_133_code 8 = .ok (.istore_n 3, 1) := by decide +kernel
theorem d30_9 : decode jdk_65_method_133_code 9 = .ok (.iload_n 3, 1) := by decide +kernel
theorem d30_10 : decode jdk_65_method_133_code 10 = .ok (.newarray .byte, 2) := by decide +kernel
theorem d30_12 : decode jdk_65_method_133_code 12 = .ok (.astore 4, 2) := by decide +kernel
theorem d30_14 : decode jdk_65_method_133_code 14 = .ok (.aload_n 0, 1) := by decide +kernel
theorem d30_15 : decode jdk_65_method_133_code 15 = .ok (.iload_n 1, 1) := by decide +kernel
theorem d30_16 : decode jdk_65_method_133_code 16 = .ok (.aload 4, 2) := by decide +kernel
theorem d30_18 : decode jdk_65_method_133_code 18 = .ok (.iconst 0, 1) := by decide +kernel
theorem d30_19 : decode jdk_65_method_133_code 19 = .ok (.aload_n 0, 1) := by decide +kernel
theorem d30_20 : decode jdk_65_method_133_code 20 = .ok (.arraylength, 1) := by decide +kernel
theorem d30_21 : decode jdk_65_method_133_code 21 = .ok (.iload_n 1, 1) := by decide +kernel
theorem d30_22 : decode jdk_65_method_133_code 22 = .ok (.isub, 1) := by decide +kernel
theorem d30_23 : decode jdk_65_method_133_code 23 = .ok (.iload_n 3, 1) := by decide +kernel
theorem d30_24 : decode jdk_65_method_133_code 24 = .ok (.invokestatic 304, 3) := by decide +kernel
theorem d30_27 : decode jdk_65_method_133_code 27 = .ok (.invokestatic 150, 3) := by decide +kernel
theorem d30_30 : decode jdk_65_method_133_code 30 = .ok (.aload 4, 2) := by decide +kernel
theorem d30_32 : decode jdk_65_method_133_code 32 = .ok (.areturn, 1) := by decide +kernel
theorem d31_0 : decode jdk_65_method_131_code 0 = .ok (.iload_n 1, 1) := by decide +kernel
theorem d31_1 : decode jdk_65_method_131_code 1 = .ok (.iload_n 0, 1) := by decide +kernel
theorem d31_2 : decode jdk_65_method_131_code 2 = .ok (.if_icmp .ge 35, 3) := by decide +kernel
theorem d31_37 : decode jdk_65_method_131_code 37 = .ok (.return_, 1) := by decide +kernel
theorem d32_0 : decode jdk_42_method_64_code 0 = .ok (.aload_n 1, 1) := by decide +kernel
theorem d32_1 : decode jdk_42_method_64_code 1 = .ok (.ifnonnull 11, 3) := by decide +kernel
theorem d32_12 : decode jdk_42_method_64_code 12 = .ok (.aload_n 1, 1) := by decide +kernel
theorem d32_13 : decode jdk_42_method_64_code 13 = .ok (.aload_n 0, 1) := by decide +kernel
theorem d32_14 : decode jdk_42_method_64_code 14 = .ok (.invokevirtual 335, 3) := by decide +kernel
theorem d32_17 : decode jdk_42_method_64_code 17 = .ok (.aload_n 0, 1) := by decide +kernel
theorem d32_18 : decode jdk_42_method_64_code 18 = .ok (.getfield 9, 3) := by decide +kernel
theorem d32_21 : decode jdk_42_method_64_code 21 = .ok (.invokestatic 535, 3) := by decide +kernel
theorem d32_24 : decode jdk_42_method_64_code 24 = .ok (.areturn, 1) := by decide +kernel
theorem d33_0 : decode jdk_42_method_18_code 0 = .ok (.aload_n 0, 1) := by decide +kernel
theorem d33_1 : decode jdk_42_method_18_code 1 = .ok (.getstatic 86, 3) := by decide +kernel
theorem d33_4 : decode jdk_42_method_18_code 4 = .ok (.if_acmp .ne 10, 3) := by decide +kernel
theorem d33_14 : decode jdk_42_method_18_code 14 = .ok (.aload_n 0, 1) := by decide +kernel
theorem d33_15 : decode jdk_42_method_18_code 15 = .ok (.getstatic 116, 3) := by decide +kernel
theorem d33_18 : decode jdk_42_method_18_code 18 = .ok (.if_acmp .ne 9, 3) := by decide +kernel
theorem d33_27 : decode jdk_42_method_18_code 27 = .ok (.aload_n 0, 1) := by decide +kernel
theorem d33_28 : decode jdk_42_method_18_code 28 = .ok (.getstatic 123, 3) := by decide +kernel
theorem d33_31 : decode jdk_42_method_18_code 31 = .ok (.if_acmp .ne 9, 3) := by decide +kernel
theorem d33_34 : decode jdk_42_method_18_code 34 = .ok (.iload_n 1, 1) := by decide +kernel
theorem d33_35 : decode jdk_42_method_18_code 35 = .ok (.aload_n 2, 1) := by decide +kernel
theorem d33_36 : decode jdk_42_method_18_code 36 = .ok (.invokestatic 260, 3) := by decide +kernel
theorem d33_39 : decode jdk_42_method_18_code 39 = .ok (.areturn, 1) := by decide +kernel
theorem d34_0 : decode jdk_42_method_24_code 0 = .ok (.iload_n 0, 1) := by decide +kernel
theorem d34_1 : decode jdk_42_method_24_code 1 = .ok (.ifCond .ne 32, 3) := by decide +kernel
theorem d34_4 : decode jdk_42_method_24_code 4 = .ok (.aload_n 1, 1) := by decide +kernel
theorem d34_5 : decode jdk_42_method_24_code 5 = .ok (.iconst 0, 1) := by decide +kernel
theorem d34_6 : decode jdk_42_method_24_code 6 = .ok (.aload_n 1, 1) := by decide +kernel
theorem d34_7 : decode jdk_42_method_24_code 7 = .ok (.arraylength, 1) := by decide +kernel
theorem d34_8 : decode jdk_42_method_24_code 8 = .ok (.invokestatic 92, 3) := by decide +kernel
theorem d34_11 : decode jdk_42_method_24_code 11 = .ok (.istore_n 2, 1) := by decide +kernel
theorem d34_12 : decode jdk_42_method_24_code 12 = .ok (.aload_n 1, 1) := by decide +kernel
theorem d34_13 : decode jdk_42_method_24_code 13 = .ok (.invokevirtual 279, 3) := by decide +kernel
theorem d34_16 : decode jdk_42_method_24_code 16 = .ok (.checkcast 280, 3) := by decide +kernel
theorem d34_19 : decode jdk_42_method_24_code 19 = .ok (.astore_n 3, 1) := by decide +kernel
theorem d34_20 : decode jdk_42_method_24_code 20 = .ok (.iload_n 2, 1) := by decide +kernel
theorem d34_21 : decode jdk_42_method_24_code 21 = .ok (.aload_n 3, 1) := by decide +kernel
theorem d34_22 : decode jdk_42_method_24_code 22 = .ok (.arraylength, 1) := by decide +kernel
theorem d34_23 : decode jdk_42_method_24_code 23 = .ok (.if_icmp .ge 8, 3) := by decide +kernel
theorem d34_26 : decode jdk_42_method_24_code 26 = .ok (.aload_n 3, 1) := by decide +kernel
theorem d34_27 : decode jdk_42_method_24_code 27 = .ok (.iload_n 2, 1) := by decide +kernel
theorem d34_28 : decode jdk_42_method_24_code 28 = .ok (.invokestatic 356, 3) := by decide +kernel
theorem d34_31 : decode jdk_42_method_24_code 31 = .ok (.aload_n 3, 1) := by decide +kernel
theorem d34_32 : decode jdk_42_method_24_code 32 = .ok (.areturn, 1) := by decide +kernel
theorem d35_0 : decode jdk_123_method_3_code 0 = .ok (.iload_n 1, 1) := by decide +kernel
theorem d35_1 : decode jdk_123_method_3_code 1 = .ok (.iload_n 2, 1) := by decide +kernel
theorem d35_2 : decode jdk_123_method_3_code 2 = .ok (.iadd, 1) := by decide +kernel
theorem d35_3 : decode jdk_123_method_3_code 3 = .ok (.istore_n 3, 1) := by decide +kernel
theorem d35_4 : decode jdk_123_method_3_code 4 = .ok (.iload_n 1, 1) := by decide +kernel
theorem d35_5 : decode jdk_123_method_3_code 5 = .ok (.istore 4, 2) := by decide +kernel
theorem d35_7 : decode jdk_123_method_3_code 7 = .ok (.iload 4, 2) := by decide +kernel
theorem d35_9 : decode jdk_123_method_3_code 9 = .ok (.iload_n 3, 1) := by decide +kernel
theorem d35_10 : decode jdk_123_method_3_code 10 = .ok (.if_icmp .ge 21, 3) := by decide +kernel
theorem d35_13 : decode jdk_123_method_3_code 13 = .ok (.aload_n 0, 1) := by decide +kernel
theorem d35_14 : decode jdk_123_method_3_code 14 = .ok (.iload 4, 2) := by decide +kernel
theorem d35_16 : decode jdk_123_method_3_code 16 = .ok (.baload, 1) := by decide +kernel
theorem d35_17 : decode jdk_123_method_3_code 17 = .ok (.ifCond .ge 8, 3) := by decide +kernel
theorem d35_20 : decode jdk_123_method_3_code 20 = .ok (.iload 4, 2) := by decide +kernel
theorem d35_22 : decode jdk_123_method_3_code 22 = .ok (.iload_n 1, 1) := by decide +kernel
theorem d35_23 : decode jdk_123_method_3_code 23 = .ok (.isub, 1) := by decide +kernel
theorem d35_24 : decode jdk_123_method_3_code 24 = .ok (.ireturn, 1) := by decide +kernel
theorem d35_25 : decode jdk_123_method_3_code 25 = .ok (.iinc 4 1, 3) := by decide +kernel
theorem d35_28 : decode jdk_123_method_3_code 28 = .ok (.goto (-21), 3) := by decide +kernel
theorem d35_31 : decode jdk_123_method_3_code 31 = .ok (.iload_n 2, 1) := by decide +kernel
theorem d35_32 : decode jdk_123_method_3_code 32 = .ok (.ireturn, 1) := by decide +kernel
theorem d36_0 : decode method_5_code 0 = .ok (.iload_n 1, 1) := by decide +kernel
theorem d36_1 : decode method_5_code 1 = .ok (.ifCond .lt 20, 3) := by decide +kernel
theorem d36_4 : decode method_5_code 4 = .ok (.iload_n 1, 1) := by decide +kernel
theorem d36_5 : decode method_5_code 5 = .ok (.aload_n 0, 1) := by decide +kernel
theorem d36_6 : decode method_5_code 6 = .ok (.arraylength, 1) := by decide +kernel
theorem d36_7 : decode method_5_code 7 = .ok (.if_icmp .ge 14, 3) := by decide +kernel
theorem d36_10 : decode method_5_code 10 = .ok (.aload_n 0, 1) := by decide +kernel
theorem d36_11 : decode method_5_code 11 = .ok (.iload_n 1, 1) := by decide +kernel
theorem d36_12 : decode method_5_code 12 = .ok (.baload, 1) := by decide +kernel
theorem d36_13 : decode method_5_code 13 = .ok (.iload_n 2, 1) := by decide +kernel
theorem d36_14 : decode method_5_code 14 = .ok (.if_icmp .ne 7, 3) := by decide +kernel
theorem d36_17 : decode method_5_code 17 = .ok (.iconst 1, 1) := by decide +kernel
theorem d36_18 : decode method_5_code 18 = .ok (.goto 4, 3) := by decide +kernel
theorem d36_22 : decode method_5_code 22 = .ok (.ireturn, 1) := by decide +kernel
theorem d40_0 : decode jdk_42_method_25_code 0 = .ok (.iload_n 1, 1) := by decide +kernel
theorem d40_1 : decode jdk_42_method_25_code 1 = .ok (.istore_n 2, 1) := by decide +kernel
theorem d40_2 : decode jdk_42_method_25_code 2 = .ok (.iload_n 2, 1) := by decide +kernel
theorem d40_3 : decode jdk_42_method_25_code 3 = .ok (.aload_n 0, 1) := by decide +kernel
theorem d40_4 : decode jdk_42_method_25_code 4 = .ok (.arraylength, 1) := by decide +kernel
theorem d40_5 : decode jdk_42_method_25_code 5 = .ok (.if_icmp .ge 20, 3) := by decide +kernel
theorem d40_8 : decode jdk_42_method_25_code 8 = .ok (.aload_n 0, 1) := by decide +kernel
theorem d40_9 : decode jdk_42_method_25_code 9 = .ok (.iload_n 2, 1) := by decide +kernel
theorem d40_10 : decode jdk_42_method_25_code 10 = .ok (.baload, 1) := by decide +kernel
theorem d40_11 : decode jdk_42_method_25_code 11 = .ok (.ifCond .ge 8, 3) := by decide +kernel
theorem d40_14 : decode jdk_42_method_25_code 14 = .ok (.aload_n 0, 1) := by decide +kernel
theorem d40_15 : decode jdk_42_method_25_code 15 = .ok (.iload_n 2, 1) := by decide +kernel
theorem d40_16 : decode jdk_42_method_25_code 16 = .ok (.bipush 63, 2) := by decide +kernel
theorem d40_18 : decode jdk_42_method_25_code 18 = .ok (.bastore, 1) := by decide +kernel
theorem d40_19 : decode jdk_42_method_25_code 19 = .ok (.iinc 2 1, 3) := by decide +kernel
theorem d40_22 : decode jdk_42_method_25_code 22 = .ok (.goto (-20), 3) := by decide +kernel
theorem d40_25 : decode jdk_42_method_25_code 25 = .ok (.return_, 1) := by decide +kernel
theorem d41_0 : decode method_4_code 0 = .ok (.iload_n 0, 1) := by decide +kernel
theorem d41_1 : decode method_4_code 1 = .ok (.sipush 128, 3) := by decide +kernel
theorem d41_4 : decode method_4_code 4 = .ok (.if_icmp .ge 7, 3) := by decide +kernel
theorem d41_7 : decode method_4_code 7 = .ok (.iload_n 0, 1) := by decide +kernel
theorem d41_8 : decode method_4_code 8 = .ok (.goto 5, 3) := by decide +kernel
theorem d41_11 : decode method_4_code 11 = .ok (.bipush 63, 2) := by decide +kernel
theorem d41_13 : decode method_4_code 13 = .ok (.ireturn, 1) := by decide +kernel
theorem d42_0 : decode jdk_42_method_139_code 0 = .ok (.getstatic 38, 3) := by decide +kernel
theorem d42_3 : decode jdk_42_method_139_code 3 = .ok (.ifCond .eq 23, 3) := by decide +kernel
theorem d42_6 : decode jdk_42_method_139_code 6 = .ok (.iload_n 0, 1) := by decide +kernel
theorem d42_7 : decode jdk_42_method_139_code 7 = .ok (.invokestatic 1015, 3) := by decide +kernel
theorem d42_10 : decode jdk_42_method_139_code 10 = .ok (.ifCond .eq 16, 3) := by decide +kernel
theorem d42_13 : decode jdk_42_method_139_code 13 = .ok (.new 10, 3) := by decide +kernel
theorem d42_16 : decode jdk_42_method_139_code 16 = .ok (.dup, 1) := by decide +kernel
theorem d42_17 : decode jdk_42_method_139_code 17 = .ok (.iload_n 0, 1) := by decide +kernel
theorem d42_18 : decode jdk_42_method_139_code 18 = .ok (.invokestatic 1018, 3) := by decide +kernel
theorem d42_21 : decode jdk_42_method_139_code 21 = .ok (.iconst 0, 1) := by decide +kernel
theorem d42_22 : decode jdk_42_method_139_code 22 = .ok (.invokespecial 209, 3) := by decide +kernel
theorem d42_25 : decode jdk_42_method_139_code 25 = .ok (.areturn, 1) := by decide +kernel
theorem d43_0 : decode jdk_43_method_3_code 0 = .ok (.iload_n 0, 1) := by decide +kernel
theorem d43_1 : decode jdk_43_method_3_code 1 = .ok (.sipush 255, 3) := by decide +kernel
theorem d43_4 : decode jdk_43_method_3_code 4 = .ok (.if_icmp .gt 7, 3) := by decide +kernel
theorem d43_7 : decode jdk_43_method_3_code 7 = .ok (.iconst 1, 1) := by decide +kernel
theorem d43_8 : decode jdk_43_method_3_code 8 = .ok (.goto 4, 3) := by decide +kernel
theorem d43_12 : decode jdk_43_method_3_code 12 = .ok (.ireturn, 1) := by decide +kernel
theorem d44_0 : decode jdk_43_method_46_code 0 = .ok (.iconst 1, 1) := by decide +kernel
theorem d44_1 : decode jdk_43_method_46_code 1 = .ok (.newarray .byte, 2) := by decide +kernel
theorem d44_3 : decode jdk_43_method_46_code 3 = .ok (.dup, 1) := by decide +kernel
theorem d44_4 : decode jdk_43_method_46_code 4 = .ok (.iconst 0, 1) := by decide +kernel
theorem d44_5 : decode jdk_43_method_46_code 5 = .ok (.iload_n 0, 1) := by decide +kernel
theorem d44_6 : decode jdk_43_method_46_code 6 = .ok (.i2b, 1) := by decide +kernel
theorem d44_7 : decode jdk_43_method_46_code 7 = .ok (.bastore, 1) := by decide +kernel
theorem d44_8 : decode jdk_43_method_46_code 8 = .ok (.areturn, 1) := by decide +kernel
theorem d45_0 : decode jdk_42_method_151_code 0 = .ok (.aload_n 0, 1) := by decide +kernel
theorem d45_1 : decode jdk_42_method_151_code 1 = .ok (.invokespecial 1, 3) := by decide +kernel
theorem d45_4 : decode jdk_42_method_151_code 4 = .ok (.aload_n 0, 1) := by decide +kernel
theorem d45_5 : decode jdk_42_method_151_code 5 = .ok (.aload_n 1, 1) := by decide +kernel
theorem d45_6 : decode jdk_42_method_151_code 6 = .ok (.putfield 9, 3) := by decide +kernel
theorem d45_9 : decode jdk_42_method_151_code 9 = .ok (.aload_n 0, 1) := by decide +kernel
theorem d45_10 : decode jdk_42_method_151_code 10 = .ok (.iload_n 2, 1) := by decide +kernel
theorem d45_11 : decode jdk_42_method_151_code 11 = .ok (.putfield 15, 3) := by decide +kernel
theorem d45_14 : decode jdk_42_method_151_code 14 = .ok (.return_, 1) := by decide +kernel
theorem pd_0 : parseMethodDescriptor "([CIILjava/lang/Void;)V" = some ⟨[(.array .char), .int, .int, (.object "java/lang/Void")], none⟩ := by decide +kernel
theorem pd_1 : parseMethodDescriptor "(C)Z" = some ⟨[.char], (some .boolean)⟩ := by decide +kernel
theorem pd_2 : parseMethodDescriptor "(C)[B" = some ⟨[.char], (some (.array .byte))⟩ := by decide +kernel
theorem pd_3 : parseMethodDescriptor "([BB)V" = some ⟨[(.array .byte), .byte], none⟩ := by decide +kernel
theorem pd_4 : parseMethodDescriptor "([C)V" = some ⟨[(.array .char)], none⟩ := by decide +kernel
theorem pd_5 : parseMethodDescriptor "(C)Ljava/lang/String;" = some ⟨[.char], (some (.object "java/lang/String"))⟩ := by decide +kernel
theorem pd_6 : parseMethodDescriptor "()B" = some ⟨[], (some .byte)⟩ := by decide +kernel
theorem pd_7 : parseMethodDescriptor "(I)V" = some ⟨[.int], none⟩ := by decide +kernel
theorem pd_8 : parseMethodDescriptor "([BII)I" = some ⟨[(.array .byte), .int, .int], (some .int)⟩ := by decide +kernel
theorem pd_9 : parseMethodDescriptor "([BI)V" = some ⟨[(.array .byte), .int], none⟩ := by decide +kernel
theorem pd_10 : parseMethodDescriptor "(B[B)[B" = some ⟨[.byte, (.array .byte)], (some (.array .byte))⟩ := by decide +kernel
theorem pd_11 : parseMethodDescriptor "(Ljava/nio/charset/Charset;B[B)[B" = some ⟨[(.object "java/nio/charset/Charset"), .byte, (.array .byte)], (some (.array .byte))⟩ := by decide +kernel
theorem pd_12 : parseMethodDescriptor "()V" = some ⟨[], none⟩ := by decide +kernel
theorem pd_13 : parseMethodDescriptor "(Ljava/lang/String;)V" = some ⟨[(.object "java/lang/String")], none⟩ := by decide +kernel
theorem pd_14 : parseMethodDescriptor "([BIB)V" = some ⟨[(.array .byte), .int, .byte], none⟩ := by decide +kernel
theorem pd_15 : parseMethodDescriptor "()I" = some ⟨[], (some .int)⟩ := by decide +kernel
theorem pd_16 : parseMethodDescriptor "(ILjava/lang/String;)V" = some ⟨[.int, (.object "java/lang/String")], none⟩ := by decide +kernel
theorem pd_17 : parseMethodDescriptor "(Ljava/lang/String;)Ljava/lang/AbstractStringBuilder;" = some ⟨[(.object "java/lang/String")], (some (.object "java/lang/AbstractStringBuilder"))⟩ := by decide +kernel
theorem pd_18 : parseMethodDescriptor "(Ljava/lang/String;)Ljava/lang/StringBuilder;" = some ⟨[(.object "java/lang/String")], (some (.object "java/lang/StringBuilder"))⟩ := by decide +kernel
theorem pd_19 : parseMethodDescriptor "(II)I" = some ⟨[.int, .int], (some .int)⟩ := by decide +kernel
theorem pd_20 : parseMethodDescriptor "(III)I" = some ⟨[.int, .int, .int], (some .int)⟩ := by decide +kernel
theorem pd_21 : parseMethodDescriptor "(I)I" = some ⟨[.int], (some .int)⟩ := by decide +kernel
theorem pd_22 : parseMethodDescriptor "([BI)[B" = some ⟨[(.array .byte), .int], (some (.array .byte))⟩ := by decide +kernel
theorem pd_23 : parseMethodDescriptor "(II)V" = some ⟨[.int, .int], none⟩ := by decide +kernel
theorem pd_24 : parseMethodDescriptor "([BII)[B" = some ⟨[(.array .byte), .int, .int], (some (.array .byte))⟩ := by decide +kernel
theorem pd_25 : parseMethodDescriptor "()[B" = some ⟨[], (some (.array .byte))⟩ := by decide +kernel
theorem pd_26 : parseMethodDescriptor "()Z" = some ⟨[], (some .boolean)⟩ := by decide +kernel
theorem pd_27 : parseMethodDescriptor "(Ljava/lang/AbstractStringBuilder;Ljava/lang/Void;)V" = some ⟨[(.object "java/lang/AbstractStringBuilder"), (.object "java/lang/Void")], none⟩ := by decide +kernel
theorem pd_28 : parseMethodDescriptor "(Ljava/lang/StringBuilder;)V" = some ⟨[(.object "java/lang/StringBuilder")], none⟩ := by decide +kernel
theorem pd_29 : parseMethodDescriptor "()Ljava/lang/String;" = some ⟨[], (some (.object "java/lang/String"))⟩ := by decide +kernel
theorem pd_30 : parseMethodDescriptor "(Ljava/lang/String;Ljava/lang/String;Ljava/lang/String;)Ljava/lang/String;" = some ⟨[(.object "java/lang/String"), (.object "java/lang/String"), (.object "java/lang/String")], (some (.object "java/lang/String"))⟩ := by decide +kernel
theorem pd_31 : parseMethodDescriptor "(Ljava/nio/charset/Charset;)[B" = some ⟨[(.object "java/nio/charset/Charset")], (some (.array .byte))⟩ := by decide +kernel
theorem pd_32 : parseMethodDescriptor "(ICC)Ljava/lang/String;" = some ⟨[.int, .char, .char], (some (.object "java/lang/String"))⟩ := by decide +kernel
theorem pd_33 : parseMethodDescriptor "(Ljava/lang/String;Ljava/lang/String;)[B" = some ⟨[(.object "java/lang/String"), (.object "java/lang/String")], (some (.array .byte))⟩ := by decide +kernel
theorem pd_34 : parseMethodDescriptor "([BII)Z" = some ⟨[(.array .byte), .int, .int], (some .boolean)⟩ := by decide +kernel
theorem pd_35 : parseMethodDescriptor "(C)I" = some ⟨[.char], (some .int)⟩ := by decide +kernel
theorem pf_0 : plainFor (⟨"java/lang/StringCoding", "countPositives", "([BII)I"⟩ : MethodName) = true := by decide +kernel
theorem pf_1 : plainFor (⟨"java/lang/Math", "max", "(II)I"⟩ : MethodName) = true := by decide +kernel
theorem pf_2 : plainFor (⟨"jdk/internal/util/ArraysSupport", "newLength", "(III)I"⟩ : MethodName) = true := by decide +kernel
theorem pf_3 : plainFor (⟨"java/lang/Math", "min", "(II)I"⟩ : MethodName) = true := by decide +kernel
theorem pn_0 : plainName "java/lang/String" = true := by first | (simp [plainName, overriddenIn]; done) | decide +kernel
theorem pn_1 : plainName "java/lang/StringLatin1" = true := by first | (simp [plainName, overriddenIn]; done) | decide +kernel
theorem pn_2 : plainName "java/lang/AbstractStringBuilder" = true := by first | (simp [plainName, overriddenIn]; done) | decide +kernel
theorem pn_3 : plainName "java/lang/StringBuilder" = true := by first | (simp [plainName, overriddenIn]; done) | decide +kernel
theorem pn_4 : plainName "java/util/Arrays" = true := by first | (simp [plainName, overriddenIn]; done) | decide +kernel
theorem pn_5 : plainName "com/example/tugas/tugas/cli/Http" = true := by first | (simp [plainName, overriddenIn]; done) | decide +kernel
theorem pn_6 : plainName "com/example/tugas/tugas/cli/HttpGetPinLaw" = true := by first | (simp [plainName, overriddenIn]; done) | decide +kernel
theorem hws {a0 : Array Value} {Z : State} (hw : HW a0 Z) : ∀ d ∈ StrChars.Road.words, d.before a0 Z = true := fun d hd => hw d ((by decide +kernel : ∀ d ∈ StrChars.Road.words, d ∈ tables_1) d hd)
theorem ew {a0 : Array Value} {Z : State} (hw : HW a0 Z) : EW Z a0 consts_1 := (EW.cons (w48 hw) (by decide) (EW.cons (w125 hw) (by decide) (EW.cons (w100 hw) (by decide) (EW.cons (w101 hw) (by decide) (EW.cons (w18 hw) (by decide) EW.nil)))))
theorem wS {a0 : Array Value} {Z : State} (hw : HW a0 Z) : ∀ a ∈ Bundle.stringAtoms, a.before a0 Z = true := fun d hd => hw d ((by decide +kernel : ∀ d ∈ Bundle.stringAtoms, d ∈ tables_1) d hd)
def strf (n c0 c1 : Int32) : List Int32 := if n = (0 : Int32) then [] else if n = (1 : Int32) then [c0] else [c0, c1]
theorem strf_len (n c0 c1 : Int32) : (strf n c0 c1).length ≤ 4000 := by
  unfold strf
  split
  · exact Nat.le_of_ble_eq_true rfl
  · split <;> exact Nat.le_of_ble_eq_true rfl
theorem strf_eq {n m a b c d : Int32} (hn : n = 0 ∨ n = 1 ∨ n = 2) (hm : m = 0 ∨ m = 1 ∨ m = 2) : strf n a b = strf m c d ↔ n = m ∧ (n < 1 ∨ a = c) ∧ (n < 2 ∨ b = d) := by
  rcases hn with rfl | rfl | rfl <;> rcases hm with rfl | rfl | rfl <;> simp [strf] <;> decide
theorem rem3 {x : Int32} (q : 0 ≤ x.toInt) : x % (3 : Int32) = 0 ∨ x % (3 : Int32) = 1 ∨ x % (3 : Int32) = 2 := by
  have r := (c_irem x 3 3 (by decide)).1 q
  simp only [← Int32.toInt_inj]
  generalize (x % (3 : Int32)).toInt = y at *
  show y = 0 ∨ y = 1 ∨ y = 2
  omega
theorem nonneg_and (x : Int32) {m : Int32} (q : 0 ≤ m.toInt) : 0 ≤ (x &&& m).toInt := (c_and x m q).1
def StrX (Z : State) (h : Heap) (x : Addr) (cs : List Int32) (m : Nat) : Prop := ∃ t : Addr, Exa Z h x "java/lang/String" ∧ Fld Z h x "java/lang/String" "coder" "B" (.int 0) ∧ Fld Z h x "java/lang/String" "value" "[B" (.ref t) ∧ Ary Z h t .byte ((cs.map fun c => c.toInt8.toInt32).map Value.int) ∧ Lat cs ∧ Exa Z h t "[B" ∧ m ≤ t
theorem StrX.exa {Z : State} {h : Heap} {x : Addr} {cs : List Int32} {m : Nat} (S : StrX Z h x cs m) : Exa Z h x "java/lang/String" := by obtain ⟨t, s1, -⟩ := S; exact s1
theorem StrX.ext {Z : State} {h h' : Heap} {x : Addr} {cs : List Int32} {m : Nat} (S : StrX Z h x cs m) (E : Ext h h') : StrX Z h' x cs m := by obtain ⟨t, s1, s2, s3, s4, s5, s6, s7⟩ := S; exact ⟨t, s1.ext E, s2.ext E, s3.ext E, s4.ext E, s5, s6.ext E, s7⟩
theorem StrX.mono {Z : State} {h : Heap} {x : Addr} {cs : List Int32} {m m' : Nat} (S : StrX Z h x cs m) (q : m' ≤ m) : StrX Z h x cs m' := by obtain ⟨t, s1, s2, s3, s4, s5, s6, s7⟩ := S; exact ⟨t, s1, s2, s3, s4, s5, s6, Nat.le_trans q s7⟩
theorem arr_ne {Z : State} {h : Heap} {t a : Addr} {ty : FieldType} {vs : List Value} {C : String} {k : Nat} {a0 : Array Value} (A : Ary Z h t ty vs) (E : Exa Z h a C) (wi : (Jvm.Cond.instantiable C k).before a0 Z = true) : t ≠ a := by obtain ⟨c, A, -⟩ := A; exact Ne.symm (ne_arr E wi A)
theorem add_nat {p q : Int32} {i j : Nat} (hp : p.toInt = (i : Int)) (hq : q.toInt = (j : Int)) (hj : i + j ≤ 8000) : (p + q).toInt = ((i + j : Nat) : Int) := by
  have h1 := c_iadd p q
  have h2 := rng32 (p + q)
  omega
theorem shl0 {x : Int32} {k : Nat} (h : x.toInt = (k : Int)) : (x <<< ((0 : Int32) &&& 31)).toInt = (k : Int) := by
  have h1 := c_ishl x 0 0 (by decide)
  have h2 := rng32 (x <<< ((0 : Int32) &&& 31))
  have h3 := rng32 x
  omega
theorem shr0 (x : Int32) : x >>> ((0 : Int32) &&& 31) = x := Int32.toInt_inj.mp (by rw [c_ishr x 0 0 (by decide)]; simp)
theorem grow34 {g : Int32} (h1 : 0 ≤ g.toInt) (h2 : g.toInt ≤ 18) : ((16 : Int32) + (if g < (18 : Int32) then (18 : Int32) else g)) = (34 : Int32) := by
  split
  · decide
  · rename_i q
    rw [toInt_lt] at q
    have e : (18 : Int32).toInt = 18 := rfl
    have : g = 18 := Int32.toInt_inj.mp (by omega)
    rw [this]; decide
theorem growg {mn : Int32} {n : Nat} (hn : mn.toInt = (n : Int)) (h1 : 16 < n) (h2 : n ≤ 34) : 0 ≤ ((mn <<< ((0 : Int32) &&& 31)) - (16 : Int32)).toInt ∧ ((mn <<< ((0 : Int32) &&& 31)) - (16 : Int32)).toInt ≤ 18 := by
  have e1 := shl0 hn
  have e2 := c_isub (mn <<< ((0 : Int32) &&& 31)) 16
  have e3 := rng32 ((mn <<< ((0 : Int32) &&& 31)) - (16 : Int32))
  have e : (16 : Int32).toInt = 16 := rfl
  omega
theorem growp {mn : Int32} {n : Nat} (hn : mn.toInt = (n : Int)) (h1 : 16 < n) (h2 : n ≤ 34) : (0 : Int32) < (mn - (16 : Int32)) := by
  rw [toInt_lt]
  have e2 := c_isub mn 16
  have e3 := rng32 (mn - (16 : Int32))
  have e : (16 : Int32).toInt = 16 := rfl
  have e0 : (0 : Int32).toInt = 0 := rfl
  omega
theorem stay16 {mn : Int32} {n : Nat} (hn : mn.toInt = (n : Int)) (h2 : n ≤ 16) : ¬ (0 : Int32) < (mn - (16 : Int32)) := by
  rw [toInt_lt]
  have e2 := c_isub mn 16
  have e3 := rng32 (mn - (16 : Int32))
  have e : (16 : Int32).toInt = 16 := rfl
  have e0 : (0 : Int32).toInt = 0 := rfl
  omega
theorem stay34 {mn : Int32} {n : Nat} (hn : mn.toInt = (n : Int)) (h2 : n ≤ 34) : ¬ (0 : Int32) < (mn - (34 : Int32)) := by
  rw [toInt_lt]
  have e2 := c_isub mn 34
  have e3 := rng32 (mn - (34 : Int32))
  have e : (34 : Int32).toInt = 34 := rfl
  have e0 : (0 : Int32).toInt = 0 := rfl
  omega
theorem knn {x : Int32} {k : Nat} (h : x.toInt = (k : Int)) : ¬ x < 0 := by
  rw [toInt_lt]
  have e0 : (0 : Int32).toInt = 0 := rfl
  omega
theorem sub0 {x : Int32} {k : Nat} (h : x.toInt = (k : Int)) : (x - (0 : Int32)).toInt = (k : Int) := by
  have e2 := c_isub x 0
  have e3 := rng32 (x - (0 : Int32))
  have e4 := rng32 x
  have e0 : (0 : Int32).toInt = 0 := rfl
  omega
theorem kne {x : Int32} {k : Nat} (h : x.toInt = (k : Int)) (hlt : k < 34) : ¬ x = (34 : Int32) := fun q => by
  rw [q] at h
  have e : (34 : Int32).toInt = 34 := rfl
  omega
theorem minc {x : Int32} {k : Nat} (h : x.toInt = (k : Int)) (hlt : k < 34) : (if (x - (0 : Int32)) < (34 : Int32) then (x - (0 : Int32)) else (34 : Int32)).toInt = (k : Int) := by
  have e := sub0 h
  split
  · exact e
  · rename_i q
    rw [toInt_lt] at q
    have e4 : (34 : Int32).toInt = 34 := rfl
    omega
def e8 (y : Int32) : Int32 := if y < 0 then 63 else y
theorem e8_at {ys zs : List Int32} {k : Nat} {y : Int32} (hz : zs = (ys.take k).map e8 ++ ys.drop k) (hk : ys[k]? = some y) : zs[k]? = some y := by
  have hl := (List.getElem?_eq_some_iff.mp hk).1
  rw [hz, List.getElem?_append_right (by simp; omega)]
  simp only [List.length_map, List.length_take, List.getElem?_drop]
  rw [show k + (k - min k ys.length) = k by omega]; exact hk
theorem e8_len {ys zs : List Int32} {k : Nat} (hz : zs = (ys.take k).map e8 ++ ys.drop k) (hk : k ≤ ys.length) : zs.length = ys.length := by
  rw [hz]; simp; omega
theorem take_succ' {ys : List Int32} {k : Nat} {y : Int32} (hk : ys[k]? = some y) : ys.take (k + 1) = ys.take k ++ [y] ∧ ys.drop k = y :: ys.drop (k + 1) := by
  obtain ⟨hl, e⟩ := List.getElem?_eq_some_iff.mp hk
  exact ⟨by rw [List.take_add_one, hk]; rfl, by rw [List.drop_eq_getElem_cons hl, e]⟩
theorem e8_step {ys zs : List Int32} {k : Nat} {y : Int32} (hz : zs = (ys.take k).map e8 ++ ys.drop k) (hk : ys[k]? = some y) (hy : ¬ y < 0) : zs = (ys.take (k + 1)).map e8 ++ ys.drop (k + 1) := by
  obtain ⟨e1, e2⟩ := take_succ' hk
  rw [hz, e1, e2, List.map_append]; simp [e8, hy]
theorem e8_set {ys zs : List Int32} {k : Nat} {y : Int32} (hz : zs = (ys.take k).map e8 ++ ys.drop k) (hk : ys[k]? = some y) (hy : y < 0) : zs.set k 63 = (ys.take (k + 1)).map e8 ++ ys.drop (k + 1) := by
  obtain ⟨e1, e2⟩ := take_succ' hk
  have hl := (List.getElem?_eq_some_iff.mp hk).1
  rw [hz, e1, e2, List.map_append, List.set_append_right _ _ (by simp; omega)]
  simp only [List.length_map, List.length_take]
  rw [show k - min k ys.length = 0 by omega]
  simp [e8, hy]
theorem e8_pre {ys : List Int32} {k : Nat} (hp : ∀ j, j < k → ∀ y, ys[j]? = some y → ¬ y < 0) : ys = (ys.take k).map e8 ++ ys.drop k := by
  have : (ys.take k).map e8 = ys.take k := by
    refine List.ext_getElem? fun j => ?_
    rw [List.getElem?_map, List.getElem?_take]
    split
    · rename_i h
      cases hj : ys[j]? with
      | none => rfl
      | some y => simp [e8, hp j h y hj]
    · rfl
  rw [this, List.take_append_drop]
theorem e8_all {ys zs : List Int32} (hz : zs = (ys.take ys.length).map e8 ++ ys.drop ys.length) : zs = ys.map e8 := by
  rw [hz, List.take_length, List.drop_length, List.append_nil]
def encI (c : Int32) : Int32 := if c < (128 : Int32) then c else (63 : Int32)
theorem enc_eq {c : Int32} (q : ¬ c < 0 ∧ ¬ (255 : Int32) < c) : e8 c.toInt8.toInt32 = encI c := by
  have q' := lat_iff.mp q
  have b := c_i2b c
  unfold e8 encI
  have e0 : (0 : Int32).toInt = 0 := rfl
  have e1 : (128 : Int32).toInt = 128 := rfl
  by_cases h : c < (128 : Int32)
  · have h' := toInt_lt.mp h
    rw [if_pos h, if_neg (by rw [toInt_lt]; omega)]
    exact Int32.toInt_inj.mp (by omega)
  · have h' := (not_congr toInt_lt).mp h
    rw [if_neg h, if_pos (by rw [toInt_lt]; omega)]
theorem enc_map {cs : List Int32} (q : Lat cs) : (cs.map fun c => c.toInt8.toInt32).map e8 = cs.map encI := by
  rw [List.map_map]; exact List.map_congr_left fun c hc => enc_eq (q c hc)
theorem app_list {vs : List Value} {bs cs : List Int32} {cap : Nat} (hl : vs.length = cap) (ht : vs.take bs.length = ((bs.map fun c => c.toInt8.toInt32).map Value.int)) (hm : bs.length + ((cs.map fun c => c.toInt8.toInt32).map Value.int).length ≤ cap) :
    (vs.take bs.length ++ ((cs.map fun c => c.toInt8.toInt32).map Value.int) ++ vs.drop (bs.length + ((cs.map fun c => c.toInt8.toInt32).map Value.int).length)).length = cap ∧ (vs.take bs.length ++ ((cs.map fun c => c.toInt8.toInt32).map Value.int) ++ vs.drop (bs.length + ((cs.map fun c => c.toInt8.toInt32).map Value.int).length)).take (bs ++ cs).length = (((bs ++ cs).map fun c => c.toInt8.toInt32).map Value.int) := by
  simp only [List.length_map] at hm ⊢
  constructor
  · simp; omega
  · rw [ht, List.take_append_of_le_length (by simp), List.take_of_length_le (by simp)]; simp
def headc (tl t0 t1 hl h0 h1 : Int32) : List Int32 := ((((([71, 69, 84] ++ [32]) ++ strf tl t0 t1) ++ [32, 72, 84, 84, 80, 47, 49, 46, 49, 13, 10, 72, 111, 115, 116, 58, 32]) ++ strf hl h0 h1) ++ [13, 10])
def respL (tl t0 t1 hl h0 h1 : Int32) : List Int32 := [71, 69, 84, 32] ++ ((strf tl t0 t1).map encI ++ ([32, 72, 84, 84, 80, 47, 49, 46, 49, 13, 10, 72, 111, 115, 116, 58, 32] ++ ((strf hl h0 h1).map encI ++ [13, 10, 13, 10])))
theorem resp_eq (tl t0 t1 hl h0 h1 : Int32) : ((([] ++ headc tl t0 t1 hl h0 h1) ++ [13, 10]).map encI) = respL tl t0 t1 hl h0 h1 := by
  unfold headc respL
  simp [encI]
theorem strf_l2 (n c0 c1 : Int32) : (strf n c0 c1).length ≤ 2 := by
  unfold strf
  split
  · exact Nat.le_of_ble_eq_true rfl
  · split <;> exact Nat.le_of_ble_eq_true rfl
theorem strf_lat {n c0 c1 : Int32} (q0 : ¬ c0 < 0 ∧ ¬ (255 : Int32) < c0) (q1 : ¬ c1 < 0 ∧ ¬ (255 : Int32) < c1) : Lat (strf n c0 c1) := by
  unfold strf
  split
  · exact latN
  · split
    · exact lat1 q0
    · exact lat2 q0 q1
theorem lat_app {a b : List Int32} (p : Lat a) (q : Lat b) : Lat (a ++ b) := fun c hc => (List.mem_append.mp hc).elim (p c) (q c)
theorem headc_len (tl t0 t1 hl h0 h1 : Int32) : (headc tl t0 t1 hl h0 h1).length = 23 + (strf tl t0 t1).length + (strf hl h0 h1).length := by
  unfold headc; simp; omega
theorem headc_lat {tl t0 t1 hl h0 h1 : Int32} (b_tl : tl = 0 ∨ tl = 1 ∨ tl = 2) (b_hl : hl = 0 ∨ hl = 1 ∨ hl = 2) (q0 : ¬ t0 < 0 ∧ ¬ (255 : Int32) < t0) (q1 : ¬ t1 < 0 ∧ ¬ (255 : Int32) < t1) (r0 : ¬ h0 < 0 ∧ ¬ (255 : Int32) < h0) (r1 : ¬ h1 < 0 ∧ ¬ (255 : Int32) < h1) : Lat (headc tl t0 t1 hl h0 h1) := by
  unfold headc
  exact lat_app (lat_app (lat_app (lat_app (lat_app (by unfold Lat; decide) (by unfold Lat; decide)) (strf_lat q0 q1)) (by unfold Lat; decide)) (strf_lat r0 r1)) (by unfold Lat; decide)
theorem fin_lat {tl t0 t1 hl h0 h1 : Int32} (b_tl : tl = 0 ∨ tl = 1 ∨ tl = 2) (b_hl : hl = 0 ∨ hl = 1 ∨ hl = 2) (q0 : ¬ t0 < 0 ∧ ¬ (255 : Int32) < t0) (q1 : ¬ t1 < 0 ∧ ¬ (255 : Int32) < t1) (r0 : ¬ h0 < 0 ∧ ¬ (255 : Int32) < h0) (r1 : ¬ h1 < 0 ∧ ¬ (255 : Int32) < h1) : Lat (([] ++ headc tl t0 t1 hl h0 h1) ++ [13, 10]) := lat_app (lat_app latN (headc_lat b_tl b_hl q0 q1 r0 r1)) (by unfold Lat; decide)
theorem resp_len {tl t0 t1 hl h0 h1 : Int32} (b_tl : tl = 0 ∨ tl = 1 ∨ tl = 2) (b_hl : hl = 0 ∨ hl = 1 ∨ hl = 2) : Int32.ofNat (respL tl t0 t1 hl h0 h1).length = (((25 : Int32) + hl) + tl) := by
  rcases b_tl with rfl | rfl | rfl <;> rcases b_hl with rfl | rfl | rfl <;> simp [respL, strf]
theorem resp_le {tl t0 t1 hl h0 h1 : Int32} (b_tl : tl = 0 ∨ tl = 1 ∨ tl = 2) (b_hl : hl = 0 ∨ hl = 1 ∨ hl = 2) : (respL tl t0 t1 hl h0 h1).length ≤ 4000 := by
  rcases b_tl with rfl | rfl | rfl <;> rcases b_hl with rfl | rfl | rfl <;> simp [respL, strf]
theorem inc1 {x : Int32} {k : Nat} (h : x.toInt = (k : Int)) (hk : k ≤ 7000) : (x + (1 : Int32)).toInt = ((k + 1 : Nat) : Int) := add_nat (i := k) (j := 1) h rfl (by omega)
theorem len_yes {i : Int32} {k n : Nat} (hi : i.toInt = (k : Int)) (hk : k < n) (hl : n ≤ 4000) : i < Int32.ofNat n := by rw [toInt_lt, ofNat_toInt (by omega)]; omega
theorem len_no {i : Int32} {k n : Nat} (hi : i.toInt = (k : Int)) (hk : n ≤ k) (hl : n ≤ 4000) : ¬ i < Int32.ofNat n := by rw [toInt_lt, ofNat_toInt (by omega)]; omega
theorem zlim (n : Nat) : ((0 : Int32) + (Int32.ofNat n)) = Int32.ofNat n := Int32.zero_add _
theorem lim_yes {i : Int32} {k n : Nat} (hi : i.toInt = (k : Int)) (hk : k < n) (hl : n ≤ 4000) : i < ((0 : Int32) + (Int32.ofNat n)) := by rw [zlim]; exact len_yes hi hk hl
theorem lim_no {i : Int32} {k n : Nat} (hi : i.toInt = (k : Int)) (hk : n ≤ k) (hl : n ≤ 4000) : ¬ i < ((0 : Int32) + (Int32.ofNat n)) := by rw [zlim]; exact len_no hi hk hl
theorem e8_full {ys : List Int32} {r : Int32} {i : Nat} (hp : ∀ j, j < i → ∀ y, ys[j]? = some y → ¬ y < 0) (hr : r.toInt = (i : Int)) (hi : i ≤ ys.length) (h : ¬ r < Int32.ofNat ys.length) (hl : ys.length ≤ 4000) : ys = ys.map e8 := by
  rw [toInt_lt, ofNat_toInt (by omega)] at h
  have e : i = ys.length := by omega
  subst e
  exact e8_all (e8_pre hp)
theorem ax_0 {tl t0 t1 hl h0_ h1_ : Int32} (b_tl : tl = 0 ∨ tl = 1 ∨ tl = 2) (b_hl : hl = 0 ∨ hl = 1 ∨ hl = 2) : ∃ k : Nat, ((0 : Int32)).toInt = (k : Int) ∧ (respL tl t0 t1 hl h0_ h1_)[k]? = some (71 : Int32) := by
  rcases b_tl with rfl | rfl | rfl <;> rcases b_hl with rfl | rfl | rfl
  · exact ⟨0, by decide, by simp [respL, strf]⟩
  · exact ⟨0, by decide, by simp [respL, strf]⟩
  · exact ⟨0, by decide, by simp [respL, strf]⟩
  · exact ⟨0, by decide, by simp [respL, strf]⟩
  · exact ⟨0, by decide, by simp [respL, strf]⟩
  · exact ⟨0, by decide, by simp [respL, strf]⟩
  · exact ⟨0, by decide, by simp [respL, strf]⟩
  · exact ⟨0, by decide, by simp [respL, strf]⟩
  · exact ⟨0, by decide, by simp [respL, strf]⟩
theorem ax_1 {tl t0 t1 hl h0_ h1_ : Int32} (b_tl : tl = 0 ∨ tl = 1 ∨ tl = 2) (b_hl : hl = 0 ∨ hl = 1 ∨ hl = 2) : ∃ k : Nat, ((1 : Int32)).toInt = (k : Int) ∧ (respL tl t0 t1 hl h0_ h1_)[k]? = some (69 : Int32) := by
  rcases b_tl with rfl | rfl | rfl <;> rcases b_hl with rfl | rfl | rfl
  · exact ⟨1, by decide, by simp [respL, strf]⟩
  · exact ⟨1, by decide, by simp [respL, strf]⟩
  · exact ⟨1, by decide, by simp [respL, strf]⟩
  · exact ⟨1, by decide, by simp [respL, strf]⟩
  · exact ⟨1, by decide, by simp [respL, strf]⟩
  · exact ⟨1, by decide, by simp [respL, strf]⟩
  · exact ⟨1, by decide, by simp [respL, strf]⟩
  · exact ⟨1, by decide, by simp [respL, strf]⟩
  · exact ⟨1, by decide, by simp [respL, strf]⟩
theorem ax_2 {tl t0 t1 hl h0_ h1_ : Int32} (b_tl : tl = 0 ∨ tl = 1 ∨ tl = 2) (b_hl : hl = 0 ∨ hl = 1 ∨ hl = 2) : ∃ k : Nat, ((2 : Int32)).toInt = (k : Int) ∧ (respL tl t0 t1 hl h0_ h1_)[k]? = some (84 : Int32) := by
  rcases b_tl with rfl | rfl | rfl <;> rcases b_hl with rfl | rfl | rfl
  · exact ⟨2, by decide, by simp [respL, strf]⟩
  · exact ⟨2, by decide, by simp [respL, strf]⟩
  · exact ⟨2, by decide, by simp [respL, strf]⟩
  · exact ⟨2, by decide, by simp [respL, strf]⟩
  · exact ⟨2, by decide, by simp [respL, strf]⟩
  · exact ⟨2, by decide, by simp [respL, strf]⟩
  · exact ⟨2, by decide, by simp [respL, strf]⟩
  · exact ⟨2, by decide, by simp [respL, strf]⟩
  · exact ⟨2, by decide, by simp [respL, strf]⟩
theorem ax_3 {tl t0 t1 hl h0_ h1_ : Int32} (b_tl : tl = 0 ∨ tl = 1 ∨ tl = 2) (b_hl : hl = 0 ∨ hl = 1 ∨ hl = 2) : ∃ k : Nat, ((3 : Int32)).toInt = (k : Int) ∧ (respL tl t0 t1 hl h0_ h1_)[k]? = some (32 : Int32) := by
  rcases b_tl with rfl | rfl | rfl <;> rcases b_hl with rfl | rfl | rfl
  · exact ⟨3, by decide, by simp [respL, strf]⟩
  · exact ⟨3, by decide, by simp [respL, strf]⟩
  · exact ⟨3, by decide, by simp [respL, strf]⟩
  · exact ⟨3, by decide, by simp [respL, strf]⟩
  · exact ⟨3, by decide, by simp [respL, strf]⟩
  · exact ⟨3, by decide, by simp [respL, strf]⟩
  · exact ⟨3, by decide, by simp [respL, strf]⟩
  · exact ⟨3, by decide, by simp [respL, strf]⟩
  · exact ⟨3, by decide, by simp [respL, strf]⟩
theorem ax_4 {tl t0 t1 hl h0_ h1_ : Int32} (b_tl : tl = 0 ∨ tl = 1 ∨ tl = 2) (b_hl : hl = 0 ∨ hl = 1 ∨ hl = 2) : ∃ k : Nat, (((4 : Int32) + tl)).toInt = (k : Int) ∧ (respL tl t0 t1 hl h0_ h1_)[k]? = some (32 : Int32) := by
  rcases b_tl with rfl | rfl | rfl <;> rcases b_hl with rfl | rfl | rfl
  · exact ⟨4, by decide, by simp [respL, strf]⟩
  · exact ⟨4, by decide, by simp [respL, strf]⟩
  · exact ⟨4, by decide, by simp [respL, strf]⟩
  · exact ⟨5, by decide, by simp [respL, strf]⟩
  · exact ⟨5, by decide, by simp [respL, strf]⟩
  · exact ⟨5, by decide, by simp [respL, strf]⟩
  · exact ⟨6, by decide, by simp [respL, strf]⟩
  · exact ⟨6, by decide, by simp [respL, strf]⟩
  · exact ⟨6, by decide, by simp [respL, strf]⟩
theorem ax_5 {tl t0 t1 hl h0_ h1_ : Int32} (b_tl : tl = 0 ∨ tl = 1 ∨ tl = 2) (b_hl : hl = 0 ∨ hl = 1 ∨ hl = 2) : ∃ k : Nat, ((((4 : Int32) + tl) + (1 : Int32))).toInt = (k : Int) ∧ (respL tl t0 t1 hl h0_ h1_)[k]? = some (72 : Int32) := by
  rcases b_tl with rfl | rfl | rfl <;> rcases b_hl with rfl | rfl | rfl
  · exact ⟨5, by decide, by simp [respL, strf]⟩
  · exact ⟨5, by decide, by simp [respL, strf]⟩
  · exact ⟨5, by decide, by simp [respL, strf]⟩
  · exact ⟨6, by decide, by simp [respL, strf]⟩
  · exact ⟨6, by decide, by simp [respL, strf]⟩
  · exact ⟨6, by decide, by simp [respL, strf]⟩
  · exact ⟨7, by decide, by simp [respL, strf]⟩
  · exact ⟨7, by decide, by simp [respL, strf]⟩
  · exact ⟨7, by decide, by simp [respL, strf]⟩
theorem ax_6 {tl t0 t1 hl h0_ h1_ : Int32} (b_tl : tl = 0 ∨ tl = 1 ∨ tl = 2) (b_hl : hl = 0 ∨ hl = 1 ∨ hl = 2) : ∃ k : Nat, ((((4 : Int32) + tl) + (2 : Int32))).toInt = (k : Int) ∧ (respL tl t0 t1 hl h0_ h1_)[k]? = some (84 : Int32) := by
  rcases b_tl with rfl | rfl | rfl <;> rcases b_hl with rfl | rfl | rfl
  · exact ⟨6, by decide, by simp [respL, strf]⟩
  · exact ⟨6, by decide, by simp [respL, strf]⟩
  · exact ⟨6, by decide, by simp [respL, strf]⟩
  · exact ⟨7, by decide, by simp [respL, strf]⟩
  · exact ⟨7, by decide, by simp [respL, strf]⟩
  · exact ⟨7, by decide, by simp [respL, strf]⟩
  · exact ⟨8, by decide, by simp [respL, strf]⟩
  · exact ⟨8, by decide, by simp [respL, strf]⟩
  · exact ⟨8, by decide, by simp [respL, strf]⟩
theorem ax_7 {tl t0 t1 hl h0_ h1_ : Int32} (b_tl : tl = 0 ∨ tl = 1 ∨ tl = 2) (b_hl : hl = 0 ∨ hl = 1 ∨ hl = 2) : ∃ k : Nat, ((((4 : Int32) + tl) + (3 : Int32))).toInt = (k : Int) ∧ (respL tl t0 t1 hl h0_ h1_)[k]? = some (84 : Int32) := by
  rcases b_tl with rfl | rfl | rfl <;> rcases b_hl with rfl | rfl | rfl
  · exact ⟨7, by decide, by simp [respL, strf]⟩
  · exact ⟨7, by decide, by simp [respL, strf]⟩
  · exact ⟨7, by decide, by simp [respL, strf]⟩
  · exact ⟨8, by decide, by simp [respL, strf]⟩
  · exact ⟨8, by decide, by simp [respL, strf]⟩
  · exact ⟨8, by decide, by simp [respL, strf]⟩
  · exact ⟨9, by decide, by simp [respL, strf]⟩
  · exact ⟨9, by decide, by simp [respL, strf]⟩
  · exact ⟨9, by decide, by simp [respL, strf]⟩
theorem ax_8 {tl t0 t1 hl h0_ h1_ : Int32} (b_tl : tl = 0 ∨ tl = 1 ∨ tl = 2) (b_hl : hl = 0 ∨ hl = 1 ∨ hl = 2) : ∃ k : Nat, ((((4 : Int32) + tl) + (4 : Int32))).toInt = (k : Int) ∧ (respL tl t0 t1 hl h0_ h1_)[k]? = some (80 : Int32) := by
  rcases b_tl with rfl | rfl | rfl <;> rcases b_hl with rfl | rfl | rfl
  · exact ⟨8, by decide, by simp [respL, strf]⟩
  · exact ⟨8, by decide, by simp [respL, strf]⟩
  · exact ⟨8, by decide, by simp [respL, strf]⟩
  · exact ⟨9, by decide, by simp [respL, strf]⟩
  · exact ⟨9, by decide, by simp [respL, strf]⟩
  · exact ⟨9, by decide, by simp [respL, strf]⟩
  · exact ⟨10, by decide, by simp [respL, strf]⟩
  · exact ⟨10, by decide, by simp [respL, strf]⟩
  · exact ⟨10, by decide, by simp [respL, strf]⟩
theorem ax_9 {tl t0 t1 hl h0_ h1_ : Int32} (b_tl : tl = 0 ∨ tl = 1 ∨ tl = 2) (b_hl : hl = 0 ∨ hl = 1 ∨ hl = 2) : ∃ k : Nat, ((((4 : Int32) + tl) + (5 : Int32))).toInt = (k : Int) ∧ (respL tl t0 t1 hl h0_ h1_)[k]? = some (47 : Int32) := by
  rcases b_tl with rfl | rfl | rfl <;> rcases b_hl with rfl | rfl | rfl
  · exact ⟨9, by decide, by simp [respL, strf]⟩
  · exact ⟨9, by decide, by simp [respL, strf]⟩
  · exact ⟨9, by decide, by simp [respL, strf]⟩
  · exact ⟨10, by decide, by simp [respL, strf]⟩
  · exact ⟨10, by decide, by simp [respL, strf]⟩
  · exact ⟨10, by decide, by simp [respL, strf]⟩
  · exact ⟨11, by decide, by simp [respL, strf]⟩
  · exact ⟨11, by decide, by simp [respL, strf]⟩
  · exact ⟨11, by decide, by simp [respL, strf]⟩
theorem ax_10 {tl t0 t1 hl h0_ h1_ : Int32} (b_tl : tl = 0 ∨ tl = 1 ∨ tl = 2) (b_hl : hl = 0 ∨ hl = 1 ∨ hl = 2) : ∃ k : Nat, ((((4 : Int32) + tl) + (6 : Int32))).toInt = (k : Int) ∧ (respL tl t0 t1 hl h0_ h1_)[k]? = some (49 : Int32) := by
  rcases b_tl with rfl | rfl | rfl <;> rcases b_hl with rfl | rfl | rfl
  · exact ⟨10, by decide, by simp [respL, strf]⟩
  · exact ⟨10, by decide, by simp [respL, strf]⟩
  · exact ⟨10, by decide, by simp [respL, strf]⟩
  · exact ⟨11, by decide, by simp [respL, strf]⟩
  · exact ⟨11, by decide, by simp [respL, strf]⟩
  · exact ⟨11, by decide, by simp [respL, strf]⟩
  · exact ⟨12, by decide, by simp [respL, strf]⟩
  · exact ⟨12, by decide, by simp [respL, strf]⟩
  · exact ⟨12, by decide, by simp [respL, strf]⟩
theorem ax_11 {tl t0 t1 hl h0_ h1_ : Int32} (b_tl : tl = 0 ∨ tl = 1 ∨ tl = 2) (b_hl : hl = 0 ∨ hl = 1 ∨ hl = 2) : ∃ k : Nat, ((((4 : Int32) + tl) + (7 : Int32))).toInt = (k : Int) ∧ (respL tl t0 t1 hl h0_ h1_)[k]? = some (46 : Int32) := by
  rcases b_tl with rfl | rfl | rfl <;> rcases b_hl with rfl | rfl | rfl
  · exact ⟨11, by decide, by simp [respL, strf]⟩
  · exact ⟨11, by decide, by simp [respL, strf]⟩
  · exact ⟨11, by decide, by simp [respL, strf]⟩
  · exact ⟨12, by decide, by simp [respL, strf]⟩
  · exact ⟨12, by decide, by simp [respL, strf]⟩
  · exact ⟨12, by decide, by simp [respL, strf]⟩
  · exact ⟨13, by decide, by simp [respL, strf]⟩
  · exact ⟨13, by decide, by simp [respL, strf]⟩
  · exact ⟨13, by decide, by simp [respL, strf]⟩
theorem ax_12 {tl t0 t1 hl h0_ h1_ : Int32} (b_tl : tl = 0 ∨ tl = 1 ∨ tl = 2) (b_hl : hl = 0 ∨ hl = 1 ∨ hl = 2) : ∃ k : Nat, ((((4 : Int32) + tl) + (8 : Int32))).toInt = (k : Int) ∧ (respL tl t0 t1 hl h0_ h1_)[k]? = some (49 : Int32) := by
  rcases b_tl with rfl | rfl | rfl <;> rcases b_hl with rfl | rfl | rfl
  · exact ⟨12, by decide, by simp [respL, strf]⟩
  · exact ⟨12, by decide, by simp [respL, strf]⟩
  · exact ⟨12, by decide, by simp [respL, strf]⟩
  · exact ⟨13, by decide, by simp [respL, strf]⟩
  · exact ⟨13, by decide, by simp [respL, strf]⟩
  · exact ⟨13, by decide, by simp [respL, strf]⟩
  · exact ⟨14, by decide, by simp [respL, strf]⟩
  · exact ⟨14, by decide, by simp [respL, strf]⟩
  · exact ⟨14, by decide, by simp [respL, strf]⟩
theorem ax_13 {tl t0 t1 hl h0_ h1_ : Int32} (b_tl : tl = 0 ∨ tl = 1 ∨ tl = 2) (b_hl : hl = 0 ∨ hl = 1 ∨ hl = 2) : ∃ k : Nat, ((((4 : Int32) + tl) + (9 : Int32))).toInt = (k : Int) ∧ (respL tl t0 t1 hl h0_ h1_)[k]? = some (13 : Int32) := by
  rcases b_tl with rfl | rfl | rfl <;> rcases b_hl with rfl | rfl | rfl
  · exact ⟨13, by decide, by simp [respL, strf]⟩
  · exact ⟨13, by decide, by simp [respL, strf]⟩
  · exact ⟨13, by decide, by simp [respL, strf]⟩
  · exact ⟨14, by decide, by simp [respL, strf]⟩
  · exact ⟨14, by decide, by simp [respL, strf]⟩
  · exact ⟨14, by decide, by simp [respL, strf]⟩
  · exact ⟨15, by decide, by simp [respL, strf]⟩
  · exact ⟨15, by decide, by simp [respL, strf]⟩
  · exact ⟨15, by decide, by simp [respL, strf]⟩
theorem ax_14 {tl t0 t1 hl h0_ h1_ : Int32} (b_tl : tl = 0 ∨ tl = 1 ∨ tl = 2) (b_hl : hl = 0 ∨ hl = 1 ∨ hl = 2) : ∃ k : Nat, ((((4 : Int32) + tl) + (10 : Int32))).toInt = (k : Int) ∧ (respL tl t0 t1 hl h0_ h1_)[k]? = some (10 : Int32) := by
  rcases b_tl with rfl | rfl | rfl <;> rcases b_hl with rfl | rfl | rfl
  · exact ⟨14, by decide, by simp [respL, strf]⟩
  · exact ⟨14, by decide, by simp [respL, strf]⟩
  · exact ⟨14, by decide, by simp [respL, strf]⟩
  · exact ⟨15, by decide, by simp [respL, strf]⟩
  · exact ⟨15, by decide, by simp [respL, strf]⟩
  · exact ⟨15, by decide, by simp [respL, strf]⟩
  · exact ⟨16, by decide, by simp [respL, strf]⟩
  · exact ⟨16, by decide, by simp [respL, strf]⟩
  · exact ⟨16, by decide, by simp [respL, strf]⟩
theorem ax_15 {tl t0 t1 hl h0_ h1_ : Int32} (b_tl : tl = 0 ∨ tl = 1 ∨ tl = 2) (b_hl : hl = 0 ∨ hl = 1 ∨ hl = 2) : ∃ k : Nat, ((((4 : Int32) + tl) + (11 : Int32))).toInt = (k : Int) ∧ (respL tl t0 t1 hl h0_ h1_)[k]? = some (72 : Int32) := by
  rcases b_tl with rfl | rfl | rfl <;> rcases b_hl with rfl | rfl | rfl
  · exact ⟨15, by decide, by simp [respL, strf]⟩
  · exact ⟨15, by decide, by simp [respL, strf]⟩
  · exact ⟨15, by decide, by simp [respL, strf]⟩
  · exact ⟨16, by decide, by simp [respL, strf]⟩
  · exact ⟨16, by decide, by simp [respL, strf]⟩
  · exact ⟨16, by decide, by simp [respL, strf]⟩
  · exact ⟨17, by decide, by simp [respL, strf]⟩
  · exact ⟨17, by decide, by simp [respL, strf]⟩
  · exact ⟨17, by decide, by simp [respL, strf]⟩
theorem ax_16 {tl t0 t1 hl h0_ h1_ : Int32} (b_tl : tl = 0 ∨ tl = 1 ∨ tl = 2) (b_hl : hl = 0 ∨ hl = 1 ∨ hl = 2) : ∃ k : Nat, ((((4 : Int32) + tl) + (12 : Int32))).toInt = (k : Int) ∧ (respL tl t0 t1 hl h0_ h1_)[k]? = some (111 : Int32) := by
  rcases b_tl with rfl | rfl | rfl <;> rcases b_hl with rfl | rfl | rfl
  · exact ⟨16, by decide, by simp [respL, strf]⟩
  · exact ⟨16, by decide, by simp [respL, strf]⟩
  · exact ⟨16, by decide, by simp [respL, strf]⟩
  · exact ⟨17, by decide, by simp [respL, strf]⟩
  · exact ⟨17, by decide, by simp [respL, strf]⟩
  · exact ⟨17, by decide, by simp [respL, strf]⟩
  · exact ⟨18, by decide, by simp [respL, strf]⟩
  · exact ⟨18, by decide, by simp [respL, strf]⟩
  · exact ⟨18, by decide, by simp [respL, strf]⟩
theorem ax_17 {tl t0 t1 hl h0_ h1_ : Int32} (b_tl : tl = 0 ∨ tl = 1 ∨ tl = 2) (b_hl : hl = 0 ∨ hl = 1 ∨ hl = 2) : ∃ k : Nat, ((((4 : Int32) + tl) + (13 : Int32))).toInt = (k : Int) ∧ (respL tl t0 t1 hl h0_ h1_)[k]? = some (115 : Int32) := by
  rcases b_tl with rfl | rfl | rfl <;> rcases b_hl with rfl | rfl | rfl
  · exact ⟨17, by decide, by simp [respL, strf]⟩
  · exact ⟨17, by decide, by simp [respL, strf]⟩
  · exact ⟨17, by decide, by simp [respL, strf]⟩
  · exact ⟨18, by decide, by simp [respL, strf]⟩
  · exact ⟨18, by decide, by simp [respL, strf]⟩
  · exact ⟨18, by decide, by simp [respL, strf]⟩
  · exact ⟨19, by decide, by simp [respL, strf]⟩
  · exact ⟨19, by decide, by simp [respL, strf]⟩
  · exact ⟨19, by decide, by simp [respL, strf]⟩
theorem ax_18 {tl t0 t1 hl h0_ h1_ : Int32} (b_tl : tl = 0 ∨ tl = 1 ∨ tl = 2) (b_hl : hl = 0 ∨ hl = 1 ∨ hl = 2) : ∃ k : Nat, ((((4 : Int32) + tl) + (14 : Int32))).toInt = (k : Int) ∧ (respL tl t0 t1 hl h0_ h1_)[k]? = some (116 : Int32) := by
  rcases b_tl with rfl | rfl | rfl <;> rcases b_hl with rfl | rfl | rfl
  · exact ⟨18, by decide, by simp [respL, strf]⟩
  · exact ⟨18, by decide, by simp [respL, strf]⟩
  · exact ⟨18, by decide, by simp [respL, strf]⟩
  · exact ⟨19, by decide, by simp [respL, strf]⟩
  · exact ⟨19, by decide, by simp [respL, strf]⟩
  · exact ⟨19, by decide, by simp [respL, strf]⟩
  · exact ⟨20, by decide, by simp [respL, strf]⟩
  · exact ⟨20, by decide, by simp [respL, strf]⟩
  · exact ⟨20, by decide, by simp [respL, strf]⟩
theorem ax_19 {tl t0 t1 hl h0_ h1_ : Int32} (b_tl : tl = 0 ∨ tl = 1 ∨ tl = 2) (b_hl : hl = 0 ∨ hl = 1 ∨ hl = 2) : ∃ k : Nat, ((((4 : Int32) + tl) + (15 : Int32))).toInt = (k : Int) ∧ (respL tl t0 t1 hl h0_ h1_)[k]? = some (58 : Int32) := by
  rcases b_tl with rfl | rfl | rfl <;> rcases b_hl with rfl | rfl | rfl
  · exact ⟨19, by decide, by simp [respL, strf]⟩
  · exact ⟨19, by decide, by simp [respL, strf]⟩
  · exact ⟨19, by decide, by simp [respL, strf]⟩
  · exact ⟨20, by decide, by simp [respL, strf]⟩
  · exact ⟨20, by decide, by simp [respL, strf]⟩
  · exact ⟨20, by decide, by simp [respL, strf]⟩
  · exact ⟨21, by decide, by simp [respL, strf]⟩
  · exact ⟨21, by decide, by simp [respL, strf]⟩
  · exact ⟨21, by decide, by simp [respL, strf]⟩
theorem ax_20 {tl t0 t1 hl h0_ h1_ : Int32} (b_tl : tl = 0 ∨ tl = 1 ∨ tl = 2) (b_hl : hl = 0 ∨ hl = 1 ∨ hl = 2) : ∃ k : Nat, ((((4 : Int32) + tl) + (16 : Int32))).toInt = (k : Int) ∧ (respL tl t0 t1 hl h0_ h1_)[k]? = some (32 : Int32) := by
  rcases b_tl with rfl | rfl | rfl <;> rcases b_hl with rfl | rfl | rfl
  · exact ⟨20, by decide, by simp [respL, strf]⟩
  · exact ⟨20, by decide, by simp [respL, strf]⟩
  · exact ⟨20, by decide, by simp [respL, strf]⟩
  · exact ⟨21, by decide, by simp [respL, strf]⟩
  · exact ⟨21, by decide, by simp [respL, strf]⟩
  · exact ⟨21, by decide, by simp [respL, strf]⟩
  · exact ⟨22, by decide, by simp [respL, strf]⟩
  · exact ⟨22, by decide, by simp [respL, strf]⟩
  · exact ⟨22, by decide, by simp [respL, strf]⟩
theorem ax_21 {tl t0 t1 hl h0_ h1_ : Int32} (b_tl : tl = 0 ∨ tl = 1 ∨ tl = 2) (b_hl : hl = 0 ∨ hl = 1 ∨ hl = 2) : ∃ k : Nat, (((((4 : Int32) + tl) + (17 : Int32)) + hl)).toInt = (k : Int) ∧ (respL tl t0 t1 hl h0_ h1_)[k]? = some (13 : Int32) := by
  rcases b_tl with rfl | rfl | rfl <;> rcases b_hl with rfl | rfl | rfl
  · exact ⟨21, by decide, by simp [respL, strf]⟩
  · exact ⟨22, by decide, by simp [respL, strf]⟩
  · exact ⟨23, by decide, by simp [respL, strf]⟩
  · exact ⟨22, by decide, by simp [respL, strf]⟩
  · exact ⟨23, by decide, by simp [respL, strf]⟩
  · exact ⟨24, by decide, by simp [respL, strf]⟩
  · exact ⟨23, by decide, by simp [respL, strf]⟩
  · exact ⟨24, by decide, by simp [respL, strf]⟩
  · exact ⟨25, by decide, by simp [respL, strf]⟩
theorem ax_22 {tl t0 t1 hl h0_ h1_ : Int32} (b_tl : tl = 0 ∨ tl = 1 ∨ tl = 2) (b_hl : hl = 0 ∨ hl = 1 ∨ hl = 2) : ∃ k : Nat, ((((((4 : Int32) + tl) + (17 : Int32)) + hl) + (1 : Int32))).toInt = (k : Int) ∧ (respL tl t0 t1 hl h0_ h1_)[k]? = some (10 : Int32) := by
  rcases b_tl with rfl | rfl | rfl <;> rcases b_hl with rfl | rfl | rfl
  · exact ⟨22, by decide, by simp [respL, strf]⟩
  · exact ⟨23, by decide, by simp [respL, strf]⟩
  · exact ⟨24, by decide, by simp [respL, strf]⟩
  · exact ⟨23, by decide, by simp [respL, strf]⟩
  · exact ⟨24, by decide, by simp [respL, strf]⟩
  · exact ⟨25, by decide, by simp [respL, strf]⟩
  · exact ⟨24, by decide, by simp [respL, strf]⟩
  · exact ⟨25, by decide, by simp [respL, strf]⟩
  · exact ⟨26, by decide, by simp [respL, strf]⟩
theorem ax_23 {tl t0 t1 hl h0_ h1_ : Int32} (b_tl : tl = 0 ∨ tl = 1 ∨ tl = 2) (b_hl : hl = 0 ∨ hl = 1 ∨ hl = 2) : ∃ k : Nat, ((((((4 : Int32) + tl) + (17 : Int32)) + hl) + (2 : Int32))).toInt = (k : Int) ∧ (respL tl t0 t1 hl h0_ h1_)[k]? = some (13 : Int32) := by
  rcases b_tl with rfl | rfl | rfl <;> rcases b_hl with rfl | rfl | rfl
  · exact ⟨23, by decide, by simp [respL, strf]⟩
  · exact ⟨24, by decide, by simp [respL, strf]⟩
  · exact ⟨25, by decide, by simp [respL, strf]⟩
  · exact ⟨24, by decide, by simp [respL, strf]⟩
  · exact ⟨25, by decide, by simp [respL, strf]⟩
  · exact ⟨26, by decide, by simp [respL, strf]⟩
  · exact ⟨25, by decide, by simp [respL, strf]⟩
  · exact ⟨26, by decide, by simp [respL, strf]⟩
  · exact ⟨27, by decide, by simp [respL, strf]⟩
theorem ax_24 {tl t0 t1 hl h0_ h1_ : Int32} (b_tl : tl = 0 ∨ tl = 1 ∨ tl = 2) (b_hl : hl = 0 ∨ hl = 1 ∨ hl = 2) : ∃ k : Nat, ((((((4 : Int32) + tl) + (17 : Int32)) + hl) + (3 : Int32))).toInt = (k : Int) ∧ (respL tl t0 t1 hl h0_ h1_)[k]? = some (10 : Int32) := by
  rcases b_tl with rfl | rfl | rfl <;> rcases b_hl with rfl | rfl | rfl
  · exact ⟨24, by decide, by simp [respL, strf]⟩
  · exact ⟨25, by decide, by simp [respL, strf]⟩
  · exact ⟨26, by decide, by simp [respL, strf]⟩
  · exact ⟨25, by decide, by simp [respL, strf]⟩
  · exact ⟨26, by decide, by simp [respL, strf]⟩
  · exact ⟨27, by decide, by simp [respL, strf]⟩
  · exact ⟨26, by decide, by simp [respL, strf]⟩
  · exact ⟨27, by decide, by simp [respL, strf]⟩
  · exact ⟨28, by decide, by simp [respL, strf]⟩
theorem ax_25 {tl t0 t1 hl h0_ h1_ : Int32} (b_tl : tl = 0 ∨ tl = 1 ∨ tl = 2) (b_hl : hl = 0 ∨ hl = 1 ∨ hl = 2) (hq : ¬ hl < (2 : Int32)) : ∃ k : Nat, (((((4 : Int32) + tl) + (17 : Int32)) + (1 : Int32))).toInt = (k : Int) ∧ (respL tl t0 t1 hl h0_ h1_)[k]? = some (encI h1_) := by
  rcases b_tl with rfl | rfl | rfl <;> rcases b_hl with rfl | rfl | rfl
  · exact absurd (by decide) hq
  · exact absurd (by decide) hq
  · exact ⟨22, by decide, by simp [respL, strf]⟩
  · exact absurd (by decide) hq
  · exact absurd (by decide) hq
  · exact ⟨23, by decide, by simp [respL, strf]⟩
  · exact absurd (by decide) hq
  · exact absurd (by decide) hq
  · exact ⟨24, by decide, by simp [respL, strf]⟩
theorem ax_26 {tl t0 t1 hl h0_ h1_ : Int32} (b_tl : tl = 0 ∨ tl = 1 ∨ tl = 2) (b_hl : hl = 0 ∨ hl = 1 ∨ hl = 2) (hq : ¬ hl < (1 : Int32)) : ∃ k : Nat, ((((4 : Int32) + tl) + (17 : Int32))).toInt = (k : Int) ∧ (respL tl t0 t1 hl h0_ h1_)[k]? = some (encI h0_) := by
  rcases b_tl with rfl | rfl | rfl <;> rcases b_hl with rfl | rfl | rfl
  · exact absurd (by decide) hq
  · exact ⟨21, by decide, by simp [respL, strf]⟩
  · exact ⟨21, by decide, by simp [respL, strf]⟩
  · exact absurd (by decide) hq
  · exact ⟨22, by decide, by simp [respL, strf]⟩
  · exact ⟨22, by decide, by simp [respL, strf]⟩
  · exact absurd (by decide) hq
  · exact ⟨23, by decide, by simp [respL, strf]⟩
  · exact ⟨23, by decide, by simp [respL, strf]⟩
theorem ax_27 {tl t0 t1 hl h0_ h1_ : Int32} (b_tl : tl = 0 ∨ tl = 1 ∨ tl = 2) (b_hl : hl = 0 ∨ hl = 1 ∨ hl = 2) (hq : ¬ tl < (2 : Int32)) : ∃ k : Nat, ((5 : Int32)).toInt = (k : Int) ∧ (respL tl t0 t1 hl h0_ h1_)[k]? = some (encI t1) := by
  rcases b_tl with rfl | rfl | rfl <;> rcases b_hl with rfl | rfl | rfl
  · exact absurd (by decide) hq
  · exact absurd (by decide) hq
  · exact absurd (by decide) hq
  · exact absurd (by decide) hq
  · exact absurd (by decide) hq
  · exact absurd (by decide) hq
  · exact ⟨5, by decide, by simp [respL, strf]⟩
  · exact ⟨5, by decide, by simp [respL, strf]⟩
  · exact ⟨5, by decide, by simp [respL, strf]⟩
theorem ax_28 {tl t0 t1 hl h0_ h1_ : Int32} (b_tl : tl = 0 ∨ tl = 1 ∨ tl = 2) (b_hl : hl = 0 ∨ hl = 1 ∨ hl = 2) (hq : ¬ tl < (1 : Int32)) : ∃ k : Nat, ((4 : Int32)).toInt = (k : Int) ∧ (respL tl t0 t1 hl h0_ h1_)[k]? = some (encI t0) := by
  rcases b_tl with rfl | rfl | rfl <;> rcases b_hl with rfl | rfl | rfl
  · exact absurd (by decide) hq
  · exact absurd (by decide) hq
  · exact absurd (by decide) hq
  · exact ⟨4, by decide, by simp [respL, strf]⟩
  · exact ⟨4, by decide, by simp [respL, strf]⟩
  · exact ⟨4, by decide, by simp [respL, strf]⟩
  · exact ⟨4, by decide, by simp [respL, strf]⟩
  · exact ⟨4, by decide, by simp [respL, strf]⟩
  · exact ⟨4, by decide, by simp [respL, strf]⟩
theorem ref_eq {args : Array Value} {s : State} {A B : Term} {x y : Addr} (ea : A.eval args s none [] s = some (.ref x)) (eb : B.eval args s none [] s = some (.ref y)) (h : (Jvm.Cond.eq A B).value args s none s [] = some true) : x = y := by
  simpa [Cond.value, ea, eb] using h
abbrev G_new4e (md : Md) (l : Launch) (Z : State) (n0 : Nat) (x b : Addr) (h0 : Heap) := Go md l Z n0 ({ frames := 1, cells := 4, slots := 8, locals := 12 } : Room) jdk_42_method_149_code 6 none "java/lang/String" "<init>" (fun v h' _ => v = none ∧ Keep h0 h' [x] ∧ Str Z h' x [])
theorem ef_new4e (mid : MethodId) (x b : Addr)  : entryFrame mid #[(.ref x), (.ref b), (.int (0 : Int32)), (.int (0 : Int32)), .null] 6 = mkF mid 0 #[.val (.ref x), .val (.ref b), .val (.int (0 : Int32)), .val (.int (0 : Int32)), .val .null, .unset] [] := by first | (simp [entryFrame, mkF, argsToLocals, Value.category]; done) | rfl
set_option maxRecDepth 65536 in
set_option maxHeartbeats 40000000 in
theorem c_new4e {l : Launch} {Z : State} {n0 : Nat} {a0 : Array Value} (hw : HW a0 Z) (x b : Addr) {h0 : Heap} (E : Exa Z h0 x "java/lang/String") (n0x : n0 ≤ x) {v0 c0 : Value} (V : Fld Z h0 x "java/lang/String" "value" "[B" v0) (C : Fld Z h0 x "java/lang/String" "coder" "B" c0) : G_new4e (some consts_1) l Z n0 x b h0 0 0 [x] h0 0 #[.val (.ref x), .val (.ref b), .val (.int (0 : Int32)), .val (.int (0 : Int32)), .val .null, .unset] [] := by
  refine Go.aloadN 1 d3_0 rfl rfl rfl ?_
  refine Go.initO (W := 0) 4 d3_1 rfl (w15 hw) (w16 hw) (w17 hw) rfl (by decide) (Nat.le_of_ble_eq_true rfl) (by decide) ?_
  refine Go.iloadN 5 d3_4 rfl rfl ?_
  refine Go.ifN 8 d3_5 rfl (teq (by decide)).2 ?_
  refine Go.aloadN 9 d3_8 rfl rfl rfl ?_
  refine Go.ldcL (vs := []) (z := (0 : Int32)) 0 11 d3_9 rfl (w18 hw) (wS hw) (List.mem_of_getElem? (i := 4) rfl) ⟨by decide, rfl⟩ (by decide) (by decide) (by decide) (by decide) (Nat.le_of_ble_eq_true rfl) (Nat.le_of_ble_eq_true rfl) (fun h_1 s_2 b_3 k_4 E_5 A_6 C_7 V_8 B_9 ne_10 => ?_)
  have B_11 : Ary Z h_1 b_3 .byte [] := Ary.ofArv B_9 rfl (by decide)
  have S_12 : Str Z h_1 s_2 [] := ⟨_, A_6, C_7, V_8, B_11, by unfold Lat; decide⟩
  show G_new4e (some consts_1) l Z n0 x b h0 2 4 [x] h_1 11 #[.val (.ref x), .val (.ref b), .val (.int (0 : Int32)), .val (.int (0 : Int32)), .val .null, .unset] [(.ref s_2), (.ref x)]
  refine Go.getF 14 d3_11 rfl (w24 hw) Via.refl V_8 ?_
  have f_13 := E.ext E_5
  have f_14 := V.ext E_5
  refine Go.putF 17 (.ref b_3) d3_14 rfl (w24 hw) Via.refl f_14 f_13 (Or.inr ⟨(w20 hw), rfl, rfl⟩) (w5 hw) (ty := (.array .byte)) (by decide) rfl rfl (List.mem_of_getElem? (i := 0) rfl) n0x (fun h_15 W_16 => ?_)
  refine Go.aloadN 18 d3_17 rfl rfl rfl ?_
  refine Go.ldcL (vs := []) (z := (0 : Int32)) 0 20 d3_18 rfl (w18 hw) (wS hw) (List.mem_of_getElem? (i := 4) rfl) ⟨by decide, rfl⟩ (by decide) (by decide) (by decide) (by decide) (Nat.le_of_ble_eq_true rfl) (Nat.le_of_ble_eq_true rfl) (fun h_17 s_18 b_19 k_20 E_21 A_22 C_23 V_24 B_25 ne_26 => ?_)
  have B_27 : Ary Z h_17 b_19 .byte [] := Ary.ofArv B_25 rfl (by decide)
  have S_28 : Str Z h_17 s_18 [] := ⟨_, A_22, C_23, V_24, B_27, by unfold Lat; decide⟩
  show G_new4e (some consts_1) l Z n0 x b h0 4 8 [x] h_17 20 #[.val (.ref x), .val (.ref b), .val (.int (0 : Int32)), .val (.int (0 : Int32)), .val .null, .unset] [(.ref s_18), (.ref x)]
  refine Go.getF 23 d3_20 rfl (w25 hw) Via.refl C_23 ?_
  have f_29 := ((f_13.wr W_16).ext E_21)
  have f_30 := (((C.ext E_5).other W_16 (Or.inr (slot_ne (Or.inr (w21 hw)) (Or.inr (w20 hw)) (by decide) (t := .byte) (t' := (.array .byte)) (by decide) (by decide)))).ext E_21)
  refine Go.putF 26 (.int (0 : Int32)) d3_23 rfl (w25 hw) Via.refl f_30 f_29 (Or.inr ⟨(w21 hw), rfl, rfl⟩) (w5 hw) (ty := .byte) (by decide) rfl rfl (List.mem_of_getElem? (i := 0) rfl) n0x (fun h_31 W_32 => ?_)
  have f_33 := (f_29.wr W_32)
  have f_34 := (((f_14.same W_16).ext E_21).other W_32 (Or.inr (slot_ne (Or.inr (w20 hw)) (Or.inr (w21 hw)) (by decide) (t := (.array .byte)) (t' := .byte) (by decide) (by decide))))
  have f_35 := (((B_11.other W_16 (Ne.symm (ne_10 x (List.mem_of_getElem? (i := 0) rfl)).2)).ext E_21).other W_32 (Ne.symm (ne_10 x (List.mem_of_getElem? (i := 0) rfl)).2))
  exact Go.ret0 d3_26 rfl (sf' := []) (⟨rfl, (((((Keep.refl h0 [x]).ext E_5).wr W_16 (Or.inl (List.mem_of_getElem? (i := 0) rfl))).ext E_21).wr W_32 (Or.inl (List.mem_of_getElem? (i := 0) rfl))), _, f_33, (f_30.same W_32), f_34, f_35, latN⟩) (fun _ q => nomatch q) (Nat.le_of_ble_eq_true rfl) (Nat.le_of_ble_eq_true rfl)
abbrev G_new1e (md : Md) (l : Launch) (Z : State) (n0 : Nat) (x b : Addr) (h0 : Heap) := Go md l Z n0 ({ frames := 2, cells := 4, slots := 8, locals := 29 } : Room) jdk_42_method_3_code 2 none "java/lang/String" "<init>" (fun v h' _ => v = none ∧ Keep h0 h' [x] ∧ Str Z h' x [])
theorem ef_new1e (mid : MethodId) (x b : Addr)  : entryFrame mid #[(.ref x), (.ref b)] 2 = mkF mid 0 #[.val (.ref x), .val (.ref b)] [] := by first | (simp [entryFrame, mkF, argsToLocals, Value.category]; done) | rfl
set_option maxRecDepth 65536 in
set_option maxHeartbeats 40000000 in
theorem c_new1e {l : Launch} {Z : State} {n0 : Nat} {a0 : Array Value} (hw : HW a0 Z) (x b : Addr) {h0 : Heap} (E : Exa Z h0 x "java/lang/String") (n0x : n0 ≤ x) {v0 c0 : Value} (V : Fld Z h0 x "java/lang/String" "value" "[B" v0) (C : Fld Z h0 x "java/lang/String" "coder" "B" c0) (A : Ary Z h0 b .char []) : G_new1e (some consts_1) l Z n0 x b h0 0 0 [x] h0 0 #[.val (.ref x), .val (.ref b)] [] := by
  refine Go.aloadN 1 d2_0 rfl rfl rfl ?_
  refine Go.aloadN 2 d2_1 rfl rfl rfl ?_
  refine Go.iconst 3 (0 : Int32) d2_2 rfl rfl ?_
  refine Go.aloadN 4 d2_3 rfl rfl rfl ?_
  refine Go.alen 5 (0 : Int32) d2_4 rfl A rfl ?_
  refine Go.aconstNull 6 d2_5 rfl ?_
  refine Go.callC (S := []) (a := x) 9 [(.ref b), (.int (0 : Int32)), (.int (0 : Int32)), .null] d2_6 rfl rfl rfl (w11 hw) (w12 hw) (w14 hw) (by decide) (call_of_go (R := _) (len := 3) (W := 0) (plainFor_of_name pn_0) (fun mid => ef_new4e mid x b ) (c_new4e hw x b E n0x V C) (w14 hw) (w6 hw) (by decide) (by decide)) (lenOf pd_0 rfl) (Nat.le_of_ble_eq_true rfl) rfl (Nat.le_of_ble_eq_true rfl) (Nat.le_of_ble_eq_true rfl) (fun _ q => q) (fun v h_1 sf_2 hq => ?_)
  obtain ⟨rfl, K2, S2⟩ := hq
  refine Go.more (sf' := [x]) ?_ (Nat.le_refl _) (Nat.le_refl _) (fun _ q => List.mem_append_right _ q)
  show G_new1e (some consts_1) l Z n0 x b h0 4 8 [x] h_1 9 #[.val (.ref x), .val (.ref b)] []
  exact Go.ret0 d2_9 rfl (sf' := []) (⟨rfl, K2, S2⟩) (fun _ q => nomatch q) (Nat.le_of_ble_eq_true rfl) (Nat.le_of_ble_eq_true rfl)
abbrev G_canenc (md : Md) (l : Launch) (Z : State) (n0 : Nat) (c : Int32) (h0 : Heap) := Go md l Z n0 ({ frames := 0, cells := 0, slots := 0, locals := 0 } : Room) jdk_43_method_3_code 1 (some .boolean) "java/lang/StringLatin1" "canEncode" (fun v h' _ => h0 = h' ∧ v = some (.int 1))
theorem ef_canenc (mid : MethodId) (c : Int32)  : entryFrame mid #[(.int c)] 1 = mkF mid 0 #[.val (.int c)] [] := by first | (simp [entryFrame, mkF, argsToLocals, Value.category]; done) | rfl
set_option maxRecDepth 65536 in
set_option maxHeartbeats 40000000 in
theorem c_canenc {md : Md} {l : Launch} {Z : State} {n0 : Nat} {a0 : Array Value} (hw : HW a0 Z) (c : Int32) {h0 : Heap} (b_c : ¬ c < 0 ∧ ¬ (255 : Int32) < c) : G_canenc md l Z n0 c h0 0 0 [] h0 0 #[.val (.int c)] [] := by
  refine Go.iloadN 1 d43_0 rfl rfl ?_
  refine Go.sipush 4 (255 : Int32) d43_1 rfl rfl ?_
  refine Go.icmpN 7 d43_4 rfl (flt b_c.2).2.2.1 ?_
  refine Go.iconst 8 (1 : Int32) d43_7 rfl rfl ?_
  refine Go.goto 12 d43_8 (by decide) (by decide) ?_
  exact Go.retN (1 : Int32) d43_12 rfl (t := .boolean) (by simp) rfl (sf' := []) (⟨rfl, rfl⟩) (fun _ q => nomatch q) (Nat.le_of_ble_eq_true rfl) (Nat.le_of_ble_eq_true rfl)
abbrev G_tobytes (md : Md) (l : Launch) (Z : State) (n0 : Nat) (c : Int32) (h0 : Heap) := Go md l Z n0 ({ frames := 0, cells := 1, slots := 1, locals := 0 } : Room) jdk_43_method_46_code 1 (some (.array .byte)) "java/lang/StringLatin1" "toBytes" (fun v h' _ => ∃ x, v = some (.ref x) ∧ Ext h0 h' ∧ h0.size ≤ x ∧ Ary Z h' x .byte [.int c.toInt8.toInt32])
theorem ef_tobytes (mid : MethodId) (c : Int32)  : entryFrame mid #[(.int c)] 1 = mkF mid 0 #[.val (.int c)] [] := by first | (simp [entryFrame, mkF, argsToLocals, Value.category]; done) | rfl
set_option maxRecDepth 65536 in
set_option maxHeartbeats 40000000 in
theorem c_tobytes {md : Md} {l : Launch} {Z : State} {n0 : Nat} {a0 : Array Value} (hw : HW a0 Z) (c : Int32) {h0 : Heap}  : G_tobytes md l Z n0 c h0 0 0 [] h0 0 #[.val (.int c)] [] := by
  refine Go.iconst 1 (1 : Int32) d44_0 rfl rfl ?_
  refine Go.newA 1 3 d44_1 rfl rfl (w19 hw) (by decide) 1 (Nat.le_refl _) (by decide) (Nat.le_of_ble_eq_true rfl) (Nat.le_of_ble_eq_true rfl) (fun h_1 x_2 g_3 q_4 E_5 lt_6 A_7 => ?_)
  have A_8 : Ary Z h_1 x_2 .byte [(.int (0 : Int32))] := A_7
  show G_tobytes md l Z n0 c h0 1 1 [x_2] h_1 3 #[.val (.int c)] [(.ref x_2)]
  refine Go.dup 4 d44_3 rfl rfl ?_
  refine Go.iconst 5 (0 : Int32) d44_4 rfl rfl ?_
  refine Go.iloadN 6 d44_5 rfl rfl ?_
  refine Go.i2b 7 d44_6 rfl ?_
  refine Go.bastore 0 8 d44_7 rfl A_8 (by decide) (Nat.le_of_ble_eq_true rfl) (List.mem_of_getElem? (i := 0) rfl) q_4 (fun h_9 W_10 A_11 => ?_)
  have A_12 : Ary Z h_9 x_2 .byte [(.int (c).toInt8.toInt32)] := by have := A_11; rw [i8_idem _] at this; exact this
  have X_13 : Ext h0 h_9 := extW E_5 W_10 (Nat.le_of_eq g_3)
  exact Go.retA d44_8 rfl rfl rfl (sf' := []) (⟨_, rfl, X_13, (Nat.le_of_eq g_3), A_12⟩) (fun _ q => nomatch q) (Nat.le_of_ble_eq_true rfl) (Nat.le_of_ble_eq_true rfl)
abbrev G_strbb (md : Md) (l : Launch) (Z : State) (n0 : Nat) (x t : Addr) (h0 : Heap) := Go md l Z n0 ({ frames := 1, cells := 0, slots := 0, locals := 12 } : Room) jdk_42_method_151_code 3 none "java/lang/String" "<init>" (fun v h' _ => v = none ∧ Keep h0 h' [x] ∧ Exa Z h' x "java/lang/String" ∧ Fld Z h' x "java/lang/String" "coder" "B" (.int 0) ∧ Fld Z h' x "java/lang/String" "value" "[B" (.ref t))
theorem ef_strbb (mid : MethodId) (x t : Addr)  : entryFrame mid #[(.ref x), (.ref t), (.int (0 : Int32))] 3 = mkF mid 0 #[.val (.ref x), .val (.ref t), .val (.int (0 : Int32))] [] := by first | (simp [entryFrame, mkF, argsToLocals, Value.category]; done) | rfl
set_option maxRecDepth 65536 in
set_option maxHeartbeats 40000000 in
theorem c_strbb {md : Md} {l : Launch} {Z : State} {n0 : Nat} {a0 : Array Value} (hw : HW a0 Z) (x t : Addr) {h0 : Heap} (E : Exa Z h0 x "java/lang/String") (n0x : n0 ≤ x) {v0 c0 : Value} (V : Fld Z h0 x "java/lang/String" "value" "[B" v0) (C : Fld Z h0 x "java/lang/String" "coder" "B" c0) : G_strbb md l Z n0 x t h0 0 0 [x] h0 0 #[.val (.ref x), .val (.ref t), .val (.int (0 : Int32))] [] := by
  refine Go.aloadN 1 d45_0 rfl rfl rfl ?_
  refine Go.initO (W := 0) 4 d45_1 rfl (w15 hw) (w16 hw) (w17 hw) rfl (by decide) (Nat.le_of_ble_eq_true rfl) (by decide) ?_
  refine Go.aloadN 5 d45_4 rfl rfl rfl ?_
  refine Go.aloadN 6 d45_5 rfl rfl rfl ?_
  refine Go.putF 9 (.ref t) d45_6 rfl (w24 hw) Via.refl V E (Or.inr ⟨(w20 hw), rfl, rfl⟩) (w5 hw) (ty := (.array .byte)) (by decide) rfl rfl (List.mem_of_getElem? (i := 0) rfl) n0x (fun h_1 W_2 => ?_)
  refine Go.aloadN 10 d45_9 rfl rfl rfl ?_
  refine Go.iloadN 11 d45_10 rfl rfl ?_
  have f_3 := (E.wr W_2)
  have f_4 := (C.other W_2 (Or.inr (slot_ne (Or.inr (w21 hw)) (Or.inr (w20 hw)) (by decide) (t := .byte) (t' := (.array .byte)) (by decide) (by decide))))
  refine Go.putF 14 (.int (0 : Int32)) d45_11 rfl (w25 hw) Via.refl f_4 f_3 (Or.inr ⟨(w21 hw), rfl, rfl⟩) (w5 hw) (ty := .byte) (by decide) rfl rfl (List.mem_of_getElem? (i := 0) rfl) n0x (fun h_5 W_6 => ?_)
  have f_7 := (f_3.wr W_6)
  have f_8 := ((V.same W_2).other W_6 (Or.inr (slot_ne (Or.inr (w20 hw)) (Or.inr (w21 hw)) (by decide) (t := (.array .byte)) (t' := .byte) (by decide) (by decide))))
  exact Go.ret0 d45_14 rfl (sf' := []) (⟨rfl, (((Keep.refl h0 [x]).wr W_2 (Or.inl (List.mem_of_getElem? (i := 0) rfl))).wr W_6 (Or.inl (List.mem_of_getElem? (i := 0) rfl))), f_7, (f_4.same W_6), f_8⟩) (fun _ q => nomatch q) (Nat.le_of_ble_eq_true rfl) (Nat.le_of_ble_eq_true rfl)
abbrev G_valueof (md : Md) (l : Launch) (Z : State) (n0 : Nat) (c : Int32) (z : Int32) (h0 : Heap) := Go md l Z n0 ({ frames := 2, cells := 2, slots := 5, locals := 27 } : Room) jdk_42_method_139_code 1 (some (.object "java/lang/String")) "java/lang/String" "valueOf" (fun v h' _ => ∃ x, v = some (.ref x) ∧ Ext h0 h' ∧ h0.size ≤ x ∧ Str Z h' x ([c]))
theorem ef_valueof (mid : MethodId) (c : Int32) (z : Int32)  : entryFrame mid #[(.int c)] 1 = mkF mid 0 #[.val (.int c)] [] := by first | (simp [entryFrame, mkF, argsToLocals, Value.category]; done) | rfl
set_option maxRecDepth 65536 in
set_option maxHeartbeats 40000000 in
theorem c_valueof {md : Md} {l : Launch} {Z : State} {n0 : Nat} {a0 : Array Value} (hw : HW a0 Z) (c : Int32) (z : Int32) {h0 : Heap} (b_c : ¬ c < 0 ∧ ¬ (255 : Int32) < c) (SC : Sta Z Z.heap "java/lang/String" "COMPACT_STRINGS" "Z" (.int z)) (hz : ¬ z = 0) : G_valueof md l Z n0 c z h0 0 0 [] h0 0 #[.val (.int c)] [] := by
  refine Go.getS 3 d42_0 rfl (w72 hw) Via.refl SC ?_
  refine Go.ifN 6 d42_3 rfl (feq hz).1 ?_
  refine Go.iloadN 7 d42_6 rfl rfl ?_
  refine Go.callS (S := []) 10 [(.int c)] d42_7 rfl rfl (w219 hw) (w220 hw) (w221 hw) (w222 hw) (by decide) (call_of_go (R := _) (len := 3) (W := 0) (plainFor_of_name pn_1) (fun mid => ef_canenc mid c ) (c_canenc hw c b_c) (w222 hw) (w221 hw) (by decide) (by decide)) (lenOf pd_1 rfl) (Nat.le_of_ble_eq_true rfl) rfl (Nat.le_of_ble_eq_true rfl) (Nat.le_of_ble_eq_true rfl) (fun _ q => nomatch q) (fun v h_1 sf_2 hq => ?_)
  obtain ⟨rfl, rfl⟩ := hq
  refine Go.more (sf' := []) ?_ (Nat.le_refl _) (Nat.le_refl _) (fun _ q => List.mem_append_right _ q)
  show G_valueof md l Z n0 c z h0 0 0 [] h0 10 #[.val (.int c)] [(.int (1 : Int32))]
  refine Go.ifN 13 d42_10 rfl (feq (by decide)).1 ?_
  refine Go.new 16 d42_13 rfl (w223 hw) (w5 hw) (w6 hw) (Nat.le_of_ble_eq_true rfl) (Nat.le_of_ble_eq_true rfl) (fun h_3 x_4 g_5 q_6 E_7 lt_8 A_9 D_10 => ?_)
  show G_valueof md l Z n0 c z h0 1 4 [x_4] h_3 16 #[.val (.int c)] [(.ref x_4)]
  have lt_x := A_9.lt
  refine Go.dup 17 d42_16 rfl rfl ?_
  refine Go.iloadN 18 d42_17 rfl rfl ?_
  refine Go.callS (S := [(.ref x_4), (.ref x_4)]) 21 [(.int c)] d42_18 rfl rfl (w224 hw) (w225 hw) (w221 hw) (w226 hw) (by decide) (call_of_go (R := _) (len := 3) (W := 2) (plainFor_of_name pn_1) (fun mid => ef_tobytes mid c ) (c_tobytes hw c ) (w226 hw) (w221 hw) (by decide) (by decide)) (lenOf pd_2 rfl) (Nat.le_of_ble_eq_true rfl) rfl (Nat.le_of_ble_eq_true rfl) (Nat.le_of_ble_eq_true rfl) (fun _ q => nomatch q) (fun v h_11 sf_16 hq => ?_)
  obtain ⟨b_12, rfl, E_13, le_14, A_15⟩ := hq
  refine Go.more (sf' := [x_4]) ?_ (Nat.le_refl _) (Nat.le_refl _) (fun _ q => List.mem_append_right _ q)
  show G_valueof md l Z n0 c z h0 2 5 [x_4] h_11 21 #[.val (.int c)] [(.ref b_12), (.ref x_4), (.ref x_4)]
  refine Go.iconst 22 (0 : Int32) d42_21 rfl rfl ?_
  have f_17 := A_9.ext E_13
  have f_18 := (D_10 (Or.inr (w20 hw)) (ty := (.array .byte)) (by decide)).ext E_13
  have f_19 := (D_10 (Or.inr (w21 hw)) (ty := .byte) (by decide)).ext E_13
  have ne_25 : b_12 ≠ x_4 := Nat.ne_of_gt (Nat.lt_of_lt_of_le lt_x le_14)
  refine Go.callC (S := [(.ref x_4)]) (a := x_4) 25 [(.ref b_12), (.int (0 : Int32))] d42_22 rfl rfl rfl (w227 hw) (w228 hw) (w229 hw) (by decide) (call_of_go (R := _) (len := 3) (W := 1) (plainFor_of_name pn_0) (fun mid => ef_strbb mid x_4 b_12 ) (c_strbb hw x_4 b_12 f_17 q_6 f_18 f_19) (w229 hw) (w6 hw) (by decide) (by decide)) (lenOf pd_3 rfl) (Nat.le_of_ble_eq_true rfl) rfl (Nat.le_of_ble_eq_true rfl) (Nat.le_of_ble_eq_true rfl) (fun _ q => q) (fun v h_20 sf_26 hq => ?_)
  obtain ⟨rfl, K_21, A_22, C_23, V_24⟩ := hq
  refine Go.more (sf' := [x_4]) ?_ (Nat.le_refl _) (Nat.le_refl _) (fun _ q => List.mem_append_right _ q)
  show G_valueof md l Z n0 c z h0 2 5 [x_4] h_20 25 #[.val (.int c)] [(.ref x_4)]
  have f_27 := (Ary.keep K_21 A_15 (ninS ne_25 nin0))
  have X_28 : Ext h0 h_11 := extT E_7 E_13
  have X_29 : Ext h0 h_20 := extK X_28 K_21 (allS (Nat.le_of_eq g_5) all0)
  exact Go.retA d42_25 rfl rfl rfl (sf' := []) (⟨_, rfl, X_29, (Nat.le_of_eq g_5), _, A_22, C_23, V_24, f_27, lat1 b_c⟩) (fun _ q => nomatch q) (Nat.le_of_ble_eq_true rfl) (Nat.le_of_ble_eq_true rfl)
abbrev G_make (md : Md) (l : Launch) (Z : State) (n0 : Nat) (n : Int32) (c0 : Int32) (c1 : Int32) (z : Int32) (h0 : Heap) := Go md l Z n0 ({ frames := 4, cells := 6, slots := 12, locals := 66 } : Room) method_3_code 3 (some (.object "java/lang/String")) "com/example/tugas/tugas/cli/HttpGetPinLaw" "make" (fun v h' _ => ∃ x, v = some (.ref x) ∧ Ext h0 h' ∧ h0.size ≤ x ∧ Str Z h' x (strf n c0 c1))
theorem ef_make (mid : MethodId) (n : Int32) (c0 : Int32) (c1 : Int32) (z : Int32)  : entryFrame mid #[(.int n), (.int c0), (.int c1)] 3 = mkF mid 0 #[.val (.int n), .val (.int c0), .val (.int c1)] [] := by first | (simp [entryFrame, mkF, argsToLocals, Value.category]; done) | rfl
set_option maxRecDepth 65536 in
set_option maxHeartbeats 40000000 in
theorem c_make {l : Launch} {Z : State} {n0 : Nat} {a0 : Array Value} (hw : HW a0 Z) (n : Int32) (c0 : Int32) (c1 : Int32) (z : Int32) {h0 : Heap} (b_c0 : ¬ c0 < 0 ∧ ¬ (255 : Int32) < c0) (b_c1 : ¬ c1 < 0 ∧ ¬ (255 : Int32) < c1) (SC : Sta Z Z.heap "java/lang/String" "COMPACT_STRINGS" "Z" (.int z)) (hz : ¬ z = 0) : G_make (some consts_1) l Z n0 n c0 c1 z h0 0 0 [] h0 0 #[.val (.int n), .val (.int c0), .val (.int c1)] [] := by
  refine Go.iloadN 1 d1_0 rfl rfl ?_
  by_cases hc1 : n = (0 : Int32)
  · skip
    refine Go.ifN 4 d1_1 rfl (teq hc1).2 ?_
    refine Go.new 7 d1_4 rfl (w4 hw) (w5 hw) (w6 hw) (Nat.le_of_ble_eq_true rfl) (Nat.le_of_ble_eq_true rfl) (fun h_1 x_2 g_3 q_4 E_5 lt_6 A_7 D_8 => ?_)
    show G_make (some consts_1) l Z n0 n c0 c1 z h0 1 4 [x_2] h_1 7 #[.val (.int n), .val (.int c0), .val (.int c1)] [(.ref x_2)]
    refine Go.dup 8 d1_7 rfl rfl ?_
    refine Go.iconst 9 (0 : Int32) d1_8 rfl rfl ?_
    refine Go.newA 0 11 d1_9 rfl rfl (w7 hw) (by decide) 0 (Nat.le_refl _) (by decide) (Nat.le_of_ble_eq_true rfl) (Nat.le_of_ble_eq_true rfl) (fun h_9 x_10 g_11 q_12 E_13 lt_14 A_15 => ?_)
    have A_16 : Ary Z h_9 x_10 .char [] := A_15
    show G_make (some consts_1) l Z n0 n c0 c1 z h0 2 4 [x_10, x_2] h_9 11 #[.val (.int n), .val (.int c0), .val (.int c1)] [(.ref x_10), (.ref x_2), (.ref x_2)]
    have f_17 := A_7.ext E_13
    have f_18 := (D_8 (Or.inr (w20 hw)) (ty := (.array .byte)) (by decide)).ext E_13
    have f_19 := (D_8 (Or.inr (w21 hw)) (ty := .byte) (by decide)).ext E_13
    refine Go.callC (S := [(.ref x_2)]) (a := x_2) 14 [(.ref x_10)] d1_11 rfl rfl rfl (w8 hw) (w9 hw) (w10 hw) (by decide) (call_of_go (R := _) (len := 3) (W := 1) (plainFor_of_name pn_0) (fun mid => ef_new1e mid x_2 x_10 ) (c_new1e hw x_2 x_10 f_17 q_4 f_18 f_19 A_16) (w10 hw) (w6 hw) (by decide) (by decide)) (lenOf pd_4 rfl) (Nat.le_of_ble_eq_true rfl) rfl (Nat.le_of_ble_eq_true rfl) (Nat.le_of_ble_eq_true rfl) (sub1 (List.mem_of_getElem? (i := 1) rfl)) (fun v h_20 sf_23 hq => ?_)
    obtain ⟨rfl, K_21, S_22⟩ := hq
    refine Go.more (sf' := [x_10, x_2]) ?_ (Nat.le_refl _) (Nat.le_refl _) (fun _ q => List.mem_append_right _ q)
    show G_make (some consts_1) l Z n0 n c0 c1 z h0 6 12 [x_10, x_2] h_20 14 #[.val (.int n), .val (.int c0), .val (.int c1)] [(.ref x_2)]
    have X_24 : Ext h0 h_9 := extT E_5 E_13
    have X_25 : Ext h0 h_20 := extK X_24 K_21 (allS (Nat.le_of_eq g_3) all0)
    exact Go.retA d1_14 rfl rfl rfl (sf' := []) (⟨_, rfl, X_25, (Nat.le_of_eq g_3), by rw [strf, if_pos hc1]; exact S_22⟩) (fun _ q => nomatch q) (Nat.le_of_ble_eq_true rfl) (Nat.le_of_ble_eq_true rfl)
  · skip
    refine Go.ifY 15 d1_1 (by decide) (by decide) (feq hc1).2 ?_
    refine Go.iloadN 16 d1_15 rfl rfl ?_
    refine Go.iconst 17 (1 : Int32) d1_16 rfl rfl ?_
    by_cases hc17 : n = (1 : Int32)
    · skip
      refine Go.icmpN 20 d1_17 rfl (teq hc17).2 ?_
      refine Go.iloadN 21 d1_20 rfl rfl ?_
      refine Go.callS (S := []) 24 [(.int c0)] d1_21 rfl rfl (w216 hw) (w217 hw) (w6 hw) (w218 hw) (by decide) (call_of_go (R := _) (len := 3) (W := 0) (plainFor_of_name pn_0) (fun mid => ef_valueof mid c0 z ) (c_valueof hw c0 z b_c0 SC hz) (w218 hw) (w6 hw) (by decide) (by decide)) (lenOf pd_5 rfl) (Nat.le_of_ble_eq_true rfl) rfl (Nat.le_of_ble_eq_true rfl) (Nat.le_of_ble_eq_true rfl) (fun _ q => nomatch q) (fun v h_26 sf_31 hq => ?_)
      obtain ⟨x_27, rfl, E_28, le_29, S_30⟩ := hq
      refine Go.more (sf' := []) ?_ (Nat.le_refl _) (Nat.le_refl _) (fun _ q => List.mem_append_right _ q)
      show G_make (some consts_1) l Z n0 n c0 c1 z h0 2 5 [] h_26 24 #[.val (.int n), .val (.int c0), .val (.int c1)] [(.ref x_27)]
      exact Go.retA d1_24 rfl rfl rfl (sf' := []) (⟨_, rfl, E_28, le_29, by rw [strf, if_neg hc1, if_pos hc17]; exact S_30⟩) (fun _ q => nomatch q) (Nat.le_of_ble_eq_true rfl) (Nat.le_of_ble_eq_true rfl)
    · skip
      refine Go.icmpY 25 d1_17 (by decide) (by decide) (feq hc17).2 ?_
      refine Go.new 28 d1_25 rfl (w4 hw) (w5 hw) (w6 hw) (Nat.le_of_ble_eq_true rfl) (Nat.le_of_ble_eq_true rfl) (fun h_32 x_33 g_34 q_35 E_36 lt_37 A_38 D_39 => ?_)
      show G_make (some consts_1) l Z n0 n c0 c1 z h0 1 4 [x_33] h_32 28 #[.val (.int n), .val (.int c0), .val (.int c1)] [(.ref x_33)]
      refine Go.dup 29 d1_28 rfl rfl ?_
      refine Go.iconst 30 (2 : Int32) d1_29 rfl rfl ?_
      refine Go.newA 2 32 d1_30 rfl rfl (w7 hw) (by decide) 2 (Nat.le_refl _) (by decide) (Nat.le_of_ble_eq_true rfl) (Nat.le_of_ble_eq_true rfl) (fun h_40 x_41 g_42 q_43 E_44 lt_45 A_46 => ?_)
      have A_47 : Ary Z h_40 x_41 .char [(.int (0 : Int32)), (.int (0 : Int32))] := A_46
      show G_make (some consts_1) l Z n0 n c0 c1 z h0 2 6 [x_41, x_33] h_40 32 #[.val (.int n), .val (.int c0), .val (.int c1)] [(.ref x_41), (.ref x_33), (.ref x_33)]
      refine Go.dup 33 d1_32 rfl rfl ?_
      refine Go.iconst 34 (0 : Int32) d1_33 rfl rfl ?_
      refine Go.iloadN 35 d1_34 rfl rfl ?_
      refine Go.castore 0 36 d1_35 rfl A_47 (by decide) (Nat.le_of_ble_eq_true rfl) (List.mem_of_getElem? (i := 0) rfl) q_43 (fun h_48 W_49 A_50 => ?_)
      have A_51 : Ary Z h_48 x_41 .char [(.int c0), (.int (0 : Int32))] := by have := A_50; rw [nar_c b_c0] at this; exact this
      refine Go.dup 37 d1_36 rfl rfl ?_
      refine Go.iconst 38 (1 : Int32) d1_37 rfl rfl ?_
      refine Go.iloadN 39 d1_38 rfl rfl ?_
      refine Go.castore 1 40 d1_39 rfl A_51 (by decide) (Nat.le_of_ble_eq_true rfl) (List.mem_of_getElem? (i := 0) rfl) q_43 (fun h_52 W_53 A_54 => ?_)
      have A_55 : Ary Z h_52 x_41 .char [(.int c0), (.int c1)] := by have := A_54; rw [nar_c b_c1] at this; exact this
      have X_56 : Ext h_32 h_48 := extW E_44 W_49 (Nat.le_of_eq g_42)
      have X_57 : Ext h_32 h_52 := extW X_56 W_53 (Nat.le_of_eq g_42)
      have f_58 := A_38.ext X_57
      have f_59 := (D_39 (Or.inr (w20 hw)) (ty := (.array .byte)) (by decide)).ext X_57
      have f_60 := (D_39 (Or.inr (w21 hw)) (ty := .byte) (by decide)).ext X_57
      refine Go.old fun o_64 _ => ?_
      refine Go.callC (S := [(.ref x_33)]) (a := x_33) 43 [(.ref x_41)] d1_40 rfl rfl rfl (w8 hw) (w9 hw) (w10 hw) (by decide) (strNew (W := 1) (cs := [c0, c1]) (hws hw) (w5 hw) q_35 o_64 f_58 f_59 f_60 A_55 SC hz 2 rfl (by decide) (by decide) (lat2 b_c0 b_c1) (by decide) (by decide) (List.mem_of_getElem? (i := 1) rfl)) (lenOf pd_4 rfl) (Nat.le_of_ble_eq_true rfl) rfl (Nat.le_of_ble_eq_true rfl) (Nat.le_of_ble_eq_true rfl) (fun _ q => q) (fun v h_61 sf_65 hq => ?_)
      obtain ⟨rfl, K_62, S_63⟩ := hq
      refine Go.more (sf' := [x_41, x_33]) ?_ (Nat.le_refl _) (Nat.le_refl _) (fun _ q => List.mem_append_right _ q)
      show G_make (some consts_1) l Z n0 n c0 c1 z h0 3 8 [x_41, x_33] h_61 43 #[.val (.int n), .val (.int c0), .val (.int c1)] [(.ref x_33)]
      have X_66 : Ext h0 h_40 := extT E_36 E_44
      have X_67 : Ext h0 h_48 := extW X_66 W_49 (Nat.le_trans E_36.1 (Nat.le_of_eq g_42))
      have X_68 : Ext h0 h_52 := extW X_67 W_53 (Nat.le_trans E_36.1 (Nat.le_of_eq g_42))
      have X_69 : Ext h0 h_61 := extK X_68 K_62 (allS (Nat.le_of_eq g_34) all0)
      exact Go.retA d1_43 rfl rfl rfl (sf' := []) (⟨_, rfl, X_69, (Nat.le_of_eq g_34), by rw [strf, if_neg hc1, if_neg hc17]; exact S_63⟩) (fun _ q => nomatch q) (Nat.le_of_ble_eq_true rfl) (Nat.le_of_ble_eq_true rfl)
abbrev G_coder (md : Md) (l : Launch) (Z : State) (n0 : Nat) (x : Addr) (z cd : Int32) (h0 : Heap) := Go md l Z n0 ({ frames := 0, cells := 0, slots := 0, locals := 0 } : Room) jdk_42_method_152_code 1 (some .byte) "java/lang/String" "coder" (fun v h' _ => h0 = h' ∧ v = some (.int cd))
theorem ef_coder (mid : MethodId) (x : Addr) (z cd : Int32)  : entryFrame mid #[(.ref x)] 1 = mkF mid 0 #[.val (.ref x)] [] := by first | (simp [entryFrame, mkF, argsToLocals, Value.category]; done) | rfl
set_option maxRecDepth 65536 in
set_option maxHeartbeats 40000000 in
theorem c_coder {md : Md} {l : Launch} {Z : State} {n0 : Nat} {a0 : Array Value} (hw : HW a0 Z) (x : Addr) (z cd : Int32) {h0 : Heap} (C : Fld Z h0 x "java/lang/String" "coder" "B" (.int cd)) (hcd : nar .byte cd = cd) (SC : Sta Z Z.heap "java/lang/String" "COMPACT_STRINGS" "Z" (.int z)) (hz : ¬ z = 0)  : G_coder md l Z n0 x z cd h0 0 0 [] h0 0 #[.val (.ref x)] [] := by
  refine Go.getS 3 d12_0 rfl (w72 hw) Via.refl SC ?_
  refine Go.ifN 6 d12_3 rfl (feq hz).1 ?_
  refine Go.aloadN 7 d12_6 rfl rfl rfl ?_
  refine Go.getF 10 d12_7 rfl (w25 hw) Via.refl C ?_
  refine Go.goto 14 d12_10 (by decide) (by decide) ?_
  exact Go.retN cd d12_14 rfl (t := .byte) (by simp) hcd (sf' := []) (⟨rfl, rfl⟩) (fun _ q => nomatch q) (Nat.le_of_ble_eq_true rfl) (Nat.le_of_ble_eq_true rfl)
abbrev G_glen (md : Md) (l : Launch) (Z : State) (n0 : Nat) (x t : Addr) (z cd : Int32) (vs : List Value) (h0 : Heap) := Go md l Z n0 ({ frames := 1, cells := 0, slots := 0, locals := 13 } : Room) jdk_42_method_54_code 1 (some .int) "java/lang/String" "length" (fun v h' _ => h0 = h' ∧ v = some (.int ((Int32.ofNat vs.length) >>> (cd &&& 31))))
theorem ef_glen (mid : MethodId) (x t : Addr) (z cd : Int32) (vs : List Value)  : entryFrame mid #[(.ref x)] 1 = mkF mid 0 #[.val (.ref x)] [] := by first | (simp [entryFrame, mkF, argsToLocals, Value.category]; done) | rfl
set_option maxRecDepth 65536 in
set_option maxHeartbeats 40000000 in
theorem c_glen {md : Md} {l : Launch} {Z : State} {n0 : Nat} {a0 : Array Value} (hw : HW a0 Z) (x t : Addr) (z cd : Int32) (vs : List Value) {h0 : Heap} (E : Exa Z h0 x "java/lang/String") (C : Fld Z h0 x "java/lang/String" "coder" "B" (.int cd)) (V : Fld Z h0 x "java/lang/String" "value" "[B" (.ref t)) (A : Ary Z h0 t .byte vs) (hcd : nar .byte cd = cd) (SC : Sta Z Z.heap "java/lang/String" "COMPACT_STRINGS" "Z" (.int z)) (hz : ¬ z = 0)  : G_glen md l Z n0 x t z cd vs h0 0 0 [] h0 0 #[.val (.ref x)] [] := by
  refine Go.aloadN 1 d11_0 rfl rfl rfl ?_
  refine Go.getF 4 d11_1 rfl (w24 hw) Via.refl V ?_
  refine Go.alen 5 (Int32.ofNat vs.length) d11_4 rfl A rfl ?_
  refine Go.aloadN 6 d11_5 rfl rfl rfl ?_
  refine Go.callV (S := [(.int (Int32.ofNat vs.length))]) (a := x) 9 [] d11_6 rfl rfl (w67 hw) (w68 hw) (w70 hw) (w69 hw) (fun _ q => notFace_of_selects (args := #[]) (mvT q (w70 hw))) (by decide) E (call_of_go (R := _) (len := 3) (W := 1) (plainFor_of_name pn_0) (fun mid => ef_coder mid x z cd ) (c_coder hw x z cd C hcd SC hz) (w71 hw) (w6 hw) (by decide) (by decide)) (lenOf pd_6 rfl) (Nat.le_of_ble_eq_true rfl) rfl (Nat.le_of_ble_eq_true rfl) (Nat.le_of_ble_eq_true rfl) (fun _ q => nomatch q) (fun v h_1 sf_2 hq => ?_)
  obtain ⟨rfl, rfl⟩ := hq
  refine Go.more (sf' := []) ?_ (Nat.le_refl _) (Nat.le_refl _) (fun _ q => List.mem_append_right _ q)
  show G_glen md l Z n0 x t z cd vs h0 0 0 [] h0 9 #[.val (.ref x)] [(.int cd), (.int (Int32.ofNat vs.length))]
  refine Go.ishr 10 d11_9 rfl ?_
  exact Go.retI d11_10 rfl (sf' := []) (⟨rfl, rfl⟩) (fun _ q => nomatch q) (Nat.le_of_ble_eq_true rfl) (Nat.le_of_ble_eq_true rfl)
abbrev G_min (md : Md) (l : Launch) (Z : State) (n0 : Nat) (x y : Int32) (h0 : Heap) := Go md l Z n0 ({ frames := 0, cells := 0, slots := 0, locals := 0 } : Room) jdk_29_method_69_code 2 (some .int) "java/lang/Math" "min" (fun v h' _ => h0 = h' ∧ v = some (.int (if y < x then y else x)))
theorem ef_min (mid : MethodId) (x y : Int32)  : entryFrame mid #[(.int x), (.int y)] 2 = mkF mid 0 #[.val (.int x), .val (.int y)] [] := by first | (simp [entryFrame, mkF, argsToLocals, Value.category]; done) | rfl
set_option maxRecDepth 65536 in
set_option maxHeartbeats 40000000 in
theorem c_min {md : Md} {l : Launch} {Z : State} {n0 : Nat} {a0 : Array Value} (hw : HW a0 Z) (x y : Int32) {h0 : Heap}  : G_min md l Z n0 x y h0 0 0 [] h0 0 #[.val (.int x), .val (.int y)] [] := by
  refine Go.iloadN 1 d21_0 rfl rfl ?_
  refine Go.iloadN 2 d21_1 rfl rfl ?_
  by_cases hc2 : y < x
  · skip
    refine Go.icmpY 9 d21_2 (by decide) (by decide) (tlt hc2).2.2.1 ?_
    refine Go.iloadN 10 d21_9 rfl rfl ?_
    exact Go.retI d21_10 rfl (sf' := []) (⟨rfl, by rw [if_pos hc2]⟩) (fun _ q => nomatch q) (Nat.le_of_ble_eq_true rfl) (Nat.le_of_ble_eq_true rfl)
  · skip
    refine Go.icmpN 5 d21_2 rfl (flt hc2).2.2.1 ?_
    refine Go.iloadN 6 d21_5 rfl rfl ?_
    refine Go.goto 10 d21_6 (by decide) (by decide) ?_
    exact Go.retI d21_10 rfl (sf' := []) (⟨rfl, by rw [if_neg hc2]⟩) (fun _ q => nomatch q) (Nat.le_of_ble_eq_true rfl) (Nat.le_of_ble_eq_true rfl)
abbrev G_max (md : Md) (l : Launch) (Z : State) (n0 : Nat) (x y : Int32) (h0 : Heap) := Go md l Z n0 ({ frames := 0, cells := 0, slots := 0, locals := 0 } : Room) jdk_29_method_65_code 2 (some .int) "java/lang/Math" "max" (fun v h' _ => h0 = h' ∧ v = some (.int (if x < y then y else x)))
theorem ef_max (mid : MethodId) (x y : Int32)  : entryFrame mid #[(.int x), (.int y)] 2 = mkF mid 0 #[.val (.int x), .val (.int y)] [] := by first | (simp [entryFrame, mkF, argsToLocals, Value.category]; done) | rfl
set_option maxRecDepth 65536 in
set_option maxHeartbeats 40000000 in
theorem c_max {md : Md} {l : Launch} {Z : State} {n0 : Nat} {a0 : Array Value} (hw : HW a0 Z) (x y : Int32) {h0 : Heap}  : G_max md l Z n0 x y h0 0 0 [] h0 0 #[.val (.int x), .val (.int y)] [] := by
  refine Go.iloadN 1 d19_0 rfl rfl ?_
  refine Go.iloadN 2 d19_1 rfl rfl ?_
  by_cases hc2 : x < y
  · skip
    refine Go.icmpY 9 d19_2 (by decide) (by decide) (tlt hc2).1 ?_
    refine Go.iloadN 10 d19_9 rfl rfl ?_
    exact Go.retI d19_10 rfl (sf' := []) (⟨rfl, by rw [if_pos hc2]⟩) (fun _ q => nomatch q) (Nat.le_of_ble_eq_true rfl) (Nat.le_of_ble_eq_true rfl)
  · skip
    refine Go.icmpN 5 d19_2 rfl (flt hc2).1 ?_
    refine Go.iloadN 6 d19_5 rfl rfl ?_
    refine Go.goto 10 d19_6 (by decide) (by decide) ?_
    exact Go.retI d19_10 rfl (sf' := []) (⟨rfl, by rw [if_neg hc2]⟩) (fun _ q => nomatch q) (Nat.le_of_ble_eq_true rfl) (Nat.le_of_ble_eq_true rfl)
abbrev G_asbinit (md : Md) (l : Launch) (Z : State) (n0 : Nat) (x : Addr) (z : Int32) (h0 : Heap) := Go md l Z n0 ({ frames := 1, cells := 1, slots := 16, locals := 12 } : Room) jdk_68_method_2_code 2 none "java/lang/AbstractStringBuilder" "<init>" (fun v h' sf' => ∃ b, v = none ∧ Keep h0 h' [x] ∧ Exa Z h' x "java/lang/StringBuilder" ∧ h0.size ≤ b ∧ n0 ≤ b ∧ b ≠ x ∧ Fld Z h' x "java/lang/AbstractStringBuilder" "value" "[B" (.ref b) ∧ Fld Z h' x "java/lang/AbstractStringBuilder" "coder" "B" (.int 0) ∧ Fld Z h' x "java/lang/AbstractStringBuilder" "count" "I" (.int 0) ∧ Ary Z h' b .byte (List.replicate 16 (.int 0)) ∧ sf' = [b])
theorem ef_asbinit (mid : MethodId) (x : Addr) (z : Int32)  : entryFrame mid #[(.ref x), (.int (16 : Int32))] 2 = mkF mid 0 #[.val (.ref x), .val (.int (16 : Int32))] [] := by first | (simp [entryFrame, mkF, argsToLocals, Value.category]; done) | rfl
set_option maxRecDepth 65536 in
set_option maxHeartbeats 40000000 in
theorem c_asbinit {md : Md} {l : Launch} {Z : State} {n0 : Nat} {a0 : Array Value} (hw : HW a0 Z) (x : Addr) (z : Int32) {h0 : Heap} (E : Exa Z h0 x "java/lang/StringBuilder") (n0x : n0 ≤ x) {u1 : Value} (F1 : Fld Z h0 x "java/lang/AbstractStringBuilder" "value" "[B" u1) (Fn : Fld Z h0 x "java/lang/AbstractStringBuilder" "count" "I" (.int 0)) (SC : Sta Z Z.heap "java/lang/String" "COMPACT_STRINGS" "Z" (.int z)) (hz : ¬ z = 0)  : G_asbinit md l Z n0 x z h0 0 0 [x] h0 0 #[.val (.ref x), .val (.int (16 : Int32))] [] := by
  refine Go.aloadN 1 d7_0 rfl rfl rfl ?_
  refine Go.initO (W := 0) 4 d7_1 rfl (w42 hw) (w16 hw) (w17 hw) rfl (by decide) (Nat.le_of_ble_eq_true rfl) (by decide) ?_
  refine Go.getS 7 d7_4 rfl (w43 hw) Via.refl SC ?_
  refine Go.ifN 10 d7_7 rfl (feq hz).1 ?_
  refine Go.aloadN 11 d7_10 rfl rfl rfl ?_
  refine Go.iloadN 12 d7_11 rfl rfl ?_
  refine Go.newA 16 14 d7_12 rfl rfl (w19 hw) (by decide) 16 (Nat.le_refl _) (by decide) (Nat.le_of_ble_eq_true rfl) (Nat.le_of_ble_eq_true rfl) (fun h_1 b_2 g_3 q_4 E_5 lt_6 A_7 => ?_)
  have A_8 : Ary Z h_1 b_2 .byte (List.replicate 16 (.int 0)) := A_7
  have nbx : b_2 ≠ x := Nat.ne_of_gt (Nat.lt_of_lt_of_le E.lt (Nat.le_of_eq g_3))
  show G_asbinit md l Z n0 x z h0 1 16 [b_2, x] h_1 14 #[.val (.ref x), .val (.int (16 : Int32))] [(.ref b_2), (.ref x)]
  have f_9 := E.ext E_5
  have f_10 := F1.ext E_5
  refine Go.putF 17 (.ref b_2) d7_14 rfl (w44 hw) Via.refl f_10 f_9 (Or.inl (w45 hw)) (w31 hw) (ty := (.array .byte)) (by decide) rfl rfl (List.mem_of_getElem? (i := 1) rfl) n0x (fun h_11 W_12 => ?_)
  refine Go.aloadN 18 d7_17 rfl rfl rfl ?_
  refine Go.iconst 19 (0 : Int32) d7_18 rfl rfl ?_
  have f_13 := (f_9.wr W_12)
  obtain ⟨o_14, fo_15⟩ := Fld.any (f_10.same W_12) f_13 (w31 hw) (Or.inl (w47 hw))
  refine Go.putF 22 (.int (0 : Int32)) d7_19 rfl (w46 hw) Via.refl fo_15 f_13 (Or.inl (w47 hw)) (w31 hw) (ty := .byte) (by decide) rfl rfl (List.mem_of_getElem? (i := 1) rfl) n0x (fun h_16 W_17 => ?_)
  refine Go.goto 38 d7_22 (by decide) (by decide) ?_
  have f_18 := (f_13.wr W_17)
  have f_19 := ((f_10.same W_12).other W_17 (Or.inr (slot_ne (Or.inl (w45 hw)) (Or.inl (w47 hw)) (by decide) (t := (.array .byte)) (t' := .byte) (by decide) (by decide))))
  have f_20 := (((Fn.ext E_5).other W_12 (Or.inr (slot_ne (Or.inl (w74 hw)) (Or.inl (w45 hw)) (by decide) (t := .int) (t' := (.array .byte)) (by decide) (by decide)))).other W_17 (Or.inr (slot_ne (Or.inl (w74 hw)) (Or.inl (w47 hw)) (by decide) (t := .int) (t' := .byte) (by decide) (by decide))))
  have f_21 := ((A_8.other W_12 nbx).other W_17 nbx)
  exact Go.ret0 d7_38 rfl (sf' := [b_2]) (⟨b_2, rfl, ((((Keep.refl h0 [x]).ext E_5).wr W_12 (Or.inl (List.mem_of_getElem? (i := 0) rfl))).wr W_17 (Or.inl (List.mem_of_getElem? (i := 0) rfl))), f_18, (Nat.le_of_eq g_3), q_4, nbx, f_19, (fo_15.same W_17), f_20, f_21, rfl⟩) (sub1 (List.mem_of_getElem? (i := 0) rfl)) (Nat.le_of_ble_eq_true rfl) (Nat.le_of_ble_eq_true rfl)
abbrev G_sbinit (md : Md) (l : Launch) (Z : State) (n0 : Nat) (x : Addr) (z : Int32) (h0 : Heap) := Go md l Z n0 ({ frames := 2, cells := 1, slots := 16, locals := 25 } : Room) jdk_67_method_1_code 1 none "java/lang/StringBuilder" "<init>" (fun v h' sf' => ∃ b, v = none ∧ Keep h0 h' [x] ∧ Exa Z h' x "java/lang/StringBuilder" ∧ h0.size ≤ b ∧ n0 ≤ b ∧ b ≠ x ∧ Fld Z h' x "java/lang/AbstractStringBuilder" "value" "[B" (.ref b) ∧ Fld Z h' x "java/lang/AbstractStringBuilder" "coder" "B" (.int 0) ∧ Fld Z h' x "java/lang/AbstractStringBuilder" "count" "I" (.int 0) ∧ Ary Z h' b .byte (List.replicate 16 (.int 0)) ∧ sf' = [b])
theorem ef_sbinit (mid : MethodId) (x : Addr) (z : Int32)  : entryFrame mid #[(.ref x)] 1 = mkF mid 0 #[.val (.ref x)] [] := by first | (simp [entryFrame, mkF, argsToLocals, Value.category]; done) | rfl
set_option maxRecDepth 65536 in
set_option maxHeartbeats 40000000 in
theorem c_sbinit {md : Md} {l : Launch} {Z : State} {n0 : Nat} {a0 : Array Value} (hw : HW a0 Z) (x : Addr) (z : Int32) {h0 : Heap} (E : Exa Z h0 x "java/lang/StringBuilder") (n0x : n0 ≤ x) {u1 : Value} (F1 : Fld Z h0 x "java/lang/AbstractStringBuilder" "value" "[B" u1) (Fn : Fld Z h0 x "java/lang/AbstractStringBuilder" "count" "I" (.int 0)) (SC : Sta Z Z.heap "java/lang/String" "COMPACT_STRINGS" "Z" (.int z)) (hz : ¬ z = 0)  : G_sbinit md l Z n0 x z h0 0 0 [x] h0 0 #[.val (.ref x)] [] := by
  refine Go.aloadN 1 d6_0 rfl rfl rfl ?_
  refine Go.bipush 3 (16 : Int32) d6_1 rfl rfl ?_
  refine Go.callC (S := []) (a := x) 6 [(.int (16 : Int32))] d6_3 rfl rfl rfl (w36 hw) (w37 hw) (w41 hw) (by decide) (call_of_go (R := _) (len := 3) (W := 0) (plainFor_of_name pn_2) (fun mid => ef_asbinit mid x z ) (c_asbinit hw x z E n0x F1 Fn SC hz) (w41 hw) (w40 hw) (by decide) (by decide)) (lenOf pd_7 rfl) (Nat.le_of_ble_eq_true rfl) rfl (Nat.le_of_ble_eq_true rfl) (Nat.le_of_ble_eq_true rfl) (fun _ q => q) (fun v h_1 sf_2 hq => ?_)
  obtain ⟨b, rfl, Kb, Eb, le_b, n0b, nbx, Fb, Fc, Fn', Ab, rfl⟩ := hq
  show G_sbinit md l Z n0 x z h0 1 16 [b, x] h_1 6 #[.val (.ref x)] []
  exact Go.ret0 d6_6 rfl (sf' := [b]) (⟨b, rfl, Kb, Eb, le_b, n0b, nbx, Fb, Fc, Fn', Ab, rfl⟩) (sub1 (List.mem_of_getElem? (i := 0) rfl)) (Nat.le_of_ble_eq_true rfl) (Nat.le_of_ble_eq_true rfl)
abbrev G_inflate (md : Md) (l : Launch) (Z : State) (n0 : Nat) (x y t : Addr) (z : Int32) (us : List Value) (h0 : Heap) := Go md l Z n0 ({ frames := 1, cells := 0, slots := 0, locals := 13 } : Room) jdk_68_method_71_code 2 none "java/lang/AbstractStringBuilder" "inflateIfNeededFor" (fun v h' _ => h0 = h' ∧ v = none)
theorem ef_inflate (mid : MethodId) (x y t : Addr) (z : Int32) (us : List Value)  : entryFrame mid #[(.ref x), (.ref y)] 2 = mkF mid 0 #[.val (.ref x), .val (.ref y)] [] := by first | (simp [entryFrame, mkF, argsToLocals, Value.category]; done) | rfl
set_option maxRecDepth 65536 in
set_option maxHeartbeats 40000000 in
theorem c_inflate {md : Md} {l : Launch} {Z : State} {n0 : Nat} {a0 : Array Value} (hw : HW a0 Z) (x y t : Addr) (z : Int32) (us : List Value) {h0 : Heap} (Fc : Fld Z h0 x "java/lang/AbstractStringBuilder" "coder" "B" (.int 0)) (Ey : Exa Z h0 y "java/lang/String") (Cy : Fld Z h0 y "java/lang/String" "coder" "B" (.int 0)) (Vy : Fld Z h0 y "java/lang/String" "value" "[B" (.ref t)) (Uy : Ary Z h0 t .byte us) (SC : Sta Z Z.heap "java/lang/String" "COMPACT_STRINGS" "Z" (.int z)) (hz : ¬ z = 0)  : G_inflate md l Z n0 x y t z us h0 0 0 [] h0 0 #[.val (.ref x), .val (.ref y)] [] := by
  refine Go.getS 3 d15_0 rfl (w43 hw) Via.refl SC ?_
  refine Go.ifN 6 d15_3 rfl (feq hz).1 ?_
  refine Go.aloadN 7 d15_6 rfl rfl rfl ?_
  refine Go.getF 10 d15_7 rfl (w46 hw) Via.refl Fc ?_
  refine Go.aloadN 11 d15_10 rfl rfl rfl ?_
  refine Go.callV (S := [(.int (0 : Int32))]) (a := y) 14 [] d15_11 rfl rfl (w90 hw) (w68 hw) (w70 hw) (w69 hw) (fun _ q => notFace_of_selects (args := #[]) (mvT q (w70 hw))) (by decide) Ey (call_of_go (R := _) (len := 3) (W := 1) (plainFor_of_name pn_0) (fun mid => ef_coder mid y z (0 : Int32) ) (c_coder hw y z (0 : Int32) Cy rfl SC hz) (w71 hw) (w6 hw) (by decide) (by decide)) (lenOf pd_6 rfl) (Nat.le_of_ble_eq_true rfl) rfl (Nat.le_of_ble_eq_true rfl) (Nat.le_of_ble_eq_true rfl) (fun _ q => nomatch q) (fun v h_1 sf_2 hq => ?_)
  obtain ⟨rfl, rfl⟩ := hq
  refine Go.more (sf' := []) ?_ (Nat.le_refl _) (Nat.le_refl _) (fun _ q => List.mem_append_right _ q)
  show G_inflate md l Z n0 x y t z us h0 0 0 [] h0 14 #[.val (.ref x), .val (.ref y)] [(.int (0 : Int32)), (.int (0 : Int32))]
  refine Go.icmpY 21 d15_14 (by decide) (by decide) (teq (by decide)).1 ?_
  exact Go.ret0 d15_21 rfl (sf' := []) (⟨rfl, rfl⟩) (fun _ q => nomatch q) (Nat.le_of_ble_eq_true rfl) (Nat.le_of_ble_eq_true rfl)
abbrev G_cpos (md : Md) (l : Launch) (Z : State) (n0 : Nat) (b : Addr) (ys : List Int32) (h0 : Heap) := Go md l Z n0 ({ frames := 0, cells := 0, slots := 0, locals := 0 } : Room) jdk_123_method_3_code 5 (some .int) "java/lang/StringCoding" "countPositives" (fun v h' _ => h0 = h' ∧ ∃ (r : Int32) (i : Nat), v = some (.int r) ∧ r.toInt = (i : Int) ∧ i ≤ ys.length ∧ ∀ j, j < i → ∀ y, ys[j]? = some y → ¬ y < 0)
theorem ef_cpos (mid : MethodId) (b : Addr) (ys : List Int32)  : entryFrame mid #[(.ref b), (.int (0 : Int32)), (.int (Int32.ofNat ys.length))] 5 = mkF mid 0 #[.val (.ref b), .val (.int (0 : Int32)), .val (.int (Int32.ofNat ys.length)), .unset, .unset] [] := by first | (simp [entryFrame, mkF, argsToLocals, Value.category]; done) | rfl
set_option maxRecDepth 65536 in
set_option maxHeartbeats 40000000 in
theorem c_cpos {md : Md} {l : Launch} {Z : State} {n0 : Nat} {a0 : Array Value} (hw : HW a0 Z) (b : Addr) (ys : List Int32) {h0 : Heap} (A : Ary Z h0 b .byte (ys.map Value.int)) (hl : ys.length ≤ 4000) : G_cpos md l Z n0 b ys h0 0 0 [] h0 0 #[.val (.ref b), .val (.int (0 : Int32)), .val (.int (Int32.ofNat ys.length)), .unset, .unset] [] := by
  refine Go.iloadN 1 d35_0 rfl rfl ?_
  refine Go.iloadN 2 d35_1 rfl rfl ?_
  refine Go.iadd 3 d35_2 rfl ?_
  refine Go.istoreN 4 #[.val (.ref b), .val (.int (0 : Int32)), .val (.int (Int32.ofNat ys.length)), .val (.int ((0 : Int32) + (Int32.ofNat ys.length))), .unset] d35_3 rfl rfl ?_
  refine Go.iloadN 5 d35_4 rfl rfl ?_
  refine Go.istore 7 #[.val (.ref b), .val (.int (0 : Int32)), .val (.int (Int32.ofNat ys.length)), .val (.int ((0 : Int32) + (Int32.ofNat ys.length))), .val (.int (0 : Int32))] d35_5 rfl rfl ?_
  have lp : ∀ (dd : Nat) (i : Int32) (k : Nat) (hi : i.toInt = (k : Int)) (hd : k + dd = ys.length) (hp : ∀ j, j < k → ∀ y, ys[j]? = some y → ¬ y < 0), G_cpos md l Z n0 b ys h0 0 0 [] h0 7 #[.val (.ref b), .val (.int (0 : Int32)), .val (.int (Int32.ofNat ys.length)), .val (.int ((0 : Int32) + (Int32.ofNat ys.length))), .val (.int i)] [] := by
    intro dd
    induction dd with
    | zero =>
      intro i k hi hd hp
      refine Go.iload 9 d35_7 rfl rfl ?_
      refine Go.iloadN 10 d35_9 rfl rfl ?_
      refine Go.icmpY 31 d35_10 (by decide) (by decide) (flt (lim_no hi (by omega) hl)).2.1 ?_
      refine Go.iloadN 32 d35_31 rfl rfl ?_
      exact Go.retI d35_32 rfl (sf' := []) (⟨rfl, _, ys.length, rfl, ofNat_toInt (by omega), Nat.le_refl _, by rw [← hd]; exact hp⟩) (fun _ q => nomatch q) (Nat.le_of_ble_eq_true rfl) (Nat.le_of_ble_eq_true rfl)
    | succ dd ih =>
      intro i k hi hd hp
      obtain ⟨y, hy⟩ : ∃ y, ys[k]? = some y := ⟨_, List.getElem?_eq_getElem (by omega)⟩
      refine Go.iload 9 d35_7 rfl rfl ?_
      refine Go.iloadN 10 d35_9 rfl rfl ?_
      refine Go.icmpN 13 d35_10 rfl (tlt (lim_yes hi (by omega) hl)).2.1 ?_
      refine Go.aloadN 14 d35_13 rfl rfl rfl ?_
      refine Go.iload 16 d35_14 rfl rfl ?_
      refine Go.baload k 17 d35_16 rfl A hi (by rw [List.getElem?_map, hy]; rfl) ?_
      by_cases hc17 : y < (0 : Int32)
      · skip
        refine Go.ifN 20 d35_17 rfl (tlt hc17).2.1 ?_
        refine Go.iload 22 d35_20 rfl rfl ?_
        refine Go.iloadN 23 d35_22 rfl rfl ?_
        refine Go.isub 24 d35_23 rfl ?_
        exact Go.retI d35_24 rfl (sf' := []) (⟨rfl, _, k, rfl, sub0 hi, by omega, hp⟩) (fun _ q => nomatch q) (Nat.le_of_ble_eq_true rfl) (Nat.le_of_ble_eq_true rfl)
      · skip
        refine Go.ifY 25 d35_17 (by decide) (by decide) (flt hc17).2.1 ?_
        refine Go.iinc 28 #[.val (.ref b), .val (.int (0 : Int32)), .val (.int (Int32.ofNat ys.length)), .val (.int ((0 : Int32) + (Int32.ofNat ys.length))), .val (.int (i + (1 : Int32)))] (1 : Int32) d35_25 rfl rfl rfl rfl ?_
        refine Go.goto 7 d35_28 (by decide) (by decide) ?_
        exact ih _ (k + 1) (inc1 hi (by omega)) (by omega) (fun j hj z hz => by rcases Nat.lt_succ_iff_lt_or_eq.mp hj with q | q; exact hp j q z hz; subst q; rw [hy] at hz; cases hz; exact hc17)
  exact lp ys.length (0 : Int32) 0 rfl (by omega) (fun j hj => absurd hj (Nat.not_lt_zero _))
abbrev G_rneg (md : Md) (l : Launch) (Z : State) (n0 : Nat) (d : Addr) (f : Int32) (ys : List Int32) (k0 : Nat) (h0 : Heap) := Go md l Z n0 ({ frames := 0, cells := 0, slots := 0, locals := 0 } : Room) jdk_42_method_25_code 3 none "java/lang/String" "replaceNegatives" (fun v h' _ => v = none ∧ Keep h0 h' [d] ∧ Ary Z h' d .byte ((ys.map e8).map Value.int))
theorem ef_rneg (mid : MethodId) (d : Addr) (f : Int32) (ys : List Int32) (k0 : Nat)  : entryFrame mid #[(.ref d), (.int f)] 3 = mkF mid 0 #[.val (.ref d), .val (.int f), .unset] [] := by first | (simp [entryFrame, mkF, argsToLocals, Value.category]; done) | rfl
set_option maxRecDepth 65536 in
set_option maxHeartbeats 40000000 in
theorem c_rneg {md : Md} {l : Launch} {Z : State} {n0 : Nat} {a0 : Array Value} (hw : HW a0 Z) (d : Addr) (f : Int32) (ys : List Int32) (k0 : Nat) {h0 : Heap} (A : Ary Z h0 d .byte (ys.map Value.int)) (n0d : n0 ≤ d) (hf : f.toInt = (k0 : Int)) (hk0 : k0 ≤ ys.length) (hp : ∀ j, j < k0 → ∀ y, ys[j]? = some y → ¬ y < 0) (hl : ys.length ≤ 4000) : G_rneg md l Z n0 d f ys k0 h0 0 0 [d] h0 0 #[.val (.ref d), .val (.int f), .unset] [] := by
  refine Go.iloadN 1 d40_0 rfl rfl ?_
  refine Go.istoreN 2 #[.val (.ref d), .val (.int f), .val (.int f)] d40_1 rfl rfl ?_
  have lp : ∀ (dd : Nat) (h : Heap) (i : Int32) (k : Nat) (zs : List Int32) (hi : i.toInt = (k : Int)) (hd : k + dd = ys.length) (K : Keep h0 h [d]) (Az : Ary Z h d .byte (zs.map Value.int)) (hz : zs = (ys.take k).map e8 ++ ys.drop k), G_rneg md l Z n0 d f ys k0 h0 0 0 [d] h 2 #[.val (.ref d), .val (.int f), .val (.int i)] [] := by
    intro dd
    induction dd with
    | zero =>
      intro h i k zs hi hd K Az hz
      refine Go.iloadN 3 d40_2 rfl rfl ?_
      refine Go.aloadN 4 d40_3 rfl rfl rfl ?_
      refine Go.alen 5 (Int32.ofNat ys.length) d40_4 rfl Az (by rw [List.length_map, e8_len hz (by omega)]) ?_
      refine Go.icmpY 25 d40_5 (by decide) (by decide) (flt (len_no hi (by omega) hl)).2.1 ?_
      exact Go.ret0 d40_25 rfl (sf' := []) (⟨rfl, K, by rw [show k = ys.length from by omega] at hz; rw [← e8_all hz]; exact Az⟩) (fun _ q => nomatch q) (Nat.le_of_ble_eq_true rfl) (Nat.le_of_ble_eq_true rfl)
    | succ dd ih =>
      intro h i k zs hi hd K Az hz
      obtain ⟨y, hy⟩ : ∃ y, ys[k]? = some y := ⟨_, List.getElem?_eq_getElem (by omega)⟩
      refine Go.iloadN 3 d40_2 rfl rfl ?_
      refine Go.aloadN 4 d40_3 rfl rfl rfl ?_
      refine Go.alen 5 (Int32.ofNat ys.length) d40_4 rfl Az (by rw [List.length_map, e8_len hz (by omega)]) ?_
      refine Go.icmpN 8 d40_5 rfl (tlt (len_yes hi (by omega) hl)).2.1 ?_
      refine Go.aloadN 9 d40_8 rfl rfl rfl ?_
      refine Go.iloadN 10 d40_9 rfl rfl ?_
      refine Go.baload k 11 d40_10 rfl Az hi (by rw [List.getElem?_map, e8_at hz hy]; rfl) ?_
      by_cases hc11 : y < (0 : Int32)
      · skip
        refine Go.ifN 14 d40_11 rfl (tlt hc11).2.1 ?_
        refine Go.aloadN 15 d40_14 rfl rfl rfl ?_
        refine Go.iloadN 16 d40_15 rfl rfl ?_
        refine Go.bipush 18 (63 : Int32) d40_16 rfl rfl ?_
        refine Go.bastore k 19 d40_18 rfl Az hi (by rw [List.length_map, e8_len hz (by omega)]; omega) (List.mem_of_getElem? (i := 0) rfl) n0d (fun h2 W2 A2 => ?_)
        have A3 : Ary Z h2 d .byte ((zs.set k 63).map Value.int) := by rw [List.map_set]; exact A2
        refine Go.iinc 22 #[.val (.ref d), .val (.int f), .val (.int (i + (1 : Int32)))] (1 : Int32) d40_19 rfl rfl rfl rfl ?_
        refine Go.goto 2 d40_22 (by decide) (by decide) ?_
        exact ih _ _ (k + 1) _ (inc1 hi (by omega)) (by omega) (K.wr W2 (Or.inl (List.mem_of_getElem? (i := 0) rfl))) A3 (e8_set hz hy hc11)
      · skip
        refine Go.ifY 19 d40_11 (by decide) (by decide) (flt hc11).2.1 ?_
        refine Go.iinc 22 #[.val (.ref d), .val (.int f), .val (.int (i + (1 : Int32)))] (1 : Int32) d40_19 rfl rfl rfl rfl ?_
        refine Go.goto 2 d40_22 (by decide) (by decide) ?_
        exact ih _ _ (k + 1) _ (inc1 hi (by omega)) (by omega) K Az (e8_step hz hy hc11)
  exact lp (ys.length - k0) _ _ k0 ys hf (by omega) (Keep.refl h0 [d]) A (e8_pre hp)
abbrev G_encasc (md : Md) (l : Launch) (Z : State) (n0 : Nat) (b : Addr) (ys : List Int32) (h0 : Heap) := Go md l Z n0 ({ frames := 1, cells := 1, slots := 34, locals := 16 } : Room) jdk_42_method_24_code 7 (some (.array .byte)) "java/lang/String" "encodeASCII" (fun v h' _ => ∃ r, v = some (.ref r) ∧ Ext h0 h' ∧ h0.size ≤ r ∧ Ary Z h' r .byte ((ys.map e8).map Value.int))
theorem ef_encasc (mid : MethodId) (b : Addr) (ys : List Int32)  : entryFrame mid #[(.int (0 : Int32)), (.ref b)] 7 = mkF mid 0 #[.val (.int (0 : Int32)), .val (.ref b), .unset, .unset, .unset, .unset, .unset] [] := by first | (simp [entryFrame, mkF, argsToLocals, Value.category]; done) | rfl
set_option maxRecDepth 65536 in
set_option maxHeartbeats 40000000 in
theorem c_encasc {md : Md} {l : Launch} {Z : State} {n0 : Nat} {a0 : Array Value} (hw : HW a0 Z) (b : Addr) (ys : List Int32) {h0 : Heap} (A : Ary Z h0 b .byte (ys.map Value.int)) (XB : Exa Z h0 b "[B") (hl : ys.length ≤ 34)  : G_encasc md l Z n0 b ys h0 0 0 [] h0 0 #[.val (.int (0 : Int32)), .val (.ref b), .unset, .unset, .unset, .unset, .unset] [] := by
  refine Go.iloadN 1 d34_0 rfl rfl ?_
  refine Go.ifN 4 d34_1 rfl (teq (by decide)).2 ?_
  refine Go.aloadN 5 d34_4 rfl rfl rfl ?_
  refine Go.iconst 6 (0 : Int32) d34_5 rfl rfl ?_
  refine Go.aloadN 7 d34_6 rfl rfl rfl ?_
  refine Go.alen 8 (Int32.ofNat ys.length) d34_7 rfl A (by rw [List.length_map]) ?_
  refine Go.callS (S := []) 11 [(.ref b), (.int (0 : Int32)), (.int (Int32.ofNat ys.length))] d34_8 rfl rfl (w184 hw) (w185 hw) (w186 hw) (w187 hw) (by decide) (call_of_go (R := _) (len := 3) (W := 0) pf_0 (fun mid => ef_cpos mid b ys ) (c_cpos hw b ys A (by omega)) (w187 hw) (w186 hw) (by decide) (by decide)) (lenOf pd_8 rfl) (Nat.le_of_ble_eq_true rfl) rfl (Nat.le_of_ble_eq_true rfl) (Nat.le_of_ble_eq_true rfl) (fun _ q => nomatch q) (fun v h_1 sf_2 hq => ?_)
  obtain ⟨rfl, r, i, rfl, hr, hi, hp⟩ := hq
  refine Go.more (sf' := []) ?_ (Nat.le_refl _) (Nat.le_refl _) (fun _ q => List.mem_append_right _ q)
  show G_encasc md l Z n0 b ys h0 0 0 [] h0 11 #[.val (.int (0 : Int32)), .val (.ref b), .unset, .unset, .unset, .unset, .unset] [(.int r)]
  refine Go.istoreN 12 #[.val (.int (0 : Int32)), .val (.ref b), .val (.int r), .unset, .unset, .unset, .unset] d34_11 rfl rfl ?_
  refine Go.aloadN 13 d34_12 rfl rfl rfl ?_
  refine Go.clone (W := 0) (ad := "[B") 16 d34_13 rfl (w188 hw) (w189 hw) (w193 hw) (w191 hw) (w192 hw) (w194 hw) A XB 34 (by rw [List.length_map]; exact hl) rfl (by decide) (Nat.le_of_ble_eq_true rfl) (by decide) (Nat.le_of_ble_eq_true rfl) (Nat.le_of_ble_eq_true rfl) (fun h2 d g_d n0d X_d lt_d A_d E_d => ?_)
  show G_encasc md l Z n0 b ys h0 1 34 [d] h2 16 #[.val (.int (0 : Int32)), .val (.ref b), .val (.int r), .unset, .unset, .unset, .unset] [(.ref d)]
  refine Go.castY 19 d34_16 rfl (w195 hw) (Ins.self E_d) ?_
  refine Go.astoreN 20 #[.val (.int (0 : Int32)), .val (.ref b), .val (.int r), .val (.ref d), .unset, .unset, .unset] d34_19 rfl rfl rfl ?_
  refine Go.iloadN 21 d34_20 rfl rfl ?_
  refine Go.aloadN 22 d34_21 rfl rfl rfl ?_
  refine Go.alen 23 (Int32.ofNat ys.length) d34_22 rfl A_d (by rw [List.length_map]) ?_
  by_cases hc23 : r < (Int32.ofNat ys.length)
  · skip
    refine Go.icmpN 26 d34_23 rfl (tlt hc23).2.1 ?_
    refine Go.aloadN 27 d34_26 rfl rfl rfl ?_
    refine Go.iloadN 28 d34_27 rfl rfl ?_
    refine Go.callS (S := []) 31 [(.ref d), (.int r)] d34_28 rfl rfl (w210 hw) (w211 hw) (w6 hw) (w212 hw) (by decide) (call_of_go (R := _) (len := 3) (W := 0) (plainFor_of_name pn_0) (fun mid => ef_rneg mid d r ys i ) (c_rneg hw d r ys i A_d n0d hr hi hp (by omega)) (w212 hw) (w6 hw) (by decide) (by decide)) (lenOf pd_9 rfl) (Nat.le_of_ble_eq_true rfl) rfl (Nat.le_of_ble_eq_true rfl) (Nat.le_of_ble_eq_true rfl) (fun _ q => q) (fun v h_3 sf_4 hq => ?_)
    obtain ⟨rfl, K3, A3⟩ := hq
    refine Go.more (sf' := [d]) ?_ (Nat.le_refl _) (Nat.le_refl _) (fun _ q => List.mem_append_right _ q)
    show G_encasc md l Z n0 b ys h0 1 34 [d] h_3 31 #[.val (.int (0 : Int32)), .val (.ref b), .val (.int r), .val (.ref d), .unset, .unset, .unset] []
    refine Go.aloadN 32 d34_31 rfl rfl rfl ?_
    have X_5 : Ext h0 h_3 := extK X_d K3 (allS (Nat.le_of_eq g_d) all0)
    exact Go.retA d34_32 rfl rfl rfl (sf' := []) (⟨_, rfl, X_5, (Nat.le_of_eq g_d), A3⟩) (fun _ q => nomatch q) (Nat.le_of_ble_eq_true rfl) (Nat.le_of_ble_eq_true rfl)
  · skip
    refine Go.icmpY 31 d34_23 (by decide) (by decide) (flt hc23).2.1 ?_
    refine Go.aloadN 32 d34_31 rfl rfl rfl ?_
    exact Go.retA d34_32 rfl rfl rfl (sf' := []) (⟨_, rfl, X_d, (Nat.le_of_eq g_d), (by rw [← e8_full hp hr hi hc23 (by omega)]; exact A_d)⟩) (fun _ q => nomatch q) (Nat.le_of_ble_eq_true rfl) (Nat.le_of_ble_eq_true rfl)
abbrev G_enc (md : Md) (l : Launch) (Z : State) (n0 : Nat) (ac u8 i8 b : Addr) (ys : List Int32) (h0 : Heap) := Go md l Z n0 ({ frames := 2, cells := 1, slots := 34, locals := 34 } : Room) jdk_42_method_18_code 3 (some (.array .byte)) "java/lang/String" "encode" (fun v h' _ => ∃ r, v = some (.ref r) ∧ Ext h0 h' ∧ h0.size ≤ r ∧ Ary Z h' r .byte ((ys.map e8).map Value.int))
theorem ef_enc (mid : MethodId) (ac u8 i8 b : Addr) (ys : List Int32)  : entryFrame mid #[(.ref ac), (.int (0 : Int32)), (.ref b)] 3 = mkF mid 0 #[.val (.ref ac), .val (.int (0 : Int32)), .val (.ref b)] [] := by first | (simp [entryFrame, mkF, argsToLocals, Value.category]; done) | rfl
set_option maxRecDepth 65536 in
set_option maxHeartbeats 40000000 in
theorem c_enc {md : Md} {l : Launch} {Z : State} {n0 : Nat} {a0 : Array Value} (hw : HW a0 Z) (ac u8 i8 b : Addr) (ys : List Int32) {h0 : Heap} (A : Ary Z h0 b .byte (ys.map Value.int)) (XB : Exa Z h0 b "[B") (hl : ys.length ≤ 34) (ZU : Sta Z Z.heap "sun/nio/cs/UTF_8" "INSTANCE" "Lsun/nio/cs/UTF_8;" (.ref u8)) (ZI : Sta Z Z.heap "sun/nio/cs/ISO_8859_1" "INSTANCE" "Lsun/nio/cs/ISO_8859_1;" (.ref i8)) (ZA : Sta Z Z.heap "sun/nio/cs/US_ASCII" "INSTANCE" "Lsun/nio/cs/US_ASCII;" (.ref ac)) (nu : ac ≠ u8) (ni : ac ≠ i8)  : G_enc md l Z n0 ac u8 i8 b ys h0 0 0 [] h0 0 #[.val (.ref ac), .val (.int (0 : Int32)), .val (.ref b)] [] := by
  refine Go.aloadN 1 d33_0 rfl rfl rfl ?_
  refine Go.getS 4 d33_1 rfl (w175 hw) Via.refl ZU ?_
  refine Go.acmpY 14 d33_4 (by decide) (by decide) rfl rfl (by rw [decide_eq_false (fun q => nu (Value.ref.inj q))]; rfl) ?_
  refine Go.aloadN 15 d33_14 rfl rfl rfl ?_
  refine Go.getS 18 d33_15 rfl (w177 hw) Via.refl ZI ?_
  refine Go.acmpY 27 d33_18 (by decide) (by decide) rfl rfl (by rw [decide_eq_false (fun q => ni (Value.ref.inj q))]; rfl) ?_
  refine Go.aloadN 28 d33_27 rfl rfl rfl ?_
  refine Go.getS 31 d33_28 rfl (w179 hw) Via.refl ZA ?_
  refine Go.acmpN 34 d33_31 (by decide) rfl rfl rfl (by rw [decide_eq_true rfl]; rfl) ?_
  refine Go.iloadN 35 d33_34 rfl rfl ?_
  refine Go.aloadN 36 d33_35 rfl rfl rfl ?_
  refine Go.callS (S := []) 39 [(.int (0 : Int32)), (.ref b)] d33_36 rfl rfl (w181 hw) (w182 hw) (w6 hw) (w183 hw) (by decide) (call_of_go (R := _) (len := 3) (W := 0) (plainFor_of_name pn_0) (fun mid => ef_encasc mid b ys ) (c_encasc hw b ys A XB hl) (w183 hw) (w6 hw) (by decide) (by decide)) (lenOf pd_10 rfl) (Nat.le_of_ble_eq_true rfl) rfl (Nat.le_of_ble_eq_true rfl) (Nat.le_of_ble_eq_true rfl) (fun _ q => nomatch q) (fun v h1 sf_1 hq => ?_)
  obtain ⟨r, rfl, X1, le1, A1⟩ := hq
  refine Go.more (sf' := []) ?_ (Nat.le_refl _) (Nat.le_refl _) (fun _ q => List.mem_append_right _ q)
  show G_enc md l Z n0 ac u8 i8 b ys h0 1 34 [] h1 39 #[.val (.ref ac), .val (.int (0 : Int32)), .val (.ref b)] [(.ref r)]
  exact Go.retA d33_39 rfl rfl rfl (sf' := []) (⟨_, rfl, X1, le1, A1⟩) (fun _ q => nomatch q) (Nat.le_of_ble_eq_true rfl) (Nat.le_of_ble_eq_true rfl)
abbrev G_gbc (md : Md) (l : Launch) (Z : State) (n0 : Nat) (y ac u8 i8 : Addr) (z : Int32) (cs : List Int32) (m : Nat) (h0 : Heap) := Go md l Z n0 ({ frames := 3, cells := 1, slots := 34, locals := 48 } : Room) jdk_42_method_64_code 2 (some (.array .byte)) "java/lang/String" "getBytes" (fun v h' _ => ∃ r, v = some (.ref r) ∧ Ext h0 h' ∧ h0.size ≤ r ∧ Ary Z h' r .byte ((cs.map encI).map Value.int))
theorem ef_gbc (mid : MethodId) (y ac u8 i8 : Addr) (z : Int32) (cs : List Int32) (m : Nat)  : entryFrame mid #[(.ref y), (.ref ac)] 2 = mkF mid 0 #[.val (.ref y), .val (.ref ac)] [] := by first | (simp [entryFrame, mkF, argsToLocals, Value.category]; done) | rfl
set_option maxRecDepth 65536 in
set_option maxHeartbeats 40000000 in
theorem c_gbc {md : Md} {l : Launch} {Z : State} {n0 : Nat} {a0 : Array Value} (hw : HW a0 Z) (y ac u8 i8 : Addr) (z : Int32) (cs : List Int32) (m : Nat) {h0 : Heap} (S : StrX Z h0 y cs m) (hl : cs.length ≤ 34) (ZU : Sta Z Z.heap "sun/nio/cs/UTF_8" "INSTANCE" "Lsun/nio/cs/UTF_8;" (.ref u8)) (ZI : Sta Z Z.heap "sun/nio/cs/ISO_8859_1" "INSTANCE" "Lsun/nio/cs/ISO_8859_1;" (.ref i8)) (ZA : Sta Z Z.heap "sun/nio/cs/US_ASCII" "INSTANCE" "Lsun/nio/cs/US_ASCII;" (.ref ac)) (nu : ac ≠ u8) (ni : ac ≠ i8) (SC : Sta Z Z.heap "java/lang/String" "COMPACT_STRINGS" "Z" (.int z)) (hz : ¬ z = 0)  : G_gbc md l Z n0 y ac u8 i8 z cs m h0 0 0 [] h0 0 #[.val (.ref y), .val (.ref ac)] [] := by
  obtain ⟨t, Ey, Cy, Vy, A, lt, XB, -⟩ := S
  refine Go.aloadN 1 d32_0 rfl rfl rfl ?_
  refine Go.nonnullY 12 d32_1 (by decide) (by decide) ?_
  refine Go.aloadN 13 d32_12 rfl rfl rfl ?_
  refine Go.aloadN 14 d32_13 rfl rfl rfl ?_
  refine Go.callV (S := [(.ref ac)]) (a := y) 17 [] d32_14 rfl rfl (w67 hw) (w68 hw) (w70 hw) (w69 hw) (fun _ q => notFace_of_selects (args := #[]) (mvT q (w70 hw))) (by decide) Ey (call_of_go (R := _) (len := 3) (W := 1) (plainFor_of_name pn_0) (fun mid => ef_coder mid y z (0 : Int32) ) (c_coder hw y z (0 : Int32) Cy rfl SC hz) (w71 hw) (w6 hw) (by decide) (by decide)) (lenOf pd_6 rfl) (Nat.le_of_ble_eq_true rfl) rfl (Nat.le_of_ble_eq_true rfl) (Nat.le_of_ble_eq_true rfl) (fun _ q => nomatch q) (fun v h_1 sf_2 hq => ?_)
  obtain ⟨rfl, rfl⟩ := hq
  refine Go.more (sf' := []) ?_ (Nat.le_refl _) (Nat.le_refl _) (fun _ q => List.mem_append_right _ q)
  show G_gbc md l Z n0 y ac u8 i8 z cs m h0 0 0 [] h0 17 #[.val (.ref y), .val (.ref ac)] [(.int (0 : Int32)), (.ref ac)]
  refine Go.aloadN 18 d32_17 rfl rfl rfl ?_
  refine Go.getF 21 d32_18 rfl (w24 hw) Via.refl Vy ?_
  refine Go.callS (S := []) 24 [(.ref ac), (.int (0 : Int32)), (.ref t)] d32_21 rfl rfl (w172 hw) (w173 hw) (w6 hw) (w174 hw) (by decide) (call_of_go (R := _) (len := 3) (W := 0) (plainFor_of_name pn_0) (fun mid => ef_enc mid ac u8 i8 t (cs.map fun c => c.toInt8.toInt32) ) (c_enc hw ac u8 i8 t (cs.map fun c => c.toInt8.toInt32) A XB (by rw [List.length_map]; exact hl) ZU ZI ZA nu ni) (w174 hw) (w6 hw) (by decide) (by decide)) (lenOf pd_11 rfl) (Nat.le_of_ble_eq_true rfl) rfl (Nat.le_of_ble_eq_true rfl) (Nat.le_of_ble_eq_true rfl) (fun _ q => nomatch q) (fun v h1 sf_3 hq => ?_)
  obtain ⟨r, rfl, X1, le1, A1⟩ := hq
  refine Go.more (sf' := []) ?_ (Nat.le_refl _) (Nat.le_refl _) (fun _ q => List.mem_append_right _ q)
  show G_gbc md l Z n0 y ac u8 i8 z cs m h0 1 34 [] h1 24 #[.val (.ref y), .val (.ref ac)] [(.ref r)]
  exact Go.retA d32_24 rfl rfl rfl (sf' := []) (⟨_, rfl, X1, le1, by rw [← enc_map lt]; exact A1⟩) (fun _ q => nomatch q) (Nat.le_of_ble_eq_true rfl) (Nat.le_of_ble_eq_true rfl)
abbrev G_enss16 (md : Md) (l : Launch) (Z : State) (n0 : Nat) (x b : Addr) (vs : List Value) (mn : Int32) (n : Nat) (h0 : Heap) := Go md l Z n0 ({ frames := 0, cells := 0, slots := 0, locals := 0 } : Room) jdk_68_method_9_code 3 none "java/lang/AbstractStringBuilder" "ensureCapacityInternal" (fun v h' _ => h0 = h' ∧ v = none)
theorem ef_enss16 (mid : MethodId) (x b : Addr) (vs : List Value) (mn : Int32) (n : Nat)  : entryFrame mid #[(.ref x), (.int mn)] 3 = mkF mid 0 #[.val (.ref x), .val (.int mn), .unset] [] := by first | (simp [entryFrame, mkF, argsToLocals, Value.category]; done) | rfl
set_option maxRecDepth 65536 in
set_option maxHeartbeats 40000000 in
theorem c_enss16 {md : Md} {l : Launch} {Z : State} {n0 : Nat} {a0 : Array Value} (hw : HW a0 Z) (x b : Addr) (vs : List Value) (mn : Int32) (n : Nat) {h0 : Heap} (Fb : Fld Z h0 x "java/lang/AbstractStringBuilder" "value" "[B" (.ref b)) (Fc : Fld Z h0 x "java/lang/AbstractStringBuilder" "coder" "B" (.int 0)) (A : Ary Z h0 b .byte vs) (hl : vs.length = 16) (hn : mn.toInt = (n : Int)) (hn2 : n ≤ 16) : G_enss16 md l Z n0 x b vs mn n h0 0 0 [] h0 0 #[.val (.ref x), .val (.int mn), .unset] [] := by
  refine Go.aloadN 1 d13_0 rfl rfl rfl ?_
  refine Go.getF 4 d13_1 rfl (w44 hw) Via.refl Fb ?_
  refine Go.alen 5 (16 : Int32) d13_4 rfl A (by rw [hl]; rfl) ?_
  refine Go.aloadN 6 d13_5 rfl rfl rfl ?_
  refine Go.getF 9 d13_6 rfl (w46 hw) Via.refl Fc ?_
  refine Go.ishr 10 d13_9 rfl ?_
  rw [show ((16 : Int32) >>> ((0 : Int32) &&& 31)) = (16 : Int32) from by decide]
  refine Go.istoreN 11 #[.val (.ref x), .val (.int mn), .val (.int (16 : Int32))] d13_10 rfl rfl ?_
  refine Go.iloadN 12 d13_11 rfl rfl ?_
  refine Go.iloadN 13 d13_12 rfl rfl ?_
  refine Go.isub 14 d13_13 rfl ?_
  refine Go.ifY 38 d13_14 (by decide) (by decide) (flt (stay16 hn hn2)).2.2.2 ?_
  exact Go.ret0 d13_38 rfl (sf' := []) (⟨rfl, rfl⟩) (fun _ q => nomatch q) (Nat.le_of_ble_eq_true rfl) (Nat.le_of_ble_eq_true rfl)
abbrev G_getb16 (md : Md) (l : Launch) (Z : State) (n0 : Nat) (y t b : Addr) (z : Int32) (us vs : List Value) (kk : Int32) (k : Nat)  (h0 : Heap) := Go md l Z n0 ({ frames := 1, cells := 0, slots := 0, locals := 18 } : Room) jdk_42_method_147_code 4 none "java/lang/String" "getBytes" (fun v h' _ => v = none ∧ Keep h0 h' [b] ∧ Ary Z h' b .byte (vs.take k ++ us ++ vs.drop (k + us.length)))
theorem ef_getb16 (mid : MethodId) (y t b : Addr) (z : Int32) (us vs : List Value) (kk : Int32) (k : Nat)   : entryFrame mid #[(.ref y), (.ref b), (.int kk), (.int (0 : Int32))] 4 = mkF mid 0 #[.val (.ref y), .val (.ref b), .val (.int kk), .val (.int (0 : Int32))] [] := by first | (simp [entryFrame, mkF, argsToLocals, Value.category]; done) | rfl
set_option maxRecDepth 65536 in
set_option maxHeartbeats 40000000 in
theorem c_getb16 {md : Md} {l : Launch} {Z : State} {n0 : Nat} {a0 : Array Value} (hw : HW a0 Z) (y t b : Addr) (z : Int32) (us vs : List Value) (kk : Int32) (k : Nat)  {h0 : Heap} (Ey : Exa Z h0 y "java/lang/String") (Cy : Fld Z h0 y "java/lang/String" "coder" "B" (.int 0)) (Vy : Fld Z h0 y "java/lang/String" "value" "[B" (.ref t)) (Uy : Ary Z h0 t .byte us) (A : Ary Z h0 b .byte vs) (n0b : n0 ≤ b) (ntb : t ≠ b) (hk : kk.toInt = (k : Int)) (hm : k + us.length ≤ 16) (hl : vs.length = 16) (SC : Sta Z Z.heap "java/lang/String" "COMPACT_STRINGS" "Z" (.int z)) (hz : ¬ z = 0)  : G_getb16 md l Z n0 y t b z us vs kk k h0 0 0 [b] h0 0 #[.val (.ref y), .val (.ref b), .val (.int kk), .val (.int (0 : Int32))] [] := by
  refine Go.aloadN 1 d16_0 rfl rfl rfl ?_
  refine Go.callV (S := []) (a := y) 4 [] d16_1 rfl rfl (w67 hw) (w68 hw) (w70 hw) (w69 hw) (fun _ q => notFace_of_selects (args := #[]) (mvT q (w70 hw))) (by decide) Ey (call_of_go (R := _) (len := 3) (W := 0) (plainFor_of_name pn_0) (fun mid => ef_coder mid y z (0 : Int32) ) (c_coder hw y z (0 : Int32) Cy rfl SC hz) (w71 hw) (w6 hw) (by decide) (by decide)) (lenOf pd_6 rfl) (Nat.le_of_ble_eq_true rfl) rfl (Nat.le_of_ble_eq_true rfl) (Nat.le_of_ble_eq_true rfl) (fun _ q => nomatch q) (fun v h_1 sf_2 hq => ?_)
  obtain ⟨rfl, rfl⟩ := hq
  refine Go.more (sf' := [b]) ?_ (Nat.le_refl _) (Nat.le_refl _) (fun _ q => List.mem_append_right _ q)
  show G_getb16 md l Z n0 y t b z us vs kk k h0 0 0 [b] h0 4 #[.val (.ref y), .val (.ref b), .val (.int kk), .val (.int (0 : Int32))] [(.int (0 : Int32))]
  refine Go.iloadN 5 d16_4 rfl rfl ?_
  refine Go.icmpN 8 d16_5 rfl (teq (by decide)).2 ?_
  refine Go.aloadN 9 d16_8 rfl rfl rfl ?_
  refine Go.getF 12 d16_9 rfl (w24 hw) Via.refl Vy ?_
  refine Go.iconst 13 (0 : Int32) d16_12 rfl rfl ?_
  refine Go.aloadN 14 d16_13 rfl rfl rfl ?_
  refine Go.iloadN 15 d16_14 rfl rfl ?_
  refine Go.iloadN 16 d16_15 rfl rfl ?_
  refine Go.ishl 17 d16_16 rfl ?_
  refine Go.aloadN 18 d16_17 rfl rfl rfl ?_
  refine Go.getF 21 d16_18 rfl (w24 hw) Via.refl Vy ?_
  refine Go.alen 22 (Int32.ofNat us.length) d16_21 rfl Uy rfl ?_
  refine Go.acopy (W := 0) 0 k us.length 25 d16_22 rfl (w96 hw) (w99 hw) (w97 hw) (w98 hw) Uy A rfl (by decide) (shl0 hk) (ofNat_toInt (by omega)) (by omega) (by omega) (List.mem_of_getElem? (i := 0) rfl) n0b rfl (by decide) (Nat.le_of_ble_eq_true rfl) (by decide) (fun h_3 K_4 B_5 => ?_)
  have B_6 : Ary Z h_3 b .byte (vs.take k ++ us ++ vs.drop (k + us.length)) := by have q_ := B_5; rw [show (us.drop 0).take us.length = us from by rw [List.drop_zero, List.take_length]] at q_; exact q_
  show G_getb16 md l Z n0 y t b z us vs kk k h0 0 0 [b] h_3 25 #[.val (.ref y), .val (.ref b), .val (.int kk), .val (.int (0 : Int32))] []
  refine Go.goto 43 d16_25 (by decide) (by decide) ?_
  exact Go.ret0 d16_43 rfl (sf' := []) (⟨rfl, ((Keep.refl h0 [b]).trans K_4 (allS (Or.inl (List.mem_of_getElem? (i := 0) rfl)) all0)), B_6⟩) (fun _ q => nomatch q) (Nat.le_of_ble_eq_true rfl) (Nat.le_of_ble_eq_true rfl)
abbrev G_puts16 (md : Md) (l : Launch) (Z : State) (n0 : Nat) (x y t b : Addr) (z : Int32) (us vs : List Value) (kk : Int32) (k : Nat)  (h0 : Heap) := Go md l Z n0 ({ frames := 2, cells := 0, slots := 0, locals := 33 } : Room) jdk_68_method_73_code 3 none "java/lang/AbstractStringBuilder" "putStringAt" (fun v h' _ => v = none ∧ Keep h0 h' [b] ∧ Ary Z h' b .byte (vs.take k ++ us ++ vs.drop (k + us.length)))
theorem ef_puts16 (mid : MethodId) (x y t b : Addr) (z : Int32) (us vs : List Value) (kk : Int32) (k : Nat)   : entryFrame mid #[(.ref x), (.int kk), (.ref y)] 3 = mkF mid 0 #[.val (.ref x), .val (.int kk), .val (.ref y)] [] := by first | (simp [entryFrame, mkF, argsToLocals, Value.category]; done) | rfl
set_option maxRecDepth 65536 in
set_option maxHeartbeats 40000000 in
theorem c_puts16 {l : Launch} {Z : State} {n0 : Nat} {a0 : Array Value} (hw : HW a0 Z) (x y t b : Addr) (z : Int32) (us vs : List Value) (kk : Int32) (k : Nat)  {h0 : Heap} (Ex : Exa Z h0 x "java/lang/StringBuilder") (n0x : n0 ≤ x) (Fb : Fld Z h0 x "java/lang/AbstractStringBuilder" "value" "[B" (.ref b)) (Fc : Fld Z h0 x "java/lang/AbstractStringBuilder" "coder" "B" (.int 0)) (Fn : Fld Z h0 x "java/lang/AbstractStringBuilder" "count" "I" (.int kk)) (A : Ary Z h0 b .byte vs) (n0b : n0 ≤ b) (nbx : b ≠ x) (Ey : Exa Z h0 y "java/lang/String") (Cy : Fld Z h0 y "java/lang/String" "coder" "B" (.int 0)) (Vy : Fld Z h0 y "java/lang/String" "value" "[B" (.ref t)) (Uy : Ary Z h0 t .byte us) (ntb : t ≠ b) (hk : kk.toInt = (k : Int)) (hm : k + us.length ≤ 16) (hl : vs.length = 16) (SC : Sta Z Z.heap "java/lang/String" "COMPACT_STRINGS" "Z" (.int z)) (hz : ¬ z = 0)  : G_puts16 (some consts_1) l Z n0 x y t b z us vs kk k h0 0 0 [b] h0 0 #[.val (.ref x), .val (.int kk), .val (.ref y)] [] := by
  refine Go.aloadN 1 d14_0 rfl rfl rfl ?_
  refine Go.aloadN 2 d14_1 rfl rfl rfl ?_
  refine Go.callQ (S := []) (a := x) 5 [(.ref y)] d14_2 rfl rfl (w85 hw) (w86 hw) (w88 hw) (w87 hw) (w89 hw) (by decide) Ex (call_of_go (R := _) (len := 3) (W := 0) (plainFor_of_name pn_2) (fun mid => ef_inflate mid x y t z us ) (c_inflate hw x y t z us Fc Ey Cy Vy Uy SC hz) (w89 hw) (w40 hw) (by decide) (by decide)) (lenOf pd_13 rfl) (Nat.le_of_ble_eq_true rfl) rfl (Nat.le_of_ble_eq_true rfl) (Nat.le_of_ble_eq_true rfl) (fun _ q => nomatch q) (fun v h_1 sf_2 hq => ?_)
  obtain ⟨rfl, rfl⟩ := hq
  refine Go.more (sf' := [b]) ?_ (Nat.le_refl _) (Nat.le_refl _) (fun _ q => List.mem_append_right _ q)
  show G_puts16 (some consts_1) l Z n0 x y t b z us vs kk k h0 0 0 [b] h0 5 #[.val (.ref x), .val (.int kk), .val (.ref y)] []
  refine Go.aloadN 6 d14_5 rfl rfl rfl ?_
  refine Go.aloadN 7 d14_6 rfl rfl rfl ?_
  refine Go.getF 10 d14_7 rfl (w44 hw) Via.refl Fb ?_
  refine Go.iloadN 11 d14_10 rfl rfl ?_
  refine Go.aloadN 12 d14_11 rfl rfl rfl ?_
  refine Go.getF 15 d14_12 rfl (w46 hw) Via.refl Fc ?_
  refine Go.callV (S := []) (a := y) 18 [(.ref b), (.int kk), (.int (0 : Int32))] d14_15 rfl rfl (w91 hw) (w92 hw) (w94 hw) (w93 hw) (fun _ q => notFace_of_selects (args := #[]) (mvT q (w94 hw))) (by decide) Ey (call_of_go (R := _) (len := 3) (W := 0) (plainFor_of_name pn_0) (fun mid => ef_getb16 mid y t b z us vs kk k ) (c_getb16 hw y t b z us vs kk k Ey Cy Vy Uy A n0b ntb hk hm hl SC hz) (w95 hw) (w6 hw) (by decide) (by decide)) (lenOf pd_14 rfl) (Nat.le_of_ble_eq_true rfl) rfl (Nat.le_of_ble_eq_true rfl) (Nat.le_of_ble_eq_true rfl) (fun _ q => q) (fun v h_3 sf_4 hq => ?_)
  obtain ⟨rfl, K2, A2⟩ := hq
  refine Go.more (sf' := [b]) ?_ (Nat.le_refl _) (Nat.le_refl _) (fun _ q => List.mem_append_right _ q)
  show G_puts16 (some consts_1) l Z n0 x y t b z us vs kk k h0 0 0 [b] h_3 18 #[.val (.ref x), .val (.int kk), .val (.ref y)] []
  exact Go.ret0 d14_18 rfl (sf' := []) (⟨rfl, K2, A2⟩) (fun _ q => nomatch q) (Nat.le_of_ble_eq_true rfl) (Nat.le_of_ble_eq_true rfl)
abbrev G_asbapp16 (md : Md) (l : Launch) (Z : State) (n0 : Nat) (x y t b : Addr) (z : Int32) (us vs : List Value) (kk : Int32) (k : Nat)  (h0 : Heap) := Go md l Z n0 ({ frames := 3, cells := 0, slots := 0, locals := 47 } : Room) jdk_68_method_22_code 3 (some (.object "java/lang/AbstractStringBuilder")) "java/lang/AbstractStringBuilder" "append" (fun v h' sf' => ∃ q, v = some (.ref x) ∧ Keep h0 h' [x, b] ∧ Exa Z h' x "java/lang/StringBuilder" ∧ n0 ≤ q ∧ q ≠ x ∧ Fld Z h' x "java/lang/AbstractStringBuilder" "value" "[B" (.ref q) ∧ Fld Z h' x "java/lang/AbstractStringBuilder" "coder" "B" (.int 0) ∧ Fld Z h' x "java/lang/AbstractStringBuilder" "count" "I" (.int (kk + Int32.ofNat us.length)) ∧ Ary Z h' q .byte (vs.take k ++ us ++ vs.drop (k + us.length)) ∧ sf' = [q] ∧ (q = b ∨ h0.size ≤ q))
theorem ef_asbapp16 (mid : MethodId) (x y t b : Addr) (z : Int32) (us vs : List Value) (kk : Int32) (k : Nat)   : entryFrame mid #[(.ref x), (.ref y)] 3 = mkF mid 0 #[.val (.ref x), .val (.ref y), .unset] [] := by first | (simp [entryFrame, mkF, argsToLocals, Value.category]; done) | rfl
set_option maxRecDepth 65536 in
set_option maxHeartbeats 40000000 in
theorem c_asbapp16 {l : Launch} {Z : State} {n0 : Nat} {a0 : Array Value} (hw : HW a0 Z) (x y t b : Addr) (z : Int32) (us vs : List Value) (kk : Int32) (k : Nat)  {h0 : Heap} (Ex : Exa Z h0 x "java/lang/StringBuilder") (n0x : n0 ≤ x) (Fb : Fld Z h0 x "java/lang/AbstractStringBuilder" "value" "[B" (.ref b)) (Fc : Fld Z h0 x "java/lang/AbstractStringBuilder" "coder" "B" (.int 0)) (Fn : Fld Z h0 x "java/lang/AbstractStringBuilder" "count" "I" (.int kk)) (A : Ary Z h0 b .byte vs) (n0b : n0 ≤ b) (nbx : b ≠ x) (Ey : Exa Z h0 y "java/lang/String") (Cy : Fld Z h0 y "java/lang/String" "coder" "B" (.int 0)) (Vy : Fld Z h0 y "java/lang/String" "value" "[B" (.ref t)) (Uy : Ary Z h0 t .byte us) (ntb : t ≠ b) (nyx : y ≠ x) (ntx : t ≠ x) (nyb : y ≠ b) (hk : kk.toInt = (k : Int)) (hm : k + us.length ≤ 16) (hl : vs.length = 16) (SC : Sta Z Z.heap "java/lang/String" "COMPACT_STRINGS" "Z" (.int z)) (hz : ¬ z = 0)  : G_asbapp16 (some consts_1) l Z n0 x y t b z us vs kk k h0 0 0 [x, b] h0 0 #[.val (.ref x), .val (.ref y), .unset] [] := by
  refine Go.aloadN 1 d10_0 rfl rfl rfl ?_
  refine Go.nonnullY 9 d10_1 (by decide) (by decide) ?_
  refine Go.aloadN 10 d10_9 rfl rfl rfl ?_
  refine Go.callV (S := []) (a := y) 13 [] d10_10 rfl rfl (w62 hw) (w63 hw) (w65 hw) (w64 hw) (fun _ q => notFace_of_selects (args := #[]) (mvT q (w65 hw))) (by decide) Ey (call_of_go (R := _) (len := 3) (W := 0) (plainFor_of_name pn_0) (fun mid => ef_glen mid y t z (0 : Int32) us ) (c_glen hw y t z (0 : Int32) us Ey Cy Vy Uy rfl SC hz) (w66 hw) (w6 hw) (by decide) (by decide)) (lenOf pd_15 rfl) (Nat.le_of_ble_eq_true rfl) rfl (Nat.le_of_ble_eq_true rfl) (Nat.le_of_ble_eq_true rfl) (fun _ q => nomatch q) (fun v h_1 sf_2 hq => ?_)
  obtain ⟨rfl, rfl⟩ := hq
  rw [shr0 (Int32.ofNat us.length)]
  refine Go.more (sf' := [x, b]) ?_ (Nat.le_refl _) (Nat.le_refl _) (fun _ q => List.mem_append_right _ q)
  show G_asbapp16 (some consts_1) l Z n0 x y t b z us vs kk k h0 0 0 [x, b] h0 13 #[.val (.ref x), .val (.ref y), .unset] [(.int (Int32.ofNat us.length))]
  refine Go.istoreN 14 #[.val (.ref x), .val (.ref y), .val (.int (Int32.ofNat us.length))] d10_13 rfl rfl ?_
  refine Go.aloadN 15 d10_14 rfl rfl rfl ?_
  refine Go.aloadN 16 d10_15 rfl rfl rfl ?_
  refine Go.getF 19 d10_16 rfl (w73 hw) Via.refl Fn ?_
  refine Go.iloadN 20 d10_19 rfl rfl ?_
  refine Go.iadd 21 d10_20 rfl ?_
  refine Go.callQ (S := []) (a := x) 24 [(.int (kk + (Int32.ofNat us.length)))] d10_21 rfl rfl (w75 hw) (w76 hw) (w78 hw) (w77 hw) (w79 hw) (by decide) Ex (call_of_go (R := _) (len := 3) (W := 0) (plainFor_of_name pn_2) (fun mid => ef_enss16 mid x b vs (kk + (Int32.ofNat us.length)) (k + us.length) ) (c_enss16 hw x b vs (kk + (Int32.ofNat us.length)) (k + us.length) Fb Fc A hl (add_nat hk (ofNat_toInt (n := us.length) (by omega)) (by omega)) hm) (w79 hw) (w40 hw) (by decide) (by decide)) (lenOf pd_7 rfl) (Nat.le_of_ble_eq_true rfl) rfl (Nat.le_of_ble_eq_true rfl) (Nat.le_of_ble_eq_true rfl) (fun _ q => nomatch q) (fun v h_3 sf_4 hq => ?_)
  obtain ⟨rfl, rfl⟩ := hq
  refine Go.more (sf' := [x, b]) ?_ (Nat.le_refl _) (Nat.le_refl _) (fun _ q => List.mem_append_right _ q)
  show G_asbapp16 (some consts_1) l Z n0 x y t b z us vs kk k h0 0 0 [x, b] h0 24 #[.val (.ref x), .val (.ref y), .val (.int (Int32.ofNat us.length))] []
  refine Go.aloadN 25 d10_24 rfl rfl rfl ?_
  refine Go.aloadN 26 d10_25 rfl rfl rfl ?_
  refine Go.getF 29 d10_26 rfl (w73 hw) Via.refl Fn ?_
  refine Go.aloadN 30 d10_29 rfl rfl rfl ?_
  refine Go.callQ (S := []) (a := x) 33 [(.int kk), (.ref y)] d10_30 rfl rfl (w80 hw) (w81 hw) (w83 hw) (w82 hw) (w84 hw) (by decide) Ex (call_of_go (R := _) (len := 3) (W := 0) (plainFor_of_name pn_2) (fun mid => ef_puts16 mid x y t b z us vs kk k ) (c_puts16 hw x y t b z us vs kk k Ex n0x Fb Fc Fn A n0b nbx Ey Cy Vy Uy ntb hk hm hl SC hz) (w84 hw) (w40 hw) (by decide) (by decide)) (lenOf pd_16 rfl) (Nat.le_of_ble_eq_true rfl) rfl (Nat.le_of_ble_eq_true rfl) (Nat.le_of_ble_eq_true rfl) (sub1 (List.mem_of_getElem? (i := 1) rfl)) (fun v h_5 sf_6 hq => ?_)
  obtain ⟨rfl, Kp, Ap⟩ := hq
  refine Go.more (sf' := [x, b]) ?_ (Nat.le_refl _) (Nat.le_refl _) (fun _ q => List.mem_append_right _ q)
  show G_asbapp16 (some consts_1) l Z n0 x y t b z us vs kk k h0 0 0 [x, b] h_5 33 #[.val (.ref x), .val (.ref y), .val (.int (Int32.ofNat us.length))] []
  refine Go.aloadN 34 d10_33 rfl rfl rfl ?_
  refine Go.dup 35 d10_34 rfl rfl ?_
  have f_7 := (Fn.keep Kp (ninS (Ne.symm nbx) nin0))
  refine Go.getF 38 d10_35 rfl (w73 hw) Via.refl f_7 ?_
  refine Go.iloadN 39 d10_38 rfl rfl ?_
  refine Go.iadd 40 d10_39 rfl ?_
  have f_8 := (Ex.keep Kp)
  refine Go.putF 43 (.int (kk + (Int32.ofNat us.length))) d10_40 rfl (w73 hw) Via.refl f_7 f_8 (Or.inl (w74 hw)) (w31 hw) (ty := .int) (by decide) rfl rfl (List.mem_of_getElem? (i := 0) rfl) n0x (fun h_9 W_10 => ?_)
  refine Go.aloadN 44 d10_43 rfl rfl rfl ?_
  have f_11 := (f_8.wr W_10)
  have f_12 := ((Fb.keep Kp (ninS (Ne.symm nbx) nin0)).other W_10 (Or.inr (slot_ne (Or.inl (w45 hw)) (Or.inl (w74 hw)) (by decide) (t := (.array .byte)) (t' := .int) (by decide) (by decide))))
  have f_13 := ((Fc.keep Kp (ninS (Ne.symm nbx) nin0)).other W_10 (Or.inr (slot_ne (Or.inl (w47 hw)) (Or.inl (w74 hw)) (by decide) (t := .byte) (t' := .int) (by decide) (by decide))))
  have f_14 := (Ap.other W_10 nbx)
  exact Go.retA d10_44 rfl rfl rfl (sf' := [b]) (⟨b, rfl, (((Keep.refl h0 [x, b]).trans Kp (allS (Or.inl (List.mem_of_getElem? (i := 1) rfl)) all0)).wr W_10 (Or.inl (List.mem_of_getElem? (i := 0) rfl))), f_11, n0b, nbx, f_12, f_13, (f_7.same W_10), f_14, rfl, Or.inl rfl⟩) (sub1 (List.mem_of_getElem? (i := 1) rfl)) (Nat.le_of_ble_eq_true rfl) (Nat.le_of_ble_eq_true rfl)
abbrev G_sbapp16 (md : Md) (l : Launch) (Z : State) (n0 : Nat) (x y t b : Addr) (z : Int32) (us vs : List Value) (kk : Int32) (k : Nat)  (h0 : Heap) := Go md l Z n0 ({ frames := 4, cells := 0, slots := 0, locals := 61 } : Room) jdk_67_method_7_code 2 (some (.object "java/lang/StringBuilder")) "java/lang/StringBuilder" "append" (fun v h' sf' => ∃ q, v = some (.ref x) ∧ Keep h0 h' [x, b] ∧ Exa Z h' x "java/lang/StringBuilder" ∧ n0 ≤ q ∧ q ≠ x ∧ Fld Z h' x "java/lang/AbstractStringBuilder" "value" "[B" (.ref q) ∧ Fld Z h' x "java/lang/AbstractStringBuilder" "coder" "B" (.int 0) ∧ Fld Z h' x "java/lang/AbstractStringBuilder" "count" "I" (.int (kk + Int32.ofNat us.length)) ∧ Ary Z h' q .byte (vs.take k ++ us ++ vs.drop (k + us.length)) ∧ sf' = [q] ∧ (q = b ∨ h0.size ≤ q))
theorem ef_sbapp16 (mid : MethodId) (x y t b : Addr) (z : Int32) (us vs : List Value) (kk : Int32) (k : Nat)   : entryFrame mid #[(.ref x), (.ref y)] 2 = mkF mid 0 #[.val (.ref x), .val (.ref y)] [] := by first | (simp [entryFrame, mkF, argsToLocals, Value.category]; done) | rfl
set_option maxRecDepth 65536 in
set_option maxHeartbeats 40000000 in
theorem c_sbapp16 {l : Launch} {Z : State} {n0 : Nat} {a0 : Array Value} (hw : HW a0 Z) (x y t b : Addr) (z : Int32) (us vs : List Value) (kk : Int32) (k : Nat)  {h0 : Heap} (Ex : Exa Z h0 x "java/lang/StringBuilder") (n0x : n0 ≤ x) (Fb : Fld Z h0 x "java/lang/AbstractStringBuilder" "value" "[B" (.ref b)) (Fc : Fld Z h0 x "java/lang/AbstractStringBuilder" "coder" "B" (.int 0)) (Fn : Fld Z h0 x "java/lang/AbstractStringBuilder" "count" "I" (.int kk)) (A : Ary Z h0 b .byte vs) (n0b : n0 ≤ b) (nbx : b ≠ x) (Ey : Exa Z h0 y "java/lang/String") (Cy : Fld Z h0 y "java/lang/String" "coder" "B" (.int 0)) (Vy : Fld Z h0 y "java/lang/String" "value" "[B" (.ref t)) (Uy : Ary Z h0 t .byte us) (ntb : t ≠ b) (nyx : y ≠ x) (ntx : t ≠ x) (nyb : y ≠ b) (hk : kk.toInt = (k : Int)) (hm : k + us.length ≤ 16) (hl : vs.length = 16) (SC : Sta Z Z.heap "java/lang/String" "COMPACT_STRINGS" "Z" (.int z)) (hz : ¬ z = 0)  : G_sbapp16 (some consts_1) l Z n0 x y t b z us vs kk k h0 0 0 [x, b] h0 0 #[.val (.ref x), .val (.ref y)] [] := by
  refine Go.aloadN 1 d9_0 rfl rfl rfl ?_
  refine Go.aloadN 2 d9_1 rfl rfl rfl ?_
  refine Go.callSup (S := []) (a := x) 5 [(.ref y)] d9_2 rfl rfl (w57 hw) (w58 hw) (w78 hw) rfl (w59 hw) (by decide) (w61 hw) (by decide) Ex (call_of_go (R := _) (len := 3) (W := 0) (plainFor_of_name pn_2) (fun mid => ef_asbapp16 mid x y t b z us vs kk k ) (c_asbapp16 hw x y t b z us vs kk k Ex n0x Fb Fc Fn A n0b nbx Ey Cy Vy Uy ntb nyx ntx nyb hk hm hl SC hz) (w61 hw) (w40 hw) (by decide) (by decide)) (lenOf pd_17 rfl) (Nat.le_of_ble_eq_true rfl) rfl (Nat.le_of_ble_eq_true rfl) (Nat.le_of_ble_eq_true rfl) (fun _ q => q) (fun v h_1 sf_2 hq => ?_)
  obtain ⟨q, rfl, Kq, Eq, n0q, nqx, Fbq, Fcq, Fnq, Aq, rfl, dq⟩ := hq
  show G_sbapp16 (some consts_1) l Z n0 x y t b z us vs kk k h0 0 0 [q, x, b] h_1 5 #[.val (.ref x), .val (.ref y)] [(.ref x)]
  refine Go.pop 6 d9_5 rfl rfl ?_
  refine Go.aloadN 7 d9_6 rfl rfl rfl ?_
  exact Go.retA d9_7 rfl rfl rfl (sf' := [q]) (⟨q, rfl, Kq, Eq, n0q, nqx, Fbq, Fcq, Fnq, Aq, rfl, dq⟩) (sub1 (List.mem_of_getElem? (i := 0) rfl)) (Nat.le_of_ble_eq_true rfl) (Nat.le_of_ble_eq_true rfl)
abbrev G_newlen (md : Md) (l : Launch) (Z : State) (n0 : Nat) (g : Int32) (h0 : Heap) := Go md l Z n0 ({ frames := 1, cells := 0, slots := 0, locals := 14 } : Room) jdk_48_method_27_code 4 (some .int) "jdk/internal/util/ArraysSupport" "newLength" (fun v h' _ => h0 = h' ∧ v = some (.int 34))
theorem ef_newlen (mid : MethodId) (g : Int32)  : entryFrame mid #[(.int (16 : Int32)), (.int g), (.int (18 : Int32))] 4 = mkF mid 0 #[.val (.int (16 : Int32)), .val (.int g), .val (.int (18 : Int32)), .unset] [] := by first | (simp [entryFrame, mkF, argsToLocals, Value.category]; done) | rfl
set_option maxRecDepth 65536 in
set_option maxHeartbeats 40000000 in
theorem c_newlen {md : Md} {l : Launch} {Z : State} {n0 : Nat} {a0 : Array Value} (hw : HW a0 Z) (g : Int32) {h0 : Heap} (hg1 : 0 ≤ g.toInt) (hg2 : g.toInt ≤ 18) : G_newlen md l Z n0 g h0 0 0 [] h0 0 #[.val (.int (16 : Int32)), .val (.int g), .val (.int (18 : Int32)), .unset] [] := by
  refine Go.iloadN 1 d18_0 rfl rfl ?_
  refine Go.iloadN 2 d18_1 rfl rfl ?_
  refine Go.iloadN 3 d18_2 rfl rfl ?_
  refine Go.callS (S := [(.int (16 : Int32))]) 6 [(.int g), (.int (18 : Int32))] d18_3 rfl rfl (w111 hw) (w112 hw) (w113 hw) (w114 hw) (by decide) (call_of_go (R := _) (len := 3) (W := 1) pf_1 (fun mid => ef_max mid g (18 : Int32) ) (c_max hw g (18 : Int32) ) (w114 hw) (w113 hw) (by decide) (by decide)) (lenOf pd_19 rfl) (Nat.le_of_ble_eq_true rfl) rfl (Nat.le_of_ble_eq_true rfl) (Nat.le_of_ble_eq_true rfl) (fun _ q => nomatch q) (fun v h_1 sf_2 hq => ?_)
  obtain ⟨rfl, rfl⟩ := hq
  refine Go.more (sf' := []) ?_ (Nat.le_refl _) (Nat.le_refl _) (fun _ q => List.mem_append_right _ q)
  show G_newlen md l Z n0 g h0 0 0 [] h0 6 #[.val (.int (16 : Int32)), .val (.int g), .val (.int (18 : Int32)), .unset] [(.int (if g < (18 : Int32) then (18 : Int32) else g)), (.int (16 : Int32))]
  refine Go.iadd 7 d18_6 rfl ?_
  rw [show ((16 : Int32) + (if g < (18 : Int32) then (18 : Int32) else g)) = (34 : Int32) from (grow34 hg1 hg2)]
  show G_newlen md l Z n0 g h0 0 0 [] h0 7 #[.val (.int (16 : Int32)), .val (.int g), .val (.int (18 : Int32)), .unset] [(.int (34 : Int32))]
  refine Go.istoreN 8 #[.val (.int (16 : Int32)), .val (.int g), .val (.int (18 : Int32)), .val (.int (34 : Int32))] d18_7 rfl rfl ?_
  refine Go.iconst 9 (0 : Int32) d18_8 rfl rfl ?_
  refine Go.iloadN 10 d18_9 rfl rfl ?_
  refine Go.icmpN 13 d18_10 rfl (tlt (by decide)).2.1 ?_
  refine Go.iloadN 14 d18_13 rfl rfl ?_
  refine Go.ldcI 16 d18_14 rfl (w115 hw) ?_
  refine Go.icmpN 19 d18_16 rfl (flt (by decide)).2.2.1 ?_
  refine Go.iloadN 20 d18_19 rfl rfl ?_
  exact Go.retI d18_20 rfl (sf' := []) (⟨rfl, rfl⟩) (fun _ q => nomatch q) (Nat.le_of_ble_eq_true rfl) (Nat.le_of_ble_eq_true rfl)
abbrev G_newcap (md : Md) (l : Launch) (Z : State) (n0 : Nat) (x b : Addr) (vs : List Value) (mn : Int32) (n : Nat) (h0 : Heap) := Go md l Z n0 ({ frames := 2, cells := 0, slots := 0, locals := 29 } : Room) jdk_68_method_10_code 6 (some .int) "java/lang/AbstractStringBuilder" "newCapacity" (fun v h' _ => h0 = h' ∧ v = some (.int 34))
theorem ef_newcap (mid : MethodId) (x b : Addr) (vs : List Value) (mn : Int32) (n : Nat)  : entryFrame mid #[(.ref x), (.int mn)] 6 = mkF mid 0 #[.val (.ref x), .val (.int mn), .unset, .unset, .unset, .unset] [] := by first | (simp [entryFrame, mkF, argsToLocals, Value.category]; done) | rfl
set_option maxRecDepth 65536 in
set_option maxHeartbeats 40000000 in
theorem c_newcap {md : Md} {l : Launch} {Z : State} {n0 : Nat} {a0 : Array Value} (hw : HW a0 Z) (x b : Addr) (vs : List Value) (mn : Int32) (n : Nat) {h0 : Heap} (Fb : Fld Z h0 x "java/lang/AbstractStringBuilder" "value" "[B" (.ref b)) (Fc : Fld Z h0 x "java/lang/AbstractStringBuilder" "coder" "B" (.int 0)) (A : Ary Z h0 b .byte vs) (hl : vs.length = 16) (hn : mn.toInt = (n : Int)) (hn1 : 16 < n) (hn2 : n ≤ 34) : G_newcap md l Z n0 x b vs mn n h0 0 0 [] h0 0 #[.val (.ref x), .val (.int mn), .unset, .unset, .unset, .unset] [] := by
  refine Go.aloadN 1 d17_0 rfl rfl rfl ?_
  refine Go.getF 4 d17_1 rfl (w44 hw) Via.refl Fb ?_
  refine Go.alen 5 (16 : Int32) d17_4 rfl A (by rw [hl]; rfl) ?_
  refine Go.istoreN 6 #[.val (.ref x), .val (.int mn), .val (.int (16 : Int32)), .unset, .unset, .unset] d17_5 rfl rfl ?_
  refine Go.iloadN 7 d17_6 rfl rfl ?_
  refine Go.aloadN 8 d17_7 rfl rfl rfl ?_
  refine Go.getF 11 d17_8 rfl (w46 hw) Via.refl Fc ?_
  refine Go.ishl 12 d17_11 rfl ?_
  refine Go.istoreN 13 #[.val (.ref x), .val (.int mn), .val (.int (16 : Int32)), .val (.int (mn <<< ((0 : Int32) &&& 31))), .unset, .unset] d17_12 rfl rfl ?_
  refine Go.iloadN 14 d17_13 rfl rfl ?_
  refine Go.iloadN 15 d17_14 rfl rfl ?_
  refine Go.isub 16 d17_15 rfl ?_
  refine Go.istore 18 #[.val (.ref x), .val (.int mn), .val (.int (16 : Int32)), .val (.int (mn <<< ((0 : Int32) &&& 31))), .val (.int ((mn <<< ((0 : Int32) &&& 31)) - (16 : Int32))), .unset] d17_16 rfl rfl ?_
  refine Go.iloadN 19 d17_18 rfl rfl ?_
  refine Go.iload 21 d17_19 rfl rfl ?_
  refine Go.iloadN 22 d17_21 rfl rfl ?_
  refine Go.iconst 23 (2 : Int32) d17_22 rfl rfl ?_
  refine Go.aloadN 24 d17_23 rfl rfl rfl ?_
  refine Go.getF 27 d17_24 rfl (w46 hw) Via.refl Fc ?_
  refine Go.ishl 28 d17_27 rfl ?_
  rw [show ((2 : Int32) <<< ((0 : Int32) &&& 31)) = (2 : Int32) from by decide]
  refine Go.iadd 29 d17_28 rfl ?_
  rw [show ((16 : Int32) + (2 : Int32)) = (18 : Int32) from by decide]
  refine Go.callS (S := []) 32 [(.int (16 : Int32)), (.int ((mn <<< ((0 : Int32) &&& 31)) - (16 : Int32))), (.int (18 : Int32))] d17_29 rfl rfl (w107 hw) (w108 hw) (w109 hw) (w110 hw) (by decide) (call_of_go (R := _) (len := 3) (W := 0) pf_2 (fun mid => ef_newlen mid ((mn <<< ((0 : Int32) &&& 31)) - (16 : Int32)) ) (c_newlen hw ((mn <<< ((0 : Int32) &&& 31)) - (16 : Int32)) (growg hn hn1 hn2).1 (growg hn hn1 hn2).2) (w110 hw) (w109 hw) (by decide) (by decide)) (lenOf pd_20 rfl) (Nat.le_of_ble_eq_true rfl) rfl (Nat.le_of_ble_eq_true rfl) (Nat.le_of_ble_eq_true rfl) (fun _ q => nomatch q) (fun v h_1 sf_2 hq => ?_)
  obtain ⟨rfl, rfl⟩ := hq
  refine Go.more (sf' := []) ?_ (Nat.le_refl _) (Nat.le_refl _) (fun _ q => List.mem_append_right _ q)
  show G_newcap md l Z n0 x b vs mn n h0 0 0 [] h0 32 #[.val (.ref x), .val (.int mn), .val (.int (16 : Int32)), .val (.int (mn <<< ((0 : Int32) &&& 31))), .val (.int ((mn <<< ((0 : Int32) &&& 31)) - (16 : Int32))), .unset] [(.int (34 : Int32))]
  refine Go.istore 34 #[.val (.ref x), .val (.int mn), .val (.int (16 : Int32)), .val (.int (mn <<< ((0 : Int32) &&& 31))), .val (.int ((mn <<< ((0 : Int32) &&& 31)) - (16 : Int32))), .val (.int (34 : Int32))] d17_32 rfl rfl ?_
  refine Go.iload 36 d17_34 rfl rfl ?_
  refine Go.ldcI 38 d17_36 rfl (w116 hw) ?_
  refine Go.icmpY 51 d17_38 (by decide) (by decide) (feq (by decide)).2 ?_
  refine Go.iload 53 d17_51 rfl rfl ?_
  refine Go.aloadN 54 d17_53 rfl rfl rfl ?_
  refine Go.getF 57 d17_54 rfl (w46 hw) Via.refl Fc ?_
  refine Go.ishr 58 d17_57 rfl ?_
  rw [show ((34 : Int32) >>> ((0 : Int32) &&& 31)) = (34 : Int32) from by decide]
  exact Go.retI d17_58 rfl (sf' := []) (⟨rfl, rfl⟩) (fun _ q => nomatch q) (Nat.le_of_ble_eq_true rfl) (Nat.le_of_ble_eq_true rfl)
abbrev G_copyof (md : Md) (l : Launch) (Z : State) (n0 : Nat) (b : Addr) (vs : List Value) (h0 : Heap) := Go md l Z n0 ({ frames := 1, cells := 1, slots := 34, locals := 18 } : Room) jdk_65_method_121_code 3 (some (.array .byte)) "java/util/Arrays" "copyOf" (fun v h' sf' => ∃ r, v = some (.ref r) ∧ Ext h0 h' ∧ h0.size ≤ r ∧ n0 ≤ r ∧ Ary Z h' r .byte (vs ++ List.replicate 18 (.int 0)) ∧ sf' = [r])
theorem ef_copyof (mid : MethodId) (b : Addr) (vs : List Value)  : entryFrame mid #[(.ref b), (.int (34 : Int32))] 3 = mkF mid 0 #[.val (.ref b), .val (.int (34 : Int32)), .unset] [] := by first | (simp [entryFrame, mkF, argsToLocals, Value.category]; done) | rfl
set_option maxRecDepth 65536 in
set_option maxHeartbeats 40000000 in
theorem c_copyof {md : Md} {l : Launch} {Z : State} {n0 : Nat} {a0 : Array Value} (hw : HW a0 Z) (b : Addr) (vs : List Value) {h0 : Heap} (A : Ary Z h0 b .byte vs) (hl : vs.length = 16) : G_copyof md l Z n0 b vs h0 0 0 [] h0 0 #[.val (.ref b), .val (.int (34 : Int32)), .unset] [] := by
  refine Go.iloadN 1 d20_0 rfl rfl ?_
  refine Go.aloadN 2 d20_1 rfl rfl rfl ?_
  refine Go.alen 3 (16 : Int32) d20_2 rfl A (by rw [hl]; rfl) ?_
  refine Go.icmpY 14 d20_3 (by decide) (by decide) (feq (by decide)).2 ?_
  refine Go.iloadN 15 d20_14 rfl rfl ?_
  refine Go.newA 34 17 d20_15 rfl rfl (w19 hw) (by decide) 34 (Nat.le_refl _) (by decide) (Nat.le_of_ble_eq_true rfl) (Nat.le_of_ble_eq_true rfl) (fun h_1 r_2 g_3 q_4 E_5 lt_6 A_7 => ?_)
  have A_8 : Ary Z h_1 r_2 .byte (List.replicate 34 (.int 0)) := A_7
  show G_copyof md l Z n0 b vs h0 1 34 [r_2] h_1 17 #[.val (.ref b), .val (.int (34 : Int32)), .unset] [(.ref r_2)]
  refine Go.astoreN 18 #[.val (.ref b), .val (.int (34 : Int32)), .val (.ref r_2)] d20_17 rfl rfl rfl ?_
  refine Go.aloadN 19 d20_18 rfl rfl rfl ?_
  refine Go.iconst 20 (0 : Int32) d20_19 rfl rfl ?_
  refine Go.aloadN 21 d20_20 rfl rfl rfl ?_
  refine Go.iconst 22 (0 : Int32) d20_21 rfl rfl ?_
  refine Go.aloadN 23 d20_22 rfl rfl rfl ?_
  have f_9 := A.ext E_5
  refine Go.alen 24 (16 : Int32) d20_23 rfl f_9 (by rw [hl]; rfl) ?_
  refine Go.iloadN 25 d20_24 rfl rfl ?_
  refine Go.callS (S := [(.int (0 : Int32)), (.ref r_2), (.int (0 : Int32)), (.ref b)]) 28 [(.int (16 : Int32)), (.int (34 : Int32))] d20_25 rfl rfl (w121 hw) (w122 hw) (w113 hw) (w123 hw) (by decide) (call_of_go (R := _) (len := 3) (W := 4) pf_3 (fun mid => ef_min mid (16 : Int32) (34 : Int32) ) (c_min hw (16 : Int32) (34 : Int32) ) (w123 hw) (w113 hw) (by decide) (by decide)) (lenOf pd_19 rfl) (Nat.le_of_ble_eq_true rfl) rfl (Nat.le_of_ble_eq_true rfl) (Nat.le_of_ble_eq_true rfl) (fun _ q => nomatch q) (fun v h_10 sf_11 hq => ?_)
  obtain ⟨rfl, rfl⟩ := hq
  refine Go.more (sf' := [r_2]) ?_ (Nat.le_refl _) (Nat.le_refl _) (fun _ q => List.mem_append_right _ q)
  show G_copyof md l Z n0 b vs h0 1 34 [r_2] h_1 28 #[.val (.ref b), .val (.int (34 : Int32)), .val (.ref r_2)] [(.int (if (34 : Int32) < (16 : Int32) then (34 : Int32) else (16 : Int32))), (.int (0 : Int32)), (.ref r_2), (.int (0 : Int32)), (.ref b)]
  rw [show (if (34 : Int32) < (16 : Int32) then (34 : Int32) else (16 : Int32)) = (16 : Int32) from by decide]
  show G_copyof md l Z n0 b vs h0 1 34 [r_2] h_1 28 #[.val (.ref b), .val (.int (34 : Int32)), .val (.ref r_2)] [(.int (16 : Int32)), (.int (0 : Int32)), (.ref r_2), (.int (0 : Int32)), (.ref b)]
  refine Go.acopy (W := 0) 0 0 16 31 d20_28 rfl (w124 hw) (w99 hw) (w97 hw) (w98 hw) f_9 A_8 rfl (by decide) (by decide) (by decide) (by rw [hl]; decide) (by decide) (List.mem_of_getElem? (i := 0) rfl) q_4 rfl (by decide) (Nat.le_of_ble_eq_true rfl) (by decide) (fun h_12 K_13 B_14 => ?_)
  have B_15 : Ary Z h_12 r_2 .byte (vs ++ List.replicate 18 (.int 0)) := by have q_ := B_14; rw [show (vs.drop 0).take 16 = vs from by rw [List.drop_zero, ← hl, List.take_length]] at q_; exact q_
  show G_copyof md l Z n0 b vs h0 1 34 [r_2] h_12 31 #[.val (.ref b), .val (.int (34 : Int32)), .val (.ref r_2)] []
  refine Go.aloadN 32 d20_31 rfl rfl rfl ?_
  have X_16 : Ext h0 h_12 := extK E_5 K_13 (allS (Nat.le_of_eq g_3) all0)
  exact Go.retA d20_32 rfl rfl rfl (sf' := [r_2]) (⟨_, rfl, X_16, (Nat.le_of_eq g_3), q_4, B_15, rfl⟩) (sub1 (List.mem_of_getElem? (i := 0) rfl)) (Nat.le_of_ble_eq_true rfl) (Nat.le_of_ble_eq_true rfl)
abbrev G_ensg (md : Md) (l : Launch) (Z : State) (n0 : Nat) (x b : Addr) (vs : List Value) (kk mn : Int32) (n : Nat) (h0 : Heap) := Go md l Z n0 ({ frames := 3, cells := 1, slots := 34, locals := 48 } : Room) jdk_68_method_9_code 3 none "java/lang/AbstractStringBuilder" "ensureCapacityInternal" (fun v h' sf' => ∃ r, v = none ∧ Keep h0 h' [x] ∧ Exa Z h' x "java/lang/StringBuilder" ∧ h0.size ≤ r ∧ n0 ≤ r ∧ r ≠ x ∧ Fld Z h' x "java/lang/AbstractStringBuilder" "value" "[B" (.ref r) ∧ Fld Z h' x "java/lang/AbstractStringBuilder" "coder" "B" (.int 0) ∧ Fld Z h' x "java/lang/AbstractStringBuilder" "count" "I" (.int kk) ∧ Ary Z h' r .byte (vs ++ List.replicate 18 (.int 0)) ∧ sf' = [r])
theorem ef_ensg (mid : MethodId) (x b : Addr) (vs : List Value) (kk mn : Int32) (n : Nat)  : entryFrame mid #[(.ref x), (.int mn)] 3 = mkF mid 0 #[.val (.ref x), .val (.int mn), .unset] [] := by first | (simp [entryFrame, mkF, argsToLocals, Value.category]; done) | rfl
set_option maxRecDepth 65536 in
set_option maxHeartbeats 40000000 in
theorem c_ensg {l : Launch} {Z : State} {n0 : Nat} {a0 : Array Value} (hw : HW a0 Z) (x b : Addr) (vs : List Value) (kk mn : Int32) (n : Nat) {h0 : Heap} (Ex : Exa Z h0 x "java/lang/StringBuilder") (n0x : n0 ≤ x) (Fb : Fld Z h0 x "java/lang/AbstractStringBuilder" "value" "[B" (.ref b)) (Fc : Fld Z h0 x "java/lang/AbstractStringBuilder" "coder" "B" (.int 0)) (Fn : Fld Z h0 x "java/lang/AbstractStringBuilder" "count" "I" (.int kk)) (A : Ary Z h0 b .byte vs) (n0b : n0 ≤ b) (nbx : b ≠ x) (hl : vs.length = 16) (hn : mn.toInt = (n : Int)) (hn1 : 16 < n) (hn2 : n ≤ 34) : G_ensg (some consts_1) l Z n0 x b vs kk mn n h0 0 0 [x] h0 0 #[.val (.ref x), .val (.int mn), .unset] [] := by
  refine Go.aloadN 1 d13_0 rfl rfl rfl ?_
  refine Go.getF 4 d13_1 rfl (w44 hw) Via.refl Fb ?_
  refine Go.alen 5 (16 : Int32) d13_4 rfl A (by rw [hl]; rfl) ?_
  refine Go.aloadN 6 d13_5 rfl rfl rfl ?_
  refine Go.getF 9 d13_6 rfl (w46 hw) Via.refl Fc ?_
  refine Go.ishr 10 d13_9 rfl ?_
  rw [show ((16 : Int32) >>> ((0 : Int32) &&& 31)) = (16 : Int32) from by decide]
  refine Go.istoreN 11 #[.val (.ref x), .val (.int mn), .val (.int (16 : Int32))] d13_10 rfl rfl ?_
  refine Go.iloadN 12 d13_11 rfl rfl ?_
  refine Go.iloadN 13 d13_12 rfl rfl ?_
  refine Go.isub 14 d13_13 rfl ?_
  refine Go.ifN 17 d13_14 rfl (tlt (growp hn hn1 hn2)).2.2.2 ?_
  refine Go.aloadN 18 d13_17 rfl rfl rfl ?_
  refine Go.aloadN 19 d13_18 rfl rfl rfl ?_
  refine Go.getF 22 d13_19 rfl (w44 hw) Via.refl Fb ?_
  refine Go.aloadN 23 d13_22 rfl rfl rfl ?_
  refine Go.iloadN 24 d13_23 rfl rfl ?_
  refine Go.callQ (S := [(.ref b), (.ref x)]) (a := x) 27 [(.int mn)] d13_24 rfl rfl (w102 hw) (w103 hw) (w105 hw) (w104 hw) (w106 hw) (by decide) Ex (call_of_go (R := _) (len := 3) (W := 2) (plainFor_of_name pn_2) (fun mid => ef_newcap mid x b vs mn n ) (c_newcap hw x b vs mn n Fb Fc A hl hn hn1 hn2) (w106 hw) (w40 hw) (by decide) (by decide)) (lenOf pd_21 rfl) (Nat.le_of_ble_eq_true rfl) rfl (Nat.le_of_ble_eq_true rfl) (Nat.le_of_ble_eq_true rfl) (fun _ q => nomatch q) (fun v h_1 sf_2 hq => ?_)
  obtain ⟨rfl, rfl⟩ := hq
  refine Go.more (sf' := [x]) ?_ (Nat.le_refl _) (Nat.le_refl _) (fun _ q => List.mem_append_right _ q)
  show G_ensg (some consts_1) l Z n0 x b vs kk mn n h0 0 0 [x] h0 27 #[.val (.ref x), .val (.int mn), .val (.int (16 : Int32))] [(.int (34 : Int32)), (.ref b), (.ref x)]
  refine Go.aloadN 28 d13_27 rfl rfl rfl ?_
  refine Go.getF 31 d13_28 rfl (w46 hw) Via.refl Fc ?_
  refine Go.ishl 32 d13_31 rfl ?_
  rw [show ((34 : Int32) <<< ((0 : Int32) &&& 31)) = (34 : Int32) from by decide]
  refine Go.callS (S := [(.ref x)]) 35 [(.ref b), (.int (34 : Int32))] d13_32 rfl rfl (w117 hw) (w118 hw) (w119 hw) (w120 hw) (by decide) (call_of_go (R := _) (len := 3) (W := 1) (plainFor_of_name pn_4) (fun mid => ef_copyof mid b vs ) (c_copyof hw b vs A hl) (w120 hw) (w119 hw) (by decide) (by decide)) (lenOf pd_22 rfl) (Nat.le_of_ble_eq_true rfl) rfl (Nat.le_of_ble_eq_true rfl) (Nat.le_of_ble_eq_true rfl) (fun _ q => nomatch q) (fun v h_3 sf_4 hq => ?_)
  obtain ⟨r, rfl, Xr, le_r, n0r, Ar, rfl⟩ := hq
  have nrx : r ≠ x := Nat.ne_of_gt (Nat.lt_of_lt_of_le Ex.lt le_r)
  show G_ensg (some consts_1) l Z n0 x b vs kk mn n h0 1 34 [r, x] h_3 35 #[.val (.ref x), .val (.int mn), .val (.int (16 : Int32))] [(.ref r), (.ref x)]
  have f_5 := Ex.ext Xr
  have f_6 := Fb.ext Xr
  refine Go.putF 38 (.ref r) d13_35 rfl (w44 hw) Via.refl f_6 f_5 (Or.inl (w45 hw)) (w31 hw) (ty := (.array .byte)) (by decide) rfl rfl (List.mem_of_getElem? (i := 1) rfl) n0x (fun h_7 W_8 => ?_)
  have f_9 := (f_5.wr W_8)
  have f_10 := ((Fc.ext Xr).other W_8 (Or.inr (slot_ne (Or.inl (w47 hw)) (Or.inl (w45 hw)) (by decide) (t := .byte) (t' := (.array .byte)) (by decide) (by decide))))
  have f_11 := ((Fn.ext Xr).other W_8 (Or.inr (slot_ne (Or.inl (w74 hw)) (Or.inl (w45 hw)) (by decide) (t := .int) (t' := (.array .byte)) (by decide) (by decide))))
  have f_12 := (Ar.other W_8 nrx)
  exact Go.ret0 d13_38 rfl (sf' := [r]) (⟨r, rfl, (((Keep.refl h0 [x]).ext Xr).wr W_8 (Or.inl (List.mem_of_getElem? (i := 0) rfl))), f_9, le_r, n0r, nrx, (f_6.same W_8), f_10, f_11, f_12, rfl⟩) (sub1 (List.mem_of_getElem? (i := 0) rfl)) (Nat.le_of_ble_eq_true rfl) (Nat.le_of_ble_eq_true rfl)
abbrev G_getb34 (md : Md) (l : Launch) (Z : State) (n0 : Nat) (y t b : Addr) (z : Int32) (us vs : List Value) (kk : Int32) (k : Nat)  (h0 : Heap) := Go md l Z n0 ({ frames := 1, cells := 0, slots := 0, locals := 18 } : Room) jdk_42_method_147_code 4 none "java/lang/String" "getBytes" (fun v h' _ => v = none ∧ Keep h0 h' [b] ∧ Ary Z h' b .byte (vs.take k ++ us ++ vs.drop (k + us.length)))
theorem ef_getb34 (mid : MethodId) (y t b : Addr) (z : Int32) (us vs : List Value) (kk : Int32) (k : Nat)   : entryFrame mid #[(.ref y), (.ref b), (.int kk), (.int (0 : Int32))] 4 = mkF mid 0 #[.val (.ref y), .val (.ref b), .val (.int kk), .val (.int (0 : Int32))] [] := by first | (simp [entryFrame, mkF, argsToLocals, Value.category]; done) | rfl
set_option maxRecDepth 65536 in
set_option maxHeartbeats 40000000 in
theorem c_getb34 {md : Md} {l : Launch} {Z : State} {n0 : Nat} {a0 : Array Value} (hw : HW a0 Z) (y t b : Addr) (z : Int32) (us vs : List Value) (kk : Int32) (k : Nat)  {h0 : Heap} (Ey : Exa Z h0 y "java/lang/String") (Cy : Fld Z h0 y "java/lang/String" "coder" "B" (.int 0)) (Vy : Fld Z h0 y "java/lang/String" "value" "[B" (.ref t)) (Uy : Ary Z h0 t .byte us) (A : Ary Z h0 b .byte vs) (n0b : n0 ≤ b) (ntb : t ≠ b) (hk : kk.toInt = (k : Int)) (hm : k + us.length ≤ 34) (hl : vs.length = 34) (SC : Sta Z Z.heap "java/lang/String" "COMPACT_STRINGS" "Z" (.int z)) (hz : ¬ z = 0)  : G_getb34 md l Z n0 y t b z us vs kk k h0 0 0 [b] h0 0 #[.val (.ref y), .val (.ref b), .val (.int kk), .val (.int (0 : Int32))] [] := by
  refine Go.aloadN 1 d16_0 rfl rfl rfl ?_
  refine Go.callV (S := []) (a := y) 4 [] d16_1 rfl rfl (w67 hw) (w68 hw) (w70 hw) (w69 hw) (fun _ q => notFace_of_selects (args := #[]) (mvT q (w70 hw))) (by decide) Ey (call_of_go (R := _) (len := 3) (W := 0) (plainFor_of_name pn_0) (fun mid => ef_coder mid y z (0 : Int32) ) (c_coder hw y z (0 : Int32) Cy rfl SC hz) (w71 hw) (w6 hw) (by decide) (by decide)) (lenOf pd_6 rfl) (Nat.le_of_ble_eq_true rfl) rfl (Nat.le_of_ble_eq_true rfl) (Nat.le_of_ble_eq_true rfl) (fun _ q => nomatch q) (fun v h_1 sf_2 hq => ?_)
  obtain ⟨rfl, rfl⟩ := hq
  refine Go.more (sf' := [b]) ?_ (Nat.le_refl _) (Nat.le_refl _) (fun _ q => List.mem_append_right _ q)
  show G_getb34 md l Z n0 y t b z us vs kk k h0 0 0 [b] h0 4 #[.val (.ref y), .val (.ref b), .val (.int kk), .val (.int (0 : Int32))] [(.int (0 : Int32))]
  refine Go.iloadN 5 d16_4 rfl rfl ?_
  refine Go.icmpN 8 d16_5 rfl (teq (by decide)).2 ?_
  refine Go.aloadN 9 d16_8 rfl rfl rfl ?_
  refine Go.getF 12 d16_9 rfl (w24 hw) Via.refl Vy ?_
  refine Go.iconst 13 (0 : Int32) d16_12 rfl rfl ?_
  refine Go.aloadN 14 d16_13 rfl rfl rfl ?_
  refine Go.iloadN 15 d16_14 rfl rfl ?_
  refine Go.iloadN 16 d16_15 rfl rfl ?_
  refine Go.ishl 17 d16_16 rfl ?_
  refine Go.aloadN 18 d16_17 rfl rfl rfl ?_
  refine Go.getF 21 d16_18 rfl (w24 hw) Via.refl Vy ?_
  refine Go.alen 22 (Int32.ofNat us.length) d16_21 rfl Uy rfl ?_
  refine Go.acopy (W := 0) 0 k us.length 25 d16_22 rfl (w96 hw) (w99 hw) (w97 hw) (w98 hw) Uy A rfl (by decide) (shl0 hk) (ofNat_toInt (by omega)) (by omega) (by omega) (List.mem_of_getElem? (i := 0) rfl) n0b rfl (by decide) (Nat.le_of_ble_eq_true rfl) (by decide) (fun h_3 K_4 B_5 => ?_)
  have B_6 : Ary Z h_3 b .byte (vs.take k ++ us ++ vs.drop (k + us.length)) := by have q_ := B_5; rw [show (us.drop 0).take us.length = us from by rw [List.drop_zero, List.take_length]] at q_; exact q_
  show G_getb34 md l Z n0 y t b z us vs kk k h0 0 0 [b] h_3 25 #[.val (.ref y), .val (.ref b), .val (.int kk), .val (.int (0 : Int32))] []
  refine Go.goto 43 d16_25 (by decide) (by decide) ?_
  exact Go.ret0 d16_43 rfl (sf' := []) (⟨rfl, ((Keep.refl h0 [b]).trans K_4 (allS (Or.inl (List.mem_of_getElem? (i := 0) rfl)) all0)), B_6⟩) (fun _ q => nomatch q) (Nat.le_of_ble_eq_true rfl) (Nat.le_of_ble_eq_true rfl)
abbrev G_puts34 (md : Md) (l : Launch) (Z : State) (n0 : Nat) (x y t b : Addr) (z : Int32) (us vs : List Value) (kk : Int32) (k : Nat)  (h0 : Heap) := Go md l Z n0 ({ frames := 2, cells := 0, slots := 0, locals := 33 } : Room) jdk_68_method_73_code 3 none "java/lang/AbstractStringBuilder" "putStringAt" (fun v h' _ => v = none ∧ Keep h0 h' [b] ∧ Ary Z h' b .byte (vs.take k ++ us ++ vs.drop (k + us.length)))
theorem ef_puts34 (mid : MethodId) (x y t b : Addr) (z : Int32) (us vs : List Value) (kk : Int32) (k : Nat)   : entryFrame mid #[(.ref x), (.int kk), (.ref y)] 3 = mkF mid 0 #[.val (.ref x), .val (.int kk), .val (.ref y)] [] := by first | (simp [entryFrame, mkF, argsToLocals, Value.category]; done) | rfl
set_option maxRecDepth 65536 in
set_option maxHeartbeats 40000000 in
theorem c_puts34 {l : Launch} {Z : State} {n0 : Nat} {a0 : Array Value} (hw : HW a0 Z) (x y t b : Addr) (z : Int32) (us vs : List Value) (kk : Int32) (k : Nat)  {h0 : Heap} (Ex : Exa Z h0 x "java/lang/StringBuilder") (n0x : n0 ≤ x) (Fb : Fld Z h0 x "java/lang/AbstractStringBuilder" "value" "[B" (.ref b)) (Fc : Fld Z h0 x "java/lang/AbstractStringBuilder" "coder" "B" (.int 0)) (Fn : Fld Z h0 x "java/lang/AbstractStringBuilder" "count" "I" (.int kk)) (A : Ary Z h0 b .byte vs) (n0b : n0 ≤ b) (nbx : b ≠ x) (Ey : Exa Z h0 y "java/lang/String") (Cy : Fld Z h0 y "java/lang/String" "coder" "B" (.int 0)) (Vy : Fld Z h0 y "java/lang/String" "value" "[B" (.ref t)) (Uy : Ary Z h0 t .byte us) (ntb : t ≠ b) (hk : kk.toInt = (k : Int)) (hm : k + us.length ≤ 34) (hl : vs.length = 34) (SC : Sta Z Z.heap "java/lang/String" "COMPACT_STRINGS" "Z" (.int z)) (hz : ¬ z = 0)  : G_puts34 (some consts_1) l Z n0 x y t b z us vs kk k h0 0 0 [b] h0 0 #[.val (.ref x), .val (.int kk), .val (.ref y)] [] := by
  refine Go.aloadN 1 d14_0 rfl rfl rfl ?_
  refine Go.aloadN 2 d14_1 rfl rfl rfl ?_
  refine Go.callQ (S := []) (a := x) 5 [(.ref y)] d14_2 rfl rfl (w85 hw) (w86 hw) (w88 hw) (w87 hw) (w89 hw) (by decide) Ex (call_of_go (R := _) (len := 3) (W := 0) (plainFor_of_name pn_2) (fun mid => ef_inflate mid x y t z us ) (c_inflate hw x y t z us Fc Ey Cy Vy Uy SC hz) (w89 hw) (w40 hw) (by decide) (by decide)) (lenOf pd_13 rfl) (Nat.le_of_ble_eq_true rfl) rfl (Nat.le_of_ble_eq_true rfl) (Nat.le_of_ble_eq_true rfl) (fun _ q => nomatch q) (fun v h_1 sf_2 hq => ?_)
  obtain ⟨rfl, rfl⟩ := hq
  refine Go.more (sf' := [b]) ?_ (Nat.le_refl _) (Nat.le_refl _) (fun _ q => List.mem_append_right _ q)
  show G_puts34 (some consts_1) l Z n0 x y t b z us vs kk k h0 0 0 [b] h0 5 #[.val (.ref x), .val (.int kk), .val (.ref y)] []
  refine Go.aloadN 6 d14_5 rfl rfl rfl ?_
  refine Go.aloadN 7 d14_6 rfl rfl rfl ?_
  refine Go.getF 10 d14_7 rfl (w44 hw) Via.refl Fb ?_
  refine Go.iloadN 11 d14_10 rfl rfl ?_
  refine Go.aloadN 12 d14_11 rfl rfl rfl ?_
  refine Go.getF 15 d14_12 rfl (w46 hw) Via.refl Fc ?_
  refine Go.callV (S := []) (a := y) 18 [(.ref b), (.int kk), (.int (0 : Int32))] d14_15 rfl rfl (w91 hw) (w92 hw) (w94 hw) (w93 hw) (fun _ q => notFace_of_selects (args := #[]) (mvT q (w94 hw))) (by decide) Ey (call_of_go (R := _) (len := 3) (W := 0) (plainFor_of_name pn_0) (fun mid => ef_getb34 mid y t b z us vs kk k ) (c_getb34 hw y t b z us vs kk k Ey Cy Vy Uy A n0b ntb hk hm hl SC hz) (w95 hw) (w6 hw) (by decide) (by decide)) (lenOf pd_14 rfl) (Nat.le_of_ble_eq_true rfl) rfl (Nat.le_of_ble_eq_true rfl) (Nat.le_of_ble_eq_true rfl) (fun _ q => q) (fun v h_3 sf_4 hq => ?_)
  obtain ⟨rfl, K2, A2⟩ := hq
  refine Go.more (sf' := [b]) ?_ (Nat.le_refl _) (Nat.le_refl _) (fun _ q => List.mem_append_right _ q)
  show G_puts34 (some consts_1) l Z n0 x y t b z us vs kk k h0 0 0 [b] h_3 18 #[.val (.ref x), .val (.int kk), .val (.ref y)] []
  exact Go.ret0 d14_18 rfl (sf' := []) (⟨rfl, K2, A2⟩) (fun _ q => nomatch q) (Nat.le_of_ble_eq_true rfl) (Nat.le_of_ble_eq_true rfl)
abbrev G_asbappg (md : Md) (l : Launch) (Z : State) (n0 : Nat) (x y t b : Addr) (z : Int32) (us vs : List Value) (kk : Int32) (k : Nat)  (h0 : Heap) := Go md l Z n0 ({ frames := 4, cells := 1, slots := 34, locals := 62 } : Room) jdk_68_method_22_code 3 (some (.object "java/lang/AbstractStringBuilder")) "java/lang/AbstractStringBuilder" "append" (fun v h' sf' => ∃ q, v = some (.ref x) ∧ Keep h0 h' [x, b] ∧ Exa Z h' x "java/lang/StringBuilder" ∧ n0 ≤ q ∧ q ≠ x ∧ Fld Z h' x "java/lang/AbstractStringBuilder" "value" "[B" (.ref q) ∧ Fld Z h' x "java/lang/AbstractStringBuilder" "coder" "B" (.int 0) ∧ Fld Z h' x "java/lang/AbstractStringBuilder" "count" "I" (.int (kk + Int32.ofNat us.length)) ∧ Ary Z h' q .byte ((vs ++ List.replicate 18 (Value.int 0)).take k ++ us ++ (vs ++ List.replicate 18 (Value.int 0)).drop (k + us.length)) ∧ sf' = [q] ∧ (q = b ∨ h0.size ≤ q))
theorem ef_asbappg (mid : MethodId) (x y t b : Addr) (z : Int32) (us vs : List Value) (kk : Int32) (k : Nat)   : entryFrame mid #[(.ref x), (.ref y)] 3 = mkF mid 0 #[.val (.ref x), .val (.ref y), .unset] [] := by first | (simp [entryFrame, mkF, argsToLocals, Value.category]; done) | rfl
set_option maxRecDepth 65536 in
set_option maxHeartbeats 40000000 in
theorem c_asbappg {l : Launch} {Z : State} {n0 : Nat} {a0 : Array Value} (hw : HW a0 Z) (x y t b : Addr) (z : Int32) (us vs : List Value) (kk : Int32) (k : Nat)  {h0 : Heap} (Ex : Exa Z h0 x "java/lang/StringBuilder") (n0x : n0 ≤ x) (Fb : Fld Z h0 x "java/lang/AbstractStringBuilder" "value" "[B" (.ref b)) (Fc : Fld Z h0 x "java/lang/AbstractStringBuilder" "coder" "B" (.int 0)) (Fn : Fld Z h0 x "java/lang/AbstractStringBuilder" "count" "I" (.int kk)) (A : Ary Z h0 b .byte vs) (n0b : n0 ≤ b) (nbx : b ≠ x) (Ey : Exa Z h0 y "java/lang/String") (Cy : Fld Z h0 y "java/lang/String" "coder" "B" (.int 0)) (Vy : Fld Z h0 y "java/lang/String" "value" "[B" (.ref t)) (Uy : Ary Z h0 t .byte us) (ntb : t ≠ b) (nyx : y ≠ x) (ntx : t ≠ x) (nyb : y ≠ b) (hk : kk.toInt = (k : Int)) (hm1 : 16 < k + us.length) (hm : k + us.length ≤ 34) (hl : vs.length = 16) (SC : Sta Z Z.heap "java/lang/String" "COMPACT_STRINGS" "Z" (.int z)) (hz : ¬ z = 0)  : G_asbappg (some consts_1) l Z n0 x y t b z us vs kk k h0 0 0 [x, b] h0 0 #[.val (.ref x), .val (.ref y), .unset] [] := by
  refine Go.aloadN 1 d10_0 rfl rfl rfl ?_
  refine Go.nonnullY 9 d10_1 (by decide) (by decide) ?_
  refine Go.aloadN 10 d10_9 rfl rfl rfl ?_
  refine Go.callV (S := []) (a := y) 13 [] d10_10 rfl rfl (w62 hw) (w63 hw) (w65 hw) (w64 hw) (fun _ q => notFace_of_selects (args := #[]) (mvT q (w65 hw))) (by decide) Ey (call_of_go (R := _) (len := 3) (W := 0) (plainFor_of_name pn_0) (fun mid => ef_glen mid y t z (0 : Int32) us ) (c_glen hw y t z (0 : Int32) us Ey Cy Vy Uy rfl SC hz) (w66 hw) (w6 hw) (by decide) (by decide)) (lenOf pd_15 rfl) (Nat.le_of_ble_eq_true rfl) rfl (Nat.le_of_ble_eq_true rfl) (Nat.le_of_ble_eq_true rfl) (fun _ q => nomatch q) (fun v h_1 sf_2 hq => ?_)
  obtain ⟨rfl, rfl⟩ := hq
  rw [shr0 (Int32.ofNat us.length)]
  refine Go.more (sf' := [x, b]) ?_ (Nat.le_refl _) (Nat.le_refl _) (fun _ q => List.mem_append_right _ q)
  show G_asbappg (some consts_1) l Z n0 x y t b z us vs kk k h0 0 0 [x, b] h0 13 #[.val (.ref x), .val (.ref y), .unset] [(.int (Int32.ofNat us.length))]
  refine Go.istoreN 14 #[.val (.ref x), .val (.ref y), .val (.int (Int32.ofNat us.length))] d10_13 rfl rfl ?_
  refine Go.aloadN 15 d10_14 rfl rfl rfl ?_
  refine Go.aloadN 16 d10_15 rfl rfl rfl ?_
  refine Go.getF 19 d10_16 rfl (w73 hw) Via.refl Fn ?_
  refine Go.iloadN 20 d10_19 rfl rfl ?_
  refine Go.iadd 21 d10_20 rfl ?_
  refine Go.callQ (S := []) (a := x) 24 [(.int (kk + (Int32.ofNat us.length)))] d10_21 rfl rfl (w75 hw) (w76 hw) (w78 hw) (w77 hw) (w79 hw) (by decide) Ex (call_of_go (R := _) (len := 3) (W := 0) (plainFor_of_name pn_2) (fun mid => ef_ensg mid x b vs kk (kk + (Int32.ofNat us.length)) (k + us.length) ) (c_ensg hw x b vs kk (kk + (Int32.ofNat us.length)) (k + us.length) Ex n0x Fb Fc Fn A n0b nbx hl (add_nat hk (ofNat_toInt (n := us.length) (by omega)) (by omega)) hm1 hm) (w79 hw) (w40 hw) (by decide) (by decide)) (lenOf pd_7 rfl) (Nat.le_of_ble_eq_true rfl) rfl (Nat.le_of_ble_eq_true rfl) (Nat.le_of_ble_eq_true rfl) (sub1 (List.mem_of_getElem? (i := 0) rfl)) (fun v h_3 sf_4 hq => ?_)
  obtain ⟨r, rfl, Kr, Er, le_r, n0r, nrx, Fbr, Fcr, Fnr, Ar, rfl⟩ := hq
  have ntr : t ≠ r := Nat.ne_of_lt (Nat.lt_of_lt_of_le Uy.lt le_r)
  have nyr : y ≠ r := Nat.ne_of_lt (Nat.lt_of_lt_of_le Ey.lt le_r)
  show G_asbappg (some consts_1) l Z n0 x y t b z us vs kk k h0 1 34 [r, x, b] h_3 24 #[.val (.ref x), .val (.ref y), .val (.int (Int32.ofNat us.length))] []
  refine Go.aloadN 25 d10_24 rfl rfl rfl ?_
  refine Go.aloadN 26 d10_25 rfl rfl rfl ?_
  refine Go.getF 29 d10_26 rfl (w73 hw) Via.refl Fnr ?_
  refine Go.aloadN 30 d10_29 rfl rfl rfl ?_
  have f_5 := (Ey.keep Kr)
  have f_6 := (Cy.keep Kr (ninS nyx nin0))
  have f_7 := (Vy.keep Kr (ninS nyx nin0))
  have f_8 := (Ary.keep Kr Uy (ninS ntx nin0))
  refine Go.callQ (S := []) (a := x) 33 [(.int kk), (.ref y)] d10_30 rfl rfl (w80 hw) (w81 hw) (w83 hw) (w82 hw) (w84 hw) (by decide) Er (call_of_go (R := _) (len := 3) (W := 0) (plainFor_of_name pn_2) (fun mid => ef_puts34 mid x y t r z us (vs ++ List.replicate 18 (Value.int 0)) kk k ) (c_puts34 hw x y t r z us (vs ++ List.replicate 18 (Value.int 0)) kk k Er n0x Fbr Fcr Fnr Ar n0r nrx f_5 f_6 f_7 f_8 ntr hk hm (by rw [List.length_append, hl]; rfl) SC hz) (w84 hw) (w40 hw) (by decide) (by decide)) (lenOf pd_16 rfl) (Nat.le_of_ble_eq_true rfl) rfl (Nat.le_of_ble_eq_true rfl) (Nat.le_of_ble_eq_true rfl) (sub1 (List.mem_of_getElem? (i := 0) rfl)) (fun v h_9 sf_10 hq => ?_)
  obtain ⟨rfl, Kp, Ap⟩ := hq
  refine Go.more (sf' := [r, x, b]) ?_ (Nat.le_refl _) (Nat.le_refl _) (fun _ q => List.mem_append_right _ q)
  show G_asbappg (some consts_1) l Z n0 x y t b z us vs kk k h0 1 34 [r, x, b] h_9 33 #[.val (.ref x), .val (.ref y), .val (.int (Int32.ofNat us.length))] []
  refine Go.aloadN 34 d10_33 rfl rfl rfl ?_
  refine Go.dup 35 d10_34 rfl rfl ?_
  have f_11 := (Fnr.keep Kp (ninS (Ne.symm nrx) nin0))
  refine Go.getF 38 d10_35 rfl (w73 hw) Via.refl f_11 ?_
  refine Go.iloadN 39 d10_38 rfl rfl ?_
  refine Go.iadd 40 d10_39 rfl ?_
  have f_12 := (Er.keep Kp)
  refine Go.putF 43 (.int (kk + (Int32.ofNat us.length))) d10_40 rfl (w73 hw) Via.refl f_11 f_12 (Or.inl (w74 hw)) (w31 hw) (ty := .int) (by decide) rfl rfl (List.mem_of_getElem? (i := 1) rfl) n0x (fun h_13 W_14 => ?_)
  refine Go.aloadN 44 d10_43 rfl rfl rfl ?_
  have f_15 := (f_12.wr W_14)
  have f_16 := ((Fbr.keep Kp (ninS (Ne.symm nrx) nin0)).other W_14 (Or.inr (slot_ne (Or.inl (w45 hw)) (Or.inl (w74 hw)) (by decide) (t := (.array .byte)) (t' := .int) (by decide) (by decide))))
  have f_17 := ((Fcr.keep Kp (ninS (Ne.symm nrx) nin0)).other W_14 (Or.inr (slot_ne (Or.inl (w47 hw)) (Or.inl (w74 hw)) (by decide) (t := .byte) (t' := .int) (by decide) (by decide))))
  have f_18 := (Ap.other W_14 nrx)
  exact Go.retA d10_44 rfl rfl rfl (sf' := [r]) (⟨r, rfl, ((((Keep.refl h0 [x, b]).trans Kr (allS (Or.inl (List.mem_of_getElem? (i := 0) rfl)) all0)).trans Kp (allS (Or.inr le_r) all0)).wr W_14 (Or.inl (List.mem_of_getElem? (i := 0) rfl))), f_15, n0r, nrx, f_16, f_17, (f_11.same W_14), f_18, rfl, Or.inr le_r⟩) (sub1 (List.mem_of_getElem? (i := 0) rfl)) (Nat.le_of_ble_eq_true rfl) (Nat.le_of_ble_eq_true rfl)
abbrev G_sbappg (md : Md) (l : Launch) (Z : State) (n0 : Nat) (x y t b : Addr) (z : Int32) (us vs : List Value) (kk : Int32) (k : Nat)  (h0 : Heap) := Go md l Z n0 ({ frames := 5, cells := 1, slots := 34, locals := 76 } : Room) jdk_67_method_7_code 2 (some (.object "java/lang/StringBuilder")) "java/lang/StringBuilder" "append" (fun v h' sf' => ∃ q, v = some (.ref x) ∧ Keep h0 h' [x, b] ∧ Exa Z h' x "java/lang/StringBuilder" ∧ n0 ≤ q ∧ q ≠ x ∧ Fld Z h' x "java/lang/AbstractStringBuilder" "value" "[B" (.ref q) ∧ Fld Z h' x "java/lang/AbstractStringBuilder" "coder" "B" (.int 0) ∧ Fld Z h' x "java/lang/AbstractStringBuilder" "count" "I" (.int (kk + Int32.ofNat us.length)) ∧ Ary Z h' q .byte ((vs ++ List.replicate 18 (Value.int 0)).take k ++ us ++ (vs ++ List.replicate 18 (Value.int 0)).drop (k + us.length)) ∧ sf' = [q] ∧ (q = b ∨ h0.size ≤ q))
theorem ef_sbappg (mid : MethodId) (x y t b : Addr) (z : Int32) (us vs : List Value) (kk : Int32) (k : Nat)   : entryFrame mid #[(.ref x), (.ref y)] 2 = mkF mid 0 #[.val (.ref x), .val (.ref y)] [] := by first | (simp [entryFrame, mkF, argsToLocals, Value.category]; done) | rfl
set_option maxRecDepth 65536 in
set_option maxHeartbeats 40000000 in
theorem c_sbappg {l : Launch} {Z : State} {n0 : Nat} {a0 : Array Value} (hw : HW a0 Z) (x y t b : Addr) (z : Int32) (us vs : List Value) (kk : Int32) (k : Nat)  {h0 : Heap} (Ex : Exa Z h0 x "java/lang/StringBuilder") (n0x : n0 ≤ x) (Fb : Fld Z h0 x "java/lang/AbstractStringBuilder" "value" "[B" (.ref b)) (Fc : Fld Z h0 x "java/lang/AbstractStringBuilder" "coder" "B" (.int 0)) (Fn : Fld Z h0 x "java/lang/AbstractStringBuilder" "count" "I" (.int kk)) (A : Ary Z h0 b .byte vs) (n0b : n0 ≤ b) (nbx : b ≠ x) (Ey : Exa Z h0 y "java/lang/String") (Cy : Fld Z h0 y "java/lang/String" "coder" "B" (.int 0)) (Vy : Fld Z h0 y "java/lang/String" "value" "[B" (.ref t)) (Uy : Ary Z h0 t .byte us) (ntb : t ≠ b) (nyx : y ≠ x) (ntx : t ≠ x) (nyb : y ≠ b) (hk : kk.toInt = (k : Int)) (hm1 : 16 < k + us.length) (hm : k + us.length ≤ 34) (hl : vs.length = 16) (SC : Sta Z Z.heap "java/lang/String" "COMPACT_STRINGS" "Z" (.int z)) (hz : ¬ z = 0)  : G_sbappg (some consts_1) l Z n0 x y t b z us vs kk k h0 0 0 [x, b] h0 0 #[.val (.ref x), .val (.ref y)] [] := by
  refine Go.aloadN 1 d9_0 rfl rfl rfl ?_
  refine Go.aloadN 2 d9_1 rfl rfl rfl ?_
  refine Go.callSup (S := []) (a := x) 5 [(.ref y)] d9_2 rfl rfl (w57 hw) (w58 hw) (w78 hw) rfl (w59 hw) (by decide) (w61 hw) (by decide) Ex (call_of_go (R := _) (len := 3) (W := 0) (plainFor_of_name pn_2) (fun mid => ef_asbappg mid x y t b z us vs kk k ) (c_asbappg hw x y t b z us vs kk k Ex n0x Fb Fc Fn A n0b nbx Ey Cy Vy Uy ntb nyx ntx nyb hk hm1 hm hl SC hz) (w61 hw) (w40 hw) (by decide) (by decide)) (lenOf pd_17 rfl) (Nat.le_of_ble_eq_true rfl) rfl (Nat.le_of_ble_eq_true rfl) (Nat.le_of_ble_eq_true rfl) (fun _ q => q) (fun v h_1 sf_2 hq => ?_)
  obtain ⟨q, rfl, Kq, Eq, n0q, nqx, Fbq, Fcq, Fnq, Aq, rfl, dq⟩ := hq
  show G_sbappg (some consts_1) l Z n0 x y t b z us vs kk k h0 1 34 [q, x, b] h_1 5 #[.val (.ref x), .val (.ref y)] [(.ref x)]
  refine Go.pop 6 d9_5 rfl rfl ?_
  refine Go.aloadN 7 d9_6 rfl rfl rfl ?_
  exact Go.retA d9_7 rfl rfl rfl (sf' := [q]) (⟨q, rfl, Kq, Eq, n0q, nqx, Fbq, Fcq, Fnq, Aq, rfl, dq⟩) (sub1 (List.mem_of_getElem? (i := 0) rfl)) (Nat.le_of_ble_eq_true rfl) (Nat.le_of_ble_eq_true rfl)
abbrev G_enss34 (md : Md) (l : Launch) (Z : State) (n0 : Nat) (x b : Addr) (vs : List Value) (mn : Int32) (n : Nat) (h0 : Heap) := Go md l Z n0 ({ frames := 0, cells := 0, slots := 0, locals := 0 } : Room) jdk_68_method_9_code 3 none "java/lang/AbstractStringBuilder" "ensureCapacityInternal" (fun v h' _ => h0 = h' ∧ v = none)
theorem ef_enss34 (mid : MethodId) (x b : Addr) (vs : List Value) (mn : Int32) (n : Nat)  : entryFrame mid #[(.ref x), (.int mn)] 3 = mkF mid 0 #[.val (.ref x), .val (.int mn), .unset] [] := by first | (simp [entryFrame, mkF, argsToLocals, Value.category]; done) | rfl
set_option maxRecDepth 65536 in
set_option maxHeartbeats 40000000 in
theorem c_enss34 {md : Md} {l : Launch} {Z : State} {n0 : Nat} {a0 : Array Value} (hw : HW a0 Z) (x b : Addr) (vs : List Value) (mn : Int32) (n : Nat) {h0 : Heap} (Fb : Fld Z h0 x "java/lang/AbstractStringBuilder" "value" "[B" (.ref b)) (Fc : Fld Z h0 x "java/lang/AbstractStringBuilder" "coder" "B" (.int 0)) (A : Ary Z h0 b .byte vs) (hl : vs.length = 34) (hn : mn.toInt = (n : Int)) (hn2 : n ≤ 34) : G_enss34 md l Z n0 x b vs mn n h0 0 0 [] h0 0 #[.val (.ref x), .val (.int mn), .unset] [] := by
  refine Go.aloadN 1 d13_0 rfl rfl rfl ?_
  refine Go.getF 4 d13_1 rfl (w44 hw) Via.refl Fb ?_
  refine Go.alen 5 (34 : Int32) d13_4 rfl A (by rw [hl]; rfl) ?_
  refine Go.aloadN 6 d13_5 rfl rfl rfl ?_
  refine Go.getF 9 d13_6 rfl (w46 hw) Via.refl Fc ?_
  refine Go.ishr 10 d13_9 rfl ?_
  rw [show ((34 : Int32) >>> ((0 : Int32) &&& 31)) = (34 : Int32) from by decide]
  refine Go.istoreN 11 #[.val (.ref x), .val (.int mn), .val (.int (34 : Int32))] d13_10 rfl rfl ?_
  refine Go.iloadN 12 d13_11 rfl rfl ?_
  refine Go.iloadN 13 d13_12 rfl rfl ?_
  refine Go.isub 14 d13_13 rfl ?_
  refine Go.ifY 38 d13_14 (by decide) (by decide) (flt (stay34 hn hn2)).2.2.2 ?_
  exact Go.ret0 d13_38 rfl (sf' := []) (⟨rfl, rfl⟩) (fun _ q => nomatch q) (Nat.le_of_ble_eq_true rfl) (Nat.le_of_ble_eq_true rfl)
abbrev G_asbapp34 (md : Md) (l : Launch) (Z : State) (n0 : Nat) (x y t b : Addr) (z : Int32) (us vs : List Value) (kk : Int32) (k : Nat)  (h0 : Heap) := Go md l Z n0 ({ frames := 3, cells := 0, slots := 0, locals := 47 } : Room) jdk_68_method_22_code 3 (some (.object "java/lang/AbstractStringBuilder")) "java/lang/AbstractStringBuilder" "append" (fun v h' sf' => ∃ q, v = some (.ref x) ∧ Keep h0 h' [x, b] ∧ Exa Z h' x "java/lang/StringBuilder" ∧ n0 ≤ q ∧ q ≠ x ∧ Fld Z h' x "java/lang/AbstractStringBuilder" "value" "[B" (.ref q) ∧ Fld Z h' x "java/lang/AbstractStringBuilder" "coder" "B" (.int 0) ∧ Fld Z h' x "java/lang/AbstractStringBuilder" "count" "I" (.int (kk + Int32.ofNat us.length)) ∧ Ary Z h' q .byte (vs.take k ++ us ++ vs.drop (k + us.length)) ∧ sf' = [q] ∧ (q = b ∨ h0.size ≤ q))
theorem ef_asbapp34 (mid : MethodId) (x y t b : Addr) (z : Int32) (us vs : List Value) (kk : Int32) (k : Nat)   : entryFrame mid #[(.ref x), (.ref y)] 3 = mkF mid 0 #[.val (.ref x), .val (.ref y), .unset] [] := by first | (simp [entryFrame, mkF, argsToLocals, Value.category]; done) | rfl
set_option maxRecDepth 65536 in
set_option maxHeartbeats 40000000 in
theorem c_asbapp34 {l : Launch} {Z : State} {n0 : Nat} {a0 : Array Value} (hw : HW a0 Z) (x y t b : Addr) (z : Int32) (us vs : List Value) (kk : Int32) (k : Nat)  {h0 : Heap} (Ex : Exa Z h0 x "java/lang/StringBuilder") (n0x : n0 ≤ x) (Fb : Fld Z h0 x "java/lang/AbstractStringBuilder" "value" "[B" (.ref b)) (Fc : Fld Z h0 x "java/lang/AbstractStringBuilder" "coder" "B" (.int 0)) (Fn : Fld Z h0 x "java/lang/AbstractStringBuilder" "count" "I" (.int kk)) (A : Ary Z h0 b .byte vs) (n0b : n0 ≤ b) (nbx : b ≠ x) (Ey : Exa Z h0 y "java/lang/String") (Cy : Fld Z h0 y "java/lang/String" "coder" "B" (.int 0)) (Vy : Fld Z h0 y "java/lang/String" "value" "[B" (.ref t)) (Uy : Ary Z h0 t .byte us) (ntb : t ≠ b) (nyx : y ≠ x) (ntx : t ≠ x) (nyb : y ≠ b) (hk : kk.toInt = (k : Int)) (hm : k + us.length ≤ 34) (hl : vs.length = 34) (SC : Sta Z Z.heap "java/lang/String" "COMPACT_STRINGS" "Z" (.int z)) (hz : ¬ z = 0)  : G_asbapp34 (some consts_1) l Z n0 x y t b z us vs kk k h0 0 0 [x, b] h0 0 #[.val (.ref x), .val (.ref y), .unset] [] := by
  refine Go.aloadN 1 d10_0 rfl rfl rfl ?_
  refine Go.nonnullY 9 d10_1 (by decide) (by decide) ?_
  refine Go.aloadN 10 d10_9 rfl rfl rfl ?_
  refine Go.callV (S := []) (a := y) 13 [] d10_10 rfl rfl (w62 hw) (w63 hw) (w65 hw) (w64 hw) (fun _ q => notFace_of_selects (args := #[]) (mvT q (w65 hw))) (by decide) Ey (call_of_go (R := _) (len := 3) (W := 0) (plainFor_of_name pn_0) (fun mid => ef_glen mid y t z (0 : Int32) us ) (c_glen hw y t z (0 : Int32) us Ey Cy Vy Uy rfl SC hz) (w66 hw) (w6 hw) (by decide) (by decide)) (lenOf pd_15 rfl) (Nat.le_of_ble_eq_true rfl) rfl (Nat.le_of_ble_eq_true rfl) (Nat.le_of_ble_eq_true rfl) (fun _ q => nomatch q) (fun v h_1 sf_2 hq => ?_)
  obtain ⟨rfl, rfl⟩ := hq
  rw [shr0 (Int32.ofNat us.length)]
  refine Go.more (sf' := [x, b]) ?_ (Nat.le_refl _) (Nat.le_refl _) (fun _ q => List.mem_append_right _ q)
  show G_asbapp34 (some consts_1) l Z n0 x y t b z us vs kk k h0 0 0 [x, b] h0 13 #[.val (.ref x), .val (.ref y), .unset] [(.int (Int32.ofNat us.length))]
  refine Go.istoreN 14 #[.val (.ref x), .val (.ref y), .val (.int (Int32.ofNat us.length))] d10_13 rfl rfl ?_
  refine Go.aloadN 15 d10_14 rfl rfl rfl ?_
  refine Go.aloadN 16 d10_15 rfl rfl rfl ?_
  refine Go.getF 19 d10_16 rfl (w73 hw) Via.refl Fn ?_
  refine Go.iloadN 20 d10_19 rfl rfl ?_
  refine Go.iadd 21 d10_20 rfl ?_
  refine Go.callQ (S := []) (a := x) 24 [(.int (kk + (Int32.ofNat us.length)))] d10_21 rfl rfl (w75 hw) (w76 hw) (w78 hw) (w77 hw) (w79 hw) (by decide) Ex (call_of_go (R := _) (len := 3) (W := 0) (plainFor_of_name pn_2) (fun mid => ef_enss34 mid x b vs (kk + (Int32.ofNat us.length)) (k + us.length) ) (c_enss34 hw x b vs (kk + (Int32.ofNat us.length)) (k + us.length) Fb Fc A hl (add_nat hk (ofNat_toInt (n := us.length) (by omega)) (by omega)) hm) (w79 hw) (w40 hw) (by decide) (by decide)) (lenOf pd_7 rfl) (Nat.le_of_ble_eq_true rfl) rfl (Nat.le_of_ble_eq_true rfl) (Nat.le_of_ble_eq_true rfl) (fun _ q => nomatch q) (fun v h_3 sf_4 hq => ?_)
  obtain ⟨rfl, rfl⟩ := hq
  refine Go.more (sf' := [x, b]) ?_ (Nat.le_refl _) (Nat.le_refl _) (fun _ q => List.mem_append_right _ q)
  show G_asbapp34 (some consts_1) l Z n0 x y t b z us vs kk k h0 0 0 [x, b] h0 24 #[.val (.ref x), .val (.ref y), .val (.int (Int32.ofNat us.length))] []
  refine Go.aloadN 25 d10_24 rfl rfl rfl ?_
  refine Go.aloadN 26 d10_25 rfl rfl rfl ?_
  refine Go.getF 29 d10_26 rfl (w73 hw) Via.refl Fn ?_
  refine Go.aloadN 30 d10_29 rfl rfl rfl ?_
  refine Go.callQ (S := []) (a := x) 33 [(.int kk), (.ref y)] d10_30 rfl rfl (w80 hw) (w81 hw) (w83 hw) (w82 hw) (w84 hw) (by decide) Ex (call_of_go (R := _) (len := 3) (W := 0) (plainFor_of_name pn_2) (fun mid => ef_puts34 mid x y t b z us vs kk k ) (c_puts34 hw x y t b z us vs kk k Ex n0x Fb Fc Fn A n0b nbx Ey Cy Vy Uy ntb hk hm hl SC hz) (w84 hw) (w40 hw) (by decide) (by decide)) (lenOf pd_16 rfl) (Nat.le_of_ble_eq_true rfl) rfl (Nat.le_of_ble_eq_true rfl) (Nat.le_of_ble_eq_true rfl) (sub1 (List.mem_of_getElem? (i := 1) rfl)) (fun v h_5 sf_6 hq => ?_)
  obtain ⟨rfl, Kp, Ap⟩ := hq
  refine Go.more (sf' := [x, b]) ?_ (Nat.le_refl _) (Nat.le_refl _) (fun _ q => List.mem_append_right _ q)
  show G_asbapp34 (some consts_1) l Z n0 x y t b z us vs kk k h0 0 0 [x, b] h_5 33 #[.val (.ref x), .val (.ref y), .val (.int (Int32.ofNat us.length))] []
  refine Go.aloadN 34 d10_33 rfl rfl rfl ?_
  refine Go.dup 35 d10_34 rfl rfl ?_
  have f_7 := (Fn.keep Kp (ninS (Ne.symm nbx) nin0))
  refine Go.getF 38 d10_35 rfl (w73 hw) Via.refl f_7 ?_
  refine Go.iloadN 39 d10_38 rfl rfl ?_
  refine Go.iadd 40 d10_39 rfl ?_
  have f_8 := (Ex.keep Kp)
  refine Go.putF 43 (.int (kk + (Int32.ofNat us.length))) d10_40 rfl (w73 hw) Via.refl f_7 f_8 (Or.inl (w74 hw)) (w31 hw) (ty := .int) (by decide) rfl rfl (List.mem_of_getElem? (i := 0) rfl) n0x (fun h_9 W_10 => ?_)
  refine Go.aloadN 44 d10_43 rfl rfl rfl ?_
  have f_11 := (f_8.wr W_10)
  have f_12 := ((Fb.keep Kp (ninS (Ne.symm nbx) nin0)).other W_10 (Or.inr (slot_ne (Or.inl (w45 hw)) (Or.inl (w74 hw)) (by decide) (t := (.array .byte)) (t' := .int) (by decide) (by decide))))
  have f_13 := ((Fc.keep Kp (ninS (Ne.symm nbx) nin0)).other W_10 (Or.inr (slot_ne (Or.inl (w47 hw)) (Or.inl (w74 hw)) (by decide) (t := .byte) (t' := .int) (by decide) (by decide))))
  have f_14 := (Ap.other W_10 nbx)
  exact Go.retA d10_44 rfl rfl rfl (sf' := [b]) (⟨b, rfl, (((Keep.refl h0 [x, b]).trans Kp (allS (Or.inl (List.mem_of_getElem? (i := 1) rfl)) all0)).wr W_10 (Or.inl (List.mem_of_getElem? (i := 0) rfl))), f_11, n0b, nbx, f_12, f_13, (f_7.same W_10), f_14, rfl, Or.inl rfl⟩) (sub1 (List.mem_of_getElem? (i := 1) rfl)) (Nat.le_of_ble_eq_true rfl) (Nat.le_of_ble_eq_true rfl)
abbrev G_sbapp34 (md : Md) (l : Launch) (Z : State) (n0 : Nat) (x y t b : Addr) (z : Int32) (us vs : List Value) (kk : Int32) (k : Nat)  (h0 : Heap) := Go md l Z n0 ({ frames := 4, cells := 0, slots := 0, locals := 61 } : Room) jdk_67_method_7_code 2 (some (.object "java/lang/StringBuilder")) "java/lang/StringBuilder" "append" (fun v h' sf' => ∃ q, v = some (.ref x) ∧ Keep h0 h' [x, b] ∧ Exa Z h' x "java/lang/StringBuilder" ∧ n0 ≤ q ∧ q ≠ x ∧ Fld Z h' x "java/lang/AbstractStringBuilder" "value" "[B" (.ref q) ∧ Fld Z h' x "java/lang/AbstractStringBuilder" "coder" "B" (.int 0) ∧ Fld Z h' x "java/lang/AbstractStringBuilder" "count" "I" (.int (kk + Int32.ofNat us.length)) ∧ Ary Z h' q .byte (vs.take k ++ us ++ vs.drop (k + us.length)) ∧ sf' = [q] ∧ (q = b ∨ h0.size ≤ q))
theorem ef_sbapp34 (mid : MethodId) (x y t b : Addr) (z : Int32) (us vs : List Value) (kk : Int32) (k : Nat)   : entryFrame mid #[(.ref x), (.ref y)] 2 = mkF mid 0 #[.val (.ref x), .val (.ref y)] [] := by first | (simp [entryFrame, mkF, argsToLocals, Value.category]; done) | rfl
set_option maxRecDepth 65536 in
set_option maxHeartbeats 40000000 in
theorem c_sbapp34 {l : Launch} {Z : State} {n0 : Nat} {a0 : Array Value} (hw : HW a0 Z) (x y t b : Addr) (z : Int32) (us vs : List Value) (kk : Int32) (k : Nat)  {h0 : Heap} (Ex : Exa Z h0 x "java/lang/StringBuilder") (n0x : n0 ≤ x) (Fb : Fld Z h0 x "java/lang/AbstractStringBuilder" "value" "[B" (.ref b)) (Fc : Fld Z h0 x "java/lang/AbstractStringBuilder" "coder" "B" (.int 0)) (Fn : Fld Z h0 x "java/lang/AbstractStringBuilder" "count" "I" (.int kk)) (A : Ary Z h0 b .byte vs) (n0b : n0 ≤ b) (nbx : b ≠ x) (Ey : Exa Z h0 y "java/lang/String") (Cy : Fld Z h0 y "java/lang/String" "coder" "B" (.int 0)) (Vy : Fld Z h0 y "java/lang/String" "value" "[B" (.ref t)) (Uy : Ary Z h0 t .byte us) (ntb : t ≠ b) (nyx : y ≠ x) (ntx : t ≠ x) (nyb : y ≠ b) (hk : kk.toInt = (k : Int)) (hm : k + us.length ≤ 34) (hl : vs.length = 34) (SC : Sta Z Z.heap "java/lang/String" "COMPACT_STRINGS" "Z" (.int z)) (hz : ¬ z = 0)  : G_sbapp34 (some consts_1) l Z n0 x y t b z us vs kk k h0 0 0 [x, b] h0 0 #[.val (.ref x), .val (.ref y)] [] := by
  refine Go.aloadN 1 d9_0 rfl rfl rfl ?_
  refine Go.aloadN 2 d9_1 rfl rfl rfl ?_
  refine Go.callSup (S := []) (a := x) 5 [(.ref y)] d9_2 rfl rfl (w57 hw) (w58 hw) (w78 hw) rfl (w59 hw) (by decide) (w61 hw) (by decide) Ex (call_of_go (R := _) (len := 3) (W := 0) (plainFor_of_name pn_2) (fun mid => ef_asbapp34 mid x y t b z us vs kk k ) (c_asbapp34 hw x y t b z us vs kk k Ex n0x Fb Fc Fn A n0b nbx Ey Cy Vy Uy ntb nyx ntx nyb hk hm hl SC hz) (w61 hw) (w40 hw) (by decide) (by decide)) (lenOf pd_17 rfl) (Nat.le_of_ble_eq_true rfl) rfl (Nat.le_of_ble_eq_true rfl) (Nat.le_of_ble_eq_true rfl) (fun _ q => q) (fun v h_1 sf_2 hq => ?_)
  obtain ⟨q, rfl, Kq, Eq, n0q, nqx, Fbq, Fcq, Fnq, Aq, rfl, dq⟩ := hq
  show G_sbapp34 (some consts_1) l Z n0 x y t b z us vs kk k h0 0 0 [q, x, b] h_1 5 #[.val (.ref x), .val (.ref y)] [(.ref x)]
  refine Go.pop 6 d9_5 rfl rfl ?_
  refine Go.aloadN 7 d9_6 rfl rfl rfl ?_
  exact Go.retA d9_7 rfl rfl rfl (sf' := [q]) (⟨q, rfl, Kq, Eq, n0q, nqx, Fbq, Fcq, Fnq, Aq, rfl, dq⟩) (sub1 (List.mem_of_getElem? (i := 0) rfl)) (Nat.le_of_ble_eq_true rfl) (Nat.le_of_ble_eq_true rfl)
abbrev G_checklen (md : Md) (l : Launch) (Z : State) (n0 : Nat) (p q : Int32) (h0 : Heap) := Go md l Z n0 ({ frames := 0, cells := 0, slots := 0, locals := 0 } : Room) jdk_65_method_131_code 2 none "java/util/Arrays" "checkLength" (fun v h' _ => h0 = h' ∧ v = none)
theorem ef_checklen (mid : MethodId) (p q : Int32)  : entryFrame mid #[(.int p), (.int q)] 2 = mkF mid 0 #[.val (.int p), .val (.int q)] [] := by first | (simp [entryFrame, mkF, argsToLocals, Value.category]; done) | rfl
set_option maxRecDepth 65536 in
set_option maxHeartbeats 40000000 in
theorem c_checklen {md : Md} {l : Launch} {Z : State} {n0 : Nat} {a0 : Array Value} (hw : HW a0 Z) (p q : Int32) {h0 : Heap} (hle : ¬ q < p) : G_checklen md l Z n0 p q h0 0 0 [] h0 0 #[.val (.int p), .val (.int q)] [] := by
  refine Go.iloadN 1 d31_0 rfl rfl ?_
  refine Go.iloadN 2 d31_1 rfl rfl ?_
  refine Go.icmpY 37 d31_2 (by decide) (by decide) (flt hle).2.1 ?_
  exact Go.ret0 d31_37 rfl (sf' := []) (⟨rfl, rfl⟩) (fun _ q => nomatch q) (Nat.le_of_ble_eq_true rfl) (Nat.le_of_ble_eq_true rfl)
abbrev G_corb (md : Md) (l : Launch) (Z : State) (n0 : Nat) (b : Addr) (vs : List Value) (kk : Int32) (k : Nat) (h0 : Heap) := Go md l Z n0 ({ frames := 1, cells := 1, slots := 34, locals := 18 } : Room) jdk_65_method_133_code 5 (some (.array .byte)) "java/util/Arrays" "copyOfRangeByte" (fun v h' _ => ∃ r, v = some (.ref r) ∧ Ext h0 h' ∧ h0.size ≤ r ∧ Ary Z h' r .byte (vs.take k) ∧ Exa Z h' r "[B")
theorem ef_corb (mid : MethodId) (b : Addr) (vs : List Value) (kk : Int32) (k : Nat)  : entryFrame mid #[(.ref b), (.int (0 : Int32)), (.int kk)] 5 = mkF mid 0 #[.val (.ref b), .val (.int (0 : Int32)), .val (.int kk), .unset, .unset] [] := by first | (simp [entryFrame, mkF, argsToLocals, Value.category]; done) | rfl
set_option maxRecDepth 65536 in
set_option maxHeartbeats 40000000 in
theorem c_corb {md : Md} {l : Launch} {Z : State} {n0 : Nat} {a0 : Array Value} (hw : HW a0 Z) (b : Addr) (vs : List Value) (kk : Int32) (k : Nat) {h0 : Heap} (A : Ary Z h0 b .byte vs) (hl : vs.length = 34) (hk : kk.toInt = (k : Int)) (hlt : k < 34)  : G_corb md l Z n0 b vs kk k h0 0 0 [] h0 0 #[.val (.ref b), .val (.int (0 : Int32)), .val (.int kk), .unset, .unset] [] := by
  refine Go.iloadN 1 d30_0 rfl rfl ?_
  refine Go.iloadN 2 d30_1 rfl rfl ?_
  refine Go.callS (S := []) 5 [(.int (0 : Int32)), (.int kk)] d30_2 rfl rfl (w162 hw) (w163 hw) (w119 hw) (w164 hw) (by decide) (call_of_go (R := _) (len := 3) (W := 0) (plainFor_of_name pn_4) (fun mid => ef_checklen mid (0 : Int32) kk ) (c_checklen hw (0 : Int32) kk (knn hk)) (w164 hw) (w119 hw) (by decide) (by decide)) (lenOf pd_23 rfl) (Nat.le_of_ble_eq_true rfl) rfl (Nat.le_of_ble_eq_true rfl) (Nat.le_of_ble_eq_true rfl) (fun _ q => nomatch q) (fun v h_1 sf_2 hq => ?_)
  obtain ⟨rfl, rfl⟩ := hq
  refine Go.more (sf' := []) ?_ (Nat.le_refl _) (Nat.le_refl _) (fun _ q => List.mem_append_right _ q)
  show G_corb md l Z n0 b vs kk k h0 0 0 [] h0 5 #[.val (.ref b), .val (.int (0 : Int32)), .val (.int kk), .unset, .unset] []
  refine Go.iloadN 6 d30_5 rfl rfl ?_
  refine Go.iloadN 7 d30_6 rfl rfl ?_
  refine Go.isub 8 d30_7 rfl ?_
  refine Go.istoreN 9 #[.val (.ref b), .val (.int (0 : Int32)), .val (.int kk), .val (.int (kk - (0 : Int32))), .unset] d30_8 rfl rfl ?_
  refine Go.iloadN 10 d30_9 rfl rfl ?_
  refine Go.newE (C := "[B") k 12 d30_10 rfl rfl rfl (w19 hw) (sub0 hk) 34 (Nat.le_of_lt hlt) (by decide) (Nat.le_of_ble_eq_true rfl) (Nat.le_of_ble_eq_true rfl) (fun h_3 r_4 g_5 q_6 E_7 lt_8 A_9 EXr => ?_)
  have A_10 : Ary Z h_3 r_4 .byte (List.replicate k (.int 0)) := A_9
  show G_corb md l Z n0 b vs kk k h0 1 34 [r_4] h_3 12 #[.val (.ref b), .val (.int (0 : Int32)), .val (.int kk), .val (.int (kk - (0 : Int32))), .unset] [(.ref r_4)]
  refine Go.astore 14 #[.val (.ref b), .val (.int (0 : Int32)), .val (.int kk), .val (.int (kk - (0 : Int32))), .val (.ref r_4)] d30_12 rfl rfl rfl ?_
  refine Go.aloadN 15 d30_14 rfl rfl rfl ?_
  refine Go.iloadN 16 d30_15 rfl rfl ?_
  refine Go.aload 18 d30_16 rfl rfl rfl ?_
  refine Go.iconst 19 (0 : Int32) d30_18 rfl rfl ?_
  refine Go.aloadN 20 d30_19 rfl rfl rfl ?_
  have f_11 := A.ext E_7
  refine Go.alen 21 (34 : Int32) d30_20 rfl f_11 (by rw [hl]; rfl) ?_
  refine Go.iloadN 22 d30_21 rfl rfl ?_
  refine Go.isub 23 d30_22 rfl ?_
  rw [show ((34 : Int32) - (0 : Int32)) = (34 : Int32) from by decide]
  refine Go.iloadN 24 d30_23 rfl rfl ?_
  refine Go.callS (S := [(.int (0 : Int32)), (.ref r_4), (.int (0 : Int32)), (.ref b)]) 27 [(.int (34 : Int32)), (.int (kk - (0 : Int32)))] d30_24 rfl rfl (w121 hw) (w122 hw) (w113 hw) (w123 hw) (by decide) (call_of_go (R := _) (len := 3) (W := 4) pf_3 (fun mid => ef_min mid (34 : Int32) (kk - (0 : Int32)) ) (c_min hw (34 : Int32) (kk - (0 : Int32)) ) (w123 hw) (w113 hw) (by decide) (by decide)) (lenOf pd_19 rfl) (Nat.le_of_ble_eq_true rfl) rfl (Nat.le_of_ble_eq_true rfl) (Nat.le_of_ble_eq_true rfl) (fun _ q => nomatch q) (fun v h_12 sf_13 hq => ?_)
  obtain ⟨rfl, rfl⟩ := hq
  refine Go.more (sf' := [r_4]) ?_ (Nat.le_refl _) (Nat.le_refl _) (fun _ q => List.mem_append_right _ q)
  show G_corb md l Z n0 b vs kk k h0 1 34 [r_4] h_3 27 #[.val (.ref b), .val (.int (0 : Int32)), .val (.int kk), .val (.int (kk - (0 : Int32))), .val (.ref r_4)] [(.int (if (kk - (0 : Int32)) < (34 : Int32) then (kk - (0 : Int32)) else (34 : Int32))), (.int (0 : Int32)), (.ref r_4), (.int (0 : Int32)), (.ref b)]
  refine Go.acopy (W := 0) 0 0 k 30 d30_27 rfl (w124 hw) (w99 hw) (w97 hw) (w98 hw) f_11 A_10 rfl (by decide) (by decide) (minc hk hlt) (by omega) (by rw [List.length_replicate]; omega) (List.mem_of_getElem? (i := 0) rfl) q_6 rfl (by decide) (Nat.le_of_ble_eq_true rfl) (by decide) (fun h_14 K_15 B_16 => ?_)
  have B_17 : Ary Z h_14 r_4 .byte (vs.take k) := by have q_ := B_16; rw [show (List.replicate k (Value.int 0)).take 0 ++ (vs.drop 0).take k ++ (List.replicate k (Value.int 0)).drop (0 + k) = vs.take k from by simp] at q_; exact q_
  show G_corb md l Z n0 b vs kk k h0 1 34 [r_4] h_14 30 #[.val (.ref b), .val (.int (0 : Int32)), .val (.int kk), .val (.int (kk - (0 : Int32))), .val (.ref r_4)] []
  refine Go.aload 32 d30_30 rfl rfl rfl ?_
  have X_18 : Ext h0 h_14 := extK E_7 K_15 (allS (Nat.le_of_eq g_5) all0)
  have f_19 := (EXr.keep K_15)
  exact Go.retA d30_32 rfl rfl rfl (sf' := []) (⟨_, rfl, X_18, (Nat.le_of_eq g_5), B_17, f_19⟩) (fun _ q => nomatch q) (Nat.le_of_ble_eq_true rfl) (Nat.le_of_ble_eq_true rfl)
abbrev G_cor (md : Md) (l : Launch) (Z : State) (n0 : Nat) (b : Addr) (vs : List Value) (kk : Int32) (k : Nat) (h0 : Heap) := Go md l Z n0 ({ frames := 2, cells := 1, slots := 34, locals := 34 } : Room) jdk_65_method_132_code 3 (some (.array .byte)) "java/util/Arrays" "copyOfRange" (fun v h' _ => ∃ r, v = some (.ref r) ∧ Ext h0 h' ∧ h0.size ≤ r ∧ Ary Z h' r .byte (vs.take k) ∧ Exa Z h' r "[B")
theorem ef_cor (mid : MethodId) (b : Addr) (vs : List Value) (kk : Int32) (k : Nat)  : entryFrame mid #[(.ref b), (.int (0 : Int32)), (.int kk)] 3 = mkF mid 0 #[.val (.ref b), .val (.int (0 : Int32)), .val (.int kk)] [] := by first | (simp [entryFrame, mkF, argsToLocals, Value.category]; done) | rfl
set_option maxRecDepth 65536 in
set_option maxHeartbeats 40000000 in
theorem c_cor {md : Md} {l : Launch} {Z : State} {n0 : Nat} {a0 : Array Value} (hw : HW a0 Z) (b : Addr) (vs : List Value) (kk : Int32) (k : Nat) {h0 : Heap} (A : Ary Z h0 b .byte vs) (hl : vs.length = 34) (hk : kk.toInt = (k : Int)) (hlt : k < 34)  : G_cor md l Z n0 b vs kk k h0 0 0 [] h0 0 #[.val (.ref b), .val (.int (0 : Int32)), .val (.int kk)] [] := by
  refine Go.iloadN 1 d29_0 rfl rfl ?_
  refine Go.ifN 4 d29_1 rfl (teq (by decide)).2 ?_
  refine Go.iloadN 5 d29_4 rfl rfl ?_
  refine Go.aloadN 6 d29_5 rfl rfl rfl ?_
  refine Go.alen 7 (34 : Int32) d29_6 rfl A (by rw [hl]; rfl) ?_
  refine Go.icmpN 10 d29_7 rfl (feq (kne hk hlt)).1 ?_
  refine Go.aloadN 11 d29_10 rfl rfl rfl ?_
  refine Go.iloadN 12 d29_11 rfl rfl ?_
  refine Go.iloadN 13 d29_12 rfl rfl ?_
  refine Go.callS (S := []) 16 [(.ref b), (.int (0 : Int32)), (.int kk)] d29_13 rfl rfl (w159 hw) (w160 hw) (w119 hw) (w161 hw) (by decide) (call_of_go (R := _) (len := 3) (W := 0) (plainFor_of_name pn_4) (fun mid => ef_corb mid b vs kk k ) (c_corb hw b vs kk k A hl hk hlt) (w161 hw) (w119 hw) (by decide) (by decide)) (lenOf pd_24 rfl) (Nat.le_of_ble_eq_true rfl) rfl (Nat.le_of_ble_eq_true rfl) (Nat.le_of_ble_eq_true rfl) (fun _ q => nomatch q) (fun v h_1 sf_7 hq => ?_)
  obtain ⟨r_2, rfl, E_3, le_4, A_5, EX_6⟩ := hq
  refine Go.more (sf' := []) ?_ (Nat.le_refl _) (Nat.le_refl _) (fun _ q => List.mem_append_right _ q)
  show G_cor md l Z n0 b vs kk k h0 1 34 [] h_1 16 #[.val (.ref b), .val (.int (0 : Int32)), .val (.int kk)] [(.ref r_2)]
  exact Go.retA d29_16 rfl rfl rfl (sf' := []) (⟨_, rfl, E_3, le_4, A_5, EX_6⟩) (fun _ q => nomatch q) (Nat.le_of_ble_eq_true rfl) (Nat.le_of_ble_eq_true rfl)
abbrev G_getval (md : Md) (l : Launch) (Z : State) (n0 : Nat) (x b : Addr) (h0 : Heap) := Go md l Z n0 ({ frames := 0, cells := 0, slots := 0, locals := 0 } : Room) jdk_68_method_64_code 1 (some (.array .byte)) "java/lang/AbstractStringBuilder" "getValue" (fun v h' _ => h0 = h' ∧ v = some (.ref b))
theorem ef_getval (mid : MethodId) (x b : Addr)  : entryFrame mid #[(.ref x)] 1 = mkF mid 0 #[.val (.ref x)] [] := by first | (simp [entryFrame, mkF, argsToLocals, Value.category]; done) | rfl
set_option maxRecDepth 65536 in
set_option maxHeartbeats 40000000 in
theorem c_getval {md : Md} {l : Launch} {Z : State} {n0 : Nat} {a0 : Array Value} (hw : HW a0 Z) (x b : Addr) {h0 : Heap} (Fb : Fld Z h0 x "java/lang/AbstractStringBuilder" "value" "[B" (.ref b)) : G_getval md l Z n0 x b h0 0 0 [] h0 0 #[.val (.ref x)] [] := by
  refine Go.aloadN 1 d25_0 rfl rfl rfl ?_
  refine Go.getF 4 d25_1 rfl (w44 hw) Via.refl Fb ?_
  exact Go.retA d25_4 rfl rfl rfl (sf' := []) (⟨rfl, rfl⟩) (fun _ q => nomatch q) (Nat.le_of_ble_eq_true rfl) (Nat.le_of_ble_eq_true rfl)
abbrev G_asblen (md : Md) (l : Launch) (Z : State) (n0 : Nat) (x : Addr) (k : Int32) (h0 : Heap) := Go md l Z n0 ({ frames := 0, cells := 0, slots := 0, locals := 0 } : Room) jdk_68_method_6_code 1 (some .int) "java/lang/AbstractStringBuilder" "length" (fun v h' _ => h0 = h' ∧ v = some (.int k))
theorem ef_asblen (mid : MethodId) (x : Addr) (k : Int32)  : entryFrame mid #[(.ref x)] 1 = mkF mid 0 #[.val (.ref x)] [] := by first | (simp [entryFrame, mkF, argsToLocals, Value.category]; done) | rfl
set_option maxRecDepth 65536 in
set_option maxHeartbeats 40000000 in
theorem c_asblen {md : Md} {l : Launch} {Z : State} {n0 : Nat} {a0 : Array Value} (hw : HW a0 Z) (x : Addr) (k : Int32) {h0 : Heap} (Fn : Fld Z h0 x "java/lang/AbstractStringBuilder" "count" "I" (.int k)) : G_asblen md l Z n0 x k h0 0 0 [] h0 0 #[.val (.ref x)] [] := by
  refine Go.aloadN 1 d27_0 rfl rfl rfl ?_
  refine Go.getF 4 d27_1 rfl (w73 hw) Via.refl Fn ?_
  exact Go.retI d27_4 rfl (sf' := []) (⟨rfl, rfl⟩) (fun _ q => nomatch q) (Nat.le_of_ble_eq_true rfl) (Nat.le_of_ble_eq_true rfl)
abbrev G_sblen (md : Md) (l : Launch) (Z : State) (n0 : Nat) (x : Addr) (k : Int32) (h0 : Heap) := Go md l Z n0 ({ frames := 1, cells := 0, slots := 0, locals := 12 } : Room) jdk_67_method_93_code 1 (some .int) "java/lang/StringBuilder" "length" (fun v h' _ => h0 = h' ∧ v = some (.int k))
theorem ef_sblen (mid : MethodId) (x : Addr) (k : Int32)  : entryFrame mid #[(.ref x)] 1 = mkF mid 0 #[.val (.ref x)] [] := by first | (simp [entryFrame, mkF, argsToLocals, Value.category]; done) | rfl
set_option maxRecDepth 65536 in
set_option maxHeartbeats 40000000 in
theorem c_sblen {l : Launch} {Z : State} {n0 : Nat} {a0 : Array Value} (hw : HW a0 Z) (x : Addr) (k : Int32) {h0 : Heap} (Fn : Fld Z h0 x "java/lang/AbstractStringBuilder" "count" "I" (.int k)) (Ex : Exa Z h0 x "java/lang/StringBuilder") : G_sblen (some consts_1) l Z n0 x k h0 0 0 [] h0 0 #[.val (.ref x)] [] := by
  refine Go.aloadN 1 d26_0 rfl rfl rfl ?_
  refine Go.callSup (S := []) (a := x) 4 [] d26_1 rfl rfl (w149 hw) (w145 hw) (w78 hw) rfl (w59 hw) (by decide) (w150 hw) (by decide) Ex (call_of_go (R := _) (len := 3) (W := 0) (plainFor_of_name pn_2) (fun mid => ef_asblen mid x k ) (c_asblen hw x k Fn) (w150 hw) (w40 hw) (by decide) (by decide)) (lenOf pd_15 rfl) (Nat.le_of_ble_eq_true rfl) rfl (Nat.le_of_ble_eq_true rfl) (Nat.le_of_ble_eq_true rfl) (fun _ q => nomatch q) (fun v h_1 sf_2 hq => ?_)
  obtain ⟨rfl, rfl⟩ := hq
  refine Go.more (sf' := []) ?_ (Nat.le_refl _) (Nat.le_refl _) (fun _ q => List.mem_append_right _ q)
  show G_sblen (some consts_1) l Z n0 x k h0 0 0 [] h0 4 #[.val (.ref x)] [(.int k)]
  exact Go.retI d26_4 rfl (sf' := []) (⟨rfl, rfl⟩) (fun _ q => nomatch q) (Nat.le_of_ble_eq_true rfl) (Nat.le_of_ble_eq_true rfl)
abbrev G_asbil (md : Md) (l : Launch) (Z : State) (n0 : Nat) (x : Addr) (z : Int32) (h0 : Heap) := Go md l Z n0 ({ frames := 0, cells := 0, slots := 0, locals := 0 } : Room) jdk_68_method_68_code 1 (some .boolean) "java/lang/AbstractStringBuilder" "isLatin1" (fun v h' _ => h0 = h' ∧ v = some (.int 1))
theorem ef_asbil (mid : MethodId) (x : Addr) (z : Int32)  : entryFrame mid #[(.ref x)] 1 = mkF mid 0 #[.val (.ref x)] [] := by first | (simp [entryFrame, mkF, argsToLocals, Value.category]; done) | rfl
set_option maxRecDepth 65536 in
set_option maxHeartbeats 40000000 in
theorem c_asbil {md : Md} {l : Launch} {Z : State} {n0 : Nat} {a0 : Array Value} (hw : HW a0 Z) (x : Addr) (z : Int32) {h0 : Heap} (Fc : Fld Z h0 x "java/lang/AbstractStringBuilder" "coder" "B" (.int 0)) (SC : Sta Z Z.heap "java/lang/String" "COMPACT_STRINGS" "Z" (.int z)) (hz : ¬ z = 0)  : G_asbil md l Z n0 x z h0 0 0 [] h0 0 #[.val (.ref x)] [] := by
  refine Go.getS 3 d28_0 rfl (w43 hw) Via.refl SC ?_
  refine Go.ifN 6 d28_3 rfl (feq hz).1 ?_
  refine Go.aloadN 7 d28_6 rfl rfl rfl ?_
  refine Go.getF 10 d28_7 rfl (w46 hw) Via.refl Fc ?_
  refine Go.ifN 13 d28_10 rfl (teq (by decide)).2 ?_
  refine Go.iconst 14 (1 : Int32) d28_13 rfl rfl ?_
  refine Go.goto 18 d28_14 (by decide) (by decide) ?_
  exact Go.retN (1 : Int32) d28_18 rfl (t := .boolean) (by simp) rfl (sf' := []) (⟨rfl, rfl⟩) (fun _ q => nomatch q) (Nat.le_of_ble_eq_true rfl) (Nat.le_of_ble_eq_true rfl)
abbrev G_strasb (md : Md) (l : Launch) (Z : State) (n0 : Nat) (y x b : Addr) (z : Int32) (vs : List Value) (cs : List Int32) (kk : Int32) (k : Nat) (h0 : Heap) := Go md l Z n0 ({ frames := 3, cells := 1, slots := 34, locals := 49 } : Room) jdk_42_method_150_code 5 none "java/lang/String" "<init>" (fun v h' _ => v = none ∧ Keep h0 h' [y] ∧ StrX Z h' y cs h0.size)
theorem ef_strasb (mid : MethodId) (y x b : Addr) (z : Int32) (vs : List Value) (cs : List Int32) (kk : Int32) (k : Nat)  : entryFrame mid #[(.ref y), (.ref x), .null] 5 = mkF mid 0 #[.val (.ref y), .val (.ref x), .val .null, .unset, .unset] [] := by first | (simp [entryFrame, mkF, argsToLocals, Value.category]; done) | rfl
set_option maxRecDepth 65536 in
set_option maxHeartbeats 40000000 in
theorem c_strasb {l : Launch} {Z : State} {n0 : Nat} {a0 : Array Value} (hw : HW a0 Z) (y x b : Addr) (z : Int32) (vs : List Value) (cs : List Int32) (kk : Int32) (k : Nat) {h0 : Heap} (Ey : Exa Z h0 y "java/lang/String") (n0y : n0 ≤ y) {v0 u0 : Value} (Vy : Fld Z h0 y "java/lang/String" "value" "[B" v0) (Cy : Fld Z h0 y "java/lang/String" "coder" "B" u0) (Ex : Exa Z h0 x "java/lang/StringBuilder") (Fb : Fld Z h0 x "java/lang/AbstractStringBuilder" "value" "[B" (.ref b)) (Fc : Fld Z h0 x "java/lang/AbstractStringBuilder" "coder" "B" (.int 0)) (Fn : Fld Z h0 x "java/lang/AbstractStringBuilder" "count" "I" (.int kk)) (A : Ary Z h0 b .byte vs) (nbx : b ≠ x) (nyx : y ≠ x) (nby : b ≠ y) (hl : vs.length = 34) (hk : kk.toInt = (k : Int)) (hlt : k < 34) (hcs : vs.take k = ((cs.map fun c => c.toInt8.toInt32).map Value.int)) (hlat : Lat cs) (SC : Sta Z Z.heap "java/lang/String" "COMPACT_STRINGS" "Z" (.int z)) (hz : ¬ z = 0)  : G_strasb (some consts_1) l Z n0 y x b z vs cs kk k h0 0 0 [y] h0 0 #[.val (.ref y), .val (.ref x), .val .null, .unset, .unset] [] := by
  refine Go.aloadN 1 d24_0 rfl rfl rfl ?_
  refine Go.initO (W := 0) 4 d24_1 rfl (w15 hw) (w16 hw) (w17 hw) rfl (by decide) (Nat.le_of_ble_eq_true rfl) (by decide) ?_
  refine Go.aloadN 5 d24_4 rfl rfl rfl ?_
  refine Go.callV (S := []) (a := x) 8 [] d24_5 rfl rfl (w138 hw) (w139 hw) (w141 hw) (w140 hw) (fun _ q => notFace_of_selects (args := #[]) (mvT q (w141 hw))) (by decide) Ex (call_of_go (R := _) (len := 3) (W := 0) (plainFor_of_name pn_2) (fun mid => ef_getval mid x b ) (c_getval hw x b Fb) (w142 hw) (w40 hw) (by decide) (by decide)) (lenOf pd_25 rfl) (Nat.le_of_ble_eq_true rfl) rfl (Nat.le_of_ble_eq_true rfl) (Nat.le_of_ble_eq_true rfl) (fun _ q => nomatch q) (fun v h_1 sf_2 hq => ?_)
  obtain ⟨rfl, rfl⟩ := hq
  refine Go.more (sf' := [y]) ?_ (Nat.le_refl _) (Nat.le_refl _) (fun _ q => List.mem_append_right _ q)
  show G_strasb (some consts_1) l Z n0 y x b z vs cs kk k h0 0 0 [y] h0 8 #[.val (.ref y), .val (.ref x), .val .null, .unset, .unset] [(.ref b)]
  refine Go.astoreN 9 #[.val (.ref y), .val (.ref x), .val .null, .val (.ref b), .unset] d24_8 rfl rfl rfl ?_
  refine Go.aloadN 10 d24_9 rfl rfl rfl ?_
  refine Go.callV (S := []) (a := x) 13 [] d24_10 rfl rfl (w143 hw) (w144 hw) (w146 hw) (w147 hw) (fun _ q => notFace_cls (args := #[]) (mvT q (w78 hw)) rfl) (by decide) Ex (call_of_go (R := _) (len := 3) (W := 0) (plainFor_of_name pn_3) (fun mid => ef_sblen mid x kk ) (c_sblen hw x kk Fn Ex) (w148 hw) (w32 hw) (by decide) (by decide)) (lenOf pd_15 rfl) (Nat.le_of_ble_eq_true rfl) rfl (Nat.le_of_ble_eq_true rfl) (Nat.le_of_ble_eq_true rfl) (fun _ q => nomatch q) (fun v h_3 sf_4 hq => ?_)
  obtain ⟨rfl, rfl⟩ := hq
  refine Go.more (sf' := [y]) ?_ (Nat.le_refl _) (Nat.le_refl _) (fun _ q => List.mem_append_right _ q)
  show G_strasb (some consts_1) l Z n0 y x b z vs cs kk k h0 0 0 [y] h0 13 #[.val (.ref y), .val (.ref x), .val .null, .val (.ref b), .unset] [(.int kk)]
  refine Go.istore 15 #[.val (.ref y), .val (.ref x), .val .null, .val (.ref b), .val (.int kk)] d24_13 rfl rfl ?_
  refine Go.aloadN 16 d24_15 rfl rfl rfl ?_
  refine Go.callV (S := []) (a := x) 19 [] d24_16 rfl rfl (w151 hw) (w152 hw) (w154 hw) (w153 hw) (fun _ q => notFace_of_selects (args := #[]) (mvT q (w154 hw))) (by decide) Ex (call_of_go (R := _) (len := 3) (W := 0) (plainFor_of_name pn_2) (fun mid => ef_asbil mid x z ) (c_asbil hw x z Fc SC hz) (w155 hw) (w40 hw) (by decide) (by decide)) (lenOf pd_26 rfl) (Nat.le_of_ble_eq_true rfl) rfl (Nat.le_of_ble_eq_true rfl) (Nat.le_of_ble_eq_true rfl) (fun _ q => nomatch q) (fun v h_5 sf_6 hq => ?_)
  obtain ⟨rfl, rfl⟩ := hq
  refine Go.more (sf' := [y]) ?_ (Nat.le_refl _) (Nat.le_refl _) (fun _ q => List.mem_append_right _ q)
  show G_strasb (some consts_1) l Z n0 y x b z vs cs kk k h0 0 0 [y] h0 19 #[.val (.ref y), .val (.ref x), .val .null, .val (.ref b), .val (.int kk)] [(.int (1 : Int32))]
  refine Go.ifN 22 d24_19 rfl (feq (by decide)).1 ?_
  refine Go.aloadN 23 d24_22 rfl rfl rfl ?_
  refine Go.iconst 24 (0 : Int32) d24_23 rfl rfl ?_
  refine Go.putF 27 (.int (0 : Int32)) d24_24 rfl (w25 hw) Via.refl Cy Ey (Or.inr ⟨(w21 hw), rfl, rfl⟩) (w5 hw) (ty := .byte) (by decide) rfl rfl (List.mem_of_getElem? (i := 0) rfl) n0y (fun h_7 W_8 => ?_)
  refine Go.aloadN 28 d24_27 rfl rfl rfl ?_
  refine Go.aloadN 29 d24_28 rfl rfl rfl ?_
  refine Go.iconst 30 (0 : Int32) d24_29 rfl rfl ?_
  refine Go.iload 32 d24_30 rfl rfl ?_
  have f_9 := (Ey.wr W_8)
  have f_10 := (A.other W_8 nby)
  refine Go.callS (S := [(.ref y)]) 35 [(.ref b), (.int (0 : Int32)), (.int kk)] d24_32 rfl rfl (w156 hw) (w157 hw) (w119 hw) (w158 hw) (by decide) (call_of_go (R := _) (len := 3) (W := 1) (plainFor_of_name pn_4) (fun mid => ef_cor mid b vs kk k ) (c_cor hw b vs kk k f_10 hl hk hlt) (w158 hw) (w119 hw) (by decide) (by decide)) (lenOf pd_24 rfl) (Nat.le_of_ble_eq_true rfl) rfl (Nat.le_of_ble_eq_true rfl) (Nat.le_of_ble_eq_true rfl) (fun _ q => nomatch q) (fun v h_11 sf_17 hq => ?_)
  obtain ⟨r_12, rfl, E_13, le_14, A_15, EX_16⟩ := hq
  refine Go.more (sf' := [y]) ?_ (Nat.le_refl _) (Nat.le_refl _) (fun _ q => List.mem_append_right _ q)
  show G_strasb (some consts_1) l Z n0 y x b z vs cs kk k h0 1 34 [y] h_11 35 #[.val (.ref y), .val (.ref x), .val .null, .val (.ref b), .val (.int kk)] [(.ref r_12), (.ref y)]
  have n_ry : r_12 ≠ y := Nat.ne_of_gt (Nat.lt_of_lt_of_le f_9.lt le_14)
  have f_18 := f_9.ext E_13
  have f_19 := ((Vy.other W_8 (Or.inr (slot_ne (Or.inr (w20 hw)) (Or.inr (w21 hw)) (by decide) (t := (.array .byte)) (t' := .byte) (by decide) (by decide)))).ext E_13)
  refine Go.putF 38 (.ref r_12) d24_35 rfl (w24 hw) Via.refl f_19 f_18 (Or.inr ⟨(w20 hw), rfl, rfl⟩) (w5 hw) (ty := (.array .byte)) (by decide) rfl rfl (List.mem_of_getElem? (i := 0) rfl) n0y (fun h_20 W_21 => ?_)
  refine Go.goto 97 d24_38 (by decide) (by decide) ?_
  have f_22 := (f_18.wr W_21)
  have f_23 := (((Cy.same W_8).ext E_13).other W_21 (Or.inr (slot_ne (Or.inr (w21 hw)) (Or.inr (w20 hw)) (by decide) (t := .byte) (t' := (.array .byte)) (by decide) (by decide))))
  have f_24 := (A_15.other W_21 n_ry)
  have f_25 := (EX_16.wr W_21)
  exact Go.ret0 d24_97 rfl (sf' := []) (⟨rfl, ((((Keep.refl h0 [y]).wr W_8 (Or.inl (List.mem_of_getElem? (i := 0) rfl))).ext E_13).wr W_21 (Or.inl (List.mem_of_getElem? (i := 0) rfl))), r_12, f_22, f_23, (f_19.same W_21), by rw [← hcs]; exact f_24, hlat, f_25, (Nat.le_trans ((Keep.refl h0 [y]).wr W_8 (Or.inl (List.mem_of_getElem? (i := 0) rfl))).1 le_14)⟩) (fun _ q => nomatch q) (Nat.le_of_ble_eq_true rfl) (Nat.le_of_ble_eq_true rfl)
abbrev G_strsb (md : Md) (l : Launch) (Z : State) (n0 : Nat) (y x b : Addr) (z : Int32) (vs : List Value) (cs : List Int32) (kk : Int32) (k : Nat) (h0 : Heap) := Go md l Z n0 ({ frames := 4, cells := 1, slots := 34, locals := 65 } : Room) jdk_42_method_53_code 2 none "java/lang/String" "<init>" (fun v h' _ => v = none ∧ Keep h0 h' [y] ∧ StrX Z h' y cs h0.size)
theorem ef_strsb (mid : MethodId) (y x b : Addr) (z : Int32) (vs : List Value) (cs : List Int32) (kk : Int32) (k : Nat)  : entryFrame mid #[(.ref y), (.ref x)] 2 = mkF mid 0 #[.val (.ref y), .val (.ref x)] [] := by first | (simp [entryFrame, mkF, argsToLocals, Value.category]; done) | rfl
set_option maxRecDepth 65536 in
set_option maxHeartbeats 40000000 in
theorem c_strsb {l : Launch} {Z : State} {n0 : Nat} {a0 : Array Value} (hw : HW a0 Z) (y x b : Addr) (z : Int32) (vs : List Value) (cs : List Int32) (kk : Int32) (k : Nat) {h0 : Heap} (Ey : Exa Z h0 y "java/lang/String") (n0y : n0 ≤ y) {v0 u0 : Value} (Vy : Fld Z h0 y "java/lang/String" "value" "[B" v0) (Cy : Fld Z h0 y "java/lang/String" "coder" "B" u0) (Ex : Exa Z h0 x "java/lang/StringBuilder") (Fb : Fld Z h0 x "java/lang/AbstractStringBuilder" "value" "[B" (.ref b)) (Fc : Fld Z h0 x "java/lang/AbstractStringBuilder" "coder" "B" (.int 0)) (Fn : Fld Z h0 x "java/lang/AbstractStringBuilder" "count" "I" (.int kk)) (A : Ary Z h0 b .byte vs) (nbx : b ≠ x) (nyx : y ≠ x) (nby : b ≠ y) (hl : vs.length = 34) (hk : kk.toInt = (k : Int)) (hlt : k < 34) (hcs : vs.take k = ((cs.map fun c => c.toInt8.toInt32).map Value.int)) (hlat : Lat cs) (SC : Sta Z Z.heap "java/lang/String" "COMPACT_STRINGS" "Z" (.int z)) (hz : ¬ z = 0)  : G_strsb (some consts_1) l Z n0 y x b z vs cs kk k h0 0 0 [y] h0 0 #[.val (.ref y), .val (.ref x)] [] := by
  refine Go.aloadN 1 d23_0 rfl rfl rfl ?_
  refine Go.aloadN 2 d23_1 rfl rfl rfl ?_
  refine Go.aconstNull 3 d23_2 rfl ?_
  refine Go.callC (S := []) (a := y) 6 [(.ref x), .null] d23_3 rfl rfl rfl (w135 hw) (w136 hw) (w137 hw) (by decide) (call_of_go (R := _) (len := 3) (W := 0) (plainFor_of_name pn_0) (fun mid => ef_strasb mid y x b z vs cs kk k ) (c_strasb hw y x b z vs cs kk k Ey n0y Vy Cy Ex Fb Fc Fn A nbx nyx nby hl hk hlt hcs hlat SC hz) (w137 hw) (w6 hw) (by decide) (by decide)) (lenOf pd_27 rfl) (Nat.le_of_ble_eq_true rfl) rfl (Nat.le_of_ble_eq_true rfl) (Nat.le_of_ble_eq_true rfl) (fun _ q => q) (fun v h_1 sf_2 hq => ?_)
  obtain ⟨rfl, K2, S2⟩ := hq
  refine Go.more (sf' := [y]) ?_ (Nat.le_refl _) (Nat.le_refl _) (fun _ q => List.mem_append_right _ q)
  show G_strsb (some consts_1) l Z n0 y x b z vs cs kk k h0 1 34 [y] h_1 6 #[.val (.ref y), .val (.ref x)] []
  exact Go.ret0 d23_6 rfl (sf' := []) (⟨rfl, K2, S2⟩) (fun _ q => nomatch q) (Nat.le_of_ble_eq_true rfl) (Nat.le_of_ble_eq_true rfl)
abbrev G_sbts (md : Md) (l : Launch) (Z : State) (n0 : Nat) (x b : Addr) (z : Int32) (vs : List Value) (cs : List Int32) (kk : Int32) (k : Nat) (h0 : Heap) := Go md l Z n0 ({ frames := 5, cells := 2, slots := 38, locals := 79 } : Room) jdk_67_method_42_code 1 (some (.object "java/lang/String")) "java/lang/StringBuilder" "toString" (fun v h' _ => ∃ x, v = some (.ref x) ∧ Ext h0 h' ∧ h0.size ≤ x ∧ StrX Z h' x (cs) h0.size)
theorem ef_sbts (mid : MethodId) (x b : Addr) (z : Int32) (vs : List Value) (cs : List Int32) (kk : Int32) (k : Nat)  : entryFrame mid #[(.ref x)] 1 = mkF mid 0 #[.val (.ref x)] [] := by first | (simp [entryFrame, mkF, argsToLocals, Value.category]; done) | rfl
set_option maxRecDepth 65536 in
set_option maxHeartbeats 40000000 in
theorem c_sbts {l : Launch} {Z : State} {n0 : Nat} {a0 : Array Value} (hw : HW a0 Z) (x b : Addr) (z : Int32) (vs : List Value) (cs : List Int32) (kk : Int32) (k : Nat) {h0 : Heap} (Ex : Exa Z h0 x "java/lang/StringBuilder") (Fb : Fld Z h0 x "java/lang/AbstractStringBuilder" "value" "[B" (.ref b)) (Fc : Fld Z h0 x "java/lang/AbstractStringBuilder" "coder" "B" (.int 0)) (Fn : Fld Z h0 x "java/lang/AbstractStringBuilder" "count" "I" (.int kk)) (A : Ary Z h0 b .byte vs) (nbx : b ≠ x) (hl : vs.length = 34) (hk : kk.toInt = (k : Int)) (hlt : k < 34) (hcs : vs.take k = ((cs.map fun c => c.toInt8.toInt32).map Value.int)) (hlat : Lat cs) (SC : Sta Z Z.heap "java/lang/String" "COMPACT_STRINGS" "Z" (.int z)) (hz : ¬ z = 0)  : G_sbts (some consts_1) l Z n0 x b z vs cs kk k h0 0 0 [] h0 0 #[.val (.ref x)] [] := by
  refine Go.new 3 d22_0 rfl (w131 hw) (w5 hw) (w6 hw) (Nat.le_of_ble_eq_true rfl) (Nat.le_of_ble_eq_true rfl) (fun h_1 x_2 g_3 q_4 E_5 lt_6 A_7 D_8 => ?_)
  show G_sbts (some consts_1) l Z n0 x b z vs cs kk k h0 1 4 [x_2] h_1 3 #[.val (.ref x)] [(.ref x_2)]
  refine Go.dup 4 d22_3 rfl rfl ?_
  refine Go.aloadN 5 d22_4 rfl rfl rfl ?_
  have nyx : x_2 ≠ x := Nat.ne_of_gt (Nat.lt_of_lt_of_le Ex.lt (Nat.le_of_eq g_3))
  have nby : b ≠ x_2 := Nat.ne_of_lt (Nat.lt_of_lt_of_le A.lt (Nat.le_of_eq g_3))
  have f_9 := Ex.ext E_5
  have f_10 := Fb.ext E_5
  have f_11 := Fc.ext E_5
  have f_12 := Fn.ext E_5
  have f_13 := A.ext E_5
  refine Go.callC (S := [(.ref x_2)]) (a := x_2) 8 [(.ref x)] d22_5 rfl rfl rfl (w132 hw) (w133 hw) (w134 hw) (by decide) (call_of_go (R := _) (len := 3) (W := 1) (plainFor_of_name pn_0) (fun mid => ef_strsb mid x_2 x b z vs cs kk k ) (c_strsb hw x_2 x b z vs cs kk k A_7 q_4 (D_8 (Or.inr (w20 hw)) (ty := (.array .byte)) (by decide)) (D_8 (Or.inr (w21 hw)) (ty := .byte) (by decide)) f_9 f_10 f_11 f_12 f_13 nbx nyx nby hl hk hlt hcs hlat SC hz) (w134 hw) (w6 hw) (by decide) (by decide)) (lenOf pd_28 rfl) (Nat.le_of_ble_eq_true rfl) rfl (Nat.le_of_ble_eq_true rfl) (Nat.le_of_ble_eq_true rfl) (fun _ q => q) (fun v h_14 sf_15 hq => ?_)
  obtain ⟨rfl, K2, S2⟩ := hq
  refine Go.more (sf' := [x_2]) ?_ (Nat.le_refl _) (Nat.le_refl _) (fun _ q => List.mem_append_right _ q)
  show G_sbts (some consts_1) l Z n0 x b z vs cs kk k h0 2 38 [x_2] h_14 8 #[.val (.ref x)] [(.ref x_2)]
  have X_16 : Ext h0 h_14 := extK E_5 K2 (allS (Nat.le_of_eq g_3) all0)
  exact Go.retA d22_8 rfl rfl rfl (sf' := []) (⟨_, rfl, X_16, (Nat.le_of_eq g_3), S2.mono E_5.1⟩) (fun _ q => nomatch q) (Nat.le_of_ble_eq_true rfl) (Nat.le_of_ble_eq_true rfl)
abbrev G_headst (md : Md) (l : Launch) (Z : State) (n0 : Nat) (g ho ta : Addr) (tl t0 t1 hl h0_ h1_ : Int32) (z : Int32) (h0 : Heap) := Go md l Z n0 ({ frames := 6, cells := 11, slots := 184, locals := 91 } : Room) prog_21_method_4_code 3 (some (.object "java/lang/String")) "com/example/tugas/tugas/cli/Http" "headStart" (fun v h' _ => ∃ y, v = some (.ref y) ∧ Ext h0 h' ∧ h0.size ≤ y ∧ StrX Z h' y (headc tl t0 t1 hl h0_ h1_) h0.size)
theorem ef_headst (mid : MethodId) (g ho ta : Addr) (tl t0 t1 hl h0_ h1_ : Int32) (z : Int32)  : entryFrame mid #[(.ref g), (.ref ho), (.ref ta)] 3 = mkF mid 0 #[.val (.ref g), .val (.ref ho), .val (.ref ta)] [] := by first | (simp [entryFrame, mkF, argsToLocals, Value.category]; done) | rfl
set_option maxRecDepth 65536 in
set_option maxHeartbeats 40000000 in
theorem c_headst {l : Launch} {Z : State} {n0 : Nat} {a0 : Array Value} (hw : HW a0 Z) (g ho ta : Addr) (tl t0 t1 hl h0_ h1_ : Int32) (z : Int32) {h0 : Heap} (Sg : Str Z h0 g [71, 69, 84]) (Sh : Str Z h0 ho (strf hl h0_ h1_)) (St : Str Z h0 ta (strf tl t0 t1)) (b_tl : tl = 0 ∨ tl = 1 ∨ tl = 2) (b_hl : hl = 0 ∨ hl = 1 ∨ hl = 2) (b_t0 : ¬ t0 < 0 ∧ ¬ (255 : Int32) < t0) (b_t1 : ¬ t1 < 0 ∧ ¬ (255 : Int32) < t1) (b_h0_ : ¬ h0_ < 0 ∧ ¬ (255 : Int32) < h0_) (b_h1_ : ¬ h1_ < 0 ∧ ¬ (255 : Int32) < h1_) (SC : Sta Z Z.heap "java/lang/String" "COMPACT_STRINGS" "Z" (.int z)) (hz : ¬ z = 0)  : G_headst (some consts_1) l Z n0 g ho ta tl t0 t1 hl h0_ h1_ z h0 0 0 [] h0 0 #[.val (.ref g), .val (.ref ho), .val (.ref ta)] [] := by
  obtain ⟨t_g, E_g, C_g, V_g, UL_g, lt_g⟩ := Sg
  obtain ⟨t_ho, E_ho, C_ho, V_ho, UL_ho, lt_ho⟩ := Sh
  obtain ⟨t_ta, E_ta, C_ta, V_ta, UL_ta, lt_ta⟩ := St
  refine Go.new 3 d8_0 rfl (w30 hw) (w31 hw) (w32 hw) (Nat.le_of_ble_eq_true rfl) (Nat.le_of_ble_eq_true rfl) (fun h_1 x_2 g_3 q_4 E_5 lt_6 A_7 D_8 => ?_)
  show G_headst (some consts_1) l Z n0 g ho ta tl t0 t1 hl h0_ h1_ z h0 1 4 [x_2] h_1 3 #[.val (.ref g), .val (.ref ho), .val (.ref ta)] [(.ref x_2)]
  refine Go.dup 4 d8_3 rfl rfl ?_
  refine Go.callC (S := [(.ref x_2)]) (a := x_2) 7 [] d8_4 rfl rfl rfl (w33 hw) (w34 hw) (w35 hw) (by decide) (call_of_go (R := _) (len := 3) (W := 1) (plainFor_of_name pn_3) (fun mid => ef_sbinit mid x_2 z ) (c_sbinit hw x_2 z A_7 q_4 (D_8 (Or.inl (w45 hw)) (ty := (.array .byte)) (by decide)) (D_8 (Or.inl (w74 hw)) (ty := .int) (by decide)) SC hz) (w35 hw) (w32 hw) (by decide) (by decide)) (lenOf pd_12 rfl) (Nat.le_of_ble_eq_true rfl) rfl (Nat.le_of_ble_eq_true rfl) (Nat.le_of_ble_eq_true rfl) (fun _ q => q) (fun v h_9 sf_10 hq => ?_)
  obtain ⟨b_x_2, rfl, Kb_x_2, Eb_x_2, le_b_x_2, n0b_x_2, nbx_x_2, Fb_x_2, Fc_x_2, Fn'_x_2, Ab_x_2, rfl⟩ := hq
  show G_headst (some consts_1) l Z n0 g ho ta tl t0 t1 hl h0_ h1_ z h0 2 20 [b_x_2, x_2] h_9 7 #[.val (.ref g), .val (.ref ho), .val (.ref ta)] [(.ref x_2)]
  obtain ⟨v_x_2, ev_x_2⟩ : ∃ v_, v_ = List.replicate 16 (Value.int 0) := ⟨_, rfl⟩
  rw [← ev_x_2] at Ab_x_2
  have hl_x_2 : v_x_2.length = 16 := by rw [ev_x_2]; rfl
  have ht_x_2 : v_x_2.take (([] : List Int32)).length = (((([] : List Int32)).map fun c => c.toInt8.toInt32).map Value.int) := rfl
  have nb_t_g_x_2 : t_g ≠ b_x_2 := Nat.ne_of_lt (Nat.lt_of_lt_of_le UL_g.lt (Nat.le_trans E_5.1 le_b_x_2))
  have nb_t_ho_x_2 : t_ho ≠ b_x_2 := Nat.ne_of_lt (Nat.lt_of_lt_of_le UL_ho.lt (Nat.le_trans E_5.1 le_b_x_2))
  have nb_t_ta_x_2 : t_ta ≠ b_x_2 := Nat.ne_of_lt (Nat.lt_of_lt_of_le UL_ta.lt (Nat.le_trans E_5.1 le_b_x_2))
  refine Go.aloadN 8 d8_7 rfl rfl rfl ?_
  have X_11 : Ext h0 h_9 := extK E_5 Kb_x_2 (allS (Nat.le_of_eq g_3) all0)
  have f_12 := V_g.ext X_11
  have f_13 := UL_g.ext X_11
  have UL_15 : Ary Z h_9 t_g .byte ((([(71 : Int32), 69, 84]).map fun c => c.toInt8.toInt32).map Value.int) := f_13
  have f_16 := E_g.ext X_11
  have nyx_p_14 : g ≠ x_2 := ne_exa f_16 Eb_x_2 (by decide)
  have ntx_p_14 : t_g ≠ x_2 := arr_ne UL_15 Eb_x_2 (w31 hw)
  have nyb_p_14 : g ≠ b_x_2 := Ne.symm (arr_ne Ab_x_2 f_16 (w5 hw))
  have lm_p_14 : (([] : List Int32)).length + (((([(71 : Int32), 69, 84]).map fun c => c.toInt8.toInt32).map Value.int)).length ≤ 16 := by have q1 := strf_l2 tl t0 t1; have q2 := strf_l2 hl h0_ h1_; simp only [List.length_append, List.length_map, List.length_cons, List.length_nil, headc_len] at *; omega
  have f_19 := C_g.ext X_11
  refine Go.callV (S := []) (a := x_2) 11 [(.ref g)] d8_8 rfl rfl (w52 hw) (w53 hw) (w55 hw) (w54 hw) (fun _ q => notFace_of_selects (args := #[]) (mvT q (w55 hw))) (by decide) Eb_x_2 (call_of_go (R := _) (len := 3) (W := 0) (plainFor_of_name pn_3) (fun mid => ef_sbapp16 mid x_2 g t_g b_x_2 z ((([(71 : Int32), 69, 84]).map fun c => c.toInt8.toInt32).map Value.int) v_x_2 (0 : Int32) (([] : List Int32)).length ) (c_sbapp16 hw x_2 g t_g b_x_2 z ((([(71 : Int32), 69, 84]).map fun c => c.toInt8.toInt32).map Value.int) v_x_2 (0 : Int32) (([] : List Int32)).length Eb_x_2 q_4 Fb_x_2 Fc_x_2 Fn'_x_2 Ab_x_2 n0b_x_2 nbx_x_2 f_16 f_19 f_12 UL_15 nb_t_g_x_2 nyx_p_14 ntx_p_14 nyb_p_14 (rfl : (0 : Int32).toInt = (((([] : List Int32)).length : Nat) : Int)) lm_p_14 hl_x_2 SC hz) (w56 hw) (w32 hw) (by decide) (by decide)) (lenOf pd_18 rfl) (Nat.le_of_ble_eq_true rfl) rfl (Nat.le_of_ble_eq_true rfl) (Nat.le_of_ble_eq_true rfl) (allS (List.mem_of_getElem? (i := 1) rfl) (allS (List.mem_of_getElem? (i := 0) rfl) all0)) (fun v h_17 sf_18 hq => ?_)
  obtain ⟨q_p_14, rfl, K_p_14, E_p_14, n0_p_14, nq_p_14, Fb_p_14, Fc_p_14, Fn_p_14, A_p_14, rfl, d_p_14⟩ := hq
  obtain ⟨v_p_14, ev_p_14⟩ : ∃ v_, v_ = (v_x_2.take (([] : List Int32)).length ++ ((([(71 : Int32), 69, 84]).map fun c => c.toInt8.toInt32).map Value.int) ++ v_x_2.drop ((([] : List Int32)).length + (((([(71 : Int32), 69, 84]).map fun c => c.toInt8.toInt32).map Value.int)).length)) := ⟨_, rfl⟩
  obtain ⟨hl_p_14, ht_p_14⟩ := app_list (cap := 16) hl_x_2 ht_x_2 lm_p_14
  rw [← ev_p_14] at hl_p_14 ht_p_14
  have B_p_14 : Ary Z h_17 q_p_14 .byte v_p_14 := by rw [ev_p_14]; exact A_p_14
  obtain ⟨k_p_14, ek_p_14⟩ : ∃ k_ : Int32, k_ = ((0 : Int32) + Int32.ofNat (((([(71 : Int32), 69, 84]).map fun c => c.toInt8.toInt32).map Value.int)).length) := ⟨_, rfl⟩
  rw [← ek_p_14] at Fn_p_14
  have hk_p_14 : k_p_14.toInt = (((([] : List Int32) ++ [(71 : Int32), 69, 84]).length : Nat) : Int) := by rw [ek_p_14, add_nat (i := (([] : List Int32)).length) (j := (((([(71 : Int32), 69, 84]).map fun c => c.toInt8.toInt32).map Value.int)).length) (rfl : (0 : Int32).toInt = (((([] : List Int32)).length : Nat) : Int)) (ofNat_toInt (by omega)) (by omega)]; simp only [List.length_append, List.length_map]
  have le_p_14 : h0.size ≤ q_p_14 := by rcases d_p_14 with z_ | z_; exact z_ ▸ (Nat.le_trans E_5.1 le_b_x_2); exact Nat.le_trans X_11.1 z_
  show G_headst (some consts_1) l Z n0 g ho ta tl t0 t1 hl h0_ h1_ z h0 2 20 [q_p_14, b_x_2, x_2] h_17 11 #[.val (.ref g), .val (.ref ho), .val (.ref ta)] [(.ref x_2)]
  have nb_p_14_t_g : t_g ≠ q_p_14 := Nat.ne_of_lt (Nat.lt_of_lt_of_le UL_g.lt le_p_14)
  have nb_p_14_t_ho : t_ho ≠ q_p_14 := Nat.ne_of_lt (Nat.lt_of_lt_of_le UL_ho.lt le_p_14)
  have nb_p_14_t_ta : t_ta ≠ q_p_14 := Nat.ne_of_lt (Nat.lt_of_lt_of_le UL_ta.lt le_p_14)
  refine Go.ldcL (vs := [(.int (32 : Int32))]) (z := (1 : Int32)) 4 13 d8_11 rfl (w100 hw) (wS hw) (List.mem_of_getElem? (i := 2) rfl) ⟨by decide, rfl⟩ (by decide) (by decide) (by decide) (by decide) (Nat.le_of_ble_eq_true rfl) (Nat.le_of_ble_eq_true rfl) (fun h_20 s_21 b_22 k_23 E_24 A_25 C_26 V_27 B_28 ne_29 => ?_)
  have B_30 : Ary Z h_20 b_22 .byte [(.int (32 : Int32))] := Ary.ofArv B_28 rfl (by decide)
  have S_31 : Str Z h_20 s_21 [(32 : Int32)] := ⟨_, A_25, C_26, V_27, B_30, by unfold Lat; decide⟩
  show G_headst (some consts_1) l Z n0 g ho ta tl t0 t1 hl h0_ h1_ z h0 4 28 [q_p_14, b_x_2, x_2] h_20 13 #[.val (.ref g), .val (.ref ho), .val (.ref ta)] [(.ref s_21), (.ref x_2)]
  have UL_32 : Ary Z h_20 b_22 .byte ((([(32 : Int32)]).map fun c => c.toInt8.toInt32).map Value.int) := B_30
  have f_33 := B_p_14.ext E_24
  have f_35 := E_p_14.ext E_24
  have X_36 : Ext h0 h_17 := extK X_11 K_p_14 (allS (Nat.le_of_eq g_3) (allS (Nat.le_trans E_5.1 le_b_x_2) all0))
  have X_37 : Ext h0 h_20 := extT X_36 E_24
  have nyx_p_34 : s_21 ≠ x_2 := ne_exa A_25 f_35 (by decide)
  have ntx_p_34 : b_22 ≠ x_2 := arr_ne UL_32 f_35 (w31 hw)
  have nyb_p_34 : s_21 ≠ q_p_14 := Ne.symm (arr_ne f_33 A_25 (w5 hw))
  have lm_p_34 : ((([] : List Int32) ++ [(71 : Int32), 69, 84])).length + (((([(32 : Int32)]).map fun c => c.toInt8.toInt32).map Value.int)).length ≤ 16 := by have q1 := strf_l2 tl t0 t1; have q2 := strf_l2 hl h0_ h1_; simp only [List.length_append, List.length_map, List.length_cons, List.length_nil, headc_len] at *; omega
  have f_40 := Fb_p_14.ext E_24
  have f_41 := Fc_p_14.ext E_24
  have f_42 := Fn_p_14.ext E_24
  refine Go.callV (S := []) (a := x_2) 16 [(.ref s_21)] d8_13 rfl rfl (w52 hw) (w53 hw) (w55 hw) (w54 hw) (fun _ q => notFace_of_selects (args := #[]) (mvT q (w55 hw))) (by decide) f_35 (call_of_go (R := _) (len := 3) (W := 0) (plainFor_of_name pn_3) (fun mid => ef_sbapp16 mid x_2 s_21 b_22 q_p_14 z ((([(32 : Int32)]).map fun c => c.toInt8.toInt32).map Value.int) v_p_14 k_p_14 ((([] : List Int32) ++ [(71 : Int32), 69, 84])).length ) (c_sbapp16 hw x_2 s_21 b_22 q_p_14 z ((([(32 : Int32)]).map fun c => c.toInt8.toInt32).map Value.int) v_p_14 k_p_14 ((([] : List Int32) ++ [(71 : Int32), 69, 84])).length f_35 q_4 f_40 f_41 f_42 f_33 n0_p_14 nq_p_14 A_25 C_26 V_27 UL_32 (Ne.symm (ne_29 q_p_14 (List.mem_of_getElem? (i := 0) rfl)).2) nyx_p_34 ntx_p_34 nyb_p_34 hk_p_14 lm_p_34 hl_p_14 SC hz) (w56 hw) (w32 hw) (by decide) (by decide)) (lenOf pd_18 rfl) (Nat.le_of_ble_eq_true rfl) rfl (Nat.le_of_ble_eq_true rfl) (Nat.le_of_ble_eq_true rfl) (allS (List.mem_of_getElem? (i := 2) rfl) (allS (List.mem_of_getElem? (i := 0) rfl) all0)) (fun v h_38 sf_39 hq => ?_)
  obtain ⟨q_p_34, rfl, K_p_34, E_p_34, n0_p_34, nq_p_34, Fb_p_34, Fc_p_34, Fn_p_34, A_p_34, rfl, d_p_34⟩ := hq
  obtain ⟨v_p_34, ev_p_34⟩ : ∃ v_, v_ = (v_p_14.take ((([] : List Int32) ++ [(71 : Int32), 69, 84])).length ++ ((([(32 : Int32)]).map fun c => c.toInt8.toInt32).map Value.int) ++ v_p_14.drop (((([] : List Int32) ++ [(71 : Int32), 69, 84])).length + (((([(32 : Int32)]).map fun c => c.toInt8.toInt32).map Value.int)).length)) := ⟨_, rfl⟩
  obtain ⟨hl_p_34, ht_p_34⟩ := app_list (cap := 16) hl_p_14 ht_p_14 lm_p_34
  rw [← ev_p_34] at hl_p_34 ht_p_34
  have B_p_34 : Ary Z h_38 q_p_34 .byte v_p_34 := by rw [ev_p_34]; exact A_p_34
  obtain ⟨k_p_34, ek_p_34⟩ : ∃ k_ : Int32, k_ = (k_p_14 + Int32.ofNat (((([(32 : Int32)]).map fun c => c.toInt8.toInt32).map Value.int)).length) := ⟨_, rfl⟩
  rw [← ek_p_34] at Fn_p_34
  have hk_p_34 : k_p_34.toInt = ((((([] : List Int32) ++ [(71 : Int32), 69, 84]) ++ [(32 : Int32)]).length : Nat) : Int) := by rw [ek_p_34, add_nat (i := ((([] : List Int32) ++ [(71 : Int32), 69, 84])).length) (j := (((([(32 : Int32)]).map fun c => c.toInt8.toInt32).map Value.int)).length) hk_p_14 (ofNat_toInt (by omega)) (by omega)]; simp only [List.length_append, List.length_map]
  have le_p_34 : h0.size ≤ q_p_34 := by rcases d_p_34 with z_ | z_; exact z_ ▸ le_p_14; exact Nat.le_trans X_37.1 z_
  show G_headst (some consts_1) l Z n0 g ho ta tl t0 t1 hl h0_ h1_ z h0 4 28 [q_p_34, q_p_14, b_x_2, x_2] h_38 16 #[.val (.ref g), .val (.ref ho), .val (.ref ta)] [(.ref x_2)]
  have nb_p_34_t_g : t_g ≠ q_p_34 := Nat.ne_of_lt (Nat.lt_of_lt_of_le UL_g.lt le_p_34)
  have nb_p_34_t_ho : t_ho ≠ q_p_34 := Nat.ne_of_lt (Nat.lt_of_lt_of_le UL_ho.lt le_p_34)
  have nb_p_34_t_ta : t_ta ≠ q_p_34 := Nat.ne_of_lt (Nat.lt_of_lt_of_le UL_ta.lt le_p_34)
  refine Go.aloadN 17 d8_16 rfl rfl rfl ?_
  have X_43 : Ext h0 h_38 := extK X_37 K_p_34 (allS (Nat.le_of_eq g_3) (allS le_p_14 all0))
  have f_44 := V_ta.ext X_43
  have f_45 := UL_ta.ext X_43
  have UL_47 : Ary Z h_38 t_ta .byte ((((strf tl t0 t1)).map fun c => c.toInt8.toInt32).map Value.int) := f_45
  have f_48 := E_ta.ext X_43
  have nyx_p_46 : ta ≠ x_2 := ne_exa f_48 E_p_34 (by decide)
  have ntx_p_46 : t_ta ≠ x_2 := arr_ne UL_47 E_p_34 (w31 hw)
  have nyb_p_46 : ta ≠ q_p_34 := Ne.symm (arr_ne B_p_34 f_48 (w5 hw))
  have lm_p_46 : (((([] : List Int32) ++ [(71 : Int32), 69, 84]) ++ [(32 : Int32)])).length + (((((strf tl t0 t1)).map fun c => c.toInt8.toInt32).map Value.int)).length ≤ 16 := by have q1 := strf_l2 tl t0 t1; have q2 := strf_l2 hl h0_ h1_; simp only [List.length_append, List.length_map, List.length_cons, List.length_nil, headc_len] at *; omega
  have f_51 := C_ta.ext X_43
  refine Go.callV (S := []) (a := x_2) 20 [(.ref ta)] d8_17 rfl rfl (w52 hw) (w53 hw) (w55 hw) (w54 hw) (fun _ q => notFace_of_selects (args := #[]) (mvT q (w55 hw))) (by decide) E_p_34 (call_of_go (R := _) (len := 3) (W := 0) (plainFor_of_name pn_3) (fun mid => ef_sbapp16 mid x_2 ta t_ta q_p_34 z ((((strf tl t0 t1)).map fun c => c.toInt8.toInt32).map Value.int) v_p_34 k_p_34 (((([] : List Int32) ++ [(71 : Int32), 69, 84]) ++ [(32 : Int32)])).length ) (c_sbapp16 hw x_2 ta t_ta q_p_34 z ((((strf tl t0 t1)).map fun c => c.toInt8.toInt32).map Value.int) v_p_34 k_p_34 (((([] : List Int32) ++ [(71 : Int32), 69, 84]) ++ [(32 : Int32)])).length E_p_34 q_4 Fb_p_34 Fc_p_34 Fn_p_34 B_p_34 n0_p_34 nq_p_34 f_48 f_51 f_44 UL_47 nb_p_34_t_ta nyx_p_46 ntx_p_46 nyb_p_46 hk_p_34 lm_p_46 hl_p_34 SC hz) (w56 hw) (w32 hw) (by decide) (by decide)) (lenOf pd_18 rfl) (Nat.le_of_ble_eq_true rfl) rfl (Nat.le_of_ble_eq_true rfl) (Nat.le_of_ble_eq_true rfl) (allS (List.mem_of_getElem? (i := 3) rfl) (allS (List.mem_of_getElem? (i := 0) rfl) all0)) (fun v h_49 sf_50 hq => ?_)
  obtain ⟨q_p_46, rfl, K_p_46, E_p_46, n0_p_46, nq_p_46, Fb_p_46, Fc_p_46, Fn_p_46, A_p_46, rfl, d_p_46⟩ := hq
  obtain ⟨v_p_46, ev_p_46⟩ : ∃ v_, v_ = (v_p_34.take (((([] : List Int32) ++ [(71 : Int32), 69, 84]) ++ [(32 : Int32)])).length ++ ((((strf tl t0 t1)).map fun c => c.toInt8.toInt32).map Value.int) ++ v_p_34.drop ((((([] : List Int32) ++ [(71 : Int32), 69, 84]) ++ [(32 : Int32)])).length + (((((strf tl t0 t1)).map fun c => c.toInt8.toInt32).map Value.int)).length)) := ⟨_, rfl⟩
  obtain ⟨hl_p_46, ht_p_46⟩ := app_list (cap := 16) hl_p_34 ht_p_34 lm_p_46
  rw [← ev_p_46] at hl_p_46 ht_p_46
  have B_p_46 : Ary Z h_49 q_p_46 .byte v_p_46 := by rw [ev_p_46]; exact A_p_46
  obtain ⟨k_p_46, ek_p_46⟩ : ∃ k_ : Int32, k_ = (k_p_34 + Int32.ofNat (((((strf tl t0 t1)).map fun c => c.toInt8.toInt32).map Value.int)).length) := ⟨_, rfl⟩
  rw [← ek_p_46] at Fn_p_46
  have hk_p_46 : k_p_46.toInt = (((((([] : List Int32) ++ [(71 : Int32), 69, 84]) ++ [(32 : Int32)]) ++ (strf tl t0 t1)).length : Nat) : Int) := by rw [ek_p_46, add_nat (i := (((([] : List Int32) ++ [(71 : Int32), 69, 84]) ++ [(32 : Int32)])).length) (j := (((((strf tl t0 t1)).map fun c => c.toInt8.toInt32).map Value.int)).length) hk_p_34 (ofNat_toInt (by omega)) (by omega)]; simp only [List.length_append, List.length_map]
  have le_p_46 : h0.size ≤ q_p_46 := by rcases d_p_46 with z_ | z_; exact z_ ▸ le_p_34; exact Nat.le_trans X_43.1 z_
  show G_headst (some consts_1) l Z n0 g ho ta tl t0 t1 hl h0_ h1_ z h0 4 28 [q_p_46, q_p_34, q_p_14, b_x_2, x_2] h_49 20 #[.val (.ref g), .val (.ref ho), .val (.ref ta)] [(.ref x_2)]
  have nb_p_46_t_g : t_g ≠ q_p_46 := Nat.ne_of_lt (Nat.lt_of_lt_of_le UL_g.lt le_p_46)
  have nb_p_46_t_ho : t_ho ≠ q_p_46 := Nat.ne_of_lt (Nat.lt_of_lt_of_le UL_ho.lt le_p_46)
  have nb_p_46_t_ta : t_ta ≠ q_p_46 := Nat.ne_of_lt (Nat.lt_of_lt_of_le UL_ta.lt le_p_46)
  refine Go.ldcL (vs := [(.int (32 : Int32)), (.int (72 : Int32)), (.int (84 : Int32)), (.int (84 : Int32)), (.int (80 : Int32)), (.int (47 : Int32)), (.int (49 : Int32)), (.int (46 : Int32)), (.int (49 : Int32)), (.int (13 : Int32)), (.int (10 : Int32)), (.int (72 : Int32)), (.int (111 : Int32)), (.int (115 : Int32)), (.int (116 : Int32)), (.int (58 : Int32)), (.int (32 : Int32))]) (z := (17 : Int32)) 68 22 d8_20 rfl (w101 hw) (wS hw) (List.mem_of_getElem? (i := 3) rfl) ⟨by decide, rfl⟩ (by decide) (by decide) (by decide) (by decide) (Nat.le_of_ble_eq_true rfl) (Nat.le_of_ble_eq_true rfl) (fun h_52 s_53 b_54 k_55 E_56 A_57 C_58 V_59 B_60 ne_61 => ?_)
  have B_62 : Ary Z h_52 b_54 .byte [(.int (32 : Int32)), (.int (72 : Int32)), (.int (84 : Int32)), (.int (84 : Int32)), (.int (80 : Int32)), (.int (47 : Int32)), (.int (49 : Int32)), (.int (46 : Int32)), (.int (49 : Int32)), (.int (13 : Int32)), (.int (10 : Int32)), (.int (72 : Int32)), (.int (111 : Int32)), (.int (115 : Int32)), (.int (116 : Int32)), (.int (58 : Int32)), (.int (32 : Int32))] := Ary.ofArv B_60 rfl (by decide)
  have S_63 : Str Z h_52 s_53 [(32 : Int32), (72 : Int32), (84 : Int32), (84 : Int32), (80 : Int32), (47 : Int32), (49 : Int32), (46 : Int32), (49 : Int32), (13 : Int32), (10 : Int32), (72 : Int32), (111 : Int32), (115 : Int32), (116 : Int32), (58 : Int32), (32 : Int32)] := ⟨_, A_57, C_58, V_59, B_62, by unfold Lat; decide⟩
  show G_headst (some consts_1) l Z n0 g ho ta tl t0 t1 hl h0_ h1_ z h0 6 100 [q_p_46, q_p_34, q_p_14, b_x_2, x_2] h_52 22 #[.val (.ref g), .val (.ref ho), .val (.ref ta)] [(.ref s_53), (.ref x_2)]
  have UL_64 : Ary Z h_52 b_54 .byte ((([(32 : Int32), (72 : Int32), (84 : Int32), (84 : Int32), (80 : Int32), (47 : Int32), (49 : Int32), (46 : Int32), (49 : Int32), (13 : Int32), (10 : Int32), (72 : Int32), (111 : Int32), (115 : Int32), (116 : Int32), (58 : Int32), (32 : Int32)]).map fun c => c.toInt8.toInt32).map Value.int) := B_62
  have f_65 := B_p_46.ext E_56
  have f_67 := E_p_46.ext E_56
  have X_68 : Ext h0 h_49 := extK X_43 K_p_46 (allS (Nat.le_of_eq g_3) (allS le_p_34 all0))
  have X_69 : Ext h0 h_52 := extT X_68 E_56
  have nyx_p_66 : s_53 ≠ x_2 := ne_exa A_57 f_67 (by decide)
  have ntx_p_66 : b_54 ≠ x_2 := arr_ne UL_64 f_67 (w31 hw)
  have nyb_p_66 : s_53 ≠ q_p_46 := Ne.symm (arr_ne f_65 A_57 (w5 hw))
  have lm_p_66 : 16 < ((((([] : List Int32) ++ [(71 : Int32), 69, 84]) ++ [(32 : Int32)]) ++ (strf tl t0 t1))).length + (((([(32 : Int32), (72 : Int32), (84 : Int32), (84 : Int32), (80 : Int32), (47 : Int32), (49 : Int32), (46 : Int32), (49 : Int32), (13 : Int32), (10 : Int32), (72 : Int32), (111 : Int32), (115 : Int32), (116 : Int32), (58 : Int32), (32 : Int32)]).map fun c => c.toInt8.toInt32).map Value.int)).length ∧ ((((([] : List Int32) ++ [(71 : Int32), 69, 84]) ++ [(32 : Int32)]) ++ (strf tl t0 t1))).length + (((([(32 : Int32), (72 : Int32), (84 : Int32), (84 : Int32), (80 : Int32), (47 : Int32), (49 : Int32), (46 : Int32), (49 : Int32), (13 : Int32), (10 : Int32), (72 : Int32), (111 : Int32), (115 : Int32), (116 : Int32), (58 : Int32), (32 : Int32)]).map fun c => c.toInt8.toInt32).map Value.int)).length ≤ 34 := by have q1 := strf_l2 tl t0 t1; have q2 := strf_l2 hl h0_ h1_; simp only [List.length_append, List.length_map, List.length_cons, List.length_nil, headc_len] at *; omega
  have f_72 := Fb_p_46.ext E_56
  have f_73 := Fc_p_46.ext E_56
  have f_74 := Fn_p_46.ext E_56
  refine Go.callV (S := []) (a := x_2) 25 [(.ref s_53)] d8_22 rfl rfl (w52 hw) (w53 hw) (w55 hw) (w54 hw) (fun _ q => notFace_of_selects (args := #[]) (mvT q (w55 hw))) (by decide) f_67 (call_of_go (R := _) (len := 3) (W := 0) (plainFor_of_name pn_3) (fun mid => ef_sbappg mid x_2 s_53 b_54 q_p_46 z ((([(32 : Int32), (72 : Int32), (84 : Int32), (84 : Int32), (80 : Int32), (47 : Int32), (49 : Int32), (46 : Int32), (49 : Int32), (13 : Int32), (10 : Int32), (72 : Int32), (111 : Int32), (115 : Int32), (116 : Int32), (58 : Int32), (32 : Int32)]).map fun c => c.toInt8.toInt32).map Value.int) v_p_46 k_p_46 ((((([] : List Int32) ++ [(71 : Int32), 69, 84]) ++ [(32 : Int32)]) ++ (strf tl t0 t1))).length ) (c_sbappg hw x_2 s_53 b_54 q_p_46 z ((([(32 : Int32), (72 : Int32), (84 : Int32), (84 : Int32), (80 : Int32), (47 : Int32), (49 : Int32), (46 : Int32), (49 : Int32), (13 : Int32), (10 : Int32), (72 : Int32), (111 : Int32), (115 : Int32), (116 : Int32), (58 : Int32), (32 : Int32)]).map fun c => c.toInt8.toInt32).map Value.int) v_p_46 k_p_46 ((((([] : List Int32) ++ [(71 : Int32), 69, 84]) ++ [(32 : Int32)]) ++ (strf tl t0 t1))).length f_67 q_4 f_72 f_73 f_74 f_65 n0_p_46 nq_p_46 A_57 C_58 V_59 UL_64 (Ne.symm (ne_61 q_p_46 (List.mem_of_getElem? (i := 0) rfl)).2) nyx_p_66 ntx_p_66 nyb_p_66 hk_p_46 lm_p_66.1 lm_p_66.2 hl_p_46 SC hz) (w56 hw) (w32 hw) (by decide) (by decide)) (lenOf pd_18 rfl) (Nat.le_of_ble_eq_true rfl) rfl (Nat.le_of_ble_eq_true rfl) (Nat.le_of_ble_eq_true rfl) (allS (List.mem_of_getElem? (i := 4) rfl) (allS (List.mem_of_getElem? (i := 0) rfl) all0)) (fun v h_70 sf_71 hq => ?_)
  obtain ⟨q_p_66, rfl, K_p_66, E_p_66, n0_p_66, nq_p_66, Fb_p_66, Fc_p_66, Fn_p_66, A_p_66, rfl, d_p_66⟩ := hq
  obtain ⟨v_p_66, ev_p_66⟩ : ∃ v_, v_ = ((v_p_46 ++ List.replicate 18 (Value.int 0)).take ((((([] : List Int32) ++ [(71 : Int32), 69, 84]) ++ [(32 : Int32)]) ++ (strf tl t0 t1))).length ++ ((([(32 : Int32), (72 : Int32), (84 : Int32), (84 : Int32), (80 : Int32), (47 : Int32), (49 : Int32), (46 : Int32), (49 : Int32), (13 : Int32), (10 : Int32), (72 : Int32), (111 : Int32), (115 : Int32), (116 : Int32), (58 : Int32), (32 : Int32)]).map fun c => c.toInt8.toInt32).map Value.int) ++ (v_p_46 ++ List.replicate 18 (Value.int 0)).drop (((((([] : List Int32) ++ [(71 : Int32), 69, 84]) ++ [(32 : Int32)]) ++ (strf tl t0 t1))).length + (((([(32 : Int32), (72 : Int32), (84 : Int32), (84 : Int32), (80 : Int32), (47 : Int32), (49 : Int32), (46 : Int32), (49 : Int32), (13 : Int32), (10 : Int32), (72 : Int32), (111 : Int32), (115 : Int32), (116 : Int32), (58 : Int32), (32 : Int32)]).map fun c => c.toInt8.toInt32).map Value.int)).length)) := ⟨_, rfl⟩
  obtain ⟨hl_p_66, ht_p_66⟩ := app_list (cap := 34) (show (v_p_46 ++ List.replicate 18 (Value.int 0)).length = 34 by rw [List.length_append, hl_p_46]; rfl) (show (v_p_46 ++ List.replicate 18 (Value.int 0)).take ((((([] : List Int32) ++ [(71 : Int32), 69, 84]) ++ [(32 : Int32)]) ++ (strf tl t0 t1))).length = _ from (List.take_append_of_le_length (by rw [hl_p_46]; exact (by have q1 := strf_l2 tl t0 t1; have q2 := strf_l2 hl h0_ h1_; simp only [List.length_append, List.length_map, List.length_cons, List.length_nil, headc_len] at *; omega))).trans ht_p_46) lm_p_66.2
  rw [← ev_p_66] at hl_p_66 ht_p_66
  have B_p_66 : Ary Z h_70 q_p_66 .byte v_p_66 := by rw [ev_p_66]; exact A_p_66
  obtain ⟨k_p_66, ek_p_66⟩ : ∃ k_ : Int32, k_ = (k_p_46 + Int32.ofNat (((([(32 : Int32), (72 : Int32), (84 : Int32), (84 : Int32), (80 : Int32), (47 : Int32), (49 : Int32), (46 : Int32), (49 : Int32), (13 : Int32), (10 : Int32), (72 : Int32), (111 : Int32), (115 : Int32), (116 : Int32), (58 : Int32), (32 : Int32)]).map fun c => c.toInt8.toInt32).map Value.int)).length) := ⟨_, rfl⟩
  rw [← ek_p_66] at Fn_p_66
  have hk_p_66 : k_p_66.toInt = ((((((([] : List Int32) ++ [(71 : Int32), 69, 84]) ++ [(32 : Int32)]) ++ (strf tl t0 t1)) ++ [(32 : Int32), (72 : Int32), (84 : Int32), (84 : Int32), (80 : Int32), (47 : Int32), (49 : Int32), (46 : Int32), (49 : Int32), (13 : Int32), (10 : Int32), (72 : Int32), (111 : Int32), (115 : Int32), (116 : Int32), (58 : Int32), (32 : Int32)]).length : Nat) : Int) := by rw [ek_p_66, add_nat (i := ((((([] : List Int32) ++ [(71 : Int32), 69, 84]) ++ [(32 : Int32)]) ++ (strf tl t0 t1))).length) (j := (((([(32 : Int32), (72 : Int32), (84 : Int32), (84 : Int32), (80 : Int32), (47 : Int32), (49 : Int32), (46 : Int32), (49 : Int32), (13 : Int32), (10 : Int32), (72 : Int32), (111 : Int32), (115 : Int32), (116 : Int32), (58 : Int32), (32 : Int32)]).map fun c => c.toInt8.toInt32).map Value.int)).length) hk_p_46 (ofNat_toInt (by omega)) (by omega)]; simp only [List.length_append, List.length_map]
  have le_p_66 : h0.size ≤ q_p_66 := by rcases d_p_66 with z_ | z_; exact z_ ▸ le_p_46; exact Nat.le_trans X_69.1 z_
  show G_headst (some consts_1) l Z n0 g ho ta tl t0 t1 hl h0_ h1_ z h0 7 134 [q_p_66, q_p_46, q_p_34, q_p_14, b_x_2, x_2] h_70 25 #[.val (.ref g), .val (.ref ho), .val (.ref ta)] [(.ref x_2)]
  have nb_p_66_t_g : t_g ≠ q_p_66 := Nat.ne_of_lt (Nat.lt_of_lt_of_le UL_g.lt le_p_66)
  have nb_p_66_t_ho : t_ho ≠ q_p_66 := Nat.ne_of_lt (Nat.lt_of_lt_of_le UL_ho.lt le_p_66)
  have nb_p_66_t_ta : t_ta ≠ q_p_66 := Nat.ne_of_lt (Nat.lt_of_lt_of_le UL_ta.lt le_p_66)
  refine Go.aloadN 26 d8_25 rfl rfl rfl ?_
  have X_75 : Ext h0 h_70 := extK X_69 K_p_66 (allS (Nat.le_of_eq g_3) (allS le_p_46 all0))
  have f_76 := V_ho.ext X_75
  have f_77 := UL_ho.ext X_75
  have UL_79 : Ary Z h_70 t_ho .byte ((((strf hl h0_ h1_)).map fun c => c.toInt8.toInt32).map Value.int) := f_77
  have f_80 := E_ho.ext X_75
  have nyx_p_78 : ho ≠ x_2 := ne_exa f_80 E_p_66 (by decide)
  have ntx_p_78 : t_ho ≠ x_2 := arr_ne UL_79 E_p_66 (w31 hw)
  have nyb_p_78 : ho ≠ q_p_66 := Ne.symm (arr_ne B_p_66 f_80 (w5 hw))
  have lm_p_78 : (((((([] : List Int32) ++ [(71 : Int32), 69, 84]) ++ [(32 : Int32)]) ++ (strf tl t0 t1)) ++ [(32 : Int32), (72 : Int32), (84 : Int32), (84 : Int32), (80 : Int32), (47 : Int32), (49 : Int32), (46 : Int32), (49 : Int32), (13 : Int32), (10 : Int32), (72 : Int32), (111 : Int32), (115 : Int32), (116 : Int32), (58 : Int32), (32 : Int32)])).length + (((((strf hl h0_ h1_)).map fun c => c.toInt8.toInt32).map Value.int)).length ≤ 34 := by have q1 := strf_l2 tl t0 t1; have q2 := strf_l2 hl h0_ h1_; simp only [List.length_append, List.length_map, List.length_cons, List.length_nil, headc_len] at *; omega
  have f_83 := C_ho.ext X_75
  refine Go.callV (S := []) (a := x_2) 29 [(.ref ho)] d8_26 rfl rfl (w52 hw) (w53 hw) (w55 hw) (w54 hw) (fun _ q => notFace_of_selects (args := #[]) (mvT q (w55 hw))) (by decide) E_p_66 (call_of_go (R := _) (len := 3) (W := 0) (plainFor_of_name pn_3) (fun mid => ef_sbapp34 mid x_2 ho t_ho q_p_66 z ((((strf hl h0_ h1_)).map fun c => c.toInt8.toInt32).map Value.int) v_p_66 k_p_66 (((((([] : List Int32) ++ [(71 : Int32), 69, 84]) ++ [(32 : Int32)]) ++ (strf tl t0 t1)) ++ [(32 : Int32), (72 : Int32), (84 : Int32), (84 : Int32), (80 : Int32), (47 : Int32), (49 : Int32), (46 : Int32), (49 : Int32), (13 : Int32), (10 : Int32), (72 : Int32), (111 : Int32), (115 : Int32), (116 : Int32), (58 : Int32), (32 : Int32)])).length ) (c_sbapp34 hw x_2 ho t_ho q_p_66 z ((((strf hl h0_ h1_)).map fun c => c.toInt8.toInt32).map Value.int) v_p_66 k_p_66 (((((([] : List Int32) ++ [(71 : Int32), 69, 84]) ++ [(32 : Int32)]) ++ (strf tl t0 t1)) ++ [(32 : Int32), (72 : Int32), (84 : Int32), (84 : Int32), (80 : Int32), (47 : Int32), (49 : Int32), (46 : Int32), (49 : Int32), (13 : Int32), (10 : Int32), (72 : Int32), (111 : Int32), (115 : Int32), (116 : Int32), (58 : Int32), (32 : Int32)])).length E_p_66 q_4 Fb_p_66 Fc_p_66 Fn_p_66 B_p_66 n0_p_66 nq_p_66 f_80 f_83 f_76 UL_79 nb_p_66_t_ho nyx_p_78 ntx_p_78 nyb_p_78 hk_p_66 lm_p_78 hl_p_66 SC hz) (w56 hw) (w32 hw) (by decide) (by decide)) (lenOf pd_18 rfl) (Nat.le_of_ble_eq_true rfl) rfl (Nat.le_of_ble_eq_true rfl) (Nat.le_of_ble_eq_true rfl) (allS (List.mem_of_getElem? (i := 5) rfl) (allS (List.mem_of_getElem? (i := 0) rfl) all0)) (fun v h_81 sf_82 hq => ?_)
  obtain ⟨q_p_78, rfl, K_p_78, E_p_78, n0_p_78, nq_p_78, Fb_p_78, Fc_p_78, Fn_p_78, A_p_78, rfl, d_p_78⟩ := hq
  obtain ⟨v_p_78, ev_p_78⟩ : ∃ v_, v_ = (v_p_66.take (((((([] : List Int32) ++ [(71 : Int32), 69, 84]) ++ [(32 : Int32)]) ++ (strf tl t0 t1)) ++ [(32 : Int32), (72 : Int32), (84 : Int32), (84 : Int32), (80 : Int32), (47 : Int32), (49 : Int32), (46 : Int32), (49 : Int32), (13 : Int32), (10 : Int32), (72 : Int32), (111 : Int32), (115 : Int32), (116 : Int32), (58 : Int32), (32 : Int32)])).length ++ ((((strf hl h0_ h1_)).map fun c => c.toInt8.toInt32).map Value.int) ++ v_p_66.drop ((((((([] : List Int32) ++ [(71 : Int32), 69, 84]) ++ [(32 : Int32)]) ++ (strf tl t0 t1)) ++ [(32 : Int32), (72 : Int32), (84 : Int32), (84 : Int32), (80 : Int32), (47 : Int32), (49 : Int32), (46 : Int32), (49 : Int32), (13 : Int32), (10 : Int32), (72 : Int32), (111 : Int32), (115 : Int32), (116 : Int32), (58 : Int32), (32 : Int32)])).length + (((((strf hl h0_ h1_)).map fun c => c.toInt8.toInt32).map Value.int)).length)) := ⟨_, rfl⟩
  obtain ⟨hl_p_78, ht_p_78⟩ := app_list (cap := 34) hl_p_66 ht_p_66 lm_p_78
  rw [← ev_p_78] at hl_p_78 ht_p_78
  have B_p_78 : Ary Z h_81 q_p_78 .byte v_p_78 := by rw [ev_p_78]; exact A_p_78
  obtain ⟨k_p_78, ek_p_78⟩ : ∃ k_ : Int32, k_ = (k_p_66 + Int32.ofNat (((((strf hl h0_ h1_)).map fun c => c.toInt8.toInt32).map Value.int)).length) := ⟨_, rfl⟩
  rw [← ek_p_78] at Fn_p_78
  have hk_p_78 : k_p_78.toInt = (((((((([] : List Int32) ++ [(71 : Int32), 69, 84]) ++ [(32 : Int32)]) ++ (strf tl t0 t1)) ++ [(32 : Int32), (72 : Int32), (84 : Int32), (84 : Int32), (80 : Int32), (47 : Int32), (49 : Int32), (46 : Int32), (49 : Int32), (13 : Int32), (10 : Int32), (72 : Int32), (111 : Int32), (115 : Int32), (116 : Int32), (58 : Int32), (32 : Int32)]) ++ (strf hl h0_ h1_)).length : Nat) : Int) := by rw [ek_p_78, add_nat (i := (((((([] : List Int32) ++ [(71 : Int32), 69, 84]) ++ [(32 : Int32)]) ++ (strf tl t0 t1)) ++ [(32 : Int32), (72 : Int32), (84 : Int32), (84 : Int32), (80 : Int32), (47 : Int32), (49 : Int32), (46 : Int32), (49 : Int32), (13 : Int32), (10 : Int32), (72 : Int32), (111 : Int32), (115 : Int32), (116 : Int32), (58 : Int32), (32 : Int32)])).length) (j := (((((strf hl h0_ h1_)).map fun c => c.toInt8.toInt32).map Value.int)).length) hk_p_66 (ofNat_toInt (by omega)) (by omega)]; simp only [List.length_append, List.length_map]
  have le_p_78 : h0.size ≤ q_p_78 := by rcases d_p_78 with z_ | z_; exact z_ ▸ le_p_66; exact Nat.le_trans X_75.1 z_
  show G_headst (some consts_1) l Z n0 g ho ta tl t0 t1 hl h0_ h1_ z h0 7 134 [q_p_78, q_p_66, q_p_46, q_p_34, q_p_14, b_x_2, x_2] h_81 29 #[.val (.ref g), .val (.ref ho), .val (.ref ta)] [(.ref x_2)]
  have nb_p_78_t_g : t_g ≠ q_p_78 := Nat.ne_of_lt (Nat.lt_of_lt_of_le UL_g.lt le_p_78)
  have nb_p_78_t_ho : t_ho ≠ q_p_78 := Nat.ne_of_lt (Nat.lt_of_lt_of_le UL_ho.lt le_p_78)
  have nb_p_78_t_ta : t_ta ≠ q_p_78 := Nat.ne_of_lt (Nat.lt_of_lt_of_le UL_ta.lt le_p_78)
  refine Go.ldcL (vs := [(.int (13 : Int32)), (.int (10 : Int32))]) (z := (2 : Int32)) 8 31 d8_29 rfl (w125 hw) (wS hw) (List.mem_of_getElem? (i := 1) rfl) ⟨by decide, rfl⟩ (by decide) (by decide) (by decide) (by decide) (Nat.le_of_ble_eq_true rfl) (Nat.le_of_ble_eq_true rfl) (fun h_84 s_85 b_86 k_87 E_88 A_89 C_90 V_91 B_92 ne_93 => ?_)
  have B_94 : Ary Z h_84 b_86 .byte [(.int (13 : Int32)), (.int (10 : Int32))] := Ary.ofArv B_92 rfl (by decide)
  have S_95 : Str Z h_84 s_85 [(13 : Int32), (10 : Int32)] := ⟨_, A_89, C_90, V_91, B_94, by unfold Lat; decide⟩
  show G_headst (some consts_1) l Z n0 g ho ta tl t0 t1 hl h0_ h1_ z h0 9 146 [q_p_78, q_p_66, q_p_46, q_p_34, q_p_14, b_x_2, x_2] h_84 31 #[.val (.ref g), .val (.ref ho), .val (.ref ta)] [(.ref s_85), (.ref x_2)]
  have UL_96 : Ary Z h_84 b_86 .byte ((([(13 : Int32), (10 : Int32)]).map fun c => c.toInt8.toInt32).map Value.int) := B_94
  have f_97 := B_p_78.ext E_88
  have f_99 := E_p_78.ext E_88
  have X_100 : Ext h0 h_81 := extK X_75 K_p_78 (allS (Nat.le_of_eq g_3) (allS le_p_66 all0))
  have X_101 : Ext h0 h_84 := extT X_100 E_88
  have nyx_p_98 : s_85 ≠ x_2 := ne_exa A_89 f_99 (by decide)
  have ntx_p_98 : b_86 ≠ x_2 := arr_ne UL_96 f_99 (w31 hw)
  have nyb_p_98 : s_85 ≠ q_p_78 := Ne.symm (arr_ne f_97 A_89 (w5 hw))
  have lm_p_98 : ((((((([] : List Int32) ++ [(71 : Int32), 69, 84]) ++ [(32 : Int32)]) ++ (strf tl t0 t1)) ++ [(32 : Int32), (72 : Int32), (84 : Int32), (84 : Int32), (80 : Int32), (47 : Int32), (49 : Int32), (46 : Int32), (49 : Int32), (13 : Int32), (10 : Int32), (72 : Int32), (111 : Int32), (115 : Int32), (116 : Int32), (58 : Int32), (32 : Int32)]) ++ (strf hl h0_ h1_))).length + (((([(13 : Int32), (10 : Int32)]).map fun c => c.toInt8.toInt32).map Value.int)).length ≤ 34 := by have q1 := strf_l2 tl t0 t1; have q2 := strf_l2 hl h0_ h1_; simp only [List.length_append, List.length_map, List.length_cons, List.length_nil, headc_len] at *; omega
  have f_104 := Fb_p_78.ext E_88
  have f_105 := Fc_p_78.ext E_88
  have f_106 := Fn_p_78.ext E_88
  refine Go.callV (S := []) (a := x_2) 34 [(.ref s_85)] d8_31 rfl rfl (w52 hw) (w53 hw) (w55 hw) (w54 hw) (fun _ q => notFace_of_selects (args := #[]) (mvT q (w55 hw))) (by decide) f_99 (call_of_go (R := _) (len := 3) (W := 0) (plainFor_of_name pn_3) (fun mid => ef_sbapp34 mid x_2 s_85 b_86 q_p_78 z ((([(13 : Int32), (10 : Int32)]).map fun c => c.toInt8.toInt32).map Value.int) v_p_78 k_p_78 ((((((([] : List Int32) ++ [(71 : Int32), 69, 84]) ++ [(32 : Int32)]) ++ (strf tl t0 t1)) ++ [(32 : Int32), (72 : Int32), (84 : Int32), (84 : Int32), (80 : Int32), (47 : Int32), (49 : Int32), (46 : Int32), (49 : Int32), (13 : Int32), (10 : Int32), (72 : Int32), (111 : Int32), (115 : Int32), (116 : Int32), (58 : Int32), (32 : Int32)]) ++ (strf hl h0_ h1_))).length ) (c_sbapp34 hw x_2 s_85 b_86 q_p_78 z ((([(13 : Int32), (10 : Int32)]).map fun c => c.toInt8.toInt32).map Value.int) v_p_78 k_p_78 ((((((([] : List Int32) ++ [(71 : Int32), 69, 84]) ++ [(32 : Int32)]) ++ (strf tl t0 t1)) ++ [(32 : Int32), (72 : Int32), (84 : Int32), (84 : Int32), (80 : Int32), (47 : Int32), (49 : Int32), (46 : Int32), (49 : Int32), (13 : Int32), (10 : Int32), (72 : Int32), (111 : Int32), (115 : Int32), (116 : Int32), (58 : Int32), (32 : Int32)]) ++ (strf hl h0_ h1_))).length f_99 q_4 f_104 f_105 f_106 f_97 n0_p_78 nq_p_78 A_89 C_90 V_91 UL_96 (Ne.symm (ne_93 q_p_78 (List.mem_of_getElem? (i := 0) rfl)).2) nyx_p_98 ntx_p_98 nyb_p_98 hk_p_78 lm_p_98 hl_p_78 SC hz) (w56 hw) (w32 hw) (by decide) (by decide)) (lenOf pd_18 rfl) (Nat.le_of_ble_eq_true rfl) rfl (Nat.le_of_ble_eq_true rfl) (Nat.le_of_ble_eq_true rfl) (allS (List.mem_of_getElem? (i := 6) rfl) (allS (List.mem_of_getElem? (i := 0) rfl) all0)) (fun v h_102 sf_103 hq => ?_)
  obtain ⟨q_p_98, rfl, K_p_98, E_p_98, n0_p_98, nq_p_98, Fb_p_98, Fc_p_98, Fn_p_98, A_p_98, rfl, d_p_98⟩ := hq
  obtain ⟨v_p_98, ev_p_98⟩ : ∃ v_, v_ = (v_p_78.take ((((((([] : List Int32) ++ [(71 : Int32), 69, 84]) ++ [(32 : Int32)]) ++ (strf tl t0 t1)) ++ [(32 : Int32), (72 : Int32), (84 : Int32), (84 : Int32), (80 : Int32), (47 : Int32), (49 : Int32), (46 : Int32), (49 : Int32), (13 : Int32), (10 : Int32), (72 : Int32), (111 : Int32), (115 : Int32), (116 : Int32), (58 : Int32), (32 : Int32)]) ++ (strf hl h0_ h1_))).length ++ ((([(13 : Int32), (10 : Int32)]).map fun c => c.toInt8.toInt32).map Value.int) ++ v_p_78.drop (((((((([] : List Int32) ++ [(71 : Int32), 69, 84]) ++ [(32 : Int32)]) ++ (strf tl t0 t1)) ++ [(32 : Int32), (72 : Int32), (84 : Int32), (84 : Int32), (80 : Int32), (47 : Int32), (49 : Int32), (46 : Int32), (49 : Int32), (13 : Int32), (10 : Int32), (72 : Int32), (111 : Int32), (115 : Int32), (116 : Int32), (58 : Int32), (32 : Int32)]) ++ (strf hl h0_ h1_))).length + (((([(13 : Int32), (10 : Int32)]).map fun c => c.toInt8.toInt32).map Value.int)).length)) := ⟨_, rfl⟩
  obtain ⟨hl_p_98, ht_p_98⟩ := app_list (cap := 34) hl_p_78 ht_p_78 lm_p_98
  rw [← ev_p_98] at hl_p_98 ht_p_98
  have B_p_98 : Ary Z h_102 q_p_98 .byte v_p_98 := by rw [ev_p_98]; exact A_p_98
  obtain ⟨k_p_98, ek_p_98⟩ : ∃ k_ : Int32, k_ = (k_p_78 + Int32.ofNat (((([(13 : Int32), (10 : Int32)]).map fun c => c.toInt8.toInt32).map Value.int)).length) := ⟨_, rfl⟩
  rw [← ek_p_98] at Fn_p_98
  have hk_p_98 : k_p_98.toInt = ((((((((([] : List Int32) ++ [(71 : Int32), 69, 84]) ++ [(32 : Int32)]) ++ (strf tl t0 t1)) ++ [(32 : Int32), (72 : Int32), (84 : Int32), (84 : Int32), (80 : Int32), (47 : Int32), (49 : Int32), (46 : Int32), (49 : Int32), (13 : Int32), (10 : Int32), (72 : Int32), (111 : Int32), (115 : Int32), (116 : Int32), (58 : Int32), (32 : Int32)]) ++ (strf hl h0_ h1_)) ++ [(13 : Int32), (10 : Int32)]).length : Nat) : Int) := by rw [ek_p_98, add_nat (i := ((((((([] : List Int32) ++ [(71 : Int32), 69, 84]) ++ [(32 : Int32)]) ++ (strf tl t0 t1)) ++ [(32 : Int32), (72 : Int32), (84 : Int32), (84 : Int32), (80 : Int32), (47 : Int32), (49 : Int32), (46 : Int32), (49 : Int32), (13 : Int32), (10 : Int32), (72 : Int32), (111 : Int32), (115 : Int32), (116 : Int32), (58 : Int32), (32 : Int32)]) ++ (strf hl h0_ h1_))).length) (j := (((([(13 : Int32), (10 : Int32)]).map fun c => c.toInt8.toInt32).map Value.int)).length) hk_p_78 (ofNat_toInt (by omega)) (by omega)]; simp only [List.length_append, List.length_map]
  have le_p_98 : h0.size ≤ q_p_98 := by rcases d_p_98 with z_ | z_; exact z_ ▸ le_p_78; exact Nat.le_trans X_101.1 z_
  show G_headst (some consts_1) l Z n0 g ho ta tl t0 t1 hl h0_ h1_ z h0 9 146 [q_p_98, q_p_78, q_p_66, q_p_46, q_p_34, q_p_14, b_x_2, x_2] h_102 34 #[.val (.ref g), .val (.ref ho), .val (.ref ta)] [(.ref x_2)]
  have nb_p_98_t_g : t_g ≠ q_p_98 := Nat.ne_of_lt (Nat.lt_of_lt_of_le UL_g.lt le_p_98)
  have nb_p_98_t_ho : t_ho ≠ q_p_98 := Nat.ne_of_lt (Nat.lt_of_lt_of_le UL_ho.lt le_p_98)
  have nb_p_98_t_ta : t_ta ≠ q_p_98 := Nat.ne_of_lt (Nat.lt_of_lt_of_le UL_ta.lt le_p_98)
  have ht_f : v_p_98.take (((((((([] : List Int32) ++ [(71 : Int32), 69, 84]) ++ [(32 : Int32)]) ++ (strf tl t0 t1)) ++ [(32 : Int32), (72 : Int32), (84 : Int32), (84 : Int32), (80 : Int32), (47 : Int32), (49 : Int32), (46 : Int32), (49 : Int32), (13 : Int32), (10 : Int32), (72 : Int32), (111 : Int32), (115 : Int32), (116 : Int32), (58 : Int32), (32 : Int32)]) ++ (strf hl h0_ h1_)) ++ [(13 : Int32), (10 : Int32)])).length = ((((headc tl t0 t1 hl h0_ h1_)).map fun c => c.toInt8.toInt32).map Value.int) := ht_p_98
  refine Go.callV (S := []) (a := x_2) 37 [] d8_34 rfl rfl (w126 hw) (w127 hw) (w129 hw) (w128 hw) (fun _ q => notFace_of_selects (args := #[]) (mvT q (w129 hw))) (by decide) E_p_98 (call_of_go (R := _) (len := 3) (W := 0) (plainFor_of_name pn_3) (fun mid => ef_sbts mid x_2 q_p_98 z v_p_98 (headc tl t0 t1 hl h0_ h1_) k_p_98 (((((((([] : List Int32) ++ [(71 : Int32), 69, 84]) ++ [(32 : Int32)]) ++ (strf tl t0 t1)) ++ [(32 : Int32), (72 : Int32), (84 : Int32), (84 : Int32), (80 : Int32), (47 : Int32), (49 : Int32), (46 : Int32), (49 : Int32), (13 : Int32), (10 : Int32), (72 : Int32), (111 : Int32), (115 : Int32), (116 : Int32), (58 : Int32), (32 : Int32)]) ++ (strf hl h0_ h1_)) ++ [(13 : Int32), (10 : Int32)])).length ) (c_sbts hw x_2 q_p_98 z v_p_98 (headc tl t0 t1 hl h0_ h1_) k_p_98 (((((((([] : List Int32) ++ [(71 : Int32), 69, 84]) ++ [(32 : Int32)]) ++ (strf tl t0 t1)) ++ [(32 : Int32), (72 : Int32), (84 : Int32), (84 : Int32), (80 : Int32), (47 : Int32), (49 : Int32), (46 : Int32), (49 : Int32), (13 : Int32), (10 : Int32), (72 : Int32), (111 : Int32), (115 : Int32), (116 : Int32), (58 : Int32), (32 : Int32)]) ++ (strf hl h0_ h1_)) ++ [(13 : Int32), (10 : Int32)])).length E_p_98 Fb_p_98 Fc_p_98 Fn_p_98 B_p_98 nq_p_98 hl_p_98 hk_p_98 (by have q1 := strf_l2 tl t0 t1; have q2 := strf_l2 hl h0_ h1_; simp only [List.length_append, List.length_map, List.length_cons, List.length_nil, headc_len] at *; omega) ht_f (headc_lat b_tl b_hl b_t0 b_t1 b_h0_ b_h1_) SC hz) (w130 hw) (w32 hw) (by decide) (by decide)) (lenOf pd_29 rfl) (Nat.le_of_ble_eq_true rfl) rfl (Nat.le_of_ble_eq_true rfl) (Nat.le_of_ble_eq_true rfl) (fun _ q => nomatch q) (fun v h_107 sf_112 hq => ?_)
  obtain ⟨y_108, rfl, E_109, le_110, S_111⟩ := hq
  refine Go.more (sf' := [q_p_98, q_p_78, q_p_66, q_p_46, q_p_34, q_p_14, b_x_2, x_2]) ?_ (Nat.le_refl _) (Nat.le_refl _) (fun _ q => List.mem_append_right _ q)
  show G_headst (some consts_1) l Z n0 g ho ta tl t0 t1 hl h0_ h1_ z h0 11 184 [q_p_98, q_p_78, q_p_66, q_p_46, q_p_34, q_p_14, b_x_2, x_2] h_107 37 #[.val (.ref g), .val (.ref ho), .val (.ref ta)] [(.ref y_108)]
  have X_113 : Ext h0 h_102 := extK X_101 K_p_98 (allS (Nat.le_of_eq g_3) (allS le_p_78 all0))
  have X_114 : Ext h0 h_107 := extT X_113 E_109
  exact Go.retA d8_37 rfl rfl rfl (sf' := []) (⟨_, rfl, X_114, (Nat.le_trans X_113.1 le_110), S_111.mono X_113.1⟩) (fun _ q => nomatch q) (Nat.le_of_ble_eq_true rfl) (Nat.le_of_ble_eq_true rfl)
abbrev G_hget (md : Md) (l : Launch) (Z : State) (n0 : Nat) (ho ta ac u8 i8 : Addr) (tl t0 t1 hl h0_ h1_ : Int32) (z : Int32) (h0 : Heap) := Go md l Z n0 ({ frames := 7, cells := 21, slots := 338, locals := 106 } : Room) prog_21_method_2_code 2 (some (.array .byte)) "com/example/tugas/tugas/cli/Http" "get" (fun v h' _ => ∃ r, v = some (.ref r) ∧ Ext h0 h' ∧ Ary Z h' r .byte ((respL tl t0 t1 hl h0_ h1_).map Value.int))
theorem ef_hget (mid : MethodId) (ho ta ac u8 i8 : Addr) (tl t0 t1 hl h0_ h1_ : Int32) (z : Int32)  : entryFrame mid #[(.ref ho), (.ref ta)] 2 = mkF mid 0 #[.val (.ref ho), .val (.ref ta)] [] := by first | (simp [entryFrame, mkF, argsToLocals, Value.category]; done) | rfl
set_option maxRecDepth 65536 in
set_option maxHeartbeats 40000000 in
theorem c_hget {l : Launch} {Z : State} {n0 : Nat} {a0 : Array Value} (hw : HW a0 Z) (ho ta ac u8 i8 : Addr) (tl t0 t1 hl h0_ h1_ : Int32) (z : Int32) {h0 : Heap} (Sh : Str Z h0 ho (strf hl h0_ h1_)) (St : Str Z h0 ta (strf tl t0 t1)) (b_tl : tl = 0 ∨ tl = 1 ∨ tl = 2) (b_hl : hl = 0 ∨ hl = 1 ∨ hl = 2) (b_t0 : ¬ t0 < 0 ∧ ¬ (255 : Int32) < t0) (b_t1 : ¬ t1 < 0 ∧ ¬ (255 : Int32) < t1) (b_h0_ : ¬ h0_ < 0 ∧ ¬ (255 : Int32) < h0_) (b_h1_ : ¬ h1_ < 0 ∧ ¬ (255 : Int32) < h1_) (ZS : Sta Z Z.heap "java/nio/charset/StandardCharsets" "US_ASCII" "Ljava/nio/charset/Charset;" (.ref ac)) (ZU : Sta Z Z.heap "sun/nio/cs/UTF_8" "INSTANCE" "Lsun/nio/cs/UTF_8;" (.ref u8)) (ZI : Sta Z Z.heap "sun/nio/cs/ISO_8859_1" "INSTANCE" "Lsun/nio/cs/ISO_8859_1;" (.ref i8)) (ZA : Sta Z Z.heap "sun/nio/cs/US_ASCII" "INSTANCE" "Lsun/nio/cs/US_ASCII;" (.ref ac)) (nu : ac ≠ u8) (ni : ac ≠ i8) (SC : Sta Z Z.heap "java/lang/String" "COMPACT_STRINGS" "Z" (.int z)) (hz : ¬ z = 0)  : G_hget (some consts_1) l Z n0 ho ta ac u8 i8 tl t0 t1 hl h0_ h1_ z h0 0 0 [] h0 0 #[.val (.ref ho), .val (.ref ta)] [] := by
  refine Go.new 3 d5_0 rfl (w30 hw) (w31 hw) (w32 hw) (Nat.le_of_ble_eq_true rfl) (Nat.le_of_ble_eq_true rfl) (fun h_1 x_2 g_3 q_4 E_5 lt_6 A_7 D_8 => ?_)
  show G_hget (some consts_1) l Z n0 ho ta ac u8 i8 tl t0 t1 hl h0_ h1_ z h0 1 4 [x_2] h_1 3 #[.val (.ref ho), .val (.ref ta)] [(.ref x_2)]
  refine Go.dup 4 d5_3 rfl rfl ?_
  refine Go.callC (S := [(.ref x_2)]) (a := x_2) 7 [] d5_4 rfl rfl rfl (w33 hw) (w34 hw) (w35 hw) (by decide) (call_of_go (R := _) (len := 3) (W := 1) (plainFor_of_name pn_3) (fun mid => ef_sbinit mid x_2 z ) (c_sbinit hw x_2 z A_7 q_4 (D_8 (Or.inl (w45 hw)) (ty := (.array .byte)) (by decide)) (D_8 (Or.inl (w74 hw)) (ty := .int) (by decide)) SC hz) (w35 hw) (w32 hw) (by decide) (by decide)) (lenOf pd_12 rfl) (Nat.le_of_ble_eq_true rfl) rfl (Nat.le_of_ble_eq_true rfl) (Nat.le_of_ble_eq_true rfl) (fun _ q => q) (fun v h_9 sf_10 hq => ?_)
  obtain ⟨b_x_2, rfl, Kb_x_2, Eb_x_2, le_b_x_2, n0b_x_2, nbx_x_2, Fb_x_2, Fc_x_2, Fn'_x_2, Ab_x_2, rfl⟩ := hq
  show G_hget (some consts_1) l Z n0 ho ta ac u8 i8 tl t0 t1 hl h0_ h1_ z h0 2 20 [b_x_2, x_2] h_9 7 #[.val (.ref ho), .val (.ref ta)] [(.ref x_2)]
  obtain ⟨v_x_2, ev_x_2⟩ : ∃ v_, v_ = List.replicate 16 (Value.int 0) := ⟨_, rfl⟩
  rw [← ev_x_2] at Ab_x_2
  have hl_x_2 : v_x_2.length = 16 := by rw [ev_x_2]; rfl
  have ht_x_2 : v_x_2.take (([] : List Int32)).length = (((([] : List Int32)).map fun c => c.toInt8.toInt32).map Value.int) := rfl
  refine Go.ldcL (vs := [(.int (71 : Int32)), (.int (69 : Int32)), (.int (84 : Int32))]) (z := (3 : Int32)) 12 9 d5_7 rfl (w48 hw) (wS hw) (List.mem_of_getElem? (i := 0) rfl) ⟨by decide, rfl⟩ (by decide) (by decide) (by decide) (by decide) (Nat.le_of_ble_eq_true rfl) (Nat.le_of_ble_eq_true rfl) (fun h_11 s_12 b_13 k_14 E_15 A_16 C_17 V_18 B_19 ne_20 => ?_)
  have B_21 : Ary Z h_11 b_13 .byte [(.int (71 : Int32)), (.int (69 : Int32)), (.int (84 : Int32))] := Ary.ofArv B_19 rfl (by decide)
  have S_22 : Str Z h_11 s_12 [(71 : Int32), (69 : Int32), (84 : Int32)] := ⟨_, A_16, C_17, V_18, B_21, by unfold Lat; decide⟩
  show G_hget (some consts_1) l Z n0 ho ta ac u8 i8 tl t0 t1 hl h0_ h1_ z h0 4 36 [b_x_2, x_2] h_11 9 #[.val (.ref ho), .val (.ref ta)] [(.ref s_12), (.ref x_2)]
  have UL_23 : Ary Z h_11 b_13 .byte ((([(71 : Int32), (69 : Int32), (84 : Int32)]).map fun c => c.toInt8.toInt32).map Value.int) := B_21
  refine Go.aloadN 10 d5_9 rfl rfl rfl ?_
  refine Go.aloadN 11 d5_10 rfl rfl rfl ?_
  have f_29 := Ab_x_2.ext E_15
  have X_30 : Ext h0 h_9 := extK E_5 Kb_x_2 (allS (Nat.le_of_eq g_3) all0)
  have X_31 : Ext h0 h_11 := extT X_30 E_15
  have f_32 := Sh.ext X_31
  have f_33 := St.ext X_31
  refine Go.callS (S := [(.ref x_2)]) 14 [(.ref s_12), (.ref ho), (.ref ta)] d5_11 rfl rfl (w49 hw) (w50 hw) (w28 hw) (w51 hw) (by decide) (call_of_go (R := _) (len := 3) (W := 1) (plainFor_of_name pn_5) (fun mid => ef_headst mid s_12 ho ta tl t0 t1 hl h0_ h1_ z ) (c_headst hw s_12 ho ta tl t0 t1 hl h0_ h1_ z S_22 f_32 f_33 b_tl b_hl b_t0 b_t1 b_h0_ b_h1_ SC hz) (w51 hw) (w28 hw) (by decide) (by decide)) (lenOf pd_30 rfl) (Nat.le_of_ble_eq_true rfl) rfl (Nat.le_of_ble_eq_true rfl) (Nat.le_of_ble_eq_true rfl) (fun _ q => nomatch q) (fun v h_24 sf_34 hq => ?_)
  obtain ⟨y_25, rfl, E_26, le_27, S_28⟩ := hq
  refine Go.more (sf' := [b_x_2, x_2]) ?_ (Nat.le_refl _) (Nat.le_refl _) (fun _ q => List.mem_append_right _ q)
  show G_hget (some consts_1) l Z n0 ho ta ac u8 i8 tl t0 t1 hl h0_ h1_ z h0 15 220 [b_x_2, x_2] h_24 14 #[.val (.ref ho), .val (.ref ta)] [(.ref y_25), (.ref x_2)]
  obtain ⟨t_y, E_y, C_y, V_y, UL_y, lt_y, -, le_ty⟩ := S_28
  have ntyb : t_y ≠ b_x_2 := Nat.ne_of_gt (Nat.lt_of_lt_of_le f_29.lt le_ty)
  have f_35 := f_29.ext E_26
  have X_37 : Ext h_9 h_24 := extT E_15 E_26
  have f_38 := Eb_x_2.ext X_37
  have X_39 : Ext h0 h_24 := extT X_31 E_26
  have nyx_p_36 : y_25 ≠ x_2 := ne_exa E_y f_38 (by decide)
  have ntx_p_36 : t_y ≠ x_2 := arr_ne UL_y f_38 (w31 hw)
  have nyb_p_36 : y_25 ≠ b_x_2 := Ne.symm (arr_ne f_35 E_y (w5 hw))
  have lm_p_36 : 16 < (([] : List Int32)).length + (((((headc tl t0 t1 hl h0_ h1_)).map fun c => c.toInt8.toInt32).map Value.int)).length ∧ (([] : List Int32)).length + (((((headc tl t0 t1 hl h0_ h1_)).map fun c => c.toInt8.toInt32).map Value.int)).length ≤ 34 := by have q1 := strf_l2 tl t0 t1; have q2 := strf_l2 hl h0_ h1_; simp only [List.length_append, List.length_map, List.length_cons, List.length_nil, headc_len] at *; omega
  have f_42 := Fb_x_2.ext X_37
  have f_43 := Fc_x_2.ext X_37
  have f_44 := Fn'_x_2.ext X_37
  refine Go.callV (S := []) (a := x_2) 17 [(.ref y_25)] d5_14 rfl rfl (w52 hw) (w53 hw) (w55 hw) (w54 hw) (fun _ q => notFace_of_selects (args := #[]) (mvT q (w55 hw))) (by decide) f_38 (call_of_go (R := _) (len := 3) (W := 0) (plainFor_of_name pn_3) (fun mid => ef_sbappg mid x_2 y_25 t_y b_x_2 z ((((headc tl t0 t1 hl h0_ h1_)).map fun c => c.toInt8.toInt32).map Value.int) v_x_2 (0 : Int32) (([] : List Int32)).length ) (c_sbappg hw x_2 y_25 t_y b_x_2 z ((((headc tl t0 t1 hl h0_ h1_)).map fun c => c.toInt8.toInt32).map Value.int) v_x_2 (0 : Int32) (([] : List Int32)).length f_38 q_4 f_42 f_43 f_44 f_35 n0b_x_2 nbx_x_2 E_y C_y V_y UL_y ntyb nyx_p_36 ntx_p_36 nyb_p_36 (rfl : (0 : Int32).toInt = (((([] : List Int32)).length : Nat) : Int)) lm_p_36.1 lm_p_36.2 hl_x_2 SC hz) (w56 hw) (w32 hw) (by decide) (by decide)) (lenOf pd_18 rfl) (Nat.le_of_ble_eq_true rfl) rfl (Nat.le_of_ble_eq_true rfl) (Nat.le_of_ble_eq_true rfl) (allS (List.mem_of_getElem? (i := 1) rfl) (allS (List.mem_of_getElem? (i := 0) rfl) all0)) (fun v h_40 sf_41 hq => ?_)
  obtain ⟨q_p_36, rfl, K_p_36, E_p_36, n0_p_36, nq_p_36, Fb_p_36, Fc_p_36, Fn_p_36, A_p_36, rfl, d_p_36⟩ := hq
  obtain ⟨v_p_36, ev_p_36⟩ : ∃ v_, v_ = ((v_x_2 ++ List.replicate 18 (Value.int 0)).take (([] : List Int32)).length ++ ((((headc tl t0 t1 hl h0_ h1_)).map fun c => c.toInt8.toInt32).map Value.int) ++ (v_x_2 ++ List.replicate 18 (Value.int 0)).drop ((([] : List Int32)).length + (((((headc tl t0 t1 hl h0_ h1_)).map fun c => c.toInt8.toInt32).map Value.int)).length)) := ⟨_, rfl⟩
  obtain ⟨hl_p_36, ht_p_36⟩ := app_list (cap := 34) (show (v_x_2 ++ List.replicate 18 (Value.int 0)).length = 34 by rw [List.length_append, hl_x_2]; rfl) (show (v_x_2 ++ List.replicate 18 (Value.int 0)).take (([] : List Int32)).length = _ from (List.take_append_of_le_length (by rw [hl_x_2]; exact (by have q1 := strf_l2 tl t0 t1; have q2 := strf_l2 hl h0_ h1_; simp only [List.length_append, List.length_map, List.length_cons, List.length_nil, headc_len] at *; omega))).trans ht_x_2) lm_p_36.2
  rw [← ev_p_36] at hl_p_36 ht_p_36
  have B_p_36 : Ary Z h_40 q_p_36 .byte v_p_36 := by rw [ev_p_36]; exact A_p_36
  obtain ⟨k_p_36, ek_p_36⟩ : ∃ k_ : Int32, k_ = ((0 : Int32) + Int32.ofNat (((((headc tl t0 t1 hl h0_ h1_)).map fun c => c.toInt8.toInt32).map Value.int)).length) := ⟨_, rfl⟩
  rw [← ek_p_36] at Fn_p_36
  have hk_p_36 : k_p_36.toInt = (((([] : List Int32) ++ (headc tl t0 t1 hl h0_ h1_)).length : Nat) : Int) := by rw [ek_p_36, add_nat (i := (([] : List Int32)).length) (j := (((((headc tl t0 t1 hl h0_ h1_)).map fun c => c.toInt8.toInt32).map Value.int)).length) (rfl : (0 : Int32).toInt = (((([] : List Int32)).length : Nat) : Int)) (ofNat_toInt (by omega)) (by omega)]; simp only [List.length_append, List.length_map]
  have le_p_36 : h0.size ≤ q_p_36 := by rcases d_p_36 with z_ | z_; exact z_ ▸ (Nat.le_trans E_5.1 le_b_x_2); exact Nat.le_trans X_39.1 z_
  show G_hget (some consts_1) l Z n0 ho ta ac u8 i8 tl t0 t1 hl h0_ h1_ z h0 16 254 [q_p_36, b_x_2, x_2] h_40 17 #[.val (.ref ho), .val (.ref ta)] [(.ref x_2)]
  refine Go.ldcL (vs := [(.int (13 : Int32)), (.int (10 : Int32))]) (z := (2 : Int32)) 8 19 d5_17 rfl (w125 hw) (wS hw) (List.mem_of_getElem? (i := 1) rfl) ⟨by decide, rfl⟩ (by decide) (by decide) (by decide) (by decide) (Nat.le_of_ble_eq_true rfl) (Nat.le_of_ble_eq_true rfl) (fun h_45 s_46 b_47 k_48 E_49 A_50 C_51 V_52 B_53 ne_54 => ?_)
  have B_55 : Ary Z h_45 b_47 .byte [(.int (13 : Int32)), (.int (10 : Int32))] := Ary.ofArv B_53 rfl (by decide)
  have S_56 : Str Z h_45 s_46 [(13 : Int32), (10 : Int32)] := ⟨_, A_50, C_51, V_52, B_55, by unfold Lat; decide⟩
  show G_hget (some consts_1) l Z n0 ho ta ac u8 i8 tl t0 t1 hl h0_ h1_ z h0 18 266 [q_p_36, b_x_2, x_2] h_45 19 #[.val (.ref ho), .val (.ref ta)] [(.ref s_46), (.ref x_2)]
  have UL_57 : Ary Z h_45 b_47 .byte ((([(13 : Int32), (10 : Int32)]).map fun c => c.toInt8.toInt32).map Value.int) := B_55
  have f_58 := B_p_36.ext E_49
  have f_60 := E_p_36.ext E_49
  have X_61 : Ext h0 h_40 := extK X_39 K_p_36 (allS (Nat.le_of_eq g_3) (allS (Nat.le_trans E_5.1 le_b_x_2) all0))
  have X_62 : Ext h0 h_45 := extT X_61 E_49
  have nyx_p_59 : s_46 ≠ x_2 := ne_exa A_50 f_60 (by decide)
  have ntx_p_59 : b_47 ≠ x_2 := arr_ne UL_57 f_60 (w31 hw)
  have nyb_p_59 : s_46 ≠ q_p_36 := Ne.symm (arr_ne f_58 A_50 (w5 hw))
  have lm_p_59 : ((([] : List Int32) ++ (headc tl t0 t1 hl h0_ h1_))).length + (((([(13 : Int32), (10 : Int32)]).map fun c => c.toInt8.toInt32).map Value.int)).length ≤ 34 := by have q1 := strf_l2 tl t0 t1; have q2 := strf_l2 hl h0_ h1_; simp only [List.length_append, List.length_map, List.length_cons, List.length_nil, headc_len] at *; omega
  have f_65 := Fb_p_36.ext E_49
  have f_66 := Fc_p_36.ext E_49
  have f_67 := Fn_p_36.ext E_49
  refine Go.callV (S := []) (a := x_2) 22 [(.ref s_46)] d5_19 rfl rfl (w52 hw) (w53 hw) (w55 hw) (w54 hw) (fun _ q => notFace_of_selects (args := #[]) (mvT q (w55 hw))) (by decide) f_60 (call_of_go (R := _) (len := 3) (W := 0) (plainFor_of_name pn_3) (fun mid => ef_sbapp34 mid x_2 s_46 b_47 q_p_36 z ((([(13 : Int32), (10 : Int32)]).map fun c => c.toInt8.toInt32).map Value.int) v_p_36 k_p_36 ((([] : List Int32) ++ (headc tl t0 t1 hl h0_ h1_))).length ) (c_sbapp34 hw x_2 s_46 b_47 q_p_36 z ((([(13 : Int32), (10 : Int32)]).map fun c => c.toInt8.toInt32).map Value.int) v_p_36 k_p_36 ((([] : List Int32) ++ (headc tl t0 t1 hl h0_ h1_))).length f_60 q_4 f_65 f_66 f_67 f_58 n0_p_36 nq_p_36 A_50 C_51 V_52 UL_57 (Ne.symm (ne_54 q_p_36 (List.mem_of_getElem? (i := 0) rfl)).2) nyx_p_59 ntx_p_59 nyb_p_59 hk_p_36 lm_p_59 hl_p_36 SC hz) (w56 hw) (w32 hw) (by decide) (by decide)) (lenOf pd_18 rfl) (Nat.le_of_ble_eq_true rfl) rfl (Nat.le_of_ble_eq_true rfl) (Nat.le_of_ble_eq_true rfl) (allS (List.mem_of_getElem? (i := 2) rfl) (allS (List.mem_of_getElem? (i := 0) rfl) all0)) (fun v h_63 sf_64 hq => ?_)
  obtain ⟨q_p_59, rfl, K_p_59, E_p_59, n0_p_59, nq_p_59, Fb_p_59, Fc_p_59, Fn_p_59, A_p_59, rfl, d_p_59⟩ := hq
  obtain ⟨v_p_59, ev_p_59⟩ : ∃ v_, v_ = (v_p_36.take ((([] : List Int32) ++ (headc tl t0 t1 hl h0_ h1_))).length ++ ((([(13 : Int32), (10 : Int32)]).map fun c => c.toInt8.toInt32).map Value.int) ++ v_p_36.drop (((([] : List Int32) ++ (headc tl t0 t1 hl h0_ h1_))).length + (((([(13 : Int32), (10 : Int32)]).map fun c => c.toInt8.toInt32).map Value.int)).length)) := ⟨_, rfl⟩
  obtain ⟨hl_p_59, ht_p_59⟩ := app_list (cap := 34) hl_p_36 ht_p_36 lm_p_59
  rw [← ev_p_59] at hl_p_59 ht_p_59
  have B_p_59 : Ary Z h_63 q_p_59 .byte v_p_59 := by rw [ev_p_59]; exact A_p_59
  obtain ⟨k_p_59, ek_p_59⟩ : ∃ k_ : Int32, k_ = (k_p_36 + Int32.ofNat (((([(13 : Int32), (10 : Int32)]).map fun c => c.toInt8.toInt32).map Value.int)).length) := ⟨_, rfl⟩
  rw [← ek_p_59] at Fn_p_59
  have hk_p_59 : k_p_59.toInt = ((((([] : List Int32) ++ (headc tl t0 t1 hl h0_ h1_)) ++ [(13 : Int32), (10 : Int32)]).length : Nat) : Int) := by rw [ek_p_59, add_nat (i := ((([] : List Int32) ++ (headc tl t0 t1 hl h0_ h1_))).length) (j := (((([(13 : Int32), (10 : Int32)]).map fun c => c.toInt8.toInt32).map Value.int)).length) hk_p_36 (ofNat_toInt (by omega)) (by omega)]; simp only [List.length_append, List.length_map]
  have le_p_59 : h0.size ≤ q_p_59 := by rcases d_p_59 with z_ | z_; exact z_ ▸ le_p_36; exact Nat.le_trans X_62.1 z_
  show G_hget (some consts_1) l Z n0 ho ta ac u8 i8 tl t0 t1 hl h0_ h1_ z h0 18 266 [q_p_59, q_p_36, b_x_2, x_2] h_63 22 #[.val (.ref ho), .val (.ref ta)] [(.ref x_2)]
  have ht_f : v_p_59.take (((([] : List Int32) ++ (headc tl t0 t1 hl h0_ h1_)) ++ [(13 : Int32), (10 : Int32)])).length = (((((([] : List Int32) ++ headc tl t0 t1 hl h0_ h1_) ++ [(13 : Int32), 10])).map fun c => c.toInt8.toInt32).map Value.int) := ht_p_59
  refine Go.callV (S := []) (a := x_2) 25 [] d5_22 rfl rfl (w126 hw) (w127 hw) (w129 hw) (w128 hw) (fun _ q => notFace_of_selects (args := #[]) (mvT q (w129 hw))) (by decide) E_p_59 (call_of_go (R := _) (len := 3) (W := 0) (plainFor_of_name pn_3) (fun mid => ef_sbts mid x_2 q_p_59 z v_p_59 ((([] : List Int32) ++ headc tl t0 t1 hl h0_ h1_) ++ [(13 : Int32), 10]) k_p_59 (((([] : List Int32) ++ (headc tl t0 t1 hl h0_ h1_)) ++ [(13 : Int32), (10 : Int32)])).length ) (c_sbts hw x_2 q_p_59 z v_p_59 ((([] : List Int32) ++ headc tl t0 t1 hl h0_ h1_) ++ [(13 : Int32), 10]) k_p_59 (((([] : List Int32) ++ (headc tl t0 t1 hl h0_ h1_)) ++ [(13 : Int32), (10 : Int32)])).length E_p_59 Fb_p_59 Fc_p_59 Fn_p_59 B_p_59 nq_p_59 hl_p_59 hk_p_59 (by have q1 := strf_l2 tl t0 t1; have q2 := strf_l2 hl h0_ h1_; simp only [List.length_append, List.length_map, List.length_cons, List.length_nil, headc_len] at *; omega) ht_f (fin_lat b_tl b_hl b_t0 b_t1 b_h0_ b_h1_) SC hz) (w130 hw) (w32 hw) (by decide) (by decide)) (lenOf pd_29 rfl) (Nat.le_of_ble_eq_true rfl) rfl (Nat.le_of_ble_eq_true rfl) (Nat.le_of_ble_eq_true rfl) (fun _ q => nomatch q) (fun v h_68 sf_73 hq => ?_)
  obtain ⟨y_69, rfl, E_70, le_71, S_72⟩ := hq
  refine Go.more (sf' := [q_p_59, q_p_36, b_x_2, x_2]) ?_ (Nat.le_refl _) (Nat.le_refl _) (fun _ q => List.mem_append_right _ q)
  show G_hget (some consts_1) l Z n0 ho ta ac u8 i8 tl t0 t1 hl h0_ h1_ z h0 20 304 [q_p_59, q_p_36, b_x_2, x_2] h_68 25 #[.val (.ref ho), .val (.ref ta)] [(.ref y_69)]
  refine Go.getS 28 d5_25 rfl (w165 hw) Via.refl ZS ?_
  refine Go.callV (S := []) (a := y_69) 31 [(.ref ac)] d5_28 rfl rfl (w167 hw) (w168 hw) (w170 hw) (w169 hw) (fun _ q => notFace_of_selects (args := #[]) (mvT q (w170 hw))) (by decide) S_72.exa (call_of_go (R := _) (len := 3) (W := 0) (plainFor_of_name pn_0) (fun mid => ef_gbc mid y_69 ac u8 i8 z ((([] : List Int32) ++ headc tl t0 t1 hl h0_ h1_) ++ [(13 : Int32), 10]) h_63.size ) (c_gbc hw y_69 ac u8 i8 z ((([] : List Int32) ++ headc tl t0 t1 hl h0_ h1_) ++ [(13 : Int32), 10]) h_63.size S_72 (by have q1 := strf_l2 tl t0 t1; have q2 := strf_l2 hl h0_ h1_; simp only [List.length_append, List.length_map, List.length_cons, List.length_nil, headc_len] at *; omega) ZU ZI ZA nu ni SC hz) (w171 hw) (w6 hw) (by decide) (by decide)) (lenOf pd_31 rfl) (Nat.le_of_ble_eq_true rfl) rfl (Nat.le_of_ble_eq_true rfl) (Nat.le_of_ble_eq_true rfl) (fun _ q => nomatch q) (fun v h_74 sf_79 hq => ?_)
  obtain ⟨r_75, rfl, E_76, le_77, A_78⟩ := hq
  refine Go.more (sf' := [q_p_59, q_p_36, b_x_2, x_2]) ?_ (Nat.le_refl _) (Nat.le_refl _) (fun _ q => List.mem_append_right _ q)
  show G_hget (some consts_1) l Z n0 ho ta ac u8 i8 tl t0 t1 hl h0_ h1_ z h0 21 338 [q_p_59, q_p_36, b_x_2, x_2] h_74 31 #[.val (.ref ho), .val (.ref ta)] [(.ref r_75)]
  have X_80 : Ext h0 h_63 := extK X_62 K_p_59 (allS (Nat.le_of_eq g_3) (allS le_p_36 all0))
  have X_81 : Ext h0 h_68 := extT X_80 E_70
  have X_82 : Ext h0 h_74 := extT X_81 E_76
  exact Go.retA d5_31 rfl rfl rfl (sf' := []) (⟨_, rfl, X_82, by rw [← resp_eq]; exact A_78⟩) (fun _ q => nomatch q) (Nat.le_of_ble_eq_true rfl) (Nat.le_of_ble_eq_true rfl)
abbrev G_att (md : Md) (l : Launch) (Z : State) (n0 : Nat) (b : Addr) (i cc : Int32) (ys : List Int32) (h0 : Heap) := Go md l Z n0 ({ frames := 0, cells := 0, slots := 0, locals := 0 } : Room) method_5_code 3 (some .boolean) "com/example/tugas/tugas/cli/HttpGetPinLaw" "at" (fun v h' _ => h0 = h' ∧ v = some (.int 1))
theorem ef_att (mid : MethodId) (b : Addr) (i cc : Int32) (ys : List Int32)  : entryFrame mid #[(.ref b), (.int i), (.int cc)] 3 = mkF mid 0 #[.val (.ref b), .val (.int i), .val (.int cc)] [] := by first | (simp [entryFrame, mkF, argsToLocals, Value.category]; done) | rfl
set_option maxRecDepth 65536 in
set_option maxHeartbeats 40000000 in
theorem c_att {md : Md} {l : Launch} {Z : State} {n0 : Nat} {a0 : Array Value} (hw : HW a0 Z) (b : Addr) (i cc : Int32) (ys : List Int32) {h0 : Heap} (A : Ary Z h0 b .byte (ys.map Value.int)) (hi : ∃ k : Nat, i.toInt = (k : Int) ∧ ys[k]? = some cc) (hl : ys.length ≤ 4000) : G_att md l Z n0 b i cc ys h0 0 0 [] h0 0 #[.val (.ref b), .val (.int i), .val (.int cc)] [] := by
  obtain ⟨k, hk, hy⟩ := hi
  have hkl := (List.getElem?_eq_some_iff.mp hy).1
  refine Go.iloadN 1 d36_0 rfl rfl ?_
  refine Go.ifN 4 d36_1 rfl (flt (knn hk)).1 ?_
  refine Go.iloadN 5 d36_4 rfl rfl ?_
  refine Go.aloadN 6 d36_5 rfl rfl rfl ?_
  refine Go.alen 7 (Int32.ofNat ys.length) d36_6 rfl A (by rw [List.length_map]) ?_
  refine Go.icmpN 10 d36_7 rfl (tlt (len_yes hk hkl hl)).2.1 ?_
  refine Go.aloadN 11 d36_10 rfl rfl rfl ?_
  refine Go.iloadN 12 d36_11 rfl rfl ?_
  refine Go.baload k 13 d36_12 rfl A hk (by rw [List.getElem?_map, hy]; rfl) ?_
  refine Go.iloadN 14 d36_13 rfl rfl ?_
  refine Go.icmpN 17 d36_14 rfl (teq rfl).2 ?_
  refine Go.iconst 18 (1 : Int32) d36_17 rfl rfl ?_
  refine Go.goto 22 d36_18 (by decide) (by decide) ?_
  exact Go.retN (1 : Int32) d36_22 rfl (t := .boolean) (by simp) rfl (sf' := []) (⟨rfl, rfl⟩) (fun _ q => nomatch q) (Nat.le_of_ble_eq_true rfl) (Nat.le_of_ble_eq_true rfl)
abbrev G_encc (md : Md) (l : Launch) (Z : State) (n0 : Nat) (cc : Int32) (h0 : Heap) := Go md l Z n0 ({ frames := 0, cells := 0, slots := 0, locals := 0 } : Room) method_4_code 1 (some .int) "com/example/tugas/tugas/cli/HttpGetPinLaw" "enc" (fun v h' _ => h0 = h' ∧ v = some (.int (encI cc)))
theorem ef_encc (mid : MethodId) (cc : Int32)  : entryFrame mid #[(.int cc)] 1 = mkF mid 0 #[.val (.int cc)] [] := by first | (simp [entryFrame, mkF, argsToLocals, Value.category]; done) | rfl
set_option maxRecDepth 65536 in
set_option maxHeartbeats 40000000 in
theorem c_encc {md : Md} {l : Launch} {Z : State} {n0 : Nat} {a0 : Array Value} (hw : HW a0 Z) (cc : Int32) {h0 : Heap}  : G_encc md l Z n0 cc h0 0 0 [] h0 0 #[.val (.int cc)] [] := by
  refine Go.iloadN 1 d41_0 rfl rfl ?_
  refine Go.sipush 4 (128 : Int32) d41_1 rfl rfl ?_
  by_cases hc4 : cc < (128 : Int32)
  · skip
    refine Go.icmpN 7 d41_4 rfl (tlt hc4).2.1 ?_
    refine Go.iloadN 8 d41_7 rfl rfl ?_
    refine Go.goto 13 d41_8 (by decide) (by decide) ?_
    exact Go.retI d41_13 rfl (sf' := []) (⟨rfl, by rw [encI, if_pos hc4]⟩) (fun _ q => nomatch q) (Nat.le_of_ble_eq_true rfl) (Nat.le_of_ble_eq_true rfl)
  · skip
    refine Go.icmpY 11 d41_4 (by decide) (by decide) (flt hc4).2.1 ?_
    refine Go.bipush 13 (63 : Int32) d41_11 rfl rfl ?_
    exact Go.retI d41_13 rfl (sf' := []) (⟨rfl, by rw [encI, if_neg hc4]⟩) (fun _ q => nomatch q) (Nat.le_of_ble_eq_true rfl) (Nat.le_of_ble_eq_true rfl)
abbrev G_law (l : Launch) (Z : State) (n0 : Nat) := Go (some consts_1) l Z n0 room_1 code maxLocals ret "com/example/tugas/tugas/cli/HttpGetPinLaw" "law" (fun v _ _ => v = some (.int 1))
theorem ef_law (m : MethodId) (p0 : Int32) (p1 : Int32) : entryFrame m #[(.int p0), (.int p1)] maxLocals = mkF m 0 #[.val (.int p0), .val (.int p1), .unset, .unset, .unset, .unset, .unset, .unset, .unset, .unset, .unset, .unset, .unset, .unset, .unset] [] := by first | (simp [entryFrame, mkF, argsToLocals, Value.category, maxLocals]; done) | rfl
set_option maxRecDepth 65536 in
set_option maxHeartbeats 40000000 in
theorem law_go {l : Launch} {Z : State} {n0 : Nat} {a0 : Array Value} (hw : HW a0 Z) (p0 : Int32) (p1 : Int32) (z : Int32) (SC : Sta Z Z.heap "java/lang/String" "COMPACT_STRINGS" "Z" (.int z)) (hz : ¬ z = 0) (ac u8 i8 : Addr) (ZS : Sta Z Z.heap "java/nio/charset/StandardCharsets" "US_ASCII" "Ljava/nio/charset/Charset;" (.ref ac)) (ZU : Sta Z Z.heap "sun/nio/cs/UTF_8" "INSTANCE" "Lsun/nio/cs/UTF_8;" (.ref u8)) (ZI : Sta Z Z.heap "sun/nio/cs/ISO_8859_1" "INSTANCE" "Lsun/nio/cs/ISO_8859_1;" (.ref i8)) (ZA : Sta Z Z.heap "sun/nio/cs/US_ASCII" "INSTANCE" "Lsun/nio/cs/US_ASCII;" (.ref ac)) (nu : ac ≠ u8) (ni : ac ≠ i8)  {h0 : Heap} : G_law l Z n0 0 0 [] h0 0 #[.val (.int p0), .val (.int p1), .unset, .unset, .unset, .unset, .unset, .unset, .unset, .unset, .unset, .unset, .unset, .unset, .unset] [] := by
  refine Go.iloadN 1 at_0 rfl rfl ?_
  refine Go.bipush 3 (16 : Int32) at_1 rfl rfl ?_
  refine Go.iushr 4 at_3 rfl ?_
  refine Go.sipush 7 (32767 : Int32) at_4 rfl rfl ?_
  refine Go.iand 8 at_7 rfl ?_
  refine Go.iconst 9 (3 : Int32) at_8 rfl rfl ?_
  refine Go.irem 10 at_9 rfl (by decide) ?_
  refine Go.istoreN 11 #[.val (.int p0), .val (.int p1), .val (.int (((ushr p0 (16 : Int32)) &&& (32767 : Int32)) % (3 : Int32))), .unset, .unset, .unset, .unset, .unset, .unset, .unset, .unset, .unset, .unset, .unset, .unset] at_10 rfl rfl ?_
  refine Go.iloadN 12 at_11 rfl rfl ?_
  refine Go.bipush 14 (16 : Int32) at_12 rfl rfl ?_
  refine Go.iushr 15 at_14 rfl ?_
  refine Go.sipush 18 (32767 : Int32) at_15 rfl rfl ?_
  refine Go.iand 19 at_18 rfl ?_
  refine Go.iconst 20 (3 : Int32) at_19 rfl rfl ?_
  refine Go.irem 21 at_20 rfl (by decide) ?_
  refine Go.istoreN 22 #[.val (.int p0), .val (.int p1), .val (.int (((ushr p0 (16 : Int32)) &&& (32767 : Int32)) % (3 : Int32))), .val (.int (((ushr p1 (16 : Int32)) &&& (32767 : Int32)) % (3 : Int32))), .unset, .unset, .unset, .unset, .unset, .unset, .unset, .unset, .unset, .unset, .unset] at_21 rfl rfl ?_
  refine Go.iloadN 23 at_22 rfl rfl ?_
  refine Go.sipush 26 (255 : Int32) at_23 rfl rfl ?_
  refine Go.iand 27 at_26 rfl ?_
  refine Go.i2c 28 at_27 rfl ?_
  refine Go.istore 30 #[.val (.int p0), .val (.int p1), .val (.int (((ushr p0 (16 : Int32)) &&& (32767 : Int32)) % (3 : Int32))), .val (.int (((ushr p1 (16 : Int32)) &&& (32767 : Int32)) % (3 : Int32))), .val (.int (chr (p0 &&& (255 : Int32)))), .unset, .unset, .unset, .unset, .unset, .unset, .unset, .unset, .unset, .unset] at_28 rfl rfl ?_
  refine Go.iloadN 31 at_30 rfl rfl ?_
  refine Go.bipush 33 (8 : Int32) at_31 rfl rfl ?_
  refine Go.iushr 34 at_33 rfl ?_
  refine Go.sipush 37 (255 : Int32) at_34 rfl rfl ?_
  refine Go.iand 38 at_37 rfl ?_
  refine Go.i2c 39 at_38 rfl ?_
  refine Go.istore 41 #[.val (.int p0), .val (.int p1), .val (.int (((ushr p0 (16 : Int32)) &&& (32767 : Int32)) % (3 : Int32))), .val (.int (((ushr p1 (16 : Int32)) &&& (32767 : Int32)) % (3 : Int32))), .val (.int (chr (p0 &&& (255 : Int32)))), .val (.int (chr ((ushr p0 (8 : Int32)) &&& (255 : Int32)))), .unset, .unset, .unset, .unset, .unset, .unset, .unset, .unset, .unset] at_39 rfl rfl ?_
  refine Go.iloadN 42 at_41 rfl rfl ?_
  refine Go.sipush 45 (255 : Int32) at_42 rfl rfl ?_
  refine Go.iand 46 at_45 rfl ?_
  refine Go.i2c 47 at_46 rfl ?_
  refine Go.istore 49 #[.val (.int p0), .val (.int p1), .val (.int (((ushr p0 (16 : Int32)) &&& (32767 : Int32)) % (3 : Int32))), .val (.int (((ushr p1 (16 : Int32)) &&& (32767 : Int32)) % (3 : Int32))), .val (.int (chr (p0 &&& (255 : Int32)))), .val (.int (chr ((ushr p0 (8 : Int32)) &&& (255 : Int32)))), .val (.int (chr (p1 &&& (255 : Int32)))), .unset, .unset, .unset, .unset, .unset, .unset, .unset, .unset] at_47 rfl rfl ?_
  refine Go.iloadN 50 at_49 rfl rfl ?_
  refine Go.bipush 52 (8 : Int32) at_50 rfl rfl ?_
  refine Go.iushr 53 at_52 rfl ?_
  refine Go.sipush 56 (255 : Int32) at_53 rfl rfl ?_
  refine Go.iand 57 at_56 rfl ?_
  refine Go.i2c 58 at_57 rfl ?_
  refine Go.istore 60 #[.val (.int p0), .val (.int p1), .val (.int (((ushr p0 (16 : Int32)) &&& (32767 : Int32)) % (3 : Int32))), .val (.int (((ushr p1 (16 : Int32)) &&& (32767 : Int32)) % (3 : Int32))), .val (.int (chr (p0 &&& (255 : Int32)))), .val (.int (chr ((ushr p0 (8 : Int32)) &&& (255 : Int32)))), .val (.int (chr (p1 &&& (255 : Int32)))), .val (.int (chr ((ushr p1 (8 : Int32)) &&& (255 : Int32)))), .unset, .unset, .unset, .unset, .unset, .unset, .unset] at_58 rfl rfl ?_
  obtain ⟨hl, e_hl⟩ : ∃ y_ : Int32, y_ = (((ushr p0 (16 : Int32)) &&& (32767 : Int32)) % (3 : Int32)) := ⟨_, rfl⟩
  have b_hl : hl = 0 ∨ hl = 1 ∨ hl = 2 := by rw [e_hl]; exact rem3 (nonneg_and _ (by decide))
  rw [← e_hl]
  show G_law l Z n0 0 0 [] h0 60 #[.val (.int p0), .val (.int p1), .val (.int hl), .val (.int (((ushr p1 (16 : Int32)) &&& (32767 : Int32)) % (3 : Int32))), .val (.int (chr (p0 &&& (255 : Int32)))), .val (.int (chr ((ushr p0 (8 : Int32)) &&& (255 : Int32)))), .val (.int (chr (p1 &&& (255 : Int32)))), .val (.int (chr ((ushr p1 (8 : Int32)) &&& (255 : Int32)))), .unset, .unset, .unset, .unset, .unset, .unset, .unset] []
  obtain ⟨tl, e_tl⟩ : ∃ y_ : Int32, y_ = (((ushr p1 (16 : Int32)) &&& (32767 : Int32)) % (3 : Int32)) := ⟨_, rfl⟩
  have b_tl : tl = 0 ∨ tl = 1 ∨ tl = 2 := by rw [e_tl]; exact rem3 (nonneg_and _ (by decide))
  rw [← e_tl]
  show G_law l Z n0 0 0 [] h0 60 #[.val (.int p0), .val (.int p1), .val (.int hl), .val (.int tl), .val (.int (chr (p0 &&& (255 : Int32)))), .val (.int (chr ((ushr p0 (8 : Int32)) &&& (255 : Int32)))), .val (.int (chr (p1 &&& (255 : Int32)))), .val (.int (chr ((ushr p1 (8 : Int32)) &&& (255 : Int32)))), .unset, .unset, .unset, .unset, .unset, .unset, .unset] []
  obtain ⟨h0_, e_h0_⟩ : ∃ y_ : Int32, y_ = (chr (p0 &&& (255 : Int32))) := ⟨_, rfl⟩
  have b_h0_ : ¬ h0_ < 0 ∧ ¬ (255 : Int32) < h0_ := by rw [e_h0_]; exact chr255 _
  rw [← e_h0_]
  show G_law l Z n0 0 0 [] h0 60 #[.val (.int p0), .val (.int p1), .val (.int hl), .val (.int tl), .val (.int h0_), .val (.int (chr ((ushr p0 (8 : Int32)) &&& (255 : Int32)))), .val (.int (chr (p1 &&& (255 : Int32)))), .val (.int (chr ((ushr p1 (8 : Int32)) &&& (255 : Int32)))), .unset, .unset, .unset, .unset, .unset, .unset, .unset] []
  obtain ⟨h1_, e_h1_⟩ : ∃ y_ : Int32, y_ = (chr ((ushr p0 (8 : Int32)) &&& (255 : Int32))) := ⟨_, rfl⟩
  have b_h1_ : ¬ h1_ < 0 ∧ ¬ (255 : Int32) < h1_ := by rw [e_h1_]; exact chr255 _
  rw [← e_h1_]
  show G_law l Z n0 0 0 [] h0 60 #[.val (.int p0), .val (.int p1), .val (.int hl), .val (.int tl), .val (.int h0_), .val (.int h1_), .val (.int (chr (p1 &&& (255 : Int32)))), .val (.int (chr ((ushr p1 (8 : Int32)) &&& (255 : Int32)))), .unset, .unset, .unset, .unset, .unset, .unset, .unset] []
  obtain ⟨t0, e_t0⟩ : ∃ y_ : Int32, y_ = (chr (p1 &&& (255 : Int32))) := ⟨_, rfl⟩
  have b_t0 : ¬ t0 < 0 ∧ ¬ (255 : Int32) < t0 := by rw [e_t0]; exact chr255 _
  rw [← e_t0]
  show G_law l Z n0 0 0 [] h0 60 #[.val (.int p0), .val (.int p1), .val (.int hl), .val (.int tl), .val (.int h0_), .val (.int h1_), .val (.int t0), .val (.int (chr ((ushr p1 (8 : Int32)) &&& (255 : Int32)))), .unset, .unset, .unset, .unset, .unset, .unset, .unset] []
  obtain ⟨t1, e_t1⟩ : ∃ y_ : Int32, y_ = (chr ((ushr p1 (8 : Int32)) &&& (255 : Int32))) := ⟨_, rfl⟩
  have b_t1 : ¬ t1 < 0 ∧ ¬ (255 : Int32) < t1 := by rw [e_t1]; exact chr255 _
  rw [← e_t1]
  show G_law l Z n0 0 0 [] h0 60 #[.val (.int p0), .val (.int p1), .val (.int hl), .val (.int tl), .val (.int h0_), .val (.int h1_), .val (.int t0), .val (.int t1), .unset, .unset, .unset, .unset, .unset, .unset, .unset] []
  refine Go.iloadN 61 at_60 rfl rfl ?_
  refine Go.iload 63 at_61 rfl rfl ?_
  refine Go.iload 65 at_63 rfl rfl ?_
  refine Go.callS (S := []) 68 [(.int hl), (.int h0_), (.int h1_)] at_65 rfl rfl (w0 hw) (w1 hw) (w2 hw) (w3 hw) (by decide) (call_of_go (R := _) (len := 3) (W := 0) (plainFor_of_name pn_6) (fun mid => ef_make mid hl h0_ h1_ z ) (c_make hw hl h0_ h1_ z b_h0_ b_h1_ SC hz) (w3 hw) (w2 hw) (by decide) (by decide)) (lenOf pd_32 rfl) (Nat.le_of_ble_eq_true rfl) rfl (Nat.le_of_ble_eq_true rfl) (Nat.le_of_ble_eq_true rfl) (fun _ q => nomatch q) (fun v h_1 sf_6 hq => ?_)
  obtain ⟨x_2, rfl, E_3, le_4, S_5⟩ := hq
  refine Go.more (sf' := []) ?_ (Nat.le_refl _) (Nat.le_refl _) (fun _ q => List.mem_append_right _ q)
  show G_law l Z n0 6 12 [] h_1 68 #[.val (.int p0), .val (.int p1), .val (.int hl), .val (.int tl), .val (.int h0_), .val (.int h1_), .val (.int t0), .val (.int t1), .unset, .unset, .unset, .unset, .unset, .unset, .unset] [(.ref x_2)]
  refine Go.astore 70 #[.val (.int p0), .val (.int p1), .val (.int hl), .val (.int tl), .val (.int h0_), .val (.int h1_), .val (.int t0), .val (.int t1), .val (.ref x_2), .unset, .unset, .unset, .unset, .unset, .unset] at_68 rfl rfl rfl ?_
  refine Go.iloadN 71 at_70 rfl rfl ?_
  refine Go.iload 73 at_71 rfl rfl ?_
  refine Go.iload 75 at_73 rfl rfl ?_
  refine Go.callS (S := []) 78 [(.int tl), (.int t0), (.int t1)] at_75 rfl rfl (w0 hw) (w1 hw) (w2 hw) (w3 hw) (by decide) (call_of_go (R := _) (len := 3) (W := 0) (plainFor_of_name pn_6) (fun mid => ef_make mid tl t0 t1 z ) (c_make hw tl t0 t1 z b_t0 b_t1 SC hz) (w3 hw) (w2 hw) (by decide) (by decide)) (lenOf pd_32 rfl) (Nat.le_of_ble_eq_true rfl) rfl (Nat.le_of_ble_eq_true rfl) (Nat.le_of_ble_eq_true rfl) (fun _ q => nomatch q) (fun v h_7 sf_12 hq => ?_)
  obtain ⟨x_8, rfl, E_9, le_10, S_11⟩ := hq
  refine Go.more (sf' := []) ?_ (Nat.le_refl _) (Nat.le_refl _) (fun _ q => List.mem_append_right _ q)
  show G_law l Z n0 12 24 [] h_7 78 #[.val (.int p0), .val (.int p1), .val (.int hl), .val (.int tl), .val (.int h0_), .val (.int h1_), .val (.int t0), .val (.int t1), .val (.ref x_2), .unset, .unset, .unset, .unset, .unset, .unset] [(.ref x_8)]
  refine Go.astore 80 #[.val (.int p0), .val (.int p1), .val (.int hl), .val (.int tl), .val (.int h0_), .val (.int h1_), .val (.int t0), .val (.int t1), .val (.ref x_2), .val (.ref x_8), .unset, .unset, .unset, .unset, .unset] at_78 rfl rfl rfl ?_
  refine Go.aload 82 at_80 rfl rfl rfl ?_
  refine Go.aload 84 at_82 rfl rfl rfl ?_
  have f_13 := S_5.ext E_9
  refine Go.callS (S := []) 87 [(.ref x_2), (.ref x_8)] at_84 rfl rfl (w26 hw) (w27 hw) (w28 hw) (w29 hw) (by decide) (call_of_go (R := _) (len := 3) (W := 0) (plainFor_of_name pn_5) (fun mid => ef_hget mid x_2 x_8 ac u8 i8 tl t0 t1 hl h0_ h1_ z ) (c_hget hw x_2 x_8 ac u8 i8 tl t0 t1 hl h0_ h1_ z f_13 S_11 b_tl b_hl b_t0 b_t1 b_h0_ b_h1_ ZS ZU ZI ZA nu ni SC hz) (w29 hw) (w28 hw) (by decide) (by decide)) (lenOf pd_33 rfl) (Nat.le_of_ble_eq_true rfl) rfl (Nat.le_of_ble_eq_true rfl) (Nat.le_of_ble_eq_true rfl) (fun _ q => nomatch q) (fun v h_14 sf_18 hq => ?_)
  obtain ⟨r_15, rfl, E_16, A_17⟩ := hq
  refine Go.more (sf' := []) ?_ (Nat.le_refl _) (Nat.le_refl _) (fun _ q => List.mem_append_right _ q)
  show G_law l Z n0 33 362 [] h_14 87 #[.val (.int p0), .val (.int p1), .val (.int hl), .val (.int tl), .val (.int h0_), .val (.int h1_), .val (.int t0), .val (.int t1), .val (.ref x_2), .val (.ref x_8), .unset, .unset, .unset, .unset, .unset] [(.ref r_15)]
  refine Go.astore 89 #[.val (.int p0), .val (.int p1), .val (.int hl), .val (.int tl), .val (.int h0_), .val (.int h1_), .val (.int t0), .val (.int t1), .val (.ref x_2), .val (.ref x_8), .val (.ref r_15), .unset, .unset, .unset, .unset] at_87 rfl rfl rfl ?_
  refine Go.aload 91 at_89 rfl rfl rfl ?_
  refine Go.nullN 94 at_91 rfl ?_
  refine Go.aload 96 at_94 rfl rfl rfl ?_
  refine Go.alen 97 (Int32.ofNat (respL tl t0 t1 hl h0_ h1_).length) at_96 rfl A_17 (by rw [List.length_map]) ?_
  refine Go.bipush 99 (25 : Int32) at_97 rfl rfl ?_
  refine Go.iloadN 100 at_99 rfl rfl ?_
  refine Go.iadd 101 at_100 rfl ?_
  refine Go.iloadN 102 at_101 rfl rfl ?_
  refine Go.iadd 103 at_102 rfl ?_
  refine Go.icmpY 108 at_103 (by decide) (by decide) (teq (resp_len b_tl b_hl)).1 ?_
  refine Go.aload 110 at_108 rfl rfl rfl ?_
  refine Go.iconst 111 (0 : Int32) at_110 rfl rfl ?_
  refine Go.bipush 113 (71 : Int32) at_111 rfl rfl ?_
  refine Go.callS (S := []) 116 [(.ref r_15), (.int (0 : Int32)), (.int (71 : Int32))] at_113 rfl rfl (w197 hw) (w198 hw) (w2 hw) (w199 hw) (by decide) (call_of_go (R := _) (len := 3) (W := 0) (plainFor_of_name pn_6) (fun mid => ef_att mid r_15 (0 : Int32) (71 : Int32) (respL tl t0 t1 hl h0_ h1_) ) (c_att hw r_15 (0 : Int32) (71 : Int32) (respL tl t0 t1 hl h0_ h1_) A_17 (ax_0 b_tl b_hl) (resp_le b_tl b_hl)) (w199 hw) (w2 hw) (by decide) (by decide)) (lenOf pd_34 rfl) (Nat.le_of_ble_eq_true rfl) rfl (Nat.le_of_ble_eq_true rfl) (Nat.le_of_ble_eq_true rfl) (fun _ q => nomatch q) (fun v h_19 sf_20 hq => ?_)
  obtain ⟨rfl, rfl⟩ := hq
  refine Go.more (sf' := []) ?_ (Nat.le_refl _) (Nat.le_refl _) (fun _ q => List.mem_append_right _ q)
  show G_law l Z n0 33 362 [] h_14 116 #[.val (.int p0), .val (.int p1), .val (.int hl), .val (.int tl), .val (.int h0_), .val (.int h1_), .val (.int t0), .val (.int t1), .val (.ref x_2), .val (.ref x_8), .val (.ref r_15), .unset, .unset, .unset, .unset] [(.int (1 : Int32))]
  refine Go.ifN 119 at_116 rfl (feq (by decide)).1 ?_
  refine Go.aload 121 at_119 rfl rfl rfl ?_
  refine Go.iconst 122 (1 : Int32) at_121 rfl rfl ?_
  refine Go.bipush 124 (69 : Int32) at_122 rfl rfl ?_
  refine Go.callS (S := []) 127 [(.ref r_15), (.int (1 : Int32)), (.int (69 : Int32))] at_124 rfl rfl (w197 hw) (w198 hw) (w2 hw) (w199 hw) (by decide) (call_of_go (R := _) (len := 3) (W := 0) (plainFor_of_name pn_6) (fun mid => ef_att mid r_15 (1 : Int32) (69 : Int32) (respL tl t0 t1 hl h0_ h1_) ) (c_att hw r_15 (1 : Int32) (69 : Int32) (respL tl t0 t1 hl h0_ h1_) A_17 (ax_1 b_tl b_hl) (resp_le b_tl b_hl)) (w199 hw) (w2 hw) (by decide) (by decide)) (lenOf pd_34 rfl) (Nat.le_of_ble_eq_true rfl) rfl (Nat.le_of_ble_eq_true rfl) (Nat.le_of_ble_eq_true rfl) (fun _ q => nomatch q) (fun v h_21 sf_22 hq => ?_)
  obtain ⟨rfl, rfl⟩ := hq
  refine Go.more (sf' := []) ?_ (Nat.le_refl _) (Nat.le_refl _) (fun _ q => List.mem_append_right _ q)
  show G_law l Z n0 33 362 [] h_14 127 #[.val (.int p0), .val (.int p1), .val (.int hl), .val (.int tl), .val (.int h0_), .val (.int h1_), .val (.int t0), .val (.int t1), .val (.ref x_2), .val (.ref x_8), .val (.ref r_15), .unset, .unset, .unset, .unset] [(.int (1 : Int32))]
  refine Go.ifN 130 at_127 rfl (feq (by decide)).1 ?_
  refine Go.aload 132 at_130 rfl rfl rfl ?_
  refine Go.iconst 133 (2 : Int32) at_132 rfl rfl ?_
  refine Go.bipush 135 (84 : Int32) at_133 rfl rfl ?_
  refine Go.callS (S := []) 138 [(.ref r_15), (.int (2 : Int32)), (.int (84 : Int32))] at_135 rfl rfl (w197 hw) (w198 hw) (w2 hw) (w199 hw) (by decide) (call_of_go (R := _) (len := 3) (W := 0) (plainFor_of_name pn_6) (fun mid => ef_att mid r_15 (2 : Int32) (84 : Int32) (respL tl t0 t1 hl h0_ h1_) ) (c_att hw r_15 (2 : Int32) (84 : Int32) (respL tl t0 t1 hl h0_ h1_) A_17 (ax_2 b_tl b_hl) (resp_le b_tl b_hl)) (w199 hw) (w2 hw) (by decide) (by decide)) (lenOf pd_34 rfl) (Nat.le_of_ble_eq_true rfl) rfl (Nat.le_of_ble_eq_true rfl) (Nat.le_of_ble_eq_true rfl) (fun _ q => nomatch q) (fun v h_23 sf_24 hq => ?_)
  obtain ⟨rfl, rfl⟩ := hq
  refine Go.more (sf' := []) ?_ (Nat.le_refl _) (Nat.le_refl _) (fun _ q => List.mem_append_right _ q)
  show G_law l Z n0 33 362 [] h_14 138 #[.val (.int p0), .val (.int p1), .val (.int hl), .val (.int tl), .val (.int h0_), .val (.int h1_), .val (.int t0), .val (.int t1), .val (.ref x_2), .val (.ref x_8), .val (.ref r_15), .unset, .unset, .unset, .unset] [(.int (1 : Int32))]
  refine Go.ifN 141 at_138 rfl (feq (by decide)).1 ?_
  refine Go.aload 143 at_141 rfl rfl rfl ?_
  refine Go.iconst 144 (3 : Int32) at_143 rfl rfl ?_
  refine Go.bipush 146 (32 : Int32) at_144 rfl rfl ?_
  refine Go.callS (S := []) 149 [(.ref r_15), (.int (3 : Int32)), (.int (32 : Int32))] at_146 rfl rfl (w197 hw) (w198 hw) (w2 hw) (w199 hw) (by decide) (call_of_go (R := _) (len := 3) (W := 0) (plainFor_of_name pn_6) (fun mid => ef_att mid r_15 (3 : Int32) (32 : Int32) (respL tl t0 t1 hl h0_ h1_) ) (c_att hw r_15 (3 : Int32) (32 : Int32) (respL tl t0 t1 hl h0_ h1_) A_17 (ax_3 b_tl b_hl) (resp_le b_tl b_hl)) (w199 hw) (w2 hw) (by decide) (by decide)) (lenOf pd_34 rfl) (Nat.le_of_ble_eq_true rfl) rfl (Nat.le_of_ble_eq_true rfl) (Nat.le_of_ble_eq_true rfl) (fun _ q => nomatch q) (fun v h_25 sf_26 hq => ?_)
  obtain ⟨rfl, rfl⟩ := hq
  refine Go.more (sf' := []) ?_ (Nat.le_refl _) (Nat.le_refl _) (fun _ q => List.mem_append_right _ q)
  show G_law l Z n0 33 362 [] h_14 149 #[.val (.int p0), .val (.int p1), .val (.int hl), .val (.int tl), .val (.int h0_), .val (.int h1_), .val (.int t0), .val (.int t1), .val (.ref x_2), .val (.ref x_8), .val (.ref r_15), .unset, .unset, .unset, .unset] [(.int (1 : Int32))]
  refine Go.ifN 152 at_149 rfl (feq (by decide)).1 ?_
  refine Go.iconst 153 (1 : Int32) at_152 rfl rfl ?_
  refine Go.goto 157 at_153 (by decide) (by decide) ?_
  refine Go.istore 159 #[.val (.int p0), .val (.int p1), .val (.int hl), .val (.int tl), .val (.int h0_), .val (.int h1_), .val (.int t0), .val (.int t1), .val (.ref x_2), .val (.ref x_8), .val (.ref r_15), .val (.int (1 : Int32)), .unset, .unset, .unset] at_157 rfl rfl ?_
  have cut221 : ∀ (u_ : True), G_law l Z n0 33 362 [] h_14 221 #[.val (.int p0), .val (.int p1), .val (.int hl), .val (.int tl), .val (.int h0_), .val (.int h1_), .val (.int t0), .val (.int t1), .val (.ref x_2), .val (.ref x_8), .val (.ref r_15), .val (.int (1 : Int32)), .unset, .unset, .unset] [] := by
    intro u_
    refine Go.iconst 222 (4 : Int32) at_221 rfl rfl ?_
    refine Go.iloadN 223 at_222 rfl rfl ?_
    refine Go.iadd 224 at_223 rfl ?_
    refine Go.istore 226 #[.val (.int p0), .val (.int p1), .val (.int hl), .val (.int tl), .val (.int h0_), .val (.int h1_), .val (.int t0), .val (.int t1), .val (.ref x_2), .val (.ref x_8), .val (.ref r_15), .val (.int (1 : Int32)), .val (.int ((4 : Int32) + tl)), .unset, .unset] at_224 rfl rfl ?_
    refine Go.iload 228 at_226 rfl rfl ?_
    refine Go.ifN 231 at_228 rfl (feq (by decide)).1 ?_
    refine Go.aload 233 at_231 rfl rfl rfl ?_
    refine Go.iload 235 at_233 rfl rfl ?_
    refine Go.bipush 237 (32 : Int32) at_235 rfl rfl ?_
    refine Go.callS (S := []) 240 [(.ref r_15), (.int ((4 : Int32) + tl)), (.int (32 : Int32))] at_237 rfl rfl (w197 hw) (w198 hw) (w2 hw) (w199 hw) (by decide) (call_of_go (R := _) (len := 3) (W := 0) (plainFor_of_name pn_6) (fun mid => ef_att mid r_15 ((4 : Int32) + tl) (32 : Int32) (respL tl t0 t1 hl h0_ h1_) ) (c_att hw r_15 ((4 : Int32) + tl) (32 : Int32) (respL tl t0 t1 hl h0_ h1_) A_17 (ax_4 b_tl b_hl) (resp_le b_tl b_hl)) (w199 hw) (w2 hw) (by decide) (by decide)) (lenOf pd_34 rfl) (Nat.le_of_ble_eq_true rfl) rfl (Nat.le_of_ble_eq_true rfl) (Nat.le_of_ble_eq_true rfl) (fun _ q => nomatch q) (fun v h_27 sf_28 hq => ?_)
    obtain ⟨rfl, rfl⟩ := hq
    refine Go.more (sf' := []) ?_ (Nat.le_refl _) (Nat.le_refl _) (fun _ q => List.mem_append_right _ q)
    show G_law l Z n0 33 362 [] h_14 240 #[.val (.int p0), .val (.int p1), .val (.int hl), .val (.int tl), .val (.int h0_), .val (.int h1_), .val (.int t0), .val (.int t1), .val (.ref x_2), .val (.ref x_8), .val (.ref r_15), .val (.int (1 : Int32)), .val (.int ((4 : Int32) + tl)), .unset, .unset] [(.int (1 : Int32))]
    refine Go.ifN 243 at_240 rfl (feq (by decide)).1 ?_
    refine Go.aload 245 at_243 rfl rfl rfl ?_
    refine Go.iload 247 at_245 rfl rfl ?_
    refine Go.iconst 248 (1 : Int32) at_247 rfl rfl ?_
    refine Go.iadd 249 at_248 rfl ?_
    refine Go.bipush 251 (72 : Int32) at_249 rfl rfl ?_
    refine Go.callS (S := []) 254 [(.ref r_15), (.int (((4 : Int32) + tl) + (1 : Int32))), (.int (72 : Int32))] at_251 rfl rfl (w197 hw) (w198 hw) (w2 hw) (w199 hw) (by decide) (call_of_go (R := _) (len := 3) (W := 0) (plainFor_of_name pn_6) (fun mid => ef_att mid r_15 (((4 : Int32) + tl) + (1 : Int32)) (72 : Int32) (respL tl t0 t1 hl h0_ h1_) ) (c_att hw r_15 (((4 : Int32) + tl) + (1 : Int32)) (72 : Int32) (respL tl t0 t1 hl h0_ h1_) A_17 (ax_5 b_tl b_hl) (resp_le b_tl b_hl)) (w199 hw) (w2 hw) (by decide) (by decide)) (lenOf pd_34 rfl) (Nat.le_of_ble_eq_true rfl) rfl (Nat.le_of_ble_eq_true rfl) (Nat.le_of_ble_eq_true rfl) (fun _ q => nomatch q) (fun v h_29 sf_30 hq => ?_)
    obtain ⟨rfl, rfl⟩ := hq
    refine Go.more (sf' := []) ?_ (Nat.le_refl _) (Nat.le_refl _) (fun _ q => List.mem_append_right _ q)
    show G_law l Z n0 33 362 [] h_14 254 #[.val (.int p0), .val (.int p1), .val (.int hl), .val (.int tl), .val (.int h0_), .val (.int h1_), .val (.int t0), .val (.int t1), .val (.ref x_2), .val (.ref x_8), .val (.ref r_15), .val (.int (1 : Int32)), .val (.int ((4 : Int32) + tl)), .unset, .unset] [(.int (1 : Int32))]
    refine Go.ifN 257 at_254 rfl (feq (by decide)).1 ?_
    refine Go.aload 259 at_257 rfl rfl rfl ?_
    refine Go.iload 261 at_259 rfl rfl ?_
    refine Go.iconst 262 (2 : Int32) at_261 rfl rfl ?_
    refine Go.iadd 263 at_262 rfl ?_
    refine Go.bipush 265 (84 : Int32) at_263 rfl rfl ?_
    refine Go.callS (S := []) 268 [(.ref r_15), (.int (((4 : Int32) + tl) + (2 : Int32))), (.int (84 : Int32))] at_265 rfl rfl (w197 hw) (w198 hw) (w2 hw) (w199 hw) (by decide) (call_of_go (R := _) (len := 3) (W := 0) (plainFor_of_name pn_6) (fun mid => ef_att mid r_15 (((4 : Int32) + tl) + (2 : Int32)) (84 : Int32) (respL tl t0 t1 hl h0_ h1_) ) (c_att hw r_15 (((4 : Int32) + tl) + (2 : Int32)) (84 : Int32) (respL tl t0 t1 hl h0_ h1_) A_17 (ax_6 b_tl b_hl) (resp_le b_tl b_hl)) (w199 hw) (w2 hw) (by decide) (by decide)) (lenOf pd_34 rfl) (Nat.le_of_ble_eq_true rfl) rfl (Nat.le_of_ble_eq_true rfl) (Nat.le_of_ble_eq_true rfl) (fun _ q => nomatch q) (fun v h_31 sf_32 hq => ?_)
    obtain ⟨rfl, rfl⟩ := hq
    refine Go.more (sf' := []) ?_ (Nat.le_refl _) (Nat.le_refl _) (fun _ q => List.mem_append_right _ q)
    show G_law l Z n0 33 362 [] h_14 268 #[.val (.int p0), .val (.int p1), .val (.int hl), .val (.int tl), .val (.int h0_), .val (.int h1_), .val (.int t0), .val (.int t1), .val (.ref x_2), .val (.ref x_8), .val (.ref r_15), .val (.int (1 : Int32)), .val (.int ((4 : Int32) + tl)), .unset, .unset] [(.int (1 : Int32))]
    refine Go.ifN 271 at_268 rfl (feq (by decide)).1 ?_
    refine Go.aload 273 at_271 rfl rfl rfl ?_
    refine Go.iload 275 at_273 rfl rfl ?_
    refine Go.iconst 276 (3 : Int32) at_275 rfl rfl ?_
    refine Go.iadd 277 at_276 rfl ?_
    refine Go.bipush 279 (84 : Int32) at_277 rfl rfl ?_
    refine Go.callS (S := []) 282 [(.ref r_15), (.int (((4 : Int32) + tl) + (3 : Int32))), (.int (84 : Int32))] at_279 rfl rfl (w197 hw) (w198 hw) (w2 hw) (w199 hw) (by decide) (call_of_go (R := _) (len := 3) (W := 0) (plainFor_of_name pn_6) (fun mid => ef_att mid r_15 (((4 : Int32) + tl) + (3 : Int32)) (84 : Int32) (respL tl t0 t1 hl h0_ h1_) ) (c_att hw r_15 (((4 : Int32) + tl) + (3 : Int32)) (84 : Int32) (respL tl t0 t1 hl h0_ h1_) A_17 (ax_7 b_tl b_hl) (resp_le b_tl b_hl)) (w199 hw) (w2 hw) (by decide) (by decide)) (lenOf pd_34 rfl) (Nat.le_of_ble_eq_true rfl) rfl (Nat.le_of_ble_eq_true rfl) (Nat.le_of_ble_eq_true rfl) (fun _ q => nomatch q) (fun v h_33 sf_34 hq => ?_)
    obtain ⟨rfl, rfl⟩ := hq
    refine Go.more (sf' := []) ?_ (Nat.le_refl _) (Nat.le_refl _) (fun _ q => List.mem_append_right _ q)
    show G_law l Z n0 33 362 [] h_14 282 #[.val (.int p0), .val (.int p1), .val (.int hl), .val (.int tl), .val (.int h0_), .val (.int h1_), .val (.int t0), .val (.int t1), .val (.ref x_2), .val (.ref x_8), .val (.ref r_15), .val (.int (1 : Int32)), .val (.int ((4 : Int32) + tl)), .unset, .unset] [(.int (1 : Int32))]
    refine Go.ifN 285 at_282 rfl (feq (by decide)).1 ?_
    refine Go.aload 287 at_285 rfl rfl rfl ?_
    refine Go.iload 289 at_287 rfl rfl ?_
    refine Go.iconst 290 (4 : Int32) at_289 rfl rfl ?_
    refine Go.iadd 291 at_290 rfl ?_
    refine Go.bipush 293 (80 : Int32) at_291 rfl rfl ?_
    refine Go.callS (S := []) 296 [(.ref r_15), (.int (((4 : Int32) + tl) + (4 : Int32))), (.int (80 : Int32))] at_293 rfl rfl (w197 hw) (w198 hw) (w2 hw) (w199 hw) (by decide) (call_of_go (R := _) (len := 3) (W := 0) (plainFor_of_name pn_6) (fun mid => ef_att mid r_15 (((4 : Int32) + tl) + (4 : Int32)) (80 : Int32) (respL tl t0 t1 hl h0_ h1_) ) (c_att hw r_15 (((4 : Int32) + tl) + (4 : Int32)) (80 : Int32) (respL tl t0 t1 hl h0_ h1_) A_17 (ax_8 b_tl b_hl) (resp_le b_tl b_hl)) (w199 hw) (w2 hw) (by decide) (by decide)) (lenOf pd_34 rfl) (Nat.le_of_ble_eq_true rfl) rfl (Nat.le_of_ble_eq_true rfl) (Nat.le_of_ble_eq_true rfl) (fun _ q => nomatch q) (fun v h_35 sf_36 hq => ?_)
    obtain ⟨rfl, rfl⟩ := hq
    refine Go.more (sf' := []) ?_ (Nat.le_refl _) (Nat.le_refl _) (fun _ q => List.mem_append_right _ q)
    show G_law l Z n0 33 362 [] h_14 296 #[.val (.int p0), .val (.int p1), .val (.int hl), .val (.int tl), .val (.int h0_), .val (.int h1_), .val (.int t0), .val (.int t1), .val (.ref x_2), .val (.ref x_8), .val (.ref r_15), .val (.int (1 : Int32)), .val (.int ((4 : Int32) + tl)), .unset, .unset] [(.int (1 : Int32))]
    refine Go.ifN 299 at_296 rfl (feq (by decide)).1 ?_
    refine Go.aload 301 at_299 rfl rfl rfl ?_
    refine Go.iload 303 at_301 rfl rfl ?_
    refine Go.iconst 304 (5 : Int32) at_303 rfl rfl ?_
    refine Go.iadd 305 at_304 rfl ?_
    refine Go.bipush 307 (47 : Int32) at_305 rfl rfl ?_
    refine Go.callS (S := []) 310 [(.ref r_15), (.int (((4 : Int32) + tl) + (5 : Int32))), (.int (47 : Int32))] at_307 rfl rfl (w197 hw) (w198 hw) (w2 hw) (w199 hw) (by decide) (call_of_go (R := _) (len := 3) (W := 0) (plainFor_of_name pn_6) (fun mid => ef_att mid r_15 (((4 : Int32) + tl) + (5 : Int32)) (47 : Int32) (respL tl t0 t1 hl h0_ h1_) ) (c_att hw r_15 (((4 : Int32) + tl) + (5 : Int32)) (47 : Int32) (respL tl t0 t1 hl h0_ h1_) A_17 (ax_9 b_tl b_hl) (resp_le b_tl b_hl)) (w199 hw) (w2 hw) (by decide) (by decide)) (lenOf pd_34 rfl) (Nat.le_of_ble_eq_true rfl) rfl (Nat.le_of_ble_eq_true rfl) (Nat.le_of_ble_eq_true rfl) (fun _ q => nomatch q) (fun v h_37 sf_38 hq => ?_)
    obtain ⟨rfl, rfl⟩ := hq
    refine Go.more (sf' := []) ?_ (Nat.le_refl _) (Nat.le_refl _) (fun _ q => List.mem_append_right _ q)
    show G_law l Z n0 33 362 [] h_14 310 #[.val (.int p0), .val (.int p1), .val (.int hl), .val (.int tl), .val (.int h0_), .val (.int h1_), .val (.int t0), .val (.int t1), .val (.ref x_2), .val (.ref x_8), .val (.ref r_15), .val (.int (1 : Int32)), .val (.int ((4 : Int32) + tl)), .unset, .unset] [(.int (1 : Int32))]
    refine Go.ifN 313 at_310 rfl (feq (by decide)).1 ?_
    refine Go.aload 315 at_313 rfl rfl rfl ?_
    refine Go.iload 317 at_315 rfl rfl ?_
    refine Go.bipush 319 (6 : Int32) at_317 rfl rfl ?_
    refine Go.iadd 320 at_319 rfl ?_
    refine Go.bipush 322 (49 : Int32) at_320 rfl rfl ?_
    refine Go.callS (S := []) 325 [(.ref r_15), (.int (((4 : Int32) + tl) + (6 : Int32))), (.int (49 : Int32))] at_322 rfl rfl (w197 hw) (w198 hw) (w2 hw) (w199 hw) (by decide) (call_of_go (R := _) (len := 3) (W := 0) (plainFor_of_name pn_6) (fun mid => ef_att mid r_15 (((4 : Int32) + tl) + (6 : Int32)) (49 : Int32) (respL tl t0 t1 hl h0_ h1_) ) (c_att hw r_15 (((4 : Int32) + tl) + (6 : Int32)) (49 : Int32) (respL tl t0 t1 hl h0_ h1_) A_17 (ax_10 b_tl b_hl) (resp_le b_tl b_hl)) (w199 hw) (w2 hw) (by decide) (by decide)) (lenOf pd_34 rfl) (Nat.le_of_ble_eq_true rfl) rfl (Nat.le_of_ble_eq_true rfl) (Nat.le_of_ble_eq_true rfl) (fun _ q => nomatch q) (fun v h_39 sf_40 hq => ?_)
    obtain ⟨rfl, rfl⟩ := hq
    refine Go.more (sf' := []) ?_ (Nat.le_refl _) (Nat.le_refl _) (fun _ q => List.mem_append_right _ q)
    show G_law l Z n0 33 362 [] h_14 325 #[.val (.int p0), .val (.int p1), .val (.int hl), .val (.int tl), .val (.int h0_), .val (.int h1_), .val (.int t0), .val (.int t1), .val (.ref x_2), .val (.ref x_8), .val (.ref r_15), .val (.int (1 : Int32)), .val (.int ((4 : Int32) + tl)), .unset, .unset] [(.int (1 : Int32))]
    refine Go.ifN 328 at_325 rfl (feq (by decide)).1 ?_
    refine Go.aload 330 at_328 rfl rfl rfl ?_
    refine Go.iload 332 at_330 rfl rfl ?_
    refine Go.bipush 334 (7 : Int32) at_332 rfl rfl ?_
    refine Go.iadd 335 at_334 rfl ?_
    refine Go.bipush 337 (46 : Int32) at_335 rfl rfl ?_
    refine Go.callS (S := []) 340 [(.ref r_15), (.int (((4 : Int32) + tl) + (7 : Int32))), (.int (46 : Int32))] at_337 rfl rfl (w197 hw) (w198 hw) (w2 hw) (w199 hw) (by decide) (call_of_go (R := _) (len := 3) (W := 0) (plainFor_of_name pn_6) (fun mid => ef_att mid r_15 (((4 : Int32) + tl) + (7 : Int32)) (46 : Int32) (respL tl t0 t1 hl h0_ h1_) ) (c_att hw r_15 (((4 : Int32) + tl) + (7 : Int32)) (46 : Int32) (respL tl t0 t1 hl h0_ h1_) A_17 (ax_11 b_tl b_hl) (resp_le b_tl b_hl)) (w199 hw) (w2 hw) (by decide) (by decide)) (lenOf pd_34 rfl) (Nat.le_of_ble_eq_true rfl) rfl (Nat.le_of_ble_eq_true rfl) (Nat.le_of_ble_eq_true rfl) (fun _ q => nomatch q) (fun v h_41 sf_42 hq => ?_)
    obtain ⟨rfl, rfl⟩ := hq
    refine Go.more (sf' := []) ?_ (Nat.le_refl _) (Nat.le_refl _) (fun _ q => List.mem_append_right _ q)
    show G_law l Z n0 33 362 [] h_14 340 #[.val (.int p0), .val (.int p1), .val (.int hl), .val (.int tl), .val (.int h0_), .val (.int h1_), .val (.int t0), .val (.int t1), .val (.ref x_2), .val (.ref x_8), .val (.ref r_15), .val (.int (1 : Int32)), .val (.int ((4 : Int32) + tl)), .unset, .unset] [(.int (1 : Int32))]
    refine Go.ifN 343 at_340 rfl (feq (by decide)).1 ?_
    refine Go.aload 345 at_343 rfl rfl rfl ?_
    refine Go.iload 347 at_345 rfl rfl ?_
    refine Go.bipush 349 (8 : Int32) at_347 rfl rfl ?_
    refine Go.iadd 350 at_349 rfl ?_
    refine Go.bipush 352 (49 : Int32) at_350 rfl rfl ?_
    refine Go.callS (S := []) 355 [(.ref r_15), (.int (((4 : Int32) + tl) + (8 : Int32))), (.int (49 : Int32))] at_352 rfl rfl (w197 hw) (w198 hw) (w2 hw) (w199 hw) (by decide) (call_of_go (R := _) (len := 3) (W := 0) (plainFor_of_name pn_6) (fun mid => ef_att mid r_15 (((4 : Int32) + tl) + (8 : Int32)) (49 : Int32) (respL tl t0 t1 hl h0_ h1_) ) (c_att hw r_15 (((4 : Int32) + tl) + (8 : Int32)) (49 : Int32) (respL tl t0 t1 hl h0_ h1_) A_17 (ax_12 b_tl b_hl) (resp_le b_tl b_hl)) (w199 hw) (w2 hw) (by decide) (by decide)) (lenOf pd_34 rfl) (Nat.le_of_ble_eq_true rfl) rfl (Nat.le_of_ble_eq_true rfl) (Nat.le_of_ble_eq_true rfl) (fun _ q => nomatch q) (fun v h_43 sf_44 hq => ?_)
    obtain ⟨rfl, rfl⟩ := hq
    refine Go.more (sf' := []) ?_ (Nat.le_refl _) (Nat.le_refl _) (fun _ q => List.mem_append_right _ q)
    show G_law l Z n0 33 362 [] h_14 355 #[.val (.int p0), .val (.int p1), .val (.int hl), .val (.int tl), .val (.int h0_), .val (.int h1_), .val (.int t0), .val (.int t1), .val (.ref x_2), .val (.ref x_8), .val (.ref r_15), .val (.int (1 : Int32)), .val (.int ((4 : Int32) + tl)), .unset, .unset] [(.int (1 : Int32))]
    refine Go.ifN 358 at_355 rfl (feq (by decide)).1 ?_
    refine Go.aload 360 at_358 rfl rfl rfl ?_
    refine Go.iload 362 at_360 rfl rfl ?_
    refine Go.bipush 364 (9 : Int32) at_362 rfl rfl ?_
    refine Go.iadd 365 at_364 rfl ?_
    refine Go.bipush 367 (13 : Int32) at_365 rfl rfl ?_
    refine Go.callS (S := []) 370 [(.ref r_15), (.int (((4 : Int32) + tl) + (9 : Int32))), (.int (13 : Int32))] at_367 rfl rfl (w197 hw) (w198 hw) (w2 hw) (w199 hw) (by decide) (call_of_go (R := _) (len := 3) (W := 0) (plainFor_of_name pn_6) (fun mid => ef_att mid r_15 (((4 : Int32) + tl) + (9 : Int32)) (13 : Int32) (respL tl t0 t1 hl h0_ h1_) ) (c_att hw r_15 (((4 : Int32) + tl) + (9 : Int32)) (13 : Int32) (respL tl t0 t1 hl h0_ h1_) A_17 (ax_13 b_tl b_hl) (resp_le b_tl b_hl)) (w199 hw) (w2 hw) (by decide) (by decide)) (lenOf pd_34 rfl) (Nat.le_of_ble_eq_true rfl) rfl (Nat.le_of_ble_eq_true rfl) (Nat.le_of_ble_eq_true rfl) (fun _ q => nomatch q) (fun v h_45 sf_46 hq => ?_)
    obtain ⟨rfl, rfl⟩ := hq
    refine Go.more (sf' := []) ?_ (Nat.le_refl _) (Nat.le_refl _) (fun _ q => List.mem_append_right _ q)
    show G_law l Z n0 33 362 [] h_14 370 #[.val (.int p0), .val (.int p1), .val (.int hl), .val (.int tl), .val (.int h0_), .val (.int h1_), .val (.int t0), .val (.int t1), .val (.ref x_2), .val (.ref x_8), .val (.ref r_15), .val (.int (1 : Int32)), .val (.int ((4 : Int32) + tl)), .unset, .unset] [(.int (1 : Int32))]
    refine Go.ifN 373 at_370 rfl (feq (by decide)).1 ?_
    refine Go.aload 375 at_373 rfl rfl rfl ?_
    refine Go.iload 377 at_375 rfl rfl ?_
    refine Go.bipush 379 (10 : Int32) at_377 rfl rfl ?_
    refine Go.iadd 380 at_379 rfl ?_
    refine Go.bipush 382 (10 : Int32) at_380 rfl rfl ?_
    refine Go.callS (S := []) 385 [(.ref r_15), (.int (((4 : Int32) + tl) + (10 : Int32))), (.int (10 : Int32))] at_382 rfl rfl (w197 hw) (w198 hw) (w2 hw) (w199 hw) (by decide) (call_of_go (R := _) (len := 3) (W := 0) (plainFor_of_name pn_6) (fun mid => ef_att mid r_15 (((4 : Int32) + tl) + (10 : Int32)) (10 : Int32) (respL tl t0 t1 hl h0_ h1_) ) (c_att hw r_15 (((4 : Int32) + tl) + (10 : Int32)) (10 : Int32) (respL tl t0 t1 hl h0_ h1_) A_17 (ax_14 b_tl b_hl) (resp_le b_tl b_hl)) (w199 hw) (w2 hw) (by decide) (by decide)) (lenOf pd_34 rfl) (Nat.le_of_ble_eq_true rfl) rfl (Nat.le_of_ble_eq_true rfl) (Nat.le_of_ble_eq_true rfl) (fun _ q => nomatch q) (fun v h_47 sf_48 hq => ?_)
    obtain ⟨rfl, rfl⟩ := hq
    refine Go.more (sf' := []) ?_ (Nat.le_refl _) (Nat.le_refl _) (fun _ q => List.mem_append_right _ q)
    show G_law l Z n0 33 362 [] h_14 385 #[.val (.int p0), .val (.int p1), .val (.int hl), .val (.int tl), .val (.int h0_), .val (.int h1_), .val (.int t0), .val (.int t1), .val (.ref x_2), .val (.ref x_8), .val (.ref r_15), .val (.int (1 : Int32)), .val (.int ((4 : Int32) + tl)), .unset, .unset] [(.int (1 : Int32))]
    refine Go.ifN 388 at_385 rfl (feq (by decide)).1 ?_
    refine Go.iconst 389 (1 : Int32) at_388 rfl rfl ?_
    refine Go.goto 393 at_389 (by decide) (by decide) ?_
    refine Go.istore 395 #[.val (.int p0), .val (.int p1), .val (.int hl), .val (.int tl), .val (.int h0_), .val (.int h1_), .val (.int t0), .val (.int t1), .val (.ref x_2), .val (.ref x_8), .val (.ref r_15), .val (.int (1 : Int32)), .val (.int ((4 : Int32) + tl)), .unset, .unset] at_393 rfl rfl ?_
    refine Go.iload 397 at_395 rfl rfl ?_
    refine Go.ifN 400 at_397 rfl (feq (by decide)).1 ?_
    refine Go.aload 402 at_400 rfl rfl rfl ?_
    refine Go.iload 404 at_402 rfl rfl ?_
    refine Go.bipush 406 (11 : Int32) at_404 rfl rfl ?_
    refine Go.iadd 407 at_406 rfl ?_
    refine Go.bipush 409 (72 : Int32) at_407 rfl rfl ?_
    refine Go.callS (S := []) 412 [(.ref r_15), (.int (((4 : Int32) + tl) + (11 : Int32))), (.int (72 : Int32))] at_409 rfl rfl (w197 hw) (w198 hw) (w2 hw) (w199 hw) (by decide) (call_of_go (R := _) (len := 3) (W := 0) (plainFor_of_name pn_6) (fun mid => ef_att mid r_15 (((4 : Int32) + tl) + (11 : Int32)) (72 : Int32) (respL tl t0 t1 hl h0_ h1_) ) (c_att hw r_15 (((4 : Int32) + tl) + (11 : Int32)) (72 : Int32) (respL tl t0 t1 hl h0_ h1_) A_17 (ax_15 b_tl b_hl) (resp_le b_tl b_hl)) (w199 hw) (w2 hw) (by decide) (by decide)) (lenOf pd_34 rfl) (Nat.le_of_ble_eq_true rfl) rfl (Nat.le_of_ble_eq_true rfl) (Nat.le_of_ble_eq_true rfl) (fun _ q => nomatch q) (fun v h_49 sf_50 hq => ?_)
    obtain ⟨rfl, rfl⟩ := hq
    refine Go.more (sf' := []) ?_ (Nat.le_refl _) (Nat.le_refl _) (fun _ q => List.mem_append_right _ q)
    show G_law l Z n0 33 362 [] h_14 412 #[.val (.int p0), .val (.int p1), .val (.int hl), .val (.int tl), .val (.int h0_), .val (.int h1_), .val (.int t0), .val (.int t1), .val (.ref x_2), .val (.ref x_8), .val (.ref r_15), .val (.int (1 : Int32)), .val (.int ((4 : Int32) + tl)), .unset, .unset] [(.int (1 : Int32))]
    refine Go.ifN 415 at_412 rfl (feq (by decide)).1 ?_
    refine Go.aload 417 at_415 rfl rfl rfl ?_
    refine Go.iload 419 at_417 rfl rfl ?_
    refine Go.bipush 421 (12 : Int32) at_419 rfl rfl ?_
    refine Go.iadd 422 at_421 rfl ?_
    refine Go.bipush 424 (111 : Int32) at_422 rfl rfl ?_
    refine Go.callS (S := []) 427 [(.ref r_15), (.int (((4 : Int32) + tl) + (12 : Int32))), (.int (111 : Int32))] at_424 rfl rfl (w197 hw) (w198 hw) (w2 hw) (w199 hw) (by decide) (call_of_go (R := _) (len := 3) (W := 0) (plainFor_of_name pn_6) (fun mid => ef_att mid r_15 (((4 : Int32) + tl) + (12 : Int32)) (111 : Int32) (respL tl t0 t1 hl h0_ h1_) ) (c_att hw r_15 (((4 : Int32) + tl) + (12 : Int32)) (111 : Int32) (respL tl t0 t1 hl h0_ h1_) A_17 (ax_16 b_tl b_hl) (resp_le b_tl b_hl)) (w199 hw) (w2 hw) (by decide) (by decide)) (lenOf pd_34 rfl) (Nat.le_of_ble_eq_true rfl) rfl (Nat.le_of_ble_eq_true rfl) (Nat.le_of_ble_eq_true rfl) (fun _ q => nomatch q) (fun v h_51 sf_52 hq => ?_)
    obtain ⟨rfl, rfl⟩ := hq
    refine Go.more (sf' := []) ?_ (Nat.le_refl _) (Nat.le_refl _) (fun _ q => List.mem_append_right _ q)
    show G_law l Z n0 33 362 [] h_14 427 #[.val (.int p0), .val (.int p1), .val (.int hl), .val (.int tl), .val (.int h0_), .val (.int h1_), .val (.int t0), .val (.int t1), .val (.ref x_2), .val (.ref x_8), .val (.ref r_15), .val (.int (1 : Int32)), .val (.int ((4 : Int32) + tl)), .unset, .unset] [(.int (1 : Int32))]
    refine Go.ifN 430 at_427 rfl (feq (by decide)).1 ?_
    refine Go.aload 432 at_430 rfl rfl rfl ?_
    refine Go.iload 434 at_432 rfl rfl ?_
    refine Go.bipush 436 (13 : Int32) at_434 rfl rfl ?_
    refine Go.iadd 437 at_436 rfl ?_
    refine Go.bipush 439 (115 : Int32) at_437 rfl rfl ?_
    refine Go.callS (S := []) 442 [(.ref r_15), (.int (((4 : Int32) + tl) + (13 : Int32))), (.int (115 : Int32))] at_439 rfl rfl (w197 hw) (w198 hw) (w2 hw) (w199 hw) (by decide) (call_of_go (R := _) (len := 3) (W := 0) (plainFor_of_name pn_6) (fun mid => ef_att mid r_15 (((4 : Int32) + tl) + (13 : Int32)) (115 : Int32) (respL tl t0 t1 hl h0_ h1_) ) (c_att hw r_15 (((4 : Int32) + tl) + (13 : Int32)) (115 : Int32) (respL tl t0 t1 hl h0_ h1_) A_17 (ax_17 b_tl b_hl) (resp_le b_tl b_hl)) (w199 hw) (w2 hw) (by decide) (by decide)) (lenOf pd_34 rfl) (Nat.le_of_ble_eq_true rfl) rfl (Nat.le_of_ble_eq_true rfl) (Nat.le_of_ble_eq_true rfl) (fun _ q => nomatch q) (fun v h_53 sf_54 hq => ?_)
    obtain ⟨rfl, rfl⟩ := hq
    refine Go.more (sf' := []) ?_ (Nat.le_refl _) (Nat.le_refl _) (fun _ q => List.mem_append_right _ q)
    show G_law l Z n0 33 362 [] h_14 442 #[.val (.int p0), .val (.int p1), .val (.int hl), .val (.int tl), .val (.int h0_), .val (.int h1_), .val (.int t0), .val (.int t1), .val (.ref x_2), .val (.ref x_8), .val (.ref r_15), .val (.int (1 : Int32)), .val (.int ((4 : Int32) + tl)), .unset, .unset] [(.int (1 : Int32))]
    refine Go.ifN 445 at_442 rfl (feq (by decide)).1 ?_
    refine Go.aload 447 at_445 rfl rfl rfl ?_
    refine Go.iload 449 at_447 rfl rfl ?_
    refine Go.bipush 451 (14 : Int32) at_449 rfl rfl ?_
    refine Go.iadd 452 at_451 rfl ?_
    refine Go.bipush 454 (116 : Int32) at_452 rfl rfl ?_
    refine Go.callS (S := []) 457 [(.ref r_15), (.int (((4 : Int32) + tl) + (14 : Int32))), (.int (116 : Int32))] at_454 rfl rfl (w197 hw) (w198 hw) (w2 hw) (w199 hw) (by decide) (call_of_go (R := _) (len := 3) (W := 0) (plainFor_of_name pn_6) (fun mid => ef_att mid r_15 (((4 : Int32) + tl) + (14 : Int32)) (116 : Int32) (respL tl t0 t1 hl h0_ h1_) ) (c_att hw r_15 (((4 : Int32) + tl) + (14 : Int32)) (116 : Int32) (respL tl t0 t1 hl h0_ h1_) A_17 (ax_18 b_tl b_hl) (resp_le b_tl b_hl)) (w199 hw) (w2 hw) (by decide) (by decide)) (lenOf pd_34 rfl) (Nat.le_of_ble_eq_true rfl) rfl (Nat.le_of_ble_eq_true rfl) (Nat.le_of_ble_eq_true rfl) (fun _ q => nomatch q) (fun v h_55 sf_56 hq => ?_)
    obtain ⟨rfl, rfl⟩ := hq
    refine Go.more (sf' := []) ?_ (Nat.le_refl _) (Nat.le_refl _) (fun _ q => List.mem_append_right _ q)
    show G_law l Z n0 33 362 [] h_14 457 #[.val (.int p0), .val (.int p1), .val (.int hl), .val (.int tl), .val (.int h0_), .val (.int h1_), .val (.int t0), .val (.int t1), .val (.ref x_2), .val (.ref x_8), .val (.ref r_15), .val (.int (1 : Int32)), .val (.int ((4 : Int32) + tl)), .unset, .unset] [(.int (1 : Int32))]
    refine Go.ifN 460 at_457 rfl (feq (by decide)).1 ?_
    refine Go.aload 462 at_460 rfl rfl rfl ?_
    refine Go.iload 464 at_462 rfl rfl ?_
    refine Go.bipush 466 (15 : Int32) at_464 rfl rfl ?_
    refine Go.iadd 467 at_466 rfl ?_
    refine Go.bipush 469 (58 : Int32) at_467 rfl rfl ?_
    refine Go.callS (S := []) 472 [(.ref r_15), (.int (((4 : Int32) + tl) + (15 : Int32))), (.int (58 : Int32))] at_469 rfl rfl (w197 hw) (w198 hw) (w2 hw) (w199 hw) (by decide) (call_of_go (R := _) (len := 3) (W := 0) (plainFor_of_name pn_6) (fun mid => ef_att mid r_15 (((4 : Int32) + tl) + (15 : Int32)) (58 : Int32) (respL tl t0 t1 hl h0_ h1_) ) (c_att hw r_15 (((4 : Int32) + tl) + (15 : Int32)) (58 : Int32) (respL tl t0 t1 hl h0_ h1_) A_17 (ax_19 b_tl b_hl) (resp_le b_tl b_hl)) (w199 hw) (w2 hw) (by decide) (by decide)) (lenOf pd_34 rfl) (Nat.le_of_ble_eq_true rfl) rfl (Nat.le_of_ble_eq_true rfl) (Nat.le_of_ble_eq_true rfl) (fun _ q => nomatch q) (fun v h_57 sf_58 hq => ?_)
    obtain ⟨rfl, rfl⟩ := hq
    refine Go.more (sf' := []) ?_ (Nat.le_refl _) (Nat.le_refl _) (fun _ q => List.mem_append_right _ q)
    show G_law l Z n0 33 362 [] h_14 472 #[.val (.int p0), .val (.int p1), .val (.int hl), .val (.int tl), .val (.int h0_), .val (.int h1_), .val (.int t0), .val (.int t1), .val (.ref x_2), .val (.ref x_8), .val (.ref r_15), .val (.int (1 : Int32)), .val (.int ((4 : Int32) + tl)), .unset, .unset] [(.int (1 : Int32))]
    refine Go.ifN 475 at_472 rfl (feq (by decide)).1 ?_
    refine Go.aload 477 at_475 rfl rfl rfl ?_
    refine Go.iload 479 at_477 rfl rfl ?_
    refine Go.bipush 481 (16 : Int32) at_479 rfl rfl ?_
    refine Go.iadd 482 at_481 rfl ?_
    refine Go.bipush 484 (32 : Int32) at_482 rfl rfl ?_
    refine Go.callS (S := []) 487 [(.ref r_15), (.int (((4 : Int32) + tl) + (16 : Int32))), (.int (32 : Int32))] at_484 rfl rfl (w197 hw) (w198 hw) (w2 hw) (w199 hw) (by decide) (call_of_go (R := _) (len := 3) (W := 0) (plainFor_of_name pn_6) (fun mid => ef_att mid r_15 (((4 : Int32) + tl) + (16 : Int32)) (32 : Int32) (respL tl t0 t1 hl h0_ h1_) ) (c_att hw r_15 (((4 : Int32) + tl) + (16 : Int32)) (32 : Int32) (respL tl t0 t1 hl h0_ h1_) A_17 (ax_20 b_tl b_hl) (resp_le b_tl b_hl)) (w199 hw) (w2 hw) (by decide) (by decide)) (lenOf pd_34 rfl) (Nat.le_of_ble_eq_true rfl) rfl (Nat.le_of_ble_eq_true rfl) (Nat.le_of_ble_eq_true rfl) (fun _ q => nomatch q) (fun v h_59 sf_60 hq => ?_)
    obtain ⟨rfl, rfl⟩ := hq
    refine Go.more (sf' := []) ?_ (Nat.le_refl _) (Nat.le_refl _) (fun _ q => List.mem_append_right _ q)
    show G_law l Z n0 33 362 [] h_14 487 #[.val (.int p0), .val (.int p1), .val (.int hl), .val (.int tl), .val (.int h0_), .val (.int h1_), .val (.int t0), .val (.int t1), .val (.ref x_2), .val (.ref x_8), .val (.ref r_15), .val (.int (1 : Int32)), .val (.int ((4 : Int32) + tl)), .unset, .unset] [(.int (1 : Int32))]
    refine Go.ifN 490 at_487 rfl (feq (by decide)).1 ?_
    refine Go.iconst 491 (1 : Int32) at_490 rfl rfl ?_
    refine Go.goto 495 at_491 (by decide) (by decide) ?_
    refine Go.istore 497 #[.val (.int p0), .val (.int p1), .val (.int hl), .val (.int tl), .val (.int h0_), .val (.int h1_), .val (.int t0), .val (.int t1), .val (.ref x_2), .val (.ref x_8), .val (.ref r_15), .val (.int (1 : Int32)), .val (.int ((4 : Int32) + tl)), .unset, .unset] at_495 rfl rfl ?_
    refine Go.iload 499 at_497 rfl rfl ?_
    refine Go.bipush 501 (17 : Int32) at_499 rfl rfl ?_
    refine Go.iadd 502 at_501 rfl ?_
    refine Go.istore 504 #[.val (.int p0), .val (.int p1), .val (.int hl), .val (.int tl), .val (.int h0_), .val (.int h1_), .val (.int t0), .val (.int t1), .val (.ref x_2), .val (.ref x_8), .val (.ref r_15), .val (.int (1 : Int32)), .val (.int ((4 : Int32) + tl)), .val (.int (((4 : Int32) + tl) + (17 : Int32))), .unset] at_502 rfl rfl ?_
    have cut570 : ∀ (u_ : True), G_law l Z n0 33 362 [] h_14 570 #[.val (.int p0), .val (.int p1), .val (.int hl), .val (.int tl), .val (.int h0_), .val (.int h1_), .val (.int t0), .val (.int t1), .val (.ref x_2), .val (.ref x_8), .val (.ref r_15), .val (.int (1 : Int32)), .val (.int ((4 : Int32) + tl)), .val (.int (((4 : Int32) + tl) + (17 : Int32))), .unset] [] := by
      intro u_
      refine Go.iload 572 at_570 rfl rfl ?_
      refine Go.iloadN 573 at_572 rfl rfl ?_
      refine Go.iadd 574 at_573 rfl ?_
      refine Go.istore 576 #[.val (.int p0), .val (.int p1), .val (.int hl), .val (.int tl), .val (.int h0_), .val (.int h1_), .val (.int t0), .val (.int t1), .val (.ref x_2), .val (.ref x_8), .val (.ref r_15), .val (.int (1 : Int32)), .val (.int ((4 : Int32) + tl)), .val (.int (((4 : Int32) + tl) + (17 : Int32))), .val (.int ((((4 : Int32) + tl) + (17 : Int32)) + hl))] at_574 rfl rfl ?_
      refine Go.iload 578 at_576 rfl rfl ?_
      refine Go.ifN 581 at_578 rfl (feq (by decide)).1 ?_
      refine Go.aload 583 at_581 rfl rfl rfl ?_
      refine Go.iload 585 at_583 rfl rfl ?_
      refine Go.bipush 587 (13 : Int32) at_585 rfl rfl ?_
      refine Go.callS (S := []) 590 [(.ref r_15), (.int ((((4 : Int32) + tl) + (17 : Int32)) + hl)), (.int (13 : Int32))] at_587 rfl rfl (w197 hw) (w198 hw) (w2 hw) (w199 hw) (by decide) (call_of_go (R := _) (len := 3) (W := 0) (plainFor_of_name pn_6) (fun mid => ef_att mid r_15 ((((4 : Int32) + tl) + (17 : Int32)) + hl) (13 : Int32) (respL tl t0 t1 hl h0_ h1_) ) (c_att hw r_15 ((((4 : Int32) + tl) + (17 : Int32)) + hl) (13 : Int32) (respL tl t0 t1 hl h0_ h1_) A_17 (ax_21 b_tl b_hl) (resp_le b_tl b_hl)) (w199 hw) (w2 hw) (by decide) (by decide)) (lenOf pd_34 rfl) (Nat.le_of_ble_eq_true rfl) rfl (Nat.le_of_ble_eq_true rfl) (Nat.le_of_ble_eq_true rfl) (fun _ q => nomatch q) (fun v h_61 sf_62 hq => ?_)
      obtain ⟨rfl, rfl⟩ := hq
      refine Go.more (sf' := []) ?_ (Nat.le_refl _) (Nat.le_refl _) (fun _ q => List.mem_append_right _ q)
      show G_law l Z n0 33 362 [] h_14 590 #[.val (.int p0), .val (.int p1), .val (.int hl), .val (.int tl), .val (.int h0_), .val (.int h1_), .val (.int t0), .val (.int t1), .val (.ref x_2), .val (.ref x_8), .val (.ref r_15), .val (.int (1 : Int32)), .val (.int ((4 : Int32) + tl)), .val (.int (((4 : Int32) + tl) + (17 : Int32))), .val (.int ((((4 : Int32) + tl) + (17 : Int32)) + hl))] [(.int (1 : Int32))]
      refine Go.ifN 593 at_590 rfl (feq (by decide)).1 ?_
      refine Go.aload 595 at_593 rfl rfl rfl ?_
      refine Go.iload 597 at_595 rfl rfl ?_
      refine Go.iconst 598 (1 : Int32) at_597 rfl rfl ?_
      refine Go.iadd 599 at_598 rfl ?_
      refine Go.bipush 601 (10 : Int32) at_599 rfl rfl ?_
      refine Go.callS (S := []) 604 [(.ref r_15), (.int (((((4 : Int32) + tl) + (17 : Int32)) + hl) + (1 : Int32))), (.int (10 : Int32))] at_601 rfl rfl (w197 hw) (w198 hw) (w2 hw) (w199 hw) (by decide) (call_of_go (R := _) (len := 3) (W := 0) (plainFor_of_name pn_6) (fun mid => ef_att mid r_15 (((((4 : Int32) + tl) + (17 : Int32)) + hl) + (1 : Int32)) (10 : Int32) (respL tl t0 t1 hl h0_ h1_) ) (c_att hw r_15 (((((4 : Int32) + tl) + (17 : Int32)) + hl) + (1 : Int32)) (10 : Int32) (respL tl t0 t1 hl h0_ h1_) A_17 (ax_22 b_tl b_hl) (resp_le b_tl b_hl)) (w199 hw) (w2 hw) (by decide) (by decide)) (lenOf pd_34 rfl) (Nat.le_of_ble_eq_true rfl) rfl (Nat.le_of_ble_eq_true rfl) (Nat.le_of_ble_eq_true rfl) (fun _ q => nomatch q) (fun v h_63 sf_64 hq => ?_)
      obtain ⟨rfl, rfl⟩ := hq
      refine Go.more (sf' := []) ?_ (Nat.le_refl _) (Nat.le_refl _) (fun _ q => List.mem_append_right _ q)
      show G_law l Z n0 33 362 [] h_14 604 #[.val (.int p0), .val (.int p1), .val (.int hl), .val (.int tl), .val (.int h0_), .val (.int h1_), .val (.int t0), .val (.int t1), .val (.ref x_2), .val (.ref x_8), .val (.ref r_15), .val (.int (1 : Int32)), .val (.int ((4 : Int32) + tl)), .val (.int (((4 : Int32) + tl) + (17 : Int32))), .val (.int ((((4 : Int32) + tl) + (17 : Int32)) + hl))] [(.int (1 : Int32))]
      refine Go.ifN 607 at_604 rfl (feq (by decide)).1 ?_
      refine Go.aload 609 at_607 rfl rfl rfl ?_
      refine Go.iload 611 at_609 rfl rfl ?_
      refine Go.iconst 612 (2 : Int32) at_611 rfl rfl ?_
      refine Go.iadd 613 at_612 rfl ?_
      refine Go.bipush 615 (13 : Int32) at_613 rfl rfl ?_
      refine Go.callS (S := []) 618 [(.ref r_15), (.int (((((4 : Int32) + tl) + (17 : Int32)) + hl) + (2 : Int32))), (.int (13 : Int32))] at_615 rfl rfl (w197 hw) (w198 hw) (w2 hw) (w199 hw) (by decide) (call_of_go (R := _) (len := 3) (W := 0) (plainFor_of_name pn_6) (fun mid => ef_att mid r_15 (((((4 : Int32) + tl) + (17 : Int32)) + hl) + (2 : Int32)) (13 : Int32) (respL tl t0 t1 hl h0_ h1_) ) (c_att hw r_15 (((((4 : Int32) + tl) + (17 : Int32)) + hl) + (2 : Int32)) (13 : Int32) (respL tl t0 t1 hl h0_ h1_) A_17 (ax_23 b_tl b_hl) (resp_le b_tl b_hl)) (w199 hw) (w2 hw) (by decide) (by decide)) (lenOf pd_34 rfl) (Nat.le_of_ble_eq_true rfl) rfl (Nat.le_of_ble_eq_true rfl) (Nat.le_of_ble_eq_true rfl) (fun _ q => nomatch q) (fun v h_65 sf_66 hq => ?_)
      obtain ⟨rfl, rfl⟩ := hq
      refine Go.more (sf' := []) ?_ (Nat.le_refl _) (Nat.le_refl _) (fun _ q => List.mem_append_right _ q)
      show G_law l Z n0 33 362 [] h_14 618 #[.val (.int p0), .val (.int p1), .val (.int hl), .val (.int tl), .val (.int h0_), .val (.int h1_), .val (.int t0), .val (.int t1), .val (.ref x_2), .val (.ref x_8), .val (.ref r_15), .val (.int (1 : Int32)), .val (.int ((4 : Int32) + tl)), .val (.int (((4 : Int32) + tl) + (17 : Int32))), .val (.int ((((4 : Int32) + tl) + (17 : Int32)) + hl))] [(.int (1 : Int32))]
      refine Go.ifN 621 at_618 rfl (feq (by decide)).1 ?_
      refine Go.aload 623 at_621 rfl rfl rfl ?_
      refine Go.iload 625 at_623 rfl rfl ?_
      refine Go.iconst 626 (3 : Int32) at_625 rfl rfl ?_
      refine Go.iadd 627 at_626 rfl ?_
      refine Go.bipush 629 (10 : Int32) at_627 rfl rfl ?_
      refine Go.callS (S := []) 632 [(.ref r_15), (.int (((((4 : Int32) + tl) + (17 : Int32)) + hl) + (3 : Int32))), (.int (10 : Int32))] at_629 rfl rfl (w197 hw) (w198 hw) (w2 hw) (w199 hw) (by decide) (call_of_go (R := _) (len := 3) (W := 0) (plainFor_of_name pn_6) (fun mid => ef_att mid r_15 (((((4 : Int32) + tl) + (17 : Int32)) + hl) + (3 : Int32)) (10 : Int32) (respL tl t0 t1 hl h0_ h1_) ) (c_att hw r_15 (((((4 : Int32) + tl) + (17 : Int32)) + hl) + (3 : Int32)) (10 : Int32) (respL tl t0 t1 hl h0_ h1_) A_17 (ax_24 b_tl b_hl) (resp_le b_tl b_hl)) (w199 hw) (w2 hw) (by decide) (by decide)) (lenOf pd_34 rfl) (Nat.le_of_ble_eq_true rfl) rfl (Nat.le_of_ble_eq_true rfl) (Nat.le_of_ble_eq_true rfl) (fun _ q => nomatch q) (fun v h_67 sf_68 hq => ?_)
      obtain ⟨rfl, rfl⟩ := hq
      refine Go.more (sf' := []) ?_ (Nat.le_refl _) (Nat.le_refl _) (fun _ q => List.mem_append_right _ q)
      show G_law l Z n0 33 362 [] h_14 632 #[.val (.int p0), .val (.int p1), .val (.int hl), .val (.int tl), .val (.int h0_), .val (.int h1_), .val (.int t0), .val (.int t1), .val (.ref x_2), .val (.ref x_8), .val (.ref r_15), .val (.int (1 : Int32)), .val (.int ((4 : Int32) + tl)), .val (.int (((4 : Int32) + tl) + (17 : Int32))), .val (.int ((((4 : Int32) + tl) + (17 : Int32)) + hl))] [(.int (1 : Int32))]
      refine Go.ifN 635 at_632 rfl (feq (by decide)).1 ?_
      refine Go.iconst 636 (1 : Int32) at_635 rfl rfl ?_
      refine Go.goto 640 at_636 (by decide) (by decide) ?_
      refine Go.istore 642 #[.val (.int p0), .val (.int p1), .val (.int hl), .val (.int tl), .val (.int h0_), .val (.int h1_), .val (.int t0), .val (.int t1), .val (.ref x_2), .val (.ref x_8), .val (.ref r_15), .val (.int (1 : Int32)), .val (.int ((4 : Int32) + tl)), .val (.int (((4 : Int32) + tl) + (17 : Int32))), .val (.int ((((4 : Int32) + tl) + (17 : Int32)) + hl))] at_640 rfl rfl ?_
      refine Go.iload 644 at_642 rfl rfl ?_
      exact Go.retN (1 : Int32) at_644 rfl (t := .boolean) (by simp) rfl (sf' := []) (rfl) (fun _ q => nomatch q) (Nat.le_of_ble_eq_true rfl) (Nat.le_of_ble_eq_true rfl)
    refine Go.iloadN 505 at_504 rfl rfl ?_
    refine Go.iconst 506 (1 : Int32) at_505 rfl rfl ?_
    by_cases hc506 : hl < (1 : Int32)
    · skip
      refine Go.icmpY 536 at_506 (by decide) (by decide) (tlt hc506).1 ?_
      refine Go.iloadN 537 at_536 rfl rfl ?_
      refine Go.iconst 538 (2 : Int32) at_537 rfl rfl ?_
      by_cases hc538 : hl < (2 : Int32)
      · skip
        refine Go.icmpY 570 at_538 (by decide) (by decide) (tlt hc538).1 ?_
        exact cut570 trivial
      · skip
        refine Go.icmpN 541 at_538 rfl (flt hc538).1 ?_
        refine Go.iload 543 at_541 rfl rfl ?_
        refine Go.ifN 546 at_543 rfl (feq (by decide)).1 ?_
        refine Go.aload 548 at_546 rfl rfl rfl ?_
        refine Go.iload 550 at_548 rfl rfl ?_
        refine Go.iconst 551 (1 : Int32) at_550 rfl rfl ?_
        refine Go.iadd 552 at_551 rfl ?_
        refine Go.iload 554 at_552 rfl rfl ?_
        refine Go.callS (S := [(.int ((((4 : Int32) + tl) + (17 : Int32)) + (1 : Int32))), (.ref r_15)]) 557 [(.int h1_)] at_554 rfl rfl (w213 hw) (w214 hw) (w2 hw) (w215 hw) (by decide) (call_of_go (R := _) (len := 3) (W := 2) (plainFor_of_name pn_6) (fun mid => ef_encc mid h1_ ) (c_encc hw h1_ ) (w215 hw) (w2 hw) (by decide) (by decide)) (lenOf pd_35 rfl) (Nat.le_of_ble_eq_true rfl) rfl (Nat.le_of_ble_eq_true rfl) (Nat.le_of_ble_eq_true rfl) (fun _ q => nomatch q) (fun v h_69 sf_70 hq => ?_)
        obtain ⟨rfl, rfl⟩ := hq
        refine Go.more (sf' := []) ?_ (Nat.le_refl _) (Nat.le_refl _) (fun _ q => List.mem_append_right _ q)
        show G_law l Z n0 33 362 [] h_14 557 #[.val (.int p0), .val (.int p1), .val (.int hl), .val (.int tl), .val (.int h0_), .val (.int h1_), .val (.int t0), .val (.int t1), .val (.ref x_2), .val (.ref x_8), .val (.ref r_15), .val (.int (1 : Int32)), .val (.int ((4 : Int32) + tl)), .val (.int (((4 : Int32) + tl) + (17 : Int32))), .unset] [(.int (encI h1_)), (.int ((((4 : Int32) + tl) + (17 : Int32)) + (1 : Int32))), (.ref r_15)]
        refine Go.callS (S := []) 560 [(.ref r_15), (.int ((((4 : Int32) + tl) + (17 : Int32)) + (1 : Int32))), (.int (encI h1_))] at_557 rfl rfl (w197 hw) (w198 hw) (w2 hw) (w199 hw) (by decide) (call_of_go (R := _) (len := 3) (W := 0) (plainFor_of_name pn_6) (fun mid => ef_att mid r_15 ((((4 : Int32) + tl) + (17 : Int32)) + (1 : Int32)) (encI h1_) (respL tl t0 t1 hl h0_ h1_) ) (c_att hw r_15 ((((4 : Int32) + tl) + (17 : Int32)) + (1 : Int32)) (encI h1_) (respL tl t0 t1 hl h0_ h1_) A_17 (ax_25 b_tl b_hl hc538) (resp_le b_tl b_hl)) (w199 hw) (w2 hw) (by decide) (by decide)) (lenOf pd_34 rfl) (Nat.le_of_ble_eq_true rfl) rfl (Nat.le_of_ble_eq_true rfl) (Nat.le_of_ble_eq_true rfl) (fun _ q => nomatch q) (fun v h_71 sf_72 hq => ?_)
        obtain ⟨rfl, rfl⟩ := hq
        refine Go.more (sf' := []) ?_ (Nat.le_refl _) (Nat.le_refl _) (fun _ q => List.mem_append_right _ q)
        show G_law l Z n0 33 362 [] h_14 560 #[.val (.int p0), .val (.int p1), .val (.int hl), .val (.int tl), .val (.int h0_), .val (.int h1_), .val (.int t0), .val (.int t1), .val (.ref x_2), .val (.ref x_8), .val (.ref r_15), .val (.int (1 : Int32)), .val (.int ((4 : Int32) + tl)), .val (.int (((4 : Int32) + tl) + (17 : Int32))), .unset] [(.int (1 : Int32))]
        refine Go.ifN 563 at_560 rfl (feq (by decide)).1 ?_
        refine Go.iconst 564 (1 : Int32) at_563 rfl rfl ?_
        refine Go.goto 568 at_564 (by decide) (by decide) ?_
        refine Go.istore 570 #[.val (.int p0), .val (.int p1), .val (.int hl), .val (.int tl), .val (.int h0_), .val (.int h1_), .val (.int t0), .val (.int t1), .val (.ref x_2), .val (.ref x_8), .val (.ref r_15), .val (.int (1 : Int32)), .val (.int ((4 : Int32) + tl)), .val (.int (((4 : Int32) + tl) + (17 : Int32))), .unset] at_568 rfl rfl ?_
        exact cut570 trivial
    · skip
      refine Go.icmpN 509 at_506 rfl (flt hc506).1 ?_
      refine Go.iload 511 at_509 rfl rfl ?_
      refine Go.ifN 514 at_511 rfl (feq (by decide)).1 ?_
      refine Go.aload 516 at_514 rfl rfl rfl ?_
      refine Go.iload 518 at_516 rfl rfl ?_
      refine Go.iload 520 at_518 rfl rfl ?_
      refine Go.callS (S := [(.int (((4 : Int32) + tl) + (17 : Int32))), (.ref r_15)]) 523 [(.int h0_)] at_520 rfl rfl (w213 hw) (w214 hw) (w2 hw) (w215 hw) (by decide) (call_of_go (R := _) (len := 3) (W := 2) (plainFor_of_name pn_6) (fun mid => ef_encc mid h0_ ) (c_encc hw h0_ ) (w215 hw) (w2 hw) (by decide) (by decide)) (lenOf pd_35 rfl) (Nat.le_of_ble_eq_true rfl) rfl (Nat.le_of_ble_eq_true rfl) (Nat.le_of_ble_eq_true rfl) (fun _ q => nomatch q) (fun v h_73 sf_74 hq => ?_)
      obtain ⟨rfl, rfl⟩ := hq
      refine Go.more (sf' := []) ?_ (Nat.le_refl _) (Nat.le_refl _) (fun _ q => List.mem_append_right _ q)
      show G_law l Z n0 33 362 [] h_14 523 #[.val (.int p0), .val (.int p1), .val (.int hl), .val (.int tl), .val (.int h0_), .val (.int h1_), .val (.int t0), .val (.int t1), .val (.ref x_2), .val (.ref x_8), .val (.ref r_15), .val (.int (1 : Int32)), .val (.int ((4 : Int32) + tl)), .val (.int (((4 : Int32) + tl) + (17 : Int32))), .unset] [(.int (encI h0_)), (.int (((4 : Int32) + tl) + (17 : Int32))), (.ref r_15)]
      refine Go.callS (S := []) 526 [(.ref r_15), (.int (((4 : Int32) + tl) + (17 : Int32))), (.int (encI h0_))] at_523 rfl rfl (w197 hw) (w198 hw) (w2 hw) (w199 hw) (by decide) (call_of_go (R := _) (len := 3) (W := 0) (plainFor_of_name pn_6) (fun mid => ef_att mid r_15 (((4 : Int32) + tl) + (17 : Int32)) (encI h0_) (respL tl t0 t1 hl h0_ h1_) ) (c_att hw r_15 (((4 : Int32) + tl) + (17 : Int32)) (encI h0_) (respL tl t0 t1 hl h0_ h1_) A_17 (ax_26 b_tl b_hl hc506) (resp_le b_tl b_hl)) (w199 hw) (w2 hw) (by decide) (by decide)) (lenOf pd_34 rfl) (Nat.le_of_ble_eq_true rfl) rfl (Nat.le_of_ble_eq_true rfl) (Nat.le_of_ble_eq_true rfl) (fun _ q => nomatch q) (fun v h_75 sf_76 hq => ?_)
      obtain ⟨rfl, rfl⟩ := hq
      refine Go.more (sf' := []) ?_ (Nat.le_refl _) (Nat.le_refl _) (fun _ q => List.mem_append_right _ q)
      show G_law l Z n0 33 362 [] h_14 526 #[.val (.int p0), .val (.int p1), .val (.int hl), .val (.int tl), .val (.int h0_), .val (.int h1_), .val (.int t0), .val (.int t1), .val (.ref x_2), .val (.ref x_8), .val (.ref r_15), .val (.int (1 : Int32)), .val (.int ((4 : Int32) + tl)), .val (.int (((4 : Int32) + tl) + (17 : Int32))), .unset] [(.int (1 : Int32))]
      refine Go.ifN 529 at_526 rfl (feq (by decide)).1 ?_
      refine Go.iconst 530 (1 : Int32) at_529 rfl rfl ?_
      refine Go.goto 534 at_530 (by decide) (by decide) ?_
      refine Go.istore 536 #[.val (.int p0), .val (.int p1), .val (.int hl), .val (.int tl), .val (.int h0_), .val (.int h1_), .val (.int t0), .val (.int t1), .val (.ref x_2), .val (.ref x_8), .val (.ref r_15), .val (.int (1 : Int32)), .val (.int ((4 : Int32) + tl)), .val (.int (((4 : Int32) + tl) + (17 : Int32))), .unset] at_534 rfl rfl ?_
      refine Go.iloadN 537 at_536 rfl rfl ?_
      refine Go.iconst 538 (2 : Int32) at_537 rfl rfl ?_
      by_cases hc538 : hl < (2 : Int32)
      · skip
        refine Go.icmpY 570 at_538 (by decide) (by decide) (tlt hc538).1 ?_
        exact cut570 trivial
      · skip
        refine Go.icmpN 541 at_538 rfl (flt hc538).1 ?_
        refine Go.iload 543 at_541 rfl rfl ?_
        refine Go.ifN 546 at_543 rfl (feq (by decide)).1 ?_
        refine Go.aload 548 at_546 rfl rfl rfl ?_
        refine Go.iload 550 at_548 rfl rfl ?_
        refine Go.iconst 551 (1 : Int32) at_550 rfl rfl ?_
        refine Go.iadd 552 at_551 rfl ?_
        refine Go.iload 554 at_552 rfl rfl ?_
        refine Go.callS (S := [(.int ((((4 : Int32) + tl) + (17 : Int32)) + (1 : Int32))), (.ref r_15)]) 557 [(.int h1_)] at_554 rfl rfl (w213 hw) (w214 hw) (w2 hw) (w215 hw) (by decide) (call_of_go (R := _) (len := 3) (W := 2) (plainFor_of_name pn_6) (fun mid => ef_encc mid h1_ ) (c_encc hw h1_ ) (w215 hw) (w2 hw) (by decide) (by decide)) (lenOf pd_35 rfl) (Nat.le_of_ble_eq_true rfl) rfl (Nat.le_of_ble_eq_true rfl) (Nat.le_of_ble_eq_true rfl) (fun _ q => nomatch q) (fun v h_77 sf_78 hq => ?_)
        obtain ⟨rfl, rfl⟩ := hq
        refine Go.more (sf' := []) ?_ (Nat.le_refl _) (Nat.le_refl _) (fun _ q => List.mem_append_right _ q)
        show G_law l Z n0 33 362 [] h_14 557 #[.val (.int p0), .val (.int p1), .val (.int hl), .val (.int tl), .val (.int h0_), .val (.int h1_), .val (.int t0), .val (.int t1), .val (.ref x_2), .val (.ref x_8), .val (.ref r_15), .val (.int (1 : Int32)), .val (.int ((4 : Int32) + tl)), .val (.int (((4 : Int32) + tl) + (17 : Int32))), .unset] [(.int (encI h1_)), (.int ((((4 : Int32) + tl) + (17 : Int32)) + (1 : Int32))), (.ref r_15)]
        refine Go.callS (S := []) 560 [(.ref r_15), (.int ((((4 : Int32) + tl) + (17 : Int32)) + (1 : Int32))), (.int (encI h1_))] at_557 rfl rfl (w197 hw) (w198 hw) (w2 hw) (w199 hw) (by decide) (call_of_go (R := _) (len := 3) (W := 0) (plainFor_of_name pn_6) (fun mid => ef_att mid r_15 ((((4 : Int32) + tl) + (17 : Int32)) + (1 : Int32)) (encI h1_) (respL tl t0 t1 hl h0_ h1_) ) (c_att hw r_15 ((((4 : Int32) + tl) + (17 : Int32)) + (1 : Int32)) (encI h1_) (respL tl t0 t1 hl h0_ h1_) A_17 (ax_25 b_tl b_hl hc538) (resp_le b_tl b_hl)) (w199 hw) (w2 hw) (by decide) (by decide)) (lenOf pd_34 rfl) (Nat.le_of_ble_eq_true rfl) rfl (Nat.le_of_ble_eq_true rfl) (Nat.le_of_ble_eq_true rfl) (fun _ q => nomatch q) (fun v h_79 sf_80 hq => ?_)
        obtain ⟨rfl, rfl⟩ := hq
        refine Go.more (sf' := []) ?_ (Nat.le_refl _) (Nat.le_refl _) (fun _ q => List.mem_append_right _ q)
        show G_law l Z n0 33 362 [] h_14 560 #[.val (.int p0), .val (.int p1), .val (.int hl), .val (.int tl), .val (.int h0_), .val (.int h1_), .val (.int t0), .val (.int t1), .val (.ref x_2), .val (.ref x_8), .val (.ref r_15), .val (.int (1 : Int32)), .val (.int ((4 : Int32) + tl)), .val (.int (((4 : Int32) + tl) + (17 : Int32))), .unset] [(.int (1 : Int32))]
        refine Go.ifN 563 at_560 rfl (feq (by decide)).1 ?_
        refine Go.iconst 564 (1 : Int32) at_563 rfl rfl ?_
        refine Go.goto 568 at_564 (by decide) (by decide) ?_
        refine Go.istore 570 #[.val (.int p0), .val (.int p1), .val (.int hl), .val (.int tl), .val (.int h0_), .val (.int h1_), .val (.int t0), .val (.int t1), .val (.ref x_2), .val (.ref x_8), .val (.ref r_15), .val (.int (1 : Int32)), .val (.int ((4 : Int32) + tl)), .val (.int (((4 : Int32) + tl) + (17 : Int32))), .unset] at_568 rfl rfl ?_
        exact cut570 trivial
  refine Go.iloadN 160 at_159 rfl rfl ?_
  refine Go.iconst 161 (1 : Int32) at_160 rfl rfl ?_
  by_cases hc161 : tl < (1 : Int32)
  · skip
    refine Go.icmpY 190 at_161 (by decide) (by decide) (tlt hc161).1 ?_
    refine Go.iloadN 191 at_190 rfl rfl ?_
    refine Go.iconst 192 (2 : Int32) at_191 rfl rfl ?_
    by_cases hc192 : tl < (2 : Int32)
    · skip
      refine Go.icmpY 221 at_192 (by decide) (by decide) (tlt hc192).1 ?_
      exact cut221 trivial
    · skip
      refine Go.icmpN 195 at_192 rfl (flt hc192).1 ?_
      refine Go.iload 197 at_195 rfl rfl ?_
      refine Go.ifN 200 at_197 rfl (feq (by decide)).1 ?_
      refine Go.aload 202 at_200 rfl rfl rfl ?_
      refine Go.iconst 203 (5 : Int32) at_202 rfl rfl ?_
      refine Go.iload 205 at_203 rfl rfl ?_
      refine Go.callS (S := [(.int (5 : Int32)), (.ref r_15)]) 208 [(.int t1)] at_205 rfl rfl (w213 hw) (w214 hw) (w2 hw) (w215 hw) (by decide) (call_of_go (R := _) (len := 3) (W := 2) (plainFor_of_name pn_6) (fun mid => ef_encc mid t1 ) (c_encc hw t1 ) (w215 hw) (w2 hw) (by decide) (by decide)) (lenOf pd_35 rfl) (Nat.le_of_ble_eq_true rfl) rfl (Nat.le_of_ble_eq_true rfl) (Nat.le_of_ble_eq_true rfl) (fun _ q => nomatch q) (fun v h_81 sf_82 hq => ?_)
      obtain ⟨rfl, rfl⟩ := hq
      refine Go.more (sf' := []) ?_ (Nat.le_refl _) (Nat.le_refl _) (fun _ q => List.mem_append_right _ q)
      show G_law l Z n0 33 362 [] h_14 208 #[.val (.int p0), .val (.int p1), .val (.int hl), .val (.int tl), .val (.int h0_), .val (.int h1_), .val (.int t0), .val (.int t1), .val (.ref x_2), .val (.ref x_8), .val (.ref r_15), .val (.int (1 : Int32)), .unset, .unset, .unset] [(.int (encI t1)), (.int (5 : Int32)), (.ref r_15)]
      refine Go.callS (S := []) 211 [(.ref r_15), (.int (5 : Int32)), (.int (encI t1))] at_208 rfl rfl (w197 hw) (w198 hw) (w2 hw) (w199 hw) (by decide) (call_of_go (R := _) (len := 3) (W := 0) (plainFor_of_name pn_6) (fun mid => ef_att mid r_15 (5 : Int32) (encI t1) (respL tl t0 t1 hl h0_ h1_) ) (c_att hw r_15 (5 : Int32) (encI t1) (respL tl t0 t1 hl h0_ h1_) A_17 (ax_27 b_tl b_hl hc192) (resp_le b_tl b_hl)) (w199 hw) (w2 hw) (by decide) (by decide)) (lenOf pd_34 rfl) (Nat.le_of_ble_eq_true rfl) rfl (Nat.le_of_ble_eq_true rfl) (Nat.le_of_ble_eq_true rfl) (fun _ q => nomatch q) (fun v h_83 sf_84 hq => ?_)
      obtain ⟨rfl, rfl⟩ := hq
      refine Go.more (sf' := []) ?_ (Nat.le_refl _) (Nat.le_refl _) (fun _ q => List.mem_append_right _ q)
      show G_law l Z n0 33 362 [] h_14 211 #[.val (.int p0), .val (.int p1), .val (.int hl), .val (.int tl), .val (.int h0_), .val (.int h1_), .val (.int t0), .val (.int t1), .val (.ref x_2), .val (.ref x_8), .val (.ref r_15), .val (.int (1 : Int32)), .unset, .unset, .unset] [(.int (1 : Int32))]
      refine Go.ifN 214 at_211 rfl (feq (by decide)).1 ?_
      refine Go.iconst 215 (1 : Int32) at_214 rfl rfl ?_
      refine Go.goto 219 at_215 (by decide) (by decide) ?_
      refine Go.istore 221 #[.val (.int p0), .val (.int p1), .val (.int hl), .val (.int tl), .val (.int h0_), .val (.int h1_), .val (.int t0), .val (.int t1), .val (.ref x_2), .val (.ref x_8), .val (.ref r_15), .val (.int (1 : Int32)), .unset, .unset, .unset] at_219 rfl rfl ?_
      exact cut221 trivial
  · skip
    refine Go.icmpN 164 at_161 rfl (flt hc161).1 ?_
    refine Go.iload 166 at_164 rfl rfl ?_
    refine Go.ifN 169 at_166 rfl (feq (by decide)).1 ?_
    refine Go.aload 171 at_169 rfl rfl rfl ?_
    refine Go.iconst 172 (4 : Int32) at_171 rfl rfl ?_
    refine Go.iload 174 at_172 rfl rfl ?_
    refine Go.callS (S := [(.int (4 : Int32)), (.ref r_15)]) 177 [(.int t0)] at_174 rfl rfl (w213 hw) (w214 hw) (w2 hw) (w215 hw) (by decide) (call_of_go (R := _) (len := 3) (W := 2) (plainFor_of_name pn_6) (fun mid => ef_encc mid t0 ) (c_encc hw t0 ) (w215 hw) (w2 hw) (by decide) (by decide)) (lenOf pd_35 rfl) (Nat.le_of_ble_eq_true rfl) rfl (Nat.le_of_ble_eq_true rfl) (Nat.le_of_ble_eq_true rfl) (fun _ q => nomatch q) (fun v h_85 sf_86 hq => ?_)
    obtain ⟨rfl, rfl⟩ := hq
    refine Go.more (sf' := []) ?_ (Nat.le_refl _) (Nat.le_refl _) (fun _ q => List.mem_append_right _ q)
    show G_law l Z n0 33 362 [] h_14 177 #[.val (.int p0), .val (.int p1), .val (.int hl), .val (.int tl), .val (.int h0_), .val (.int h1_), .val (.int t0), .val (.int t1), .val (.ref x_2), .val (.ref x_8), .val (.ref r_15), .val (.int (1 : Int32)), .unset, .unset, .unset] [(.int (encI t0)), (.int (4 : Int32)), (.ref r_15)]
    refine Go.callS (S := []) 180 [(.ref r_15), (.int (4 : Int32)), (.int (encI t0))] at_177 rfl rfl (w197 hw) (w198 hw) (w2 hw) (w199 hw) (by decide) (call_of_go (R := _) (len := 3) (W := 0) (plainFor_of_name pn_6) (fun mid => ef_att mid r_15 (4 : Int32) (encI t0) (respL tl t0 t1 hl h0_ h1_) ) (c_att hw r_15 (4 : Int32) (encI t0) (respL tl t0 t1 hl h0_ h1_) A_17 (ax_28 b_tl b_hl hc161) (resp_le b_tl b_hl)) (w199 hw) (w2 hw) (by decide) (by decide)) (lenOf pd_34 rfl) (Nat.le_of_ble_eq_true rfl) rfl (Nat.le_of_ble_eq_true rfl) (Nat.le_of_ble_eq_true rfl) (fun _ q => nomatch q) (fun v h_87 sf_88 hq => ?_)
    obtain ⟨rfl, rfl⟩ := hq
    refine Go.more (sf' := []) ?_ (Nat.le_refl _) (Nat.le_refl _) (fun _ q => List.mem_append_right _ q)
    show G_law l Z n0 33 362 [] h_14 180 #[.val (.int p0), .val (.int p1), .val (.int hl), .val (.int tl), .val (.int h0_), .val (.int h1_), .val (.int t0), .val (.int t1), .val (.ref x_2), .val (.ref x_8), .val (.ref r_15), .val (.int (1 : Int32)), .unset, .unset, .unset] [(.int (1 : Int32))]
    refine Go.ifN 183 at_180 rfl (feq (by decide)).1 ?_
    refine Go.iconst 184 (1 : Int32) at_183 rfl rfl ?_
    refine Go.goto 188 at_184 (by decide) (by decide) ?_
    refine Go.istore 190 #[.val (.int p0), .val (.int p1), .val (.int hl), .val (.int tl), .val (.int h0_), .val (.int h1_), .val (.int t0), .val (.int t1), .val (.ref x_2), .val (.ref x_8), .val (.ref r_15), .val (.int (1 : Int32)), .unset, .unset, .unset] at_188 rfl rfl ?_
    refine Go.iloadN 191 at_190 rfl rfl ?_
    refine Go.iconst 192 (2 : Int32) at_191 rfl rfl ?_
    by_cases hc192 : tl < (2 : Int32)
    · skip
      refine Go.icmpY 221 at_192 (by decide) (by decide) (tlt hc192).1 ?_
      exact cut221 trivial
    · skip
      refine Go.icmpN 195 at_192 rfl (flt hc192).1 ?_
      refine Go.iload 197 at_195 rfl rfl ?_
      refine Go.ifN 200 at_197 rfl (feq (by decide)).1 ?_
      refine Go.aload 202 at_200 rfl rfl rfl ?_
      refine Go.iconst 203 (5 : Int32) at_202 rfl rfl ?_
      refine Go.iload 205 at_203 rfl rfl ?_
      refine Go.callS (S := [(.int (5 : Int32)), (.ref r_15)]) 208 [(.int t1)] at_205 rfl rfl (w213 hw) (w214 hw) (w2 hw) (w215 hw) (by decide) (call_of_go (R := _) (len := 3) (W := 2) (plainFor_of_name pn_6) (fun mid => ef_encc mid t1 ) (c_encc hw t1 ) (w215 hw) (w2 hw) (by decide) (by decide)) (lenOf pd_35 rfl) (Nat.le_of_ble_eq_true rfl) rfl (Nat.le_of_ble_eq_true rfl) (Nat.le_of_ble_eq_true rfl) (fun _ q => nomatch q) (fun v h_89 sf_90 hq => ?_)
      obtain ⟨rfl, rfl⟩ := hq
      refine Go.more (sf' := []) ?_ (Nat.le_refl _) (Nat.le_refl _) (fun _ q => List.mem_append_right _ q)
      show G_law l Z n0 33 362 [] h_14 208 #[.val (.int p0), .val (.int p1), .val (.int hl), .val (.int tl), .val (.int h0_), .val (.int h1_), .val (.int t0), .val (.int t1), .val (.ref x_2), .val (.ref x_8), .val (.ref r_15), .val (.int (1 : Int32)), .unset, .unset, .unset] [(.int (encI t1)), (.int (5 : Int32)), (.ref r_15)]
      refine Go.callS (S := []) 211 [(.ref r_15), (.int (5 : Int32)), (.int (encI t1))] at_208 rfl rfl (w197 hw) (w198 hw) (w2 hw) (w199 hw) (by decide) (call_of_go (R := _) (len := 3) (W := 0) (plainFor_of_name pn_6) (fun mid => ef_att mid r_15 (5 : Int32) (encI t1) (respL tl t0 t1 hl h0_ h1_) ) (c_att hw r_15 (5 : Int32) (encI t1) (respL tl t0 t1 hl h0_ h1_) A_17 (ax_27 b_tl b_hl hc192) (resp_le b_tl b_hl)) (w199 hw) (w2 hw) (by decide) (by decide)) (lenOf pd_34 rfl) (Nat.le_of_ble_eq_true rfl) rfl (Nat.le_of_ble_eq_true rfl) (Nat.le_of_ble_eq_true rfl) (fun _ q => nomatch q) (fun v h_91 sf_92 hq => ?_)
      obtain ⟨rfl, rfl⟩ := hq
      refine Go.more (sf' := []) ?_ (Nat.le_refl _) (Nat.le_refl _) (fun _ q => List.mem_append_right _ q)
      show G_law l Z n0 33 362 [] h_14 211 #[.val (.int p0), .val (.int p1), .val (.int hl), .val (.int tl), .val (.int h0_), .val (.int h1_), .val (.int t0), .val (.int t1), .val (.ref x_2), .val (.ref x_8), .val (.ref r_15), .val (.int (1 : Int32)), .unset, .unset, .unset] [(.int (1 : Int32))]
      refine Go.ifN 214 at_211 rfl (feq (by decide)).1 ?_
      refine Go.iconst 215 (1 : Int32) at_214 rfl rfl ?_
      refine Go.goto 219 at_215 (by decide) (by decide) ?_
      refine Go.istore 221 #[.val (.int p0), .val (.int p1), .val (.int hl), .val (.int tl), .val (.int h0_), .val (.int h1_), .val (.int t0), .val (.int t1), .val (.ref x_2), .val (.ref x_8), .val (.ref r_15), .val (.int (1 : Int32)), .unset, .unset, .unset] at_219 rfl rfl ?_
      exact cut221 trivial
set_option maxRecDepth 65536 in
set_option maxHeartbeats 40000000 in
theorem comes_1 {Post : Tables → Env → Array Value → State → Outcome → State → Prop} (hpost : ∀ tb e args s v u, (limb_1_1.after args s (.returned v) u = true ∧ limb_1_2.after args s (.returned v) u = true ∧ True) → ReturnedEndW s (.returned v) u (Jvm.fieldLocs frame_1_writes args s ++ Jvm.arrayLocs frame_1_arrays args s ++ Jvm.staticLocs frame_1_statics s) 56 5696 → Post tb e args s (.returned v) u) :
    ArmFor flags0 classFile x code maxLocals ret World_1 tables_1 room_1 Calls_1 rest_1 Pre_1 Post := by
  intro l hfl _ _ p e ha hc hk s m args below hf hA hF happ hP
  obtain ⟨hcalls, hrest, hpre⟩ := hP
  obtain ⟨-, -, -, hnamed, -, -, -, hat⟩ := (Spec.applies_iff hf).mp happ
  obtain ⟨hg, hn⟩ := and_e (Cond.before_iff.mp (show (Jvm.Cond.and given_1 narrow_1).before args s = true from hpre))
  obtain ⟨g0, k1⟩ := and_e hg
  obtain ⟨g1, k2⟩ := and_e k1
  have g2 := k2
  obtain ⟨w0, w1, rfl⟩ : ∃ w0 w1 : Value, args = #[w0, w1] := by
    have hs : args.size = 2 := by simpa [Cond.value, given_1] using g0
    obtain ⟨L⟩ := args
    match L, hs with
    | [w0, w1], _ => exact ⟨w0, w1, rfl⟩
  have hw : HW _ s := fun d (hd : d ∈ tables_1) => atoms_spec (ws := Jvm.Cond.code x code maxLocals ret :: tables_1) hat d (List.mem_cons_of_mem _ hd)
  obtain ⟨hsets, hown0⟩ := atoms_of _ (rest_1_c_eq ▸ (show rest_1_c.before _ s = true from hrest))
  obtain ⟨p0, ea0⟩ := is_v g1
  obtain rfl : w0 = (.int p0) := Option.some.inj ea0
  obtain ⟨p1, ea1⟩ := is_v g2
  obtain rfl : w1 = (.int p1) := Option.some.inj ea1
  obtain ⟨z, ez⟩ := is_v (Cond.before_iff.mp (hsets _ (List.mem_of_getElem? (i := 1) rfl)))
  have SC : Sta s s.heap "java/lang/String" "COMPACT_STRINGS" "Z" (.int z) := Sta.start ez (Or.inl (hsets _ (List.mem_of_getElem? (i := 0) rfl)))
  have hz : ¬ (z = (0 : Int32)) := gotF (Cond.eq_ints ez (Term.int_eval (0))) (not_v (Cond.before_iff.mp (hsets _ (List.mem_of_getElem? (i := 2) rfl))))
  have zq := Cond.before_iff.mp (hsets _ (List.mem_of_getElem? (i := 13) rfl))
  have zs := Cond.before_iff.mp (hsets _ (List.mem_of_getElem? (i := 14) rfl))
  have zu := Cond.before_iff.mp (hsets _ (List.mem_of_getElem? (i := 17) rfl))
  have zi := Cond.before_iff.mp (hsets _ (List.mem_of_getElem? (i := 20) rfl))
  have za := Cond.before_iff.mp (hsets _ (List.mem_of_getElem? (i := 23) rfl))
  obtain ⟨sc, ev_s⟩ := exa_v zs
  obtain ⟨u8, ev_u⟩ := exa_v zu
  obtain ⟨i8, ev_i⟩ := exa_v zi
  obtain ⟨ac, ev_a⟩ := exa_v za
  obtain rfl : sc = ac := ref_eq ev_s ev_a zq
  have XS := Exa.start ev_s zs
  have nu : sc ≠ u8 := ne_exa XS (Exa.start ev_u zu) (by decide)
  have ni : sc ≠ i8 := ne_exa XS (Exa.start ev_i zi) (by decide)
  have ZS := Sta.start ev_s (Or.inl (hsets _ (List.mem_of_getElem? (i := 10) rfl)))
  have ZA := Sta.start ev_a (Or.inl (hsets _ (List.mem_of_getElem? (i := 12) rfl)))
  have ZU := Sta.start ev_u (Or.inl (hsets _ (List.mem_of_getElem? (i := 16) rfl)))
  have ZI := Sta.start ev_i (Or.inl (hsets _ (List.mem_of_getElem? (i := 19) rfl)))
  have hCH : CHv s consts_1 s.vm s.heap := CHv.start (ew hw) (fun p hp => hcalls.1 p hp) (hsets _ (List.mem_of_getElem? (i := 2) rfl)) (w19 hw) (w5 hw)

  obtain ⟨n, o, h1, h2, h3, _, L, _, rfl, rfl, -, N, -, -, hq⟩ := met_of_go (md := some consts_1) (desc := "(II)Z") (ws := tables_1) (plainFor_of_name pn_6) (fun m => ef_law m p0 p1) (law_go (l := l) (Z := s) (n0 := s.heap.size) (h0 := s.heap) hw p0 p1 z SC hz sc u8 i8 ZS ZU ZI ZA nu ni) p e ha hc hk s m _ below hf ((Spec.applies_iff_loose hf).mp happ).1 ⟨rfl, State.Warmed39.refl s, rfl, Old.start s, ⟨_, (State.WarmedH.refl s).since _, Nat.le_refl _⟩, ⟨_, ew hw⟩, CHr.refl hCH, fun x hx => nomatch hx⟩ trivial
  refine ⟨n, _, h1, h2, h3, hpost _ _ _ _ _ _ ⟨Cond.after_iff.mpr rfl, Cond.after_iff.mpr (eq_i res_at (Term.int_eval (1)) rfl), trivial⟩ ⟨hq.1, hq.2.1, hq.2.2.1, (hq.2.2.2.sift fun y hy => Or.inr (N y hy)).mono (by decide) (by decide)⟩⟩
theorem main_1_1 : Claimed_1_1 := comes_1 fun _ _ _ _ _ _ h hF => ⟨h.1, hF⟩
theorem main_1_2 : Claimed_1_2 := comes_1 fun _ _ _ _ _ _ h hF => ⟨h.2.1, hF⟩
end Jvm.Pilot.@@N@@
namespace Jvm.Pilot.@@N@@
open Jvm Jvm.ClassFile Sem Op Lib Jvm.Free Jvm.Stand Jvm.Pilot.@@N@@.Jvm.D
/-! MADE BY PROGRAM (witnessworld.py) out of the Statement's table words and the real class files: 34 classes; the members and pool entries that the words name. The judged class is class 1, her method 1. -/
namespace start1
open Jvm.ClassFile
def u (s : String) : CpInfo := .utf8 (stringToUtf16 s)
/-- a pool by its gaps: so many unusable entries, then the entry; so many at the end -/
def gap : Nat → List CpInfo → List CpInfo
  | 0, r => r
  | n + 1, r => .unusable :: gap n r
def poolList (es : List (Nat × CpInfo)) (last : Nat) : List CpInfo := es.foldr (fun e r => gap e.1 (e.2 :: r)) (gap last [])
def pool (es : List (Nat × CpInfo)) (last : Nat) : Array CpInfo := ⟨poolList es last⟩
def fileOf (pool : Array CpInfo) (this : Nat) (attrs : Array Attribute := #[]) (ms : Array MethodInfo := #[]) (fl : Nat := 33) (sup : Nat := 0) (ifs : Array Nat := #[]) (fds : Array FieldInfo := #[]) : ClassFile where
  minorVersion := 0
  majorVersion := 65
  constantPool := pool
  accessFlags := fl
  thisClass := this
  superClass := sup
  interfaces := ifs
  fields := fds
  methods := ms
  attributes := attrs
def plain (name : String) (sup : Option ClassId) : Class where
  name := name
  kind := .ordinary
  loader := none
  accessFlags := 33
  super := sup
  interfaces := #[]
  cf := none
  fields := #[]
  methods := #[]
  instanceTypes := #[]
  staticTypes := #[]
  resolved := #[]
  callSites := []
  init := .initialized
  statics := none
  mirror := none

def pool0 : Array CpInfo := pool [(5, u "<init>"), (0, u "()V"), (1, .class_ 10), (1, u "java/lang/Object"), (85, u "clone"), (0, u "()Ljava/lang/Object;")] 26

def k0c0 : Code := { maxStack := 0, maxLocals := 1, code := object_method_1_code, exceptionTable := #[], attributes := #[] }
def k0m0 : Method := { name := "<init>", desc := "()V", sig := { parameters := [], returnType := none }, accessFlags := 1, code := some k0c0 }
def k0m1 : Method := { name := "clone", desc := "()Ljava/lang/Object;", sig := { parameters := [], returnType := some (.object "java/lang/Object") }, accessFlags := 260, code := none }
/-- java/lang/Object -/
def k0 : Class := { plain "java/lang/Object" none with
  accessFlags := 33
  interfaces := #[]
  cf := some (fileOf pool0 8 #[] #[{ accessFlags := 1, nameIndex := 5, descriptorIndex := 6, attributes := #[] }, { accessFlags := 260, nameIndex := 96, descriptorIndex := 97, attributes := #[] }] 33 0 #[] #[])
  fields := #[]
  methods := #[k0m0, k0m1]
  instanceTypes := #[]
  staticTypes := #[]
  resolved := Array.replicate 124 none
  statics := none }

def pool1 : Array CpInfo := pool [(2, .class_ 4), (1, u "java/lang/Object"), (0, u "<init>"), (0, u "()V"), (0, .methodref 8 9), (0, .class_ 10), (0, .nameAndType 11 12), (0, u "com/example/tugas/tugas/cli/HttpGetPinLaw"), (0, u "make"), (0, u "(ICC)Ljava/lang/String;"), (0, .methodref 14 15), (0, .class_ 16), (0, .nameAndType 17 18), (0, u "com/example/tugas/tugas/cli/Http"), (0, u "get"), (0, u "(Ljava/lang/String;Ljava/lang/String;)[B"), (0, .methodref 8 20), (0, .nameAndType 21 22), (0, u "at"), (0, u "([BII)Z"), (0, .methodref 8 24), (0, .nameAndType 25 26), (0, u "enc"), (0, u "(C)I"), (0, .class_ 28), (0, u "java/lang/String"), (0, .methodref 27 30), (0, .nameAndType 5 31), (0, u "([C)V"), (0, .methodref 27 33), (0, .nameAndType 34 35), (0, u "valueOf"), (0, u "(C)Ljava/lang/String;"), (2, u "law"), (0, u "(II)Z")] 5

def k1m0 : Method := { name := "<init>", desc := "()V", sig := { parameters := [], returnType := none }, accessFlags := 1, code := none }
def k1c1 : Code := { maxStack := 3, maxLocals := 15, code := code, exceptionTable := #[], attributes := #[] }
def k1m1 : Method := { name := "law", desc := "(II)Z", sig := { parameters := [.int, .int], returnType := some .boolean }, accessFlags := 9, code := some k1c1 }
def k1c2 : Code := { maxStack := 6, maxLocals := 3, code := method_3_code, exceptionTable := #[], attributes := #[] }
def k1m2 : Method := { name := "make", desc := "(ICC)Ljava/lang/String;", sig := { parameters := [.int, .char, .char], returnType := some (.object "java/lang/String") }, accessFlags := 10, code := some k1c2 }
def k1c3 : Code := { maxStack := 2, maxLocals := 1, code := method_4_code, exceptionTable := #[], attributes := #[] }
def k1m3 : Method := { name := "enc", desc := "(C)I", sig := { parameters := [.char], returnType := some .int }, accessFlags := 10, code := some k1c3 }
def k1c4 : Code := { maxStack := 2, maxLocals := 3, code := method_5_code, exceptionTable := #[], attributes := #[] }
def k1m4 : Method := { name := "at", desc := "([BII)Z", sig := { parameters := [(.array .byte), .int, .int], returnType := some .boolean }, accessFlags := 10, code := some k1c4 }
/-- com/example/tugas/tugas/cli/HttpGetPinLaw -/
def k1 : Class := { plain "com/example/tugas/tugas/cli/HttpGetPinLaw" (some 0) with
  accessFlags := 49
  interfaces := #[]
  cf := some (fileOf pool1 8 #[] #[{ accessFlags := 1, nameIndex := 5, descriptorIndex := 6, attributes := #[] }, { accessFlags := 9, nameIndex := 38, descriptorIndex := 39, attributes := #[] }, { accessFlags := 10, nameIndex := 11, descriptorIndex := 12, attributes := #[] }, { accessFlags := 10, nameIndex := 25, descriptorIndex := 26, attributes := #[] }, { accessFlags := 10, nameIndex := 21, descriptorIndex := 22, attributes := #[] }] 49 2 #[] #[])
  fields := #[]
  methods := #[k1m0, k1m1, k1m2, k1m3, k1m4]
  instanceTypes := #[]
  staticTypes := #[]
  resolved := Array.replicate 45 none
  statics := none }

def pool2 : Array CpInfo := pool [(1, .class_ 2), (0, u "java/io/Serializable"), (0, .class_ 4), (0, u "java/lang/Object")] 2

/-- java/io/Serializable -/
def k2 : Class := { plain "java/io/Serializable" (some 0) with
  accessFlags := 1537
  interfaces := #[]
  cf := some (fileOf pool2 1 #[] #[] 1537 3 #[] #[])
  fields := #[]
  methods := #[]
  instanceTypes := #[]
  staticTypes := #[]
  resolved := Array.replicate 7 none
  statics := none }

def pool3 : Array CpInfo := pool [(1, .class_ 2), (0, u "java/lang/Comparable"), (0, .class_ 4), (0, u "java/lang/Object")] 7

/-- java/lang/Comparable -/
def k3 : Class := { plain "java/lang/Comparable" (some 0) with
  accessFlags := 1537
  interfaces := #[]
  cf := some (fileOf pool3 1 #[] #[] 1537 3 #[] #[])
  fields := #[]
  methods := #[]
  instanceTypes := #[]
  staticTypes := #[]
  resolved := Array.replicate 12 none
  statics := none }

def pool4 : Array CpInfo := pool [(2, .class_ 4), (1, u "java/lang/CharSequence"), (42, .class_ 48), (0, u "java/lang/CharSequence$1CodePointIterator"), (10, .class_ 60), (0, u "java/lang/CharSequence$1CharIterator"), (5, .class_ 67), (0, u "java/lang/Object")] 63

/-- java/lang/CharSequence -/
def k4 : Class := { plain "java/lang/CharSequence" (some 0) with
  accessFlags := 1537
  interfaces := #[]
  cf := some (fileOf pool4 2 #[.nestMembers #[47, 59]] #[] 1537 66 #[] #[])
  fields := #[]
  methods := #[]
  instanceTypes := #[]
  staticTypes := #[]
  resolved := Array.replicate 131 none
  statics := none }

def pool5 : Array CpInfo := pool [(1, .class_ 2), (0, u "java/lang/constant/Constable"), (0, .class_ 4), (0, u "java/lang/Object")] 6

/-- java/lang/constant/Constable -/
def k5 : Class := { plain "java/lang/constant/Constable" (some 0) with
  accessFlags := 1537
  interfaces := #[]
  cf := some (fileOf pool5 1 #[] #[] 1537 3 #[] #[])
  fields := #[]
  methods := #[]
  instanceTypes := #[]
  staticTypes := #[]
  resolved := Array.replicate 11 none
  statics := none }

def pool6 : Array CpInfo := pool [(1, .class_ 2), (0, u "java/lang/constant/ConstantDesc"), (0, .class_ 4), (0, u "java/lang/Object")] 32

/-- java/lang/constant/ConstantDesc -/
def k6 : Class := { plain "java/lang/constant/ConstantDesc" (some 0) with
  accessFlags := 1537
  interfaces := #[]
  cf := some (fileOf pool6 1 #[] #[] 1537 3 #[] #[])
  fields := #[]
  methods := #[]
  instanceTypes := #[]
  staticTypes := #[]
  resolved := Array.replicate 37 none
  statics := none }

def pool7 : Array CpInfo := pool [(1, .methodref 2 3), (0, .class_ 4), (0, .nameAndType 5 6), (0, u "java/lang/Object"), (0, u "<init>"), (0, u "()V"), (0, .string 8), (0, u ""), (0, .fieldref 10 11), (0, .class_ 12), (0, .nameAndType 13 14), (0, u "java/lang/String"), (0, u "value"), (0, u "[B"), (0, .fieldref 10 16), (0, .nameAndType 17 18), (0, u "coder"), (0, u "B"), (2, u "hash"), (0, u "I"), (2, u "hashIsZero"), (0, u "Z"), (0, .methodref 10 28), (0, .nameAndType 5 29), (0, u "([CIILjava/lang/Void;)V"), (8, .fieldref 10 39), (0, .nameAndType 40 26), (0, u "COMPACT_STRINGS"), (1, .class_ 44), (1, u "java/lang/StringUTF16"), (0, u "compress"), (1, .methodref 42 48), (0, .nameAndType 49 50), (0, u "coderFromArrayLen"), (0, u "([BI)B"), (2, u "toBytes"), (0, .methodref 55 56), (0, .class_ 57), (0, .nameAndType 58 59), (0, u "java/util/Arrays"), (0, u "copyOfRange"), (0, u "([BII)[B"), (26, .fieldref 87 88), (0, .class_ 89), (0, .nameAndType 90 91), (0, u "sun/nio/cs/UTF_8"), (0, u "INSTANCE"), (0, u "Lsun/nio/cs/UTF_8;"), (0, .methodref 93 94), (0, .class_ 95), (0, .nameAndType 96 97), (0, u "java/lang/StringCoding"), (0, u "countPositives"), (0, u "([BII)I"), (9, .class_ 109), (1, u "java/lang/StringLatin1"), (6, .fieldref 117 118), (0, .class_ 119), (0, .nameAndType 90 120), (0, u "sun/nio/cs/ISO_8859_1"), (0, u "Lsun/nio/cs/ISO_8859_1;"), (2, .fieldref 124 125), (0, .class_ 126), (0, .nameAndType 90 127), (0, u "sun/nio/cs/US_ASCII"), (0, u "Lsun/nio/cs/US_ASCII;"), (14, u "()Z"), (34, .methodref 42 178), (0, .nameAndType 45 179), (0, u "([CII)[B"), (13, .class_ 195), (1, u "java/lang/System"), (13, .methodref 10 210), (0, .nameAndType 5 211), (0, u "([BB)V"), (0, .methodref 193 213), (0, .nameAndType 214 215), (0, u "arraycopy"), (0, u "(Ljava/lang/Object;ILjava/lang/Object;II)V"), (43, u "(B[B)[B"), (0, .methodref 10 261), (0, .nameAndType 262 259), (0, u "encodeASCII"), (16, .methodref 280 281), (0, .class_ 14), (0, .nameAndType 282 283), (0, u "clone"), (0, u "()Ljava/lang/Object;"), (33, u "encode"), (16, u "()I"), (0, .methodref 10 336), (0, .nameAndType 17 337), (0, u "()B"), (2, u "()[B"), (15, .methodref 10 357), (0, .nameAndType 358 359), (0, u "replaceNegatives"), (0, u "([BI)V"), (9, u "(C)Z"), (119, .methodref 10 490), (0, .nameAndType 5 491), (0, u "(Ljava/lang/AbstractStringBuilder;Ljava/lang/Void;)V"), (1, .nameAndType 494 142), (0, u "isLatin1"), (11, .nameAndType 507 334), (0, u "length"), (24, u "getBytes"), (2, .methodref 10 536), (0, .nameAndType 317 537), (0, u "(Ljava/nio/charset/Charset;B[B)[B"), (11, .methodref 550 506), (0, .class_ 551), (0, u "java/lang/AbstractStringBuilder"), (0, .methodref 550 553), (0, .nameAndType 554 340), (0, u "getValue"), (20, .class_ 576), (0, u "java/lang/CharSequence"), (22, u "CASE_INSENSITIVE_ORDER"), (0, u "Ljava/util/Comparator;"), (181, u "valueOf"), (0, u "(C)Ljava/lang/String;"), (37, u "([BIB)V"), (188, u "([C)V"), (4, .methodref 107 1016), (0, .nameAndType 1017 369), (0, u "canEncode"), (0, .methodref 107 1019), (0, .nameAndType 53 1020), (0, u "(C)[B"), (26, .methodref 550 493), (53, u "serialPersistentFields"), (0, u "[Ljava/io/ObjectStreamField;"), (0, .class_ 1104), (0, u "java/lang/String$CaseInsensitiveComparator"), (1, .class_ 1107), (0, u "java/io/Serializable"), (0, .class_ 1109), (0, u "java/lang/Comparable"), (0, .class_ 1111), (0, u "java/lang/constant/Constable"), (0, .class_ 1113), (0, u "java/lang/constant/ConstantDesc"), (2, u "serialVersionUID"), (0, u "J"), (3, u "REPL"), (0, u "C"), (2, u "LATIN1"), (1, u "UTF16"), (105, u "(Ljava/lang/StringBuilder;)V"), (11, u "(Ljava/nio/charset/Charset;)[B")] 205

def k7m0 : Method := { name := "<init>", desc := "()V", sig := { parameters := [], returnType := none }, accessFlags := 1, code := none }
def k7c1 : Code := { maxStack := 5, maxLocals := 2, code := jdk_42_method_3_code, exceptionTable := #[], attributes := #[] }
def k7m1 : Method := { name := "<init>", desc := "([C)V", sig := { parameters := [(.array .char)], returnType := none }, accessFlags := 1, code := some k7c1 }
def k7c2 : Code := { maxStack := 4, maxLocals := 3, code := jdk_42_method_18_code, exceptionTable := #[], attributes := #[] }
def k7m2 : Method := { name := "encode", desc := "(Ljava/nio/charset/Charset;B[B)[B", sig := { parameters := [(.object "java/nio/charset/Charset"), .byte, (.array .byte)], returnType := some (.array .byte) }, accessFlags := 10, code := some k7c2 }
def k7c3 : Code := { maxStack := 3, maxLocals := 7, code := jdk_42_method_24_code, exceptionTable := #[], attributes := #[] }
def k7m3 : Method := { name := "encodeASCII", desc := "(B[B)[B", sig := { parameters := [.byte, (.array .byte)], returnType := some (.array .byte) }, accessFlags := 10, code := some k7c3 }
def k7c4 : Code := { maxStack := 3, maxLocals := 3, code := jdk_42_method_25_code, exceptionTable := #[], attributes := #[] }
def k7m4 : Method := { name := "replaceNegatives", desc := "([BI)V", sig := { parameters := [(.array .byte), .int], returnType := none }, accessFlags := 10, code := some k7c4 }
def k7c5 : Code := { maxStack := 3, maxLocals := 2, code := jdk_42_method_53_code, exceptionTable := #[], attributes := #[] }
def k7m5 : Method := { name := "<init>", desc := "(Ljava/lang/StringBuilder;)V", sig := { parameters := [(.object "java/lang/StringBuilder")], returnType := none }, accessFlags := 1, code := some k7c5 }
def k7c6 : Code := { maxStack := 2, maxLocals := 1, code := jdk_42_method_54_code, exceptionTable := #[], attributes := #[] }
def k7m6 : Method := { name := "length", desc := "()I", sig := { parameters := [], returnType := some .int }, accessFlags := 1, code := some k7c6 }
def k7c7 : Code := { maxStack := 3, maxLocals := 2, code := jdk_42_method_64_code, exceptionTable := #[], attributes := #[] }
def k7m7 : Method := { name := "getBytes", desc := "(Ljava/nio/charset/Charset;)[B", sig := { parameters := [(.object "java/nio/charset/Charset")], returnType := some (.array .byte) }, accessFlags := 1, code := some k7c7 }
def k7c8 : Code := { maxStack := 4, maxLocals := 1, code := jdk_42_method_139_code, exceptionTable := #[], attributes := #[] }
def k7m8 : Method := { name := "valueOf", desc := "(C)Ljava/lang/String;", sig := { parameters := [.char], returnType := some (.object "java/lang/String") }, accessFlags := 9, code := some k7c8 }
def k7c9 : Code := { maxStack := 5, maxLocals := 4, code := jdk_42_method_147_code, exceptionTable := #[], attributes := #[] }
def k7m9 : Method := { name := "getBytes", desc := "([BIB)V", sig := { parameters := [(.array .byte), .int, .byte], returnType := none }, accessFlags := 0, code := some k7c9 }
def k7c10 : Code := { maxStack := 4, maxLocals := 6, code := jdk_42_method_149_code, exceptionTable := #[], attributes := #[] }
def k7m10 : Method := { name := "<init>", desc := "([CIILjava/lang/Void;)V", sig := { parameters := [(.array .char), .int, .int, (.object "java/lang/Void")], returnType := none }, accessFlags := 2, code := some k7c10 }
def k7c11 : Code := { maxStack := 5, maxLocals := 5, code := jdk_42_method_150_code, exceptionTable := #[], attributes := #[] }
def k7m11 : Method := { name := "<init>", desc := "(Ljava/lang/AbstractStringBuilder;Ljava/lang/Void;)V", sig := { parameters := [(.object "java/lang/AbstractStringBuilder"), (.object "java/lang/Void")], returnType := none }, accessFlags := 0, code := some k7c11 }
def k7c12 : Code := { maxStack := 2, maxLocals := 3, code := jdk_42_method_151_code, exceptionTable := #[], attributes := #[] }
def k7m12 : Method := { name := "<init>", desc := "([BB)V", sig := { parameters := [(.array .byte), .byte], returnType := none }, accessFlags := 0, code := some k7c12 }
def k7c13 : Code := { maxStack := 1, maxLocals := 1, code := jdk_42_method_152_code, exceptionTable := #[], attributes := #[] }
def k7m13 : Method := { name := "coder", desc := "()B", sig := { parameters := [], returnType := some .byte }, accessFlags := 0, code := some k7c13 }
/-- java/lang/String -/
def k7 : Class := { plain "java/lang/String" (some 0) with
  accessFlags := 49
  interfaces := #[2, 3, 4, 5, 6]
  cf := some (fileOf pool7 10 #[.nestMembers #[1103]] #[{ accessFlags := 1, nameIndex := 5, descriptorIndex := 6, attributes := #[] }, { accessFlags := 1, nameIndex := 5, descriptorIndex := 1010, attributes := #[] }, { accessFlags := 10, nameIndex := 317, descriptorIndex := 537, attributes := #[] }, { accessFlags := 10, nameIndex := 262, descriptorIndex := 259, attributes := #[] }, { accessFlags := 10, nameIndex := 358, descriptorIndex := 359, attributes := #[] }, { accessFlags := 1, nameIndex := 5, descriptorIndex := 1233, attributes := #[] }, { accessFlags := 1, nameIndex := 507, descriptorIndex := 334, attributes := #[] }, { accessFlags := 1, nameIndex := 532, descriptorIndex := 1245, attributes := #[] }, { accessFlags := 9, nameIndex := 782, descriptorIndex := 783, attributes := #[] }, { accessFlags := 0, nameIndex := 532, descriptorIndex := 821, attributes := #[] }, { accessFlags := 2, nameIndex := 5, descriptorIndex := 29, attributes := #[] }, { accessFlags := 0, nameIndex := 5, descriptorIndex := 491, attributes := #[] }, { accessFlags := 0, nameIndex := 5, descriptorIndex := 211, attributes := #[] }, { accessFlags := 0, nameIndex := 17, descriptorIndex := 337, attributes := #[] }] 49 2 #[1106, 1108, 575, 1110, 1112] #[{ accessFlags := 18, nameIndex := 13, descriptorIndex := 14, attributes := #[] }, { accessFlags := 18, nameIndex := 17, descriptorIndex := 18, attributes := #[] }, { accessFlags := 2, nameIndex := 21, descriptorIndex := 22, attributes := #[] }, { accessFlags := 2, nameIndex := 25, descriptorIndex := 26, attributes := #[] }, { accessFlags := 26, nameIndex := 1116, descriptorIndex := 1117, attributes := #[] }, { accessFlags := 24, nameIndex := 40, descriptorIndex := 26, attributes := #[] }, { accessFlags := 26, nameIndex := 1101, descriptorIndex := 1102, attributes := #[] }, { accessFlags := 26, nameIndex := 1121, descriptorIndex := 1122, attributes := #[] }, { accessFlags := 25, nameIndex := 599, descriptorIndex := 600, attributes := #[] }, { accessFlags := 24, nameIndex := 1125, descriptorIndex := 18, attributes := #[] }, { accessFlags := 24, nameIndex := 1127, descriptorIndex := 18, attributes := #[] }])
  fields := #[{ name := "value", type := (.array .byte), accessFlags := 18, slot := 0, constantValue := 0 }, { name := "coder", type := .byte, accessFlags := 18, slot := 1, constantValue := 0 }, { name := "hash", type := .int, accessFlags := 2, slot := 2, constantValue := 0 }, { name := "hashIsZero", type := .boolean, accessFlags := 2, slot := 3, constantValue := 0 }, { name := "serialVersionUID", type := .long, accessFlags := 26, slot := 0, constantValue := 0 }, { name := "COMPACT_STRINGS", type := .boolean, accessFlags := 24, slot := 1, constantValue := 0 }, { name := "serialPersistentFields", type := (.array (.object "java/io/ObjectStreamField")), accessFlags := 26, slot := 2, constantValue := 0 }, { name := "REPL", type := .char, accessFlags := 26, slot := 3, constantValue := 0 }, { name := "CASE_INSENSITIVE_ORDER", type := (.object "java/util/Comparator"), accessFlags := 25, slot := 4, constantValue := 0 }, { name := "LATIN1", type := .byte, accessFlags := 24, slot := 5, constantValue := 0 }, { name := "UTF16", type := .byte, accessFlags := 24, slot := 6, constantValue := 0 }]
  methods := #[k7m0, k7m1, k7m2, k7m3, k7m4, k7m5, k7m6, k7m7, k7m8, k7m9, k7m10, k7m11, k7m12, k7m13]
  instanceTypes := #[(.array .byte), .byte, .int, .boolean]
  staticTypes := #[.long, .boolean, (.array (.object "java/io/ObjectStreamField")), .char, (.object "java/util/Comparator"), .byte, .byte]
  resolved := Array.replicate 1451 none
  statics := some 0 }

def pool8 : Array CpInfo := pool [(2, .class_ 4), (0, .nameAndType 5 6), (0, u "java/lang/Object"), (0, u "<init>"), (0, u "()V"), (0, .class_ 8), (0, u "java/lang/StringBuilder"), (0, .methodref 7 3), (0, .string 11), (0, u "GET"), (0, .methodref 13 14), (0, .class_ 15), (0, .nameAndType 16 17), (0, u "com/example/tugas/tugas/cli/Http"), (0, u "headStart"), (0, u "(Ljava/lang/String;Ljava/lang/String;Ljava/lang/String;)Ljava/lang/String;"), (0, .methodref 7 19), (0, .nameAndType 20 21), (0, u "append"), (0, u "(Ljava/lang/String;)Ljava/lang/StringBuilder;"), (0, .string 23), (0, u "\r\n"), (0, .methodref 7 25), (0, .nameAndType 26 27), (0, u "toString"), (0, u "()Ljava/lang/String;"), (0, .fieldref 29 30), (0, .class_ 31), (0, .nameAndType 32 33), (0, u "java/nio/charset/StandardCharsets"), (0, u "US_ASCII"), (0, u "Ljava/nio/charset/Charset;"), (0, .methodref 35 36), (0, .class_ 37), (0, .nameAndType 38 39), (0, u "java/lang/String"), (0, u "getBytes"), (0, u "(Ljava/nio/charset/Charset;)[B"), (21, .string 62), (0, u " "), (0, .string 64), (0, u " HTTP/1.1\r\nHost: "), (16, .class_ 82), (0, u "com/example/tugas/tugas/cli/Http$Answer"), (19, .class_ 103), (0, u "com/example/tugas/tugas/cli/Http$StatusLine"), (143, u "NO_CONTENT"), (0, u "I"), (2, u "HTTP_1"), (0, u "Ljava/lang/String;"), (2, u "get"), (0, u "(Ljava/lang/String;Ljava/lang/String;)[B")] 14

def k8m0 : Method := { name := "<init>", desc := "()V", sig := { parameters := [], returnType := none }, accessFlags := 2, code := none }
def k8c1 : Code := { maxStack := 4, maxLocals := 2, code := prog_21_method_2_code, exceptionTable := #[], attributes := #[] }
def k8m1 : Method := { name := "get", desc := "(Ljava/lang/String;Ljava/lang/String;)[B", sig := { parameters := [(.object "java/lang/String"), (.object "java/lang/String")], returnType := some (.array .byte) }, accessFlags := 9, code := some k8c1 }
def k8c2 : Code := { maxStack := 2, maxLocals := 3, code := prog_21_method_4_code, exceptionTable := #[], attributes := #[] }
def k8m2 : Method := { name := "headStart", desc := "(Ljava/lang/String;Ljava/lang/String;Ljava/lang/String;)Ljava/lang/String;", sig := { parameters := [(.object "java/lang/String"), (.object "java/lang/String"), (.object "java/lang/String")], returnType := some (.object "java/lang/String") }, accessFlags := 10, code := some k8c2 }
/-- com/example/tugas/tugas/cli/Http -/
def k8 : Class := { plain "com/example/tugas/tugas/cli/Http" (some 0) with
  accessFlags := 49
  interfaces := #[]
  cf := some (fileOf pool8 13 #[.nestMembers #[102, 81]] #[{ accessFlags := 2, nameIndex := 5, descriptorIndex := 6, attributes := #[] }, { accessFlags := 9, nameIndex := 255, descriptorIndex := 256, attributes := #[] }, { accessFlags := 10, nameIndex := 16, descriptorIndex := 17, attributes := #[] }] 49 2 #[] #[{ accessFlags := 26, nameIndex := 247, descriptorIndex := 248, attributes := #[] }, { accessFlags := 26, nameIndex := 251, descriptorIndex := 252, attributes := #[] }])
  fields := #[{ name := "NO_CONTENT", type := .int, accessFlags := 26, slot := 0, constantValue := 0 }, { name := "HTTP_1", type := (.object "java/lang/String"), accessFlags := 26, slot := 1, constantValue := 0 }]
  methods := #[k8m0, k8m1, k8m2]
  instanceTypes := #[]
  staticTypes := #[.int, (.object "java/lang/String")]
  resolved := Array.replicate 271 none
  statics := none }

def pool9 : Array CpInfo := pool [(1, .class_ 2), (0, u "java/lang/Appendable"), (0, .class_ 4), (0, u "java/lang/Object")] 9

/-- java/lang/Appendable -/
def k9 : Class := { plain "java/lang/Appendable" (some 0) with
  accessFlags := 1537
  interfaces := #[]
  cf := some (fileOf pool9 1 #[] #[] 1537 3 #[] #[])
  fields := #[]
  methods := #[]
  instanceTypes := #[]
  staticTypes := #[]
  resolved := Array.replicate 14 none
  statics := none }

def pool10 : Array CpInfo := pool [(1, .class_ 2), (0, u "java/lang/String"), (0, .methodref 4 5), (0, .class_ 6), (0, .nameAndType 7 8), (0, u "java/lang/Object"), (0, u "<init>"), (0, u "()V"), (1, .class_ 12), (1, u "java/lang/AbstractStringBuilder"), (0, u "EMPTYVALUE"), (0, u "[B"), (0, .fieldref 10 16), (0, .nameAndType 17 14), (0, u "value"), (0, .fieldref 1 19), (0, .nameAndType 20 21), (0, u "COMPACT_STRINGS"), (0, u "Z"), (0, .fieldref 10 23), (0, .nameAndType 24 25), (0, u "coder"), (0, u "B"), (6, .methodref 1 33), (0, .nameAndType 34 35), (0, u "length"), (0, u "()I"), (3, .integer 2147483647), (0, .methodref 1 41), (0, .nameAndType 24 42), (0, u "()B"), (2, u "append"), (0, u "(Ljava/lang/String;)Ljava/lang/AbstractStringBuilder;"), (1, .class_ 49), (0, u "java/lang/CharSequence"), (19, u "(Ljava/lang/String;)V"), (5, u "maybeLatin1"), (3, .fieldref 10 80), (0, .nameAndType 81 82), (0, u "count"), (0, u "I"), (2, u "isLatin1"), (0, u "()Z"), (13, .methodref 10 101), (0, .nameAndType 102 103), (0, u "ensureCapacityInternal"), (0, u "(I)V"), (0, .methodref 10 105), (0, .nameAndType 106 107), (0, u "newCapacity"), (0, u "(I)I"), (0, .methodref 109 110), (0, .class_ 111), (0, .nameAndType 112 113), (0, u "java/util/Arrays"), (0, u "copyOf"), (0, u "([BI)[B"), (0, .methodref 115 116), (0, .class_ 117), (0, .nameAndType 118 119), (0, u "jdk/internal/util/ArraysSupport"), (0, u "newLength"), (0, u "(III)I"), (88, .methodref 10 209), (0, .nameAndType 210 211), (0, u "putStringAt"), (0, u "(ILjava/lang/String;)V"), (5, u "inflateIfNeededFor"), (2, .nameAndType 221 222), (0, u "getBytes"), (0, u "([BIB)V"), (174, .methodref 10 398), (0, .nameAndType 217 69), (0, .methodref 1 220), (3, u "()[B"), (40, .class_ 445), (0, u "java/lang/Appendable"), (106, u "getValue")] 56

def k10m0 : Method := { name := "<init>", desc := "()V", sig := { parameters := [], returnType := none }, accessFlags := 0, code := none }
def k10c1 : Code := { maxStack := 2, maxLocals := 2, code := jdk_68_method_2_code, exceptionTable := #[], attributes := #[] }
def k10m1 : Method := { name := "<init>", desc := "(I)V", sig := { parameters := [.int], returnType := none }, accessFlags := 0, code := some k10c1 }
def k10c2 : Code := { maxStack := 1, maxLocals := 1, code := jdk_68_method_6_code, exceptionTable := #[], attributes := #[] }
def k10m2 : Method := { name := "length", desc := "()I", sig := { parameters := [], returnType := some .int }, accessFlags := 1, code := some k10c2 }
def k10c3 : Code := { maxStack := 4, maxLocals := 3, code := jdk_68_method_9_code, exceptionTable := #[], attributes := #[] }
def k10m3 : Method := { name := "ensureCapacityInternal", desc := "(I)V", sig := { parameters := [.int], returnType := none }, accessFlags := 2, code := some k10c3 }
def k10c4 : Code := { maxStack := 5, maxLocals := 6, code := jdk_68_method_10_code, exceptionTable := #[], attributes := #[] }
def k10m4 : Method := { name := "newCapacity", desc := "(I)I", sig := { parameters := [.int], returnType := some .int }, accessFlags := 2, code := some k10c4 }
def k10c5 : Code := { maxStack := 3, maxLocals := 3, code := jdk_68_method_22_code, exceptionTable := #[], attributes := #[] }
def k10m5 : Method := { name := "append", desc := "(Ljava/lang/String;)Ljava/lang/AbstractStringBuilder;", sig := { parameters := [(.object "java/lang/String")], returnType := some (.object "java/lang/AbstractStringBuilder") }, accessFlags := 1, code := some k10c5 }
def k10c6 : Code := { maxStack := 1, maxLocals := 1, code := jdk_68_method_64_code, exceptionTable := #[], attributes := #[] }
def k10m6 : Method := { name := "getValue", desc := "()[B", sig := { parameters := [], returnType := some (.array .byte) }, accessFlags := 16, code := some k10c6 }
def k10c7 : Code := { maxStack := 1, maxLocals := 1, code := jdk_68_method_68_code, exceptionTable := #[], attributes := #[] }
def k10m7 : Method := { name := "isLatin1", desc := "()Z", sig := { parameters := [], returnType := some .boolean }, accessFlags := 16, code := some k10c7 }
def k10c8 : Code := { maxStack := 2, maxLocals := 2, code := jdk_68_method_71_code, exceptionTable := #[], attributes := #[] }
def k10m8 : Method := { name := "inflateIfNeededFor", desc := "(Ljava/lang/String;)V", sig := { parameters := [(.object "java/lang/String")], returnType := none }, accessFlags := 2, code := some k10c8 }
def k10c9 : Code := { maxStack := 4, maxLocals := 3, code := jdk_68_method_73_code, exceptionTable := #[], attributes := #[] }
def k10m9 : Method := { name := "putStringAt", desc := "(ILjava/lang/String;)V", sig := { parameters := [.int, (.object "java/lang/String")], returnType := none }, accessFlags := 2, code := some k10c9 }
/-- java/lang/AbstractStringBuilder -/
def k10 : Class := { plain "java/lang/AbstractStringBuilder" (some 0) with
  accessFlags := 1056
  interfaces := #[9, 4]
  cf := some (fileOf pool10 10 #[] #[{ accessFlags := 0, nameIndex := 7, descriptorIndex := 8, attributes := #[] }, { accessFlags := 0, nameIndex := 7, descriptorIndex := 103, attributes := #[] }, { accessFlags := 1, nameIndex := 34, descriptorIndex := 35, attributes := #[] }, { accessFlags := 2, nameIndex := 102, descriptorIndex := 103, attributes := #[] }, { accessFlags := 2, nameIndex := 106, descriptorIndex := 107, attributes := #[] }, { accessFlags := 1, nameIndex := 45, descriptorIndex := 46, attributes := #[] }, { accessFlags := 16, nameIndex := 552, descriptorIndex := 403, attributes := #[] }, { accessFlags := 16, nameIndex := 85, descriptorIndex := 86, attributes := #[] }, { accessFlags := 2, nameIndex := 217, descriptorIndex := 69, attributes := #[] }, { accessFlags := 2, nameIndex := 210, descriptorIndex := 211, attributes := #[] }] 1056 4 #[444, 48] #[{ accessFlags := 0, nameIndex := 17, descriptorIndex := 14, attributes := #[] }, { accessFlags := 0, nameIndex := 24, descriptorIndex := 25, attributes := #[] }, { accessFlags := 0, nameIndex := 75, descriptorIndex := 21, attributes := #[] }, { accessFlags := 0, nameIndex := 81, descriptorIndex := 82, attributes := #[] }, { accessFlags := 26, nameIndex := 13, descriptorIndex := 14, attributes := #[] }])
  fields := #[{ name := "value", type := (.array .byte), accessFlags := 0, slot := 0, constantValue := 0 }, { name := "coder", type := .byte, accessFlags := 0, slot := 1, constantValue := 0 }, { name := "maybeLatin1", type := .boolean, accessFlags := 0, slot := 2, constantValue := 0 }, { name := "count", type := .int, accessFlags := 0, slot := 3, constantValue := 0 }, { name := "EMPTYVALUE", type := (.array .byte), accessFlags := 26, slot := 0, constantValue := 0 }]
  methods := #[k10m0, k10m1, k10m2, k10m3, k10m4, k10m5, k10m6, k10m7, k10m8, k10m9]
  instanceTypes := #[(.array .byte), .byte, .boolean, .int]
  staticTypes := #[(.array .byte)]
  resolved := Array.replicate 609 none
  statics := none }

def pool11 : Array CpInfo := pool [(1, .methodref 2 3), (0, .class_ 4), (0, .nameAndType 5 6), (0, u "java/lang/AbstractStringBuilder"), (0, u "<init>"), (0, u "(I)V"), (11, .class_ 20), (1, u "java/lang/String"), (3, .class_ 26), (1, u "java/lang/StringBuilder"), (0, u "append"), (0, u "(Ljava/lang/String;)Ljava/lang/StringBuilder;"), (0, .methodref 2 30), (0, .nameAndType 27 31), (0, u "(Ljava/lang/String;)Ljava/lang/AbstractStringBuilder;"), (105, .methodref 18 138), (0, .nameAndType 5 139), (0, u "(Ljava/lang/StringBuilder;)V"), (5, u "()V"), (10, u "()I"), (186, .methodref 2 344), (0, .nameAndType 345 156), (0, u "length"), (3, .class_ 350), (0, u "java/lang/Appendable"), (0, .class_ 352), (0, u "java/io/Serializable"), (0, .class_ 354), (0, u "java/lang/Comparable"), (0, .class_ 356), (0, u "java/lang/CharSequence"), (0, u "serialVersionUID"), (0, u "J"), (40, u "toString"), (0, u "()Ljava/lang/String;")] 21

def k11c0 : Code := { maxStack := 2, maxLocals := 1, code := jdk_67_method_1_code, exceptionTable := #[], attributes := #[] }
def k11m0 : Method := { name := "<init>", desc := "()V", sig := { parameters := [], returnType := none }, accessFlags := 1, code := some k11c0 }
def k11c1 : Code := { maxStack := 2, maxLocals := 2, code := jdk_67_method_7_code, exceptionTable := #[], attributes := #[] }
def k11m1 : Method := { name := "append", desc := "(Ljava/lang/String;)Ljava/lang/StringBuilder;", sig := { parameters := [(.object "java/lang/String")], returnType := some (.object "java/lang/StringBuilder") }, accessFlags := 1, code := some k11c1 }
def k11c2 : Code := { maxStack := 3, maxLocals := 1, code := jdk_67_method_42_code, exceptionTable := #[], attributes := #[] }
def k11m2 : Method := { name := "toString", desc := "()Ljava/lang/String;", sig := { parameters := [], returnType := some (.object "java/lang/String") }, accessFlags := 1, code := some k11c2 }
def k11c3 : Code := { maxStack := 1, maxLocals := 1, code := jdk_67_method_93_code, exceptionTable := #[], attributes := #[] }
def k11m3 : Method := { name := "length", desc := "()I", sig := { parameters := [], returnType := some .int }, accessFlags := 4161, code := some k11c3 }
/-- java/lang/StringBuilder -/
def k11 : Class := { plain "java/lang/StringBuilder" (some 10) with
  accessFlags := 49
  interfaces := #[9, 2, 3, 4]
  cf := some (fileOf pool11 24 #[] #[{ accessFlags := 1, nameIndex := 5, descriptorIndex := 145, attributes := #[] }, { accessFlags := 1, nameIndex := 27, descriptorIndex := 28, attributes := #[] }, { accessFlags := 1, nameIndex := 399, descriptorIndex := 400, attributes := #[] }, { accessFlags := 4161, nameIndex := 345, descriptorIndex := 156, attributes := #[] }] 49 2 #[349, 351, 353, 355] #[{ accessFlags := 24, nameIndex := 357, descriptorIndex := 358, attributes := #[] }])
  fields := #[{ name := "serialVersionUID", type := .long, accessFlags := 24, slot := 0, constantValue := 0 }]
  methods := #[k11m0, k11m1, k11m2, k11m3]
  instanceTypes := #[(.array .byte), .byte, .boolean, .int]
  staticTypes := #[.long]
  resolved := Array.replicate 422 none
  statics := none }

def pool12 : Array CpInfo := pool [(2, .class_ 4), (1, u "java/lang/Object"), (0, u "<init>"), (0, u "()V"), (1, .class_ 10), (1, u "java/lang/System"), (0, u "allowSecurityManager"), (0, u "I"), (16, u "cons"), (0, u "Ljava/io/Console;"), (77, .class_ 110), (1, u "java/lang/System$CallersHolder"), (43, u "initialErrStream"), (0, u "Ljava/io/PrintStream;"), (19, u "security"), (0, u "Ljava/lang/SecurityManager;"), (31, .class_ 209), (0, u "java/lang/System$1"), (7, u "props"), (0, u "Ljava/util/Properties;"), (2, u "lineSeparator"), (0, u "Ljava/lang/String;"), (96, .class_ 321), (1, u "java/lang/System$LoggerFinder"), (5, .class_ 328), (0, u "java/lang/System$Logger"), (67, u "err"), (2, u "out"), (91, u "notSupportedJnuEncoding"), (15, u "in"), (17, u "initialIn"), (0, u "Ljava/io/InputStream;"), (35, u "bootLayer"), (0, u "Ljava/lang/ModuleLayer;"), (99, .class_ 664), (0, u "java/lang/System$2"), (9, u "NEVER"), (2, u "MAYBE"), (49, u "arraycopy"), (0, u "(Ljava/lang/Object;ILjava/lang/Object;II)V"), (72, .class_ 802), (0, u "java/lang/System$Logger$Level")] 31

def k12m0 : Method := { name := "<init>", desc := "()V", sig := { parameters := [], returnType := none }, accessFlags := 2, code := none }
def k12m1 : Method := { name := "arraycopy", desc := "(Ljava/lang/Object;ILjava/lang/Object;II)V", sig := { parameters := [(.object "java/lang/Object"), .int, (.object "java/lang/Object"), .int, .int], returnType := none }, accessFlags := 265, code := none }
/-- java/lang/System -/
def k12 : Class := { plain "java/lang/System" (some 0) with
  accessFlags := 49
  interfaces := #[]
  cf := some (fileOf pool12 8 #[.nestMembers #[319, 327, 801, 108, 663, 208]] #[{ accessFlags := 2, nameIndex := 5, descriptorIndex := 6, attributes := #[] }, { accessFlags := 265, nameIndex := 727, descriptorIndex := 728, attributes := #[] }] 49 2 #[] #[{ accessFlags := 25, nameIndex := 507, descriptorIndex := 526, attributes := #[] }, { accessFlags := 25, nameIndex := 399, descriptorIndex := 155, attributes := #[] }, { accessFlags := 25, nameIndex := 396, descriptorIndex := 155, attributes := #[] }, { accessFlags := 10, nameIndex := 525, descriptorIndex := 526, attributes := #[] }, { accessFlags := 26, nameIndex := 674, descriptorIndex := 12, attributes := #[] }, { accessFlags := 26, nameIndex := 677, descriptorIndex := 12, attributes := #[] }, { accessFlags := 10, nameIndex := 11, descriptorIndex := 12, attributes := #[] }, { accessFlags := 74, nameIndex := 175, descriptorIndex := 176, attributes := #[] }, { accessFlags := 10, nameIndex := 491, descriptorIndex := 222, attributes := #[] }, { accessFlags := 74, nameIndex := 29, descriptorIndex := 30, attributes := #[] }, { accessFlags := 74, nameIndex := 154, descriptorIndex := 155, attributes := #[] }, { accessFlags := 10, nameIndex := 217, descriptorIndex := 218, attributes := #[] }, { accessFlags := 10, nameIndex := 221, descriptorIndex := 222, attributes := #[] }, { accessFlags := 8, nameIndex := 562, descriptorIndex := 563, attributes := #[] }])
  fields := #[{ name := "in", type := (.object "java/io/InputStream"), accessFlags := 25, slot := 0, constantValue := 0 }, { name := "out", type := (.object "java/io/PrintStream"), accessFlags := 25, slot := 1, constantValue := 0 }, { name := "err", type := (.object "java/io/PrintStream"), accessFlags := 25, slot := 2, constantValue := 0 }, { name := "initialIn", type := (.object "java/io/InputStream"), accessFlags := 10, slot := 3, constantValue := 0 }, { name := "NEVER", type := .int, accessFlags := 26, slot := 4, constantValue := 0 }, { name := "MAYBE", type := .int, accessFlags := 26, slot := 5, constantValue := 0 }, { name := "allowSecurityManager", type := .int, accessFlags := 10, slot := 6, constantValue := 0 }, { name := "security", type := (.object "java/lang/SecurityManager"), accessFlags := 74, slot := 7, constantValue := 0 }, { name := "notSupportedJnuEncoding", type := (.object "java/lang/String"), accessFlags := 10, slot := 8, constantValue := 0 }, { name := "cons", type := (.object "java/io/Console"), accessFlags := 74, slot := 9, constantValue := 0 }, { name := "initialErrStream", type := (.object "java/io/PrintStream"), accessFlags := 74, slot := 10, constantValue := 0 }, { name := "props", type := (.object "java/util/Properties"), accessFlags := 10, slot := 11, constantValue := 0 }, { name := "lineSeparator", type := (.object "java/lang/String"), accessFlags := 10, slot := 12, constantValue := 0 }, { name := "bootLayer", type := (.object "java/lang/ModuleLayer"), accessFlags := 8, slot := 13, constantValue := 0 }]
  methods := #[k12m0, k12m1]
  instanceTypes := #[]
  staticTypes := #[(.object "java/io/InputStream"), (.object "java/io/PrintStream"), (.object "java/io/PrintStream"), (.object "java/io/InputStream"), .int, .int, .int, (.object "java/lang/SecurityManager"), (.object "java/lang/String"), (.object "java/io/Console"), (.object "java/io/PrintStream"), (.object "java/util/Properties"), (.object "java/lang/String"), (.object "java/lang/ModuleLayer")]
  resolved := Array.replicate 834 none
  statics := none }

def pool13 : Array CpInfo := pool [(9, u "<init>"), (6, .class_ 18), (1, u "java/lang/Object"), (0, u "()V"), (1, .class_ 23), (1, u "jdk/internal/util/ArraysSupport"), (0, u "LOG2_ARRAY_LONG_INDEX_SCALE"), (0, u "I"), (2, u "U"), (0, u "Ljdk/internal/misc/Unsafe;"), (8, u "BIG_ENDIAN"), (0, u "Z"), (8, u "LOG2_BYTE_BIT_SIZE"), (4, u "LOG2_ARRAY_INT_INDEX_SCALE"), (54, u "JLA"), (0, u "Ljdk/internal/access/JavaLangAccess;"), (11, u "LOG2_ARRAY_BOOLEAN_INDEX_SCALE"), (9, u "LOG2_ARRAY_BYTE_INDEX_SCALE"), (5, u "LOG2_ARRAY_CHAR_INDEX_SCALE"), (5, u "LOG2_ARRAY_SHORT_INDEX_SCALE"), (18, u "LOG2_ARRAY_FLOAT_INDEX_SCALE"), (24, u "LOG2_ARRAY_DOUBLE_INDEX_SCALE"), (6, .methodref 195 196), (0, .class_ 197), (0, .nameAndType 198 199), (0, u "java/lang/Math"), (0, u "max"), (0, u "(II)I"), (0, .integer 2147483639), (76, u "T_BOOLEAN"), (2, u "T_CHAR"), (1, u "T_FLOAT"), (1, u "T_DOUBLE"), (1, u "T_BYTE"), (1, u "T_SHORT"), (1, u "T_INT"), (1, u "T_LONG"), (1, u "SOFT_MAX_ARRAY_LENGTH"), (56, u "newLength"), (0, u "(III)I")] 25

def k13m0 : Method := { name := "<init>", desc := "()V", sig := { parameters := [], returnType := none }, accessFlags := 2, code := none }
def k13c1 : Code := { maxStack := 3, maxLocals := 4, code := jdk_48_method_27_code, exceptionTable := #[], attributes := #[] }
def k13m1 : Method := { name := "newLength", desc := "(III)I", sig := { parameters := [.int, .int, .int], returnType := some .int }, accessFlags := 9, code := some k13c1 }
/-- jdk/internal/util/ArraysSupport -/
def k13 : Class := { plain "jdk/internal/util/ArraysSupport" (some 0) with
  accessFlags := 33
  interfaces := #[]
  cf := some (fileOf pool13 21 #[] #[{ accessFlags := 2, nameIndex := 9, descriptorIndex := 19, attributes := #[] }, { accessFlags := 9, nameIndex := 351, descriptorIndex := 352, attributes := #[] }] 33 16 #[] #[{ accessFlags := 24, nameIndex := 28, descriptorIndex := 29, attributes := #[] }, { accessFlags := 26, nameIndex := 38, descriptorIndex := 39, attributes := #[] }, { accessFlags := 25, nameIndex := 121, descriptorIndex := 25, attributes := #[] }, { accessFlags := 25, nameIndex := 131, descriptorIndex := 25, attributes := #[] }, { accessFlags := 25, nameIndex := 137, descriptorIndex := 25, attributes := #[] }, { accessFlags := 25, nameIndex := 143, descriptorIndex := 25, attributes := #[] }, { accessFlags := 25, nameIndex := 53, descriptorIndex := 25, attributes := #[] }, { accessFlags := 25, nameIndex := 24, descriptorIndex := 25, attributes := #[] }, { accessFlags := 25, nameIndex := 162, descriptorIndex := 25, attributes := #[] }, { accessFlags := 25, nameIndex := 187, descriptorIndex := 25, attributes := #[] }, { accessFlags := 26, nameIndex := 48, descriptorIndex := 25, attributes := #[] }, { accessFlags := 25, nameIndex := 277, descriptorIndex := 25, attributes := #[] }, { accessFlags := 25, nameIndex := 280, descriptorIndex := 25, attributes := #[] }, { accessFlags := 25, nameIndex := 282, descriptorIndex := 25, attributes := #[] }, { accessFlags := 25, nameIndex := 284, descriptorIndex := 25, attributes := #[] }, { accessFlags := 25, nameIndex := 286, descriptorIndex := 25, attributes := #[] }, { accessFlags := 25, nameIndex := 288, descriptorIndex := 25, attributes := #[] }, { accessFlags := 25, nameIndex := 290, descriptorIndex := 25, attributes := #[] }, { accessFlags := 25, nameIndex := 292, descriptorIndex := 25, attributes := #[] }, { accessFlags := 26, nameIndex := 108, descriptorIndex := 109, attributes := #[] }, { accessFlags := 25, nameIndex := 294, descriptorIndex := 25, attributes := #[] }])
  fields := #[{ name := "U", type := (.object "jdk/internal/misc/Unsafe"), accessFlags := 24, slot := 0, constantValue := 0 }, { name := "BIG_ENDIAN", type := .boolean, accessFlags := 26, slot := 1, constantValue := 0 }, { name := "LOG2_ARRAY_BOOLEAN_INDEX_SCALE", type := .int, accessFlags := 25, slot := 2, constantValue := 0 }, { name := "LOG2_ARRAY_BYTE_INDEX_SCALE", type := .int, accessFlags := 25, slot := 3, constantValue := 0 }, { name := "LOG2_ARRAY_CHAR_INDEX_SCALE", type := .int, accessFlags := 25, slot := 4, constantValue := 0 }, { name := "LOG2_ARRAY_SHORT_INDEX_SCALE", type := .int, accessFlags := 25, slot := 5, constantValue := 0 }, { name := "LOG2_ARRAY_INT_INDEX_SCALE", type := .int, accessFlags := 25, slot := 6, constantValue := 0 }, { name := "LOG2_ARRAY_LONG_INDEX_SCALE", type := .int, accessFlags := 25, slot := 7, constantValue := 0 }, { name := "LOG2_ARRAY_FLOAT_INDEX_SCALE", type := .int, accessFlags := 25, slot := 8, constantValue := 0 }, { name := "LOG2_ARRAY_DOUBLE_INDEX_SCALE", type := .int, accessFlags := 25, slot := 9, constantValue := 0 }, { name := "LOG2_BYTE_BIT_SIZE", type := .int, accessFlags := 26, slot := 10, constantValue := 0 }, { name := "T_BOOLEAN", type := .int, accessFlags := 25, slot := 11, constantValue := 0 }, { name := "T_CHAR", type := .int, accessFlags := 25, slot := 12, constantValue := 0 }, { name := "T_FLOAT", type := .int, accessFlags := 25, slot := 13, constantValue := 0 }, { name := "T_DOUBLE", type := .int, accessFlags := 25, slot := 14, constantValue := 0 }, { name := "T_BYTE", type := .int, accessFlags := 25, slot := 15, constantValue := 0 }, { name := "T_SHORT", type := .int, accessFlags := 25, slot := 16, constantValue := 0 }, { name := "T_INT", type := .int, accessFlags := 25, slot := 17, constantValue := 0 }, { name := "T_LONG", type := .int, accessFlags := 25, slot := 18, constantValue := 0 }, { name := "JLA", type := (.object "jdk/internal/access/JavaLangAccess"), accessFlags := 26, slot := 19, constantValue := 0 }, { name := "SOFT_MAX_ARRAY_LENGTH", type := .int, accessFlags := 25, slot := 20, constantValue := 0 }]
  methods := #[k13m0, k13m1]
  instanceTypes := #[]
  staticTypes := #[(.object "jdk/internal/misc/Unsafe"), .boolean, .int, .int, .int, .int, .int, .int, .int, .int, .int, .int, .int, .int, .int, .int, .int, .int, .int, (.object "jdk/internal/access/JavaLangAccess"), .int]
  resolved := Array.replicate 378 none
  statics := none }

def pool14 : Array CpInfo := pool [(1, .class_ 2), (0, u "java/lang/Math"), (1, .class_ 6), (1, u "java/lang/Object"), (0, u "<init>"), (0, u "()V"), (89, .class_ 100), (1, u "java/lang/Math$RandomNumberGeneratorHolder"), (71, u "negativeZeroFloatBits"), (0, u "J"), (2, u "negativeZeroDoubleBits"), (21, u "max"), (2, u "min"), (43, u "$assertionsDisabled"), (0, u "Z"), (88, u "(II)I"), (2, u "twoToTheDoubleScaleDown"), (0, u "D"), (4, u "twoToTheDoubleScaleUp"), (9, u "E"), (3, u "PI"), (2, u "TAU"), (2, u "DEGREES_TO_RADIANS"), (0, u "RADIANS_TO_DEGREES")] 94

def k14m0 : Method := { name := "<init>", desc := "()V", sig := { parameters := [], returnType := none }, accessFlags := 2, code := none }
def k14c1 : Code := { maxStack := 2, maxLocals := 2, code := jdk_29_method_65_code, exceptionTable := #[], attributes := #[] }
def k14m1 : Method := { name := "max", desc := "(II)I", sig := { parameters := [.int, .int], returnType := some .int }, accessFlags := 9, code := some k14c1 }
def k14c2 : Code := { maxStack := 2, maxLocals := 2, code := jdk_29_method_69_code, exceptionTable := #[], attributes := #[] }
def k14m2 : Method := { name := "min", desc := "(II)I", sig := { parameters := [.int, .int], returnType := some .int }, accessFlags := 9, code := some k14c2 }
/-- java/lang/Math -/
def k14 : Class := { plain "java/lang/Math" (some 0) with
  accessFlags := 49
  interfaces := #[]
  cf := some (fileOf pool14 1 #[.nestMembers #[98]] #[{ accessFlags := 2, nameIndex := 7, descriptorIndex := 8, attributes := #[] }, { accessFlags := 9, nameIndex := 198, descriptorIndex := 335, attributes := #[] }, { accessFlags := 9, nameIndex := 201, descriptorIndex := 335, attributes := #[] }] 49 4 #[] #[{ accessFlags := 25, nameIndex := 354, descriptorIndex := 339, attributes := #[] }, { accessFlags := 25, nameIndex := 358, descriptorIndex := 339, attributes := #[] }, { accessFlags := 25, nameIndex := 361, descriptorIndex := 339, attributes := #[] }, { accessFlags := 26, nameIndex := 364, descriptorIndex := 339, attributes := #[] }, { accessFlags := 26, nameIndex := 365, descriptorIndex := 339, attributes := #[] }, { accessFlags := 26, nameIndex := 172, descriptorIndex := 173, attributes := #[] }, { accessFlags := 26, nameIndex := 176, descriptorIndex := 173, attributes := #[] }, { accessFlags := 8, nameIndex := 344, descriptorIndex := 339, attributes := #[] }, { accessFlags := 8, nameIndex := 338, descriptorIndex := 339, attributes := #[] }, { accessFlags := 4120, nameIndex := 245, descriptorIndex := 246, attributes := #[] }])
  fields := #[{ name := "E", type := .double, accessFlags := 25, slot := 0, constantValue := 0 }, { name := "PI", type := .double, accessFlags := 25, slot := 1, constantValue := 0 }, { name := "TAU", type := .double, accessFlags := 25, slot := 2, constantValue := 0 }, { name := "DEGREES_TO_RADIANS", type := .double, accessFlags := 26, slot := 3, constantValue := 0 }, { name := "RADIANS_TO_DEGREES", type := .double, accessFlags := 26, slot := 4, constantValue := 0 }, { name := "negativeZeroFloatBits", type := .long, accessFlags := 26, slot := 5, constantValue := 0 }, { name := "negativeZeroDoubleBits", type := .long, accessFlags := 26, slot := 6, constantValue := 0 }, { name := "twoToTheDoubleScaleUp", type := .double, accessFlags := 8, slot := 7, constantValue := 0 }, { name := "twoToTheDoubleScaleDown", type := .double, accessFlags := 8, slot := 8, constantValue := 0 }, { name := "$assertionsDisabled", type := .boolean, accessFlags := 4120, slot := 9, constantValue := 0 }]
  methods := #[k14m0, k14m1, k14m2]
  instanceTypes := #[]
  staticTypes := #[.double, .double, .double, .double, .double, .long, .long, .double, .double, .boolean]
  resolved := Array.replicate 460 none
  statics := none }

def pool15 : Array CpInfo := pool [(2, .class_ 4), (1, u "java/lang/Object"), (0, u "<init>"), (0, u "()V"), (7, .class_ 16), (1, u "java/util/Arrays"), (57, .class_ 76), (1, u "java/util/Arrays$NaturalOrder"), (36, .class_ 115), (1, u "java/util/Arrays$LegacyMergeSort"), (1, u "Z"), (21, u "copyOfRange"), (10, .methodref 151 152), (0, .class_ 153), (0, .nameAndType 154 155), (0, u "java/lang/System"), (0, u "arraycopy"), (0, u "(Ljava/lang/Object;ILjava/lang/Object;II)V"), (146, u "copyOf"), (1, .methodref 305 306), (0, .class_ 307), (0, .nameAndType 308 309), (0, u "java/lang/Math"), (0, u "min"), (0, u "(II)I"), (29, .methodref 14 340), (0, .nameAndType 341 342), (0, u "copyOfRangeByte"), (0, u "([BII)[B"), (0, .methodref 14 344), (0, .nameAndType 345 346), (0, u "checkLength"), (0, u "(II)V"), (28, .class_ 376), (0, u "java/util/Arrays$ArrayList"), (68, u "$assertionsDisabled"), (269, u "MIN_ARRAY_SORT_GRAN"), (0, u "I"), (2, u "INSERTIONSORT_THRESHOLD"), (149, u "([BI)[B"), (105, .class_ 976), (0, u "java/util/Arrays$ArrayItr")] 52

def k15m0 : Method := { name := "<init>", desc := "()V", sig := { parameters := [], returnType := none }, accessFlags := 2, code := none }
def k15c1 : Code := { maxStack := 6, maxLocals := 3, code := jdk_65_method_121_code, exceptionTable := #[], attributes := #[] }
def k15m1 : Method := { name := "copyOf", desc := "([BI)[B", sig := { parameters := [(.array .byte), .int], returnType := some (.array .byte) }, accessFlags := 9, code := some k15c1 }
def k15c2 : Code := { maxStack := 4, maxLocals := 2, code := jdk_65_method_131_code, exceptionTable := #[], attributes := #[] }
def k15m2 : Method := { name := "checkLength", desc := "(II)V", sig := { parameters := [.int, .int], returnType := none }, accessFlags := 10, code := some k15c2 }
def k15c3 : Code := { maxStack := 3, maxLocals := 3, code := jdk_65_method_132_code, exceptionTable := #[], attributes := #[] }
def k15m3 : Method := { name := "copyOfRange", desc := "([BII)[B", sig := { parameters := [(.array .byte), .int, .int], returnType := some (.array .byte) }, accessFlags := 9, code := some k15c3 }
def k15c4 : Code := { maxStack := 6, maxLocals := 5, code := jdk_65_method_133_code, exceptionTable := #[], attributes := #[] }
def k15m4 : Method := { name := "copyOfRangeByte", desc := "([BII)[B", sig := { parameters := [(.array .byte), .int, .int], returnType := some (.array .byte) }, accessFlags := 10, code := some k15c4 }
/-- java/util/Arrays -/
def k15 : Class := { plain "java/util/Arrays" (some 0) with
  accessFlags := 49
  interfaces := #[]
  cf := some (fileOf pool15 14 #[.nestMembers #[975, 375, 113, 74]] #[{ accessFlags := 2, nameIndex := 5, descriptorIndex := 6, attributes := #[] }, { accessFlags := 9, nameIndex := 302, descriptorIndex := 869, attributes := #[] }, { accessFlags := 10, nameIndex := 345, descriptorIndex := 346, attributes := #[] }, { accessFlags := 9, nameIndex := 139, descriptorIndex := 342, attributes := #[] }, { accessFlags := 10, nameIndex := 341, descriptorIndex := 342, attributes := #[] }] 49 2 #[] #[{ accessFlags := 26, nameIndex := 715, descriptorIndex := 716, attributes := #[] }, { accessFlags := 26, nameIndex := 719, descriptorIndex := 716, attributes := #[] }, { accessFlags := 4120, nameIndex := 445, descriptorIndex := 117, attributes := #[] }])
  fields := #[{ name := "MIN_ARRAY_SORT_GRAN", type := .int, accessFlags := 26, slot := 0, constantValue := 0 }, { name := "INSERTIONSORT_THRESHOLD", type := .int, accessFlags := 26, slot := 1, constantValue := 0 }, { name := "$assertionsDisabled", type := .boolean, accessFlags := 4120, slot := 2, constantValue := 0 }]
  methods := #[k15m0, k15m1, k15m2, k15m3, k15m4]
  instanceTypes := #[]
  staticTypes := #[.int, .int, .boolean]
  resolved := Array.replicate 1029 none
  statics := none }

def pool16 : Array CpInfo := pool [(2, .class_ 4), (1, u "java/lang/Object"), (0, u "<init>"), (0, u "()V"), (14, .class_ 23), (1, u "java/nio/charset/StandardCharsets"), (0, u "US_ASCII"), (0, u "Ljava/nio/charset/Charset;"), (7, u "ISO_8859_1"), (7, u "UTF_8"), (5, u "UTF_16BE"), (5, u "UTF_16LE"), (5, u "UTF_16")] 8

def k16m0 : Method := { name := "<init>", desc := "()V", sig := { parameters := [], returnType := none }, accessFlags := 2, code := none }
/-- java/nio/charset/StandardCharsets -/
def k16 : Class := { plain "java/nio/charset/StandardCharsets" (some 0) with
  accessFlags := 49
  interfaces := #[]
  cf := some (fileOf pool16 21 #[] #[{ accessFlags := 2, nameIndex := 5, descriptorIndex := 6, attributes := #[] }] 49 2 #[] #[{ accessFlags := 25, nameIndex := 24, descriptorIndex := 25, attributes := #[] }, { accessFlags := 25, nameIndex := 33, descriptorIndex := 25, attributes := #[] }, { accessFlags := 25, nameIndex := 41, descriptorIndex := 25, attributes := #[] }, { accessFlags := 25, nameIndex := 47, descriptorIndex := 25, attributes := #[] }, { accessFlags := 25, nameIndex := 53, descriptorIndex := 25, attributes := #[] }, { accessFlags := 25, nameIndex := 59, descriptorIndex := 25, attributes := #[] }])
  fields := #[{ name := "US_ASCII", type := (.object "java/nio/charset/Charset"), accessFlags := 25, slot := 0, constantValue := 0 }, { name := "ISO_8859_1", type := (.object "java/nio/charset/Charset"), accessFlags := 25, slot := 1, constantValue := 0 }, { name := "UTF_8", type := (.object "java/nio/charset/Charset"), accessFlags := 25, slot := 2, constantValue := 0 }, { name := "UTF_16BE", type := (.object "java/nio/charset/Charset"), accessFlags := 25, slot := 3, constantValue := 0 }, { name := "UTF_16LE", type := (.object "java/nio/charset/Charset"), accessFlags := 25, slot := 4, constantValue := 0 }, { name := "UTF_16", type := (.object "java/nio/charset/Charset"), accessFlags := 25, slot := 5, constantValue := 0 }]
  methods := #[k16m0]
  instanceTypes := #[]
  staticTypes := #[(.object "java/nio/charset/Charset"), (.object "java/nio/charset/Charset"), (.object "java/nio/charset/Charset"), (.object "java/nio/charset/Charset"), (.object "java/nio/charset/Charset"), (.object "java/nio/charset/Charset")]
  resolved := Array.replicate 68 none
  statics := some 1 }

def pool17 : Array CpInfo := pool [(18, .class_ 20), (1, u "java/nio/charset/Charset"), (0, u "cache1"), (0, u "[Ljava/lang/Object;"), (2, u "cache2"), (0, .class_ 27), (0, u "java/lang/Object"), (0, .class_ 29), (0, u "java/nio/charset/Charset$1"), (4, .class_ 36), (1, u "java/nio/charset/Charset$ThreadTrackHolder"), (21, .class_ 59), (0, u "java/nio/charset/Charset$2"), (11, .class_ 73), (1, u "java/nio/charset/Charset$ExtendedProviderHolder"), (22, u "standardProvider"), (0, u "Ljava/nio/charset/spi/CharsetProvider;"), (29, u "name"), (7, .class_ 136), (0, u "java/nio/charset/Charset$3"), (5, u "defaultCharset"), (0, u "Ljava/nio/charset/Charset;"), (14, u "zeroAliases"), (0, u "[Ljava/lang/String;"), (29, u "Ljava/lang/String;"), (2, u "aliases"), (2, u "aliasSet"), (0, u "Ljava/util/Set;"), (82, .class_ 280), (0, u "java/lang/Comparable"), (84, .class_ 366), (0, u "java/nio/charset/Charset$ExtendedProviderHolder$1")] 3

/-- java/nio/charset/Charset -/
def k17 : Class := { plain "java/nio/charset/Charset" (some 0) with
  accessFlags := 1057
  interfaces := #[3]
  cf := some (fileOf pool17 18 #[.nestMembers #[71, 365, 34, 135, 58, 28]] #[] 1057 26 #[279] #[{ accessFlags := 26, nameIndex := 96, descriptorIndex := 97, attributes := #[] }, { accessFlags := 26, nameIndex := 158, descriptorIndex := 159, attributes := #[] }, { accessFlags := 74, nameIndex := 21, descriptorIndex := 22, attributes := #[] }, { accessFlags := 74, nameIndex := 25, descriptorIndex := 22, attributes := #[] }, { accessFlags := 10, nameIndex := 142, descriptorIndex := 143, attributes := #[] }, { accessFlags := 18, nameIndex := 127, descriptorIndex := 189, attributes := #[] }, { accessFlags := 18, nameIndex := 192, descriptorIndex := 159, attributes := #[] }, { accessFlags := 2, nameIndex := 195, descriptorIndex := 196, attributes := #[] }])
  fields := #[{ name := "standardProvider", type := (.object "java/nio/charset/spi/CharsetProvider"), accessFlags := 26, slot := 0, constantValue := 0 }, { name := "zeroAliases", type := (.array (.object "java/lang/String")), accessFlags := 26, slot := 1, constantValue := 0 }, { name := "cache1", type := (.array (.object "java/lang/Object")), accessFlags := 74, slot := 2, constantValue := 0 }, { name := "cache2", type := (.array (.object "java/lang/Object")), accessFlags := 74, slot := 3, constantValue := 0 }, { name := "defaultCharset", type := (.object "java/nio/charset/Charset"), accessFlags := 10, slot := 4, constantValue := 0 }, { name := "name", type := (.object "java/lang/String"), accessFlags := 18, slot := 0, constantValue := 0 }, { name := "aliases", type := (.array (.object "java/lang/String")), accessFlags := 18, slot := 1, constantValue := 0 }, { name := "aliasSet", type := (.object "java/util/Set"), accessFlags := 2, slot := 2, constantValue := 0 }]
  methods := #[]
  instanceTypes := #[(.object "java/lang/String"), (.array (.object "java/lang/String")), (.object "java/util/Set")]
  staticTypes := #[(.object "java/nio/charset/spi/CharsetProvider"), (.array (.object "java/lang/String")), (.array (.object "java/lang/Object")), (.array (.object "java/lang/Object")), (.object "java/nio/charset/Charset")]
  resolved := Array.replicate 370 none
  statics := none }

def pool18 : Array CpInfo := pool [(1, .class_ 2), (0, u "sun/nio/cs/HistoricallyNamedCharset"), (0, .class_ 4), (0, u "java/lang/Object")] 4

/-- sun/nio/cs/HistoricallyNamedCharset -/
def k18 : Class := { plain "sun/nio/cs/HistoricallyNamedCharset" (some 0) with
  accessFlags := 1537
  interfaces := #[]
  cf := some (fileOf pool18 1 #[] #[] 1537 3 #[] #[])
  fields := #[]
  methods := #[]
  instanceTypes := #[]
  staticTypes := #[]
  resolved := Array.replicate 9 none
  statics := none }

def pool19 : Array CpInfo := pool [(2, .class_ 4), (1, u "java/nio/charset/Charset"), (130, .class_ 136), (0, u "sun/nio/cs/Unicode"), (0, .class_ 138), (0, u "sun/nio/cs/HistoricallyNamedCharset")] 15

/-- sun/nio/cs/Unicode -/
def k19 : Class := { plain "sun/nio/cs/Unicode" (some 17) with
  accessFlags := 1056
  interfaces := #[18]
  cf := some (fileOf pool19 135 #[] #[] 1056 2 #[137] #[])
  fields := #[]
  methods := #[]
  instanceTypes := #[(.object "java/lang/String"), (.array (.object "java/lang/String")), (.object "java/util/Set")]
  staticTypes := #[]
  resolved := Array.replicate 154 none
  statics := none }

def pool20 : Array CpInfo := pool [(10, .class_ 12), (1, u "sun/nio/cs/Unicode"), (0, u "<init>"), (3, .class_ 18), (0, u "sun/nio/cs/UTF_8$Decoder"), (3, .class_ 23), (0, u "sun/nio/cs/UTF_8$Encoder"), (15, .class_ 40), (0, u "sun/nio/cs/UTF_8"), (2, u "()V"), (2, u "INSTANCE"), (0, u "Lsun/nio/cs/UTF_8;"), (8, u "JLA"), (0, u "Ljdk/internal/access/JavaLangAccess;")] 26

def k20m0 : Method := { name := "<init>", desc := "()V", sig := { parameters := [], returnType := none }, accessFlags := 1, code := none }
/-- sun/nio/cs/UTF_8 -/
def k20 : Class := { plain "sun/nio/cs/UTF_8" (some 19) with
  accessFlags := 49
  interfaces := #[]
  cf := some (fileOf pool20 39 #[.nestMembers #[22, 17]] #[{ accessFlags := 1, nameIndex := 13, descriptorIndex := 43, attributes := #[] }] 49 10 #[] #[{ accessFlags := 25, nameIndex := 46, descriptorIndex := 47, attributes := #[] }, { accessFlags := 26, nameIndex := 56, descriptorIndex := 57, attributes := #[] }])
  fields := #[{ name := "INSTANCE", type := (.object "sun/nio/cs/UTF_8"), accessFlags := 25, slot := 0, constantValue := 0 }, { name := "JLA", type := (.object "jdk/internal/access/JavaLangAccess"), accessFlags := 26, slot := 1, constantValue := 0 }]
  methods := #[k20m0]
  instanceTypes := #[(.object "java/lang/String"), (.array (.object "java/lang/String")), (.object "java/util/Set")]
  staticTypes := #[(.object "sun/nio/cs/UTF_8"), (.object "jdk/internal/access/JavaLangAccess")]
  resolved := Array.replicate 84 none
  statics := some 2 }

def pool21 : Array CpInfo := pool [(10, .class_ 12), (1, u "java/nio/charset/Charset"), (0, u "<init>"), (5, .class_ 20), (0, u "sun/nio/cs/ISO_8859_1"), (0, .class_ 22), (0, u "sun/nio/cs/ISO_8859_1$Decoder"), (3, .class_ 27), (0, u "sun/nio/cs/ISO_8859_1$Encoder"), (3, u "()V"), (2, u "INSTANCE"), (0, u "Lsun/nio/cs/ISO_8859_1;"), (0, .class_ 37), (0, u "sun/nio/cs/HistoricallyNamedCharset")] 22

def k21m0 : Method := { name := "<init>", desc := "()V", sig := { parameters := [], returnType := none }, accessFlags := 1, code := none }
/-- sun/nio/cs/ISO_8859_1 -/
def k21 : Class := { plain "sun/nio/cs/ISO_8859_1" (some 17) with
  accessFlags := 33
  interfaces := #[18]
  cf := some (fileOf pool21 19 #[.nestMembers #[26, 21]] #[{ accessFlags := 1, nameIndex := 13, descriptorIndex := 31, attributes := #[] }] 33 10 #[36] #[{ accessFlags := 25, nameIndex := 34, descriptorIndex := 35, attributes := #[] }])
  fields := #[{ name := "INSTANCE", type := (.object "sun/nio/cs/ISO_8859_1"), accessFlags := 25, slot := 0, constantValue := 0 }]
  methods := #[k21m0]
  instanceTypes := #[(.object "java/lang/String"), (.array (.object "java/lang/String")), (.object "java/util/Set")]
  staticTypes := #[(.object "sun/nio/cs/ISO_8859_1")]
  resolved := Array.replicate 60 none
  statics := some 3 }

def pool22 : Array CpInfo := pool [(10, .class_ 12), (1, u "java/nio/charset/Charset"), (0, u "<init>"), (3, .class_ 18), (0, u "sun/nio/cs/US_ASCII"), (0, .class_ 20), (0, u "sun/nio/cs/US_ASCII$Decoder"), (3, .class_ 25), (0, u "sun/nio/cs/US_ASCII$Encoder"), (3, u "()V"), (2, u "INSTANCE"), (0, u "Lsun/nio/cs/US_ASCII;"), (8, u "JLA"), (0, u "Ljdk/internal/access/JavaLangAccess;"), (0, .class_ 45), (0, u "sun/nio/cs/HistoricallyNamedCharset")] 21

def k22m0 : Method := { name := "<init>", desc := "()V", sig := { parameters := [], returnType := none }, accessFlags := 1, code := none }
/-- sun/nio/cs/US_ASCII -/
def k22 : Class := { plain "sun/nio/cs/US_ASCII" (some 17) with
  accessFlags := 33
  interfaces := #[18]
  cf := some (fileOf pool22 17 #[.nestMembers #[24, 19]] #[{ accessFlags := 1, nameIndex := 13, descriptorIndex := 29, attributes := #[] }] 33 10 #[44] #[{ accessFlags := 25, nameIndex := 32, descriptorIndex := 33, attributes := #[] }, { accessFlags := 26, nameIndex := 42, descriptorIndex := 43, attributes := #[] }])
  fields := #[{ name := "INSTANCE", type := (.object "sun/nio/cs/US_ASCII"), accessFlags := 25, slot := 0, constantValue := 0 }, { name := "JLA", type := (.object "jdk/internal/access/JavaLangAccess"), accessFlags := 26, slot := 1, constantValue := 0 }]
  methods := #[k22m0]
  instanceTypes := #[(.object "java/lang/String"), (.array (.object "java/lang/String")), (.object "java/util/Set")]
  staticTypes := #[(.object "sun/nio/cs/US_ASCII"), (.object "jdk/internal/access/JavaLangAccess")]
  resolved := Array.replicate 67 none
  statics := some 4 }

def pool23 : Array CpInfo := pool [(2, .class_ 4), (1, u "java/lang/Object"), (0, u "<init>"), (0, u "()V"), (1, .class_ 10), (1, u "java/lang/StringCoding"), (0, u "countPositives"), (0, u "([BII)I")] 36

def k23m0 : Method := { name := "<init>", desc := "()V", sig := { parameters := [], returnType := none }, accessFlags := 2, code := none }
def k23c1 : Code := { maxStack := 2, maxLocals := 5, code := jdk_123_method_3_code, exceptionTable := #[], attributes := #[] }
def k23m1 : Method := { name := "countPositives", desc := "([BII)I", sig := { parameters := [(.array .byte), .int, .int], returnType := some .int }, accessFlags := 9, code := some k23c1 }
/-- java/lang/StringCoding -/
def k23 : Class := { plain "java/lang/StringCoding" (some 0) with
  accessFlags := 32
  interfaces := #[]
  cf := some (fileOf pool23 8 #[] #[{ accessFlags := 2, nameIndex := 5, descriptorIndex := 6, attributes := #[] }, { accessFlags := 9, nameIndex := 11, descriptorIndex := 12, attributes := #[] }] 32 2 #[] #[])
  fields := #[]
  methods := #[k23m0, k23m1]
  instanceTypes := #[]
  staticTypes := #[]
  resolved := Array.replicate 49 none
  statics := none }

def pool24 : Array CpInfo := pool [(1, .class_ 2), (0, u "java/lang/Cloneable"), (0, .class_ 4), (0, u "java/lang/Object")] 2

/-- java/lang/Cloneable -/
def k24 : Class := { plain "java/lang/Cloneable" (some 0) with
  accessFlags := 1537
  interfaces := #[]
  cf := some (fileOf pool24 1 #[] #[] 1537 3 #[] #[])
  fields := #[]
  methods := #[]
  instanceTypes := #[]
  staticTypes := #[]
  resolved := Array.replicate 7 none
  statics := none }

def pool25 : Array CpInfo := pool [(6, .class_ 8), (1, u "java/lang/Object"), (0, u "<init>"), (0, u "()V"), (1, .class_ 14), (1, u "java/lang/StringUTF16"), (31, u "$assertionsDisabled"), (0, u "Z"), (13, u "HI_BYTE_SHIFT"), (0, u "I"), (2, u "LO_BYTE_SHIFT"), (49, .methodref 12 116), (0, .nameAndType 117 118), (0, u "compress"), (0, u "([CI[BII)I"), (3, u "([CII)[B"), (138, u "coderFromArrayLen"), (0, u "([BI)B"), (106, .class_ 371), (1, u "java/lang/StringUTF16$LinesSpliterator"), (58, u "MAX_LENGTH"), (196, .class_ 628), (0, u "java/lang/StringUTF16$CodePointsSpliterator"), (0, .class_ 630), (0, u "java/lang/StringUTF16$CharsSpliterator")] 4

def k25m0 : Method := { name := "<init>", desc := "()V", sig := { parameters := [], returnType := none }, accessFlags := 0, code := none }
def k25c1 : Code := { maxStack := 2, maxLocals := 2, code := jdk_52_method_15_code, exceptionTable := #[], attributes := #[] }
def k25m1 : Method := { name := "coderFromArrayLen", desc := "([BI)B", sig := { parameters := [(.array .byte), .int], returnType := some .byte }, accessFlags := 8, code := some k25c1 }
def k25c2 : Code := { maxStack := 5, maxLocals := 6, code := jdk_52_method_16_code, exceptionTable := #[], attributes := #[] }
def k25m2 : Method := { name := "compress", desc := "([CII)[B", sig := { parameters := [(.array .char), .int, .int], returnType := some (.array .byte) }, accessFlags := 9, code := some k25c2 }
def k25c3 : Code := { maxStack := 3, maxLocals := 7, code := jdk_52_method_21_code, exceptionTable := #[], attributes := #[] }
def k25m3 : Method := { name := "compress", desc := "([CI[BII)I", sig := { parameters := [(.array .char), .int, (.array .byte), .int, .int], returnType := some .int }, accessFlags := 9, code := some k25c3 }
/-- java/lang/StringUTF16 -/
def k25 : Class := { plain "java/lang/StringUTF16" (some 0) with
  accessFlags := 48
  interfaces := #[]
  cf := some (fileOf pool25 12 #[.nestMembers #[627, 629, 369]] #[{ accessFlags := 0, nameIndex := 9, descriptorIndex := 10, attributes := #[] }, { accessFlags := 8, nameIndex := 261, descriptorIndex := 262, attributes := #[] }, { accessFlags := 9, nameIndex := 117, descriptorIndex := 122, attributes := #[] }, { accessFlags := 9, nameIndex := 117, descriptorIndex := 118, attributes := #[] }] 48 6 #[] #[{ accessFlags := 26, nameIndex := 61, descriptorIndex := 62, attributes := #[] }, { accessFlags := 26, nameIndex := 65, descriptorIndex := 62, attributes := #[] }, { accessFlags := 24, nameIndex := 430, descriptorIndex := 62, attributes := #[] }, { accessFlags := 4120, nameIndex := 46, descriptorIndex := 47, attributes := #[] }])
  fields := #[{ name := "HI_BYTE_SHIFT", type := .int, accessFlags := 26, slot := 0, constantValue := 0 }, { name := "LO_BYTE_SHIFT", type := .int, accessFlags := 26, slot := 1, constantValue := 0 }, { name := "MAX_LENGTH", type := .int, accessFlags := 24, slot := 2, constantValue := 0 }, { name := "$assertionsDisabled", type := .boolean, accessFlags := 4120, slot := 3, constantValue := 0 }]
  methods := #[k25m0, k25m1, k25m2, k25m3]
  instanceTypes := #[]
  staticTypes := #[.int, .int, .int, .boolean]
  resolved := Array.replicate 635 none
  statics := none }

def pool26 : Array CpInfo := pool [(4, .class_ 6), (1, u "java/lang/Object"), (0, u "<init>"), (0, u "()V"), (5, .class_ 16), (1, u "java/lang/StringLatin1"), (73, u "canEncode"), (14, u "(C)Z"), (15, u "$assertionsDisabled"), (0, u "Z"), (98, .class_ 223), (1, u "java/lang/StringLatin1$LinesSpliterator"), (156, u "toBytes"), (1, u "(C)[B"), (7, .class_ 391), (0, u "java/lang/StringLatin1$CharsSpliterator")] 3

def k26m0 : Method := { name := "<init>", desc := "()V", sig := { parameters := [], returnType := none }, accessFlags := 0, code := none }
def k26c1 : Code := { maxStack := 2, maxLocals := 1, code := jdk_43_method_3_code, exceptionTable := #[], attributes := #[] }
def k26m1 : Method := { name := "canEncode", desc := "(C)Z", sig := { parameters := [.char], returnType := some .boolean }, accessFlags := 9, code := some k26c1 }
def k26c2 : Code := { maxStack := 4, maxLocals := 1, code := jdk_43_method_46_code, exceptionTable := #[], attributes := #[] }
def k26m2 : Method := { name := "toBytes", desc := "(C)[B", sig := { parameters := [.char], returnType := some (.array .byte) }, accessFlags := 9, code := some k26c2 }
/-- java/lang/StringLatin1 -/
def k26 : Class := { plain "java/lang/StringLatin1" (some 0) with
  accessFlags := 48
  interfaces := #[]
  cf := some (fileOf pool26 14 #[.nestMembers #[390, 221]] #[{ accessFlags := 0, nameIndex := 7, descriptorIndex := 8, attributes := #[] }, { accessFlags := 9, nameIndex := 90, descriptorIndex := 105, attributes := #[] }, { accessFlags := 9, nameIndex := 380, descriptorIndex := 382, attributes := #[] }] 48 4 #[] #[{ accessFlags := 4120, nameIndex := 121, descriptorIndex := 122, attributes := #[] }])
  fields := #[{ name := "$assertionsDisabled", type := .boolean, accessFlags := 4120, slot := 0, constantValue := 0 }]
  methods := #[k26m0, k26m1, k26m2]
  instanceTypes := #[]
  staticTypes := #[.boolean]
  resolved := Array.replicate 395 none
  statics := none }

def pool27 : Array CpInfo := pool [(2, .class_ 4), (1, u "java/lang/Object"), (0, u "<init>"), (0, u "()V"), (17, .class_ 26), (1, u "jdk/internal/util/Preconditions"), (28, .class_ 56), (0, u "jdk/internal/util/Preconditions$4"), (57, .class_ 115), (0, u "jdk/internal/util/Preconditions$1"), (7, u "SIOOBE_FORMATTER"), (0, u "Ljava/util/function/BiFunction;"), (0, .class_ 126), (0, u "jdk/internal/util/Preconditions$2"), (3, u "AIOOBE_FORMATTER"), (0, .class_ 132), (0, u "jdk/internal/util/Preconditions$3"), (3, u "IOOBE_FORMATTER")] 57

def k27m0 : Method := { name := "<init>", desc := "()V", sig := { parameters := [], returnType := none }, accessFlags := 1, code := none }
/-- jdk/internal/util/Preconditions -/
def k27 : Class := { plain "jdk/internal/util/Preconditions" (some 0) with
  accessFlags := 33
  interfaces := #[]
  cf := some (fileOf pool27 24 #[.nestMembers #[55, 131, 125, 114]] #[{ accessFlags := 1, nameIndex := 5, descriptorIndex := 6, attributes := #[] }] 33 2 #[] #[{ accessFlags := 25, nameIndex := 123, descriptorIndex := 124, attributes := #[] }, { accessFlags := 25, nameIndex := 130, descriptorIndex := 124, attributes := #[] }, { accessFlags := 25, nameIndex := 136, descriptorIndex := 124, attributes := #[] }])
  fields := #[{ name := "SIOOBE_FORMATTER", type := (.object "java/util/function/BiFunction"), accessFlags := 25, slot := 0, constantValue := 0 }, { name := "AIOOBE_FORMATTER", type := (.object "java/util/function/BiFunction"), accessFlags := 25, slot := 1, constantValue := 0 }, { name := "IOOBE_FORMATTER", type := (.object "java/util/function/BiFunction"), accessFlags := 25, slot := 2, constantValue := 0 }]
  methods := #[k27m0]
  instanceTypes := #[]
  staticTypes := #[(.object "java/util/function/BiFunction"), (.object "java/util/function/BiFunction"), (.object "java/util/function/BiFunction")]
  resolved := Array.replicate 194 none
  statics := some 5 }

/-- the primitive byte -/
def k28 : Class := { plain "byte" none with kind := .primitive 'B', accessFlags := 0x411 }
/-- [B -/
def k29 : Class := { plain "[B" (some 0) with kind := .array 28 .byte, interfaces := #[24, 2], accessFlags := 1041 }

/-- the primitive char -/
def k30 : Class := { plain "char" none with kind := .primitive 'C', accessFlags := 0x411 }
/-- [C -/
def k31 : Class := { plain "[C" (some 0) with kind := .array 30 .char, interfaces := #[24, 2], accessFlags := 1041 }

/-- the primitive int -/
def k32 : Class := { plain "int" none with kind := .primitive 'I', accessFlags := 0x411 }
/-- [I -/
def k33 : Class := { plain "[I" (some 0) with kind := .array 32 .int, interfaces := #[24, 2], accessFlags := 1041 }

def heap : Heap := #[{ cls := 7, slots := #[.long 0, .int 1, .null, .int 0, .null, .int 0, .int 0], vm := .statics 7 },
  { cls := 16, slots := #[.ref 6, .null, .null, .null, .null, .null], vm := .statics 16 },
  { cls := 20, slots := #[.ref 7, .null], vm := .statics 20 },
  { cls := 21, slots := #[.ref 8], vm := .statics 21 },
  { cls := 22, slots := #[.ref 6, .null], vm := .statics 22 },
  { cls := 27, slots := #[.null, .null, .null], vm := .statics 27 },
  { cls := 22, slots := #[.null, .null, .null], vm := .none },
  { cls := 20, slots := #[.null, .null, .null], vm := .none },
  { cls := 21, slots := #[.null, .null, .null], vm := .none }]
def classes : Array Class := #[k0, k1, k2, k3, k4, k5, k6, k7, k8, k9, k10, k11, k12, k13, k14, k15, k16, k17, k18, k19, k20, k21, k22, k23, k24, k25, k26, k27, k28, k29, k30, k31, k32, k33]
def interned : List (Array UInt16 × Addr) := []
def slotsUsed : Nat := 30
def theMethod : MethodId := ⟨1, 1⟩
def args0 : Array Value := #[.int 1, .int 2]
def aboutOver (below : List Frame) : State where
  vm := { classes := classes, interned := interned.toArray }
  heap := heap
  slotsUsed := slotsUsed
  threads := #[{ frames := .invoking theMethod args0 :: below }]
def below0 : List Frame := [.native { method := ⟨0, 0⟩, args := #[] }]
def about1 : State := aboutOver below0
def p0 : Program := .bare "" "" ""
def e0 : Env := launch0.env 0 0 0
theorem w_frames : about1.frames = Frame.invoking theMethod args0 :: below0 := rfl
set_option maxRecDepth 65536 in
theorem w_args : argsFit about1.vm theMethod args0 = true := by decide +kernel
set_option maxRecDepth 65536 in
theorem w_heap : heapFits about1 = true := by decide +kernel
set_option maxRecDepth 65536 in
theorem w_runnable : about1.curStatus? = some .runnable := by decide +kernel
set_option maxRecDepth 65536 in
theorem w_alone : about1.alone = true := by decide +kernel
set_option maxRecDepth 65536 in
theorem w_named : about1.methodNamed? x = some theMethod := by decide +kernel
set_option maxRecDepth 65536 in
theorem w_hears : about1.hears theMethod below0 = true := by decide +kernel
set_option maxRecDepth 65536 in
theorem w_ripe : about1.ripe theMethod args0 below0 = true := by decide +kernel
theorem w_running : about1.status = .running := rfl
set_option maxRecDepth 65536 in
theorem w_room : about1.hasRoom e0.platform room_1 = true :=
  launch0.hasRoom_least _ room_1 (by decide +kernel) (by decide +kernel) (by decide +kernel) (by decide +kernel) (by decide +kernel) (by decide +kernel)
theorem allAtoms_all (ts : List Jvm.Cond) (a : Array Jvm.Value) (st : Jvm.State) : (allAtoms ts).before a st = ts.all (fun c => c.before a st) := by
  induction ts with
  | nil => rfl
  | cons c t ih =>
    show (Jvm.Cond.and c (allAtoms t)).before a st = _
    rw [Jvm.Cond.before_and, ih, List.all_cons]
def words1 : List Jvm.Cond := Jvm.Cond.code x code maxLocals ret :: tables_1
/-- a 'code' word, met by the world's own term for the bytes: nothing is compared byte by byte -/
theorem code_word {y : MethodName} {bytes : ByteArray} {mx : Nat} {rt : Option FieldType} {a : Array Value} {s : State} {m : MethodId} {meth : Method} {c : Code} (h1 : s.methodNamed? y = some m) (h2 : s.vm.method? m = some meth) (h3 : meth.code = some c) (h4 : c.code = bytes)
    (h5 : (c.maxLocals == mx && c.exceptionTable.isEmpty && decide (c.maxStack ≤ mostOperands) && decide (meth.sig.returnType = rt) && !meth.locks && decide (parseMethodDescriptor y.desc = some meth.sig)) = true) : (Jvm.Cond.code y bytes mx rt).before a s = true := by
  simp only [Bool.and_eq_true, beq_iff_eq, Bool.not_eq_true', decide_eq_true_eq] at h5
  obtain ⟨⟨⟨⟨⟨g1, g2⟩, g3⟩, g4⟩, g5⟩, g6⟩ := h5
  simp [Cond.before, Cond.holds, Cond.value, h1, h2, h3, h4, g1, g2, g3, g4, g5, g6]
def isCode : Jvm.Cond → Bool
  | .code _ _ _ _ => true
  | _ => false
theorem all_split {L : List Jvm.Cond} {P : Jvm.Cond → Bool} (h1 : L.all (fun c => isCode c || P c) = true) (h2 : ∀ c ∈ L.filter isCode, P c = true) : L.all P = true := by
  refine List.all_eq_true.mpr fun c hc => ?_
  have h := List.all_eq_true.mp h1 c hc
  rcases Bool.eq_false_or_eq_true (isCode c) with hi | hi
  · exact h2 c (List.mem_filter.mpr ⟨hc, hi⟩)
  · simpa [hi] using h
set_option maxRecDepth 65536 in
theorem w_c0 : (Jvm.Cond.code x code maxLocals ret).before args0 about1 = true := code_word (m := ⟨1, 1⟩) (meth := k1m1) (c := k1c1) (by decide +kernel) rfl rfl rfl (by decide +kernel)
set_option maxRecDepth 65536 in
theorem w_c1 : (Jvm.Cond.code ({ cls := "com/example/tugas/tugas/cli/HttpGetPinLaw", name := "make", desc := "(ICC)Ljava/lang/String;" } : Jvm.MethodName) method_3_code (3 : Nat) (Option.some (Jvm.ClassFile.FieldType.object "java/lang/String"))).before args0 about1 = true := code_word (m := ⟨1, 2⟩) (meth := k1m2) (c := k1c2) (by decide +kernel) rfl rfl rfl (by decide +kernel)
set_option maxRecDepth 65536 in
theorem w_c2 : (Jvm.Cond.code ({ cls := "java/lang/String", name := "<init>", desc := "([C)V" } : Jvm.MethodName) jdk_42_method_3_code (2 : Nat) (Option.none : Option Jvm.ClassFile.FieldType)).before args0 about1 = true := code_word (m := ⟨7, 1⟩) (meth := k7m1) (c := k7c1) (by decide +kernel) rfl rfl rfl (by decide +kernel)
set_option maxRecDepth 65536 in
theorem w_c3 : (Jvm.Cond.code ({ cls := "java/lang/String", name := "<init>", desc := "([CIILjava/lang/Void;)V" } : Jvm.MethodName) jdk_42_method_149_code (6 : Nat) (Option.none : Option Jvm.ClassFile.FieldType)).before args0 about1 = true := code_word (m := ⟨7, 10⟩) (meth := k7m10) (c := k7c10) (by decide +kernel) rfl rfl rfl (by decide +kernel)
set_option maxRecDepth 65536 in
theorem w_c4 : (Jvm.Cond.code ({ cls := "java/lang/Object", name := "<init>", desc := "()V" } : Jvm.MethodName) object_method_1_code (1 : Nat) (Option.none : Option Jvm.ClassFile.FieldType)).before args0 about1 = true := code_word (m := ⟨0, 0⟩) (meth := k0m0) (c := k0c0) (by decide +kernel) rfl rfl rfl (by decide +kernel)
set_option maxRecDepth 65536 in
theorem w_c5 : (Jvm.Cond.code ({ cls := "com/example/tugas/tugas/cli/Http", name := "get", desc := "(Ljava/lang/String;Ljava/lang/String;)[B" } : Jvm.MethodName) prog_21_method_2_code (2 : Nat) (Option.some (Jvm.ClassFile.FieldType.array Jvm.ClassFile.FieldType.byte))).before args0 about1 = true := code_word (m := ⟨8, 1⟩) (meth := k8m1) (c := k8c1) (by decide +kernel) rfl rfl rfl (by decide +kernel)
set_option maxRecDepth 65536 in
theorem w_c6 : (Jvm.Cond.code ({ cls := "java/lang/StringBuilder", name := "<init>", desc := "()V" } : Jvm.MethodName) jdk_67_method_1_code (1 : Nat) (Option.none : Option Jvm.ClassFile.FieldType)).before args0 about1 = true := code_word (m := ⟨11, 0⟩) (meth := k11m0) (c := k11c0) (by decide +kernel) rfl rfl rfl (by decide +kernel)
set_option maxRecDepth 65536 in
theorem w_c7 : (Jvm.Cond.code ({ cls := "java/lang/AbstractStringBuilder", name := "<init>", desc := "(I)V" } : Jvm.MethodName) jdk_68_method_2_code (2 : Nat) (Option.none : Option Jvm.ClassFile.FieldType)).before args0 about1 = true := code_word (m := ⟨10, 1⟩) (meth := k10m1) (c := k10c1) (by decide +kernel) rfl rfl rfl (by decide +kernel)
set_option maxRecDepth 65536 in
theorem w_c8 : (Jvm.Cond.code ({ cls := "com/example/tugas/tugas/cli/Http", name := "headStart", desc := "(Ljava/lang/String;Ljava/lang/String;Ljava/lang/String;)Ljava/lang/String;" } : Jvm.MethodName) prog_21_method_4_code (3 : Nat) (Option.some (Jvm.ClassFile.FieldType.object "java/lang/String"))).before args0 about1 = true := code_word (m := ⟨8, 2⟩) (meth := k8m2) (c := k8c2) (by decide +kernel) rfl rfl rfl (by decide +kernel)
set_option maxRecDepth 65536 in
theorem w_c9 : (Jvm.Cond.code ({ cls := "java/lang/StringBuilder", name := "append", desc := "(Ljava/lang/String;)Ljava/lang/StringBuilder;" } : Jvm.MethodName) jdk_67_method_7_code (2 : Nat) (Option.some (Jvm.ClassFile.FieldType.object "java/lang/StringBuilder"))).before args0 about1 = true := code_word (m := ⟨11, 1⟩) (meth := k11m1) (c := k11c1) (by decide +kernel) rfl rfl rfl (by decide +kernel)
set_option maxRecDepth 65536 in
theorem w_c10 : (Jvm.Cond.code ({ cls := "java/lang/AbstractStringBuilder", name := "append", desc := "(Ljava/lang/String;)Ljava/lang/AbstractStringBuilder;" } : Jvm.MethodName) jdk_68_method_22_code (3 : Nat) (Option.some (Jvm.ClassFile.FieldType.object "java/lang/AbstractStringBuilder"))).before args0 about1 = true := code_word (m := ⟨10, 5⟩) (meth := k10m5) (c := k10c5) (by decide +kernel) rfl rfl rfl (by decide +kernel)
set_option maxRecDepth 65536 in
theorem w_c11 : (Jvm.Cond.code ({ cls := "java/lang/String", name := "length", desc := "()I" } : Jvm.MethodName) jdk_42_method_54_code (1 : Nat) (Option.some Jvm.ClassFile.FieldType.int)).before args0 about1 = true := code_word (m := ⟨7, 6⟩) (meth := k7m6) (c := k7c6) (by decide +kernel) rfl rfl rfl (by decide +kernel)
set_option maxRecDepth 65536 in
theorem w_c12 : (Jvm.Cond.code ({ cls := "java/lang/String", name := "coder", desc := "()B" } : Jvm.MethodName) jdk_42_method_152_code (1 : Nat) (Option.some Jvm.ClassFile.FieldType.byte)).before args0 about1 = true := code_word (m := ⟨7, 13⟩) (meth := k7m13) (c := k7c13) (by decide +kernel) rfl rfl rfl (by decide +kernel)
set_option maxRecDepth 65536 in
theorem w_c13 : (Jvm.Cond.code ({ cls := "java/lang/AbstractStringBuilder", name := "ensureCapacityInternal", desc := "(I)V" } : Jvm.MethodName) jdk_68_method_9_code (3 : Nat) (Option.none : Option Jvm.ClassFile.FieldType)).before args0 about1 = true := code_word (m := ⟨10, 3⟩) (meth := k10m3) (c := k10c3) (by decide +kernel) rfl rfl rfl (by decide +kernel)
set_option maxRecDepth 65536 in
theorem w_c14 : (Jvm.Cond.code ({ cls := "java/lang/AbstractStringBuilder", name := "putStringAt", desc := "(ILjava/lang/String;)V" } : Jvm.MethodName) jdk_68_method_73_code (3 : Nat) (Option.none : Option Jvm.ClassFile.FieldType)).before args0 about1 = true := code_word (m := ⟨10, 9⟩) (meth := k10m9) (c := k10c9) (by decide +kernel) rfl rfl rfl (by decide +kernel)
set_option maxRecDepth 65536 in
theorem w_c15 : (Jvm.Cond.code ({ cls := "java/lang/AbstractStringBuilder", name := "inflateIfNeededFor", desc := "(Ljava/lang/String;)V" } : Jvm.MethodName) jdk_68_method_71_code (2 : Nat) (Option.none : Option Jvm.ClassFile.FieldType)).before args0 about1 = true := code_word (m := ⟨10, 8⟩) (meth := k10m8) (c := k10c8) (by decide +kernel) rfl rfl rfl (by decide +kernel)
set_option maxRecDepth 65536 in
theorem w_c16 : (Jvm.Cond.code ({ cls := "java/lang/String", name := "getBytes", desc := "([BIB)V" } : Jvm.MethodName) jdk_42_method_147_code (4 : Nat) (Option.none : Option Jvm.ClassFile.FieldType)).before args0 about1 = true := code_word (m := ⟨7, 9⟩) (meth := k7m9) (c := k7c9) (by decide +kernel) rfl rfl rfl (by decide +kernel)
set_option maxRecDepth 65536 in
theorem w_c17 : (Jvm.Cond.code ({ cls := "java/lang/AbstractStringBuilder", name := "newCapacity", desc := "(I)I" } : Jvm.MethodName) jdk_68_method_10_code (6 : Nat) (Option.some Jvm.ClassFile.FieldType.int)).before args0 about1 = true := code_word (m := ⟨10, 4⟩) (meth := k10m4) (c := k10c4) (by decide +kernel) rfl rfl rfl (by decide +kernel)
set_option maxRecDepth 65536 in
theorem w_c18 : (Jvm.Cond.code ({ cls := "jdk/internal/util/ArraysSupport", name := "newLength", desc := "(III)I" } : Jvm.MethodName) jdk_48_method_27_code (4 : Nat) (Option.some Jvm.ClassFile.FieldType.int)).before args0 about1 = true := code_word (m := ⟨13, 1⟩) (meth := k13m1) (c := k13c1) (by decide +kernel) rfl rfl rfl (by decide +kernel)
set_option maxRecDepth 65536 in
theorem w_c19 : (Jvm.Cond.code ({ cls := "java/lang/Math", name := "max", desc := "(II)I" } : Jvm.MethodName) jdk_29_method_65_code (2 : Nat) (Option.some Jvm.ClassFile.FieldType.int)).before args0 about1 = true := code_word (m := ⟨14, 1⟩) (meth := k14m1) (c := k14c1) (by decide +kernel) rfl rfl rfl (by decide +kernel)
set_option maxRecDepth 65536 in
theorem w_c20 : (Jvm.Cond.code ({ cls := "java/util/Arrays", name := "copyOf", desc := "([BI)[B" } : Jvm.MethodName) jdk_65_method_121_code (3 : Nat) (Option.some (Jvm.ClassFile.FieldType.array Jvm.ClassFile.FieldType.byte))).before args0 about1 = true := code_word (m := ⟨15, 1⟩) (meth := k15m1) (c := k15c1) (by decide +kernel) rfl rfl rfl (by decide +kernel)
set_option maxRecDepth 65536 in
theorem w_c21 : (Jvm.Cond.code ({ cls := "java/lang/Math", name := "min", desc := "(II)I" } : Jvm.MethodName) jdk_29_method_69_code (2 : Nat) (Option.some Jvm.ClassFile.FieldType.int)).before args0 about1 = true := code_word (m := ⟨14, 2⟩) (meth := k14m2) (c := k14c2) (by decide +kernel) rfl rfl rfl (by decide +kernel)
set_option maxRecDepth 65536 in
theorem w_c22 : (Jvm.Cond.code ({ cls := "java/lang/StringBuilder", name := "toString", desc := "()Ljava/lang/String;" } : Jvm.MethodName) jdk_67_method_42_code (1 : Nat) (Option.some (Jvm.ClassFile.FieldType.object "java/lang/String"))).before args0 about1 = true := code_word (m := ⟨11, 2⟩) (meth := k11m2) (c := k11c2) (by decide +kernel) rfl rfl rfl (by decide +kernel)
set_option maxRecDepth 65536 in
theorem w_c23 : (Jvm.Cond.code ({ cls := "java/lang/String", name := "<init>", desc := "(Ljava/lang/StringBuilder;)V" } : Jvm.MethodName) jdk_42_method_53_code (2 : Nat) (Option.none : Option Jvm.ClassFile.FieldType)).before args0 about1 = true := code_word (m := ⟨7, 5⟩) (meth := k7m5) (c := k7c5) (by decide +kernel) rfl rfl rfl (by decide +kernel)
set_option maxRecDepth 65536 in
theorem w_c24 : (Jvm.Cond.code ({ cls := "java/lang/String", name := "<init>", desc := "(Ljava/lang/AbstractStringBuilder;Ljava/lang/Void;)V" } : Jvm.MethodName) jdk_42_method_150_code (5 : Nat) (Option.none : Option Jvm.ClassFile.FieldType)).before args0 about1 = true := code_word (m := ⟨7, 11⟩) (meth := k7m11) (c := k7c11) (by decide +kernel) rfl rfl rfl (by decide +kernel)
set_option maxRecDepth 65536 in
theorem w_c25 : (Jvm.Cond.code ({ cls := "java/lang/AbstractStringBuilder", name := "getValue", desc := "()[B" } : Jvm.MethodName) jdk_68_method_64_code (1 : Nat) (Option.some (Jvm.ClassFile.FieldType.array Jvm.ClassFile.FieldType.byte))).before args0 about1 = true := code_word (m := ⟨10, 6⟩) (meth := k10m6) (c := k10c6) (by decide +kernel) rfl rfl rfl (by decide +kernel)
set_option maxRecDepth 65536 in
theorem w_c26 : (Jvm.Cond.code ({ cls := "java/lang/StringBuilder", name := "length", desc := "()I" } : Jvm.MethodName) jdk_67_method_93_code (1 : Nat) (Option.some Jvm.ClassFile.FieldType.int)).before args0 about1 = true := code_word (m := ⟨11, 3⟩) (meth := k11m3) (c := k11c3) (by decide +kernel) rfl rfl rfl (by decide +kernel)
set_option maxRecDepth 65536 in
theorem w_c27 : (Jvm.Cond.code ({ cls := "java/lang/AbstractStringBuilder", name := "length", desc := "()I" } : Jvm.MethodName) jdk_68_method_6_code (1 : Nat) (Option.some Jvm.ClassFile.FieldType.int)).before args0 about1 = true := code_word (m := ⟨10, 2⟩) (meth := k10m2) (c := k10c2) (by decide +kernel) rfl rfl rfl (by decide +kernel)
set_option maxRecDepth 65536 in
theorem w_c28 : (Jvm.Cond.code ({ cls := "java/lang/AbstractStringBuilder", name := "isLatin1", desc := "()Z" } : Jvm.MethodName) jdk_68_method_68_code (1 : Nat) (Option.some Jvm.ClassFile.FieldType.boolean)).before args0 about1 = true := code_word (m := ⟨10, 7⟩) (meth := k10m7) (c := k10c7) (by decide +kernel) rfl rfl rfl (by decide +kernel)
set_option maxRecDepth 65536 in
theorem w_c29 : (Jvm.Cond.code ({ cls := "java/util/Arrays", name := "copyOfRange", desc := "([BII)[B" } : Jvm.MethodName) jdk_65_method_132_code (3 : Nat) (Option.some (Jvm.ClassFile.FieldType.array Jvm.ClassFile.FieldType.byte))).before args0 about1 = true := code_word (m := ⟨15, 3⟩) (meth := k15m3) (c := k15c3) (by decide +kernel) rfl rfl rfl (by decide +kernel)
set_option maxRecDepth 65536 in
theorem w_c30 : (Jvm.Cond.code ({ cls := "java/util/Arrays", name := "copyOfRangeByte", desc := "([BII)[B" } : Jvm.MethodName) jdk_65_method_133_code (5 : Nat) (Option.some (Jvm.ClassFile.FieldType.array Jvm.ClassFile.FieldType.byte))).before args0 about1 = true := code_word (m := ⟨15, 4⟩) (meth := k15m4) (c := k15c4) (by decide +kernel) rfl rfl rfl (by decide +kernel)
set_option maxRecDepth 65536 in
theorem w_c31 : (Jvm.Cond.code ({ cls := "java/util/Arrays", name := "checkLength", desc := "(II)V" } : Jvm.MethodName) jdk_65_method_131_code (2 : Nat) (Option.none : Option Jvm.ClassFile.FieldType)).before args0 about1 = true := code_word (m := ⟨15, 2⟩) (meth := k15m2) (c := k15c2) (by decide +kernel) rfl rfl rfl (by decide +kernel)
set_option maxRecDepth 65536 in
theorem w_c32 : (Jvm.Cond.code ({ cls := "java/lang/String", name := "getBytes", desc := "(Ljava/nio/charset/Charset;)[B" } : Jvm.MethodName) jdk_42_method_64_code (2 : Nat) (Option.some (Jvm.ClassFile.FieldType.array Jvm.ClassFile.FieldType.byte))).before args0 about1 = true := code_word (m := ⟨7, 7⟩) (meth := k7m7) (c := k7c7) (by decide +kernel) rfl rfl rfl (by decide +kernel)
set_option maxRecDepth 65536 in
theorem w_c33 : (Jvm.Cond.code ({ cls := "java/lang/String", name := "encode", desc := "(Ljava/nio/charset/Charset;B[B)[B" } : Jvm.MethodName) jdk_42_method_18_code (3 : Nat) (Option.some (Jvm.ClassFile.FieldType.array Jvm.ClassFile.FieldType.byte))).before args0 about1 = true := code_word (m := ⟨7, 2⟩) (meth := k7m2) (c := k7c2) (by decide +kernel) rfl rfl rfl (by decide +kernel)
set_option maxRecDepth 65536 in
theorem w_c34 : (Jvm.Cond.code ({ cls := "java/lang/String", name := "encodeASCII", desc := "(B[B)[B" } : Jvm.MethodName) jdk_42_method_24_code (7 : Nat) (Option.some (Jvm.ClassFile.FieldType.array Jvm.ClassFile.FieldType.byte))).before args0 about1 = true := code_word (m := ⟨7, 3⟩) (meth := k7m3) (c := k7c3) (by decide +kernel) rfl rfl rfl (by decide +kernel)
set_option maxRecDepth 65536 in
theorem w_c35 : (Jvm.Cond.code ({ cls := "java/lang/StringCoding", name := "countPositives", desc := "([BII)I" } : Jvm.MethodName) jdk_123_method_3_code (5 : Nat) (Option.some Jvm.ClassFile.FieldType.int)).before args0 about1 = true := code_word (m := ⟨23, 1⟩) (meth := k23m1) (c := k23c1) (by decide +kernel) rfl rfl rfl (by decide +kernel)
set_option maxRecDepth 65536 in
theorem w_c36 : (Jvm.Cond.code ({ cls := "com/example/tugas/tugas/cli/HttpGetPinLaw", name := "at", desc := "([BII)Z" } : Jvm.MethodName) method_5_code (3 : Nat) (Option.some Jvm.ClassFile.FieldType.boolean)).before args0 about1 = true := code_word (m := ⟨1, 4⟩) (meth := k1m4) (c := k1c4) (by decide +kernel) rfl rfl rfl (by decide +kernel)
set_option maxRecDepth 65536 in
theorem w_c37 : (Jvm.Cond.code ({ cls := "java/lang/StringUTF16", name := "compress", desc := "([CII)[B" } : Jvm.MethodName) jdk_52_method_16_code (6 : Nat) (Option.some (Jvm.ClassFile.FieldType.array Jvm.ClassFile.FieldType.byte))).before args0 about1 = true := code_word (m := ⟨25, 2⟩) (meth := k25m2) (c := k25c2) (by decide +kernel) rfl rfl rfl (by decide +kernel)
set_option maxRecDepth 65536 in
theorem w_c38 : (Jvm.Cond.code ({ cls := "java/lang/StringUTF16", name := "compress", desc := "([CI[BII)I" } : Jvm.MethodName) jdk_52_method_21_code (7 : Nat) (Option.some Jvm.ClassFile.FieldType.int)).before args0 about1 = true := code_word (m := ⟨25, 3⟩) (meth := k25m3) (c := k25c3) (by decide +kernel) rfl rfl rfl (by decide +kernel)
set_option maxRecDepth 65536 in
theorem w_c39 : (Jvm.Cond.code ({ cls := "java/lang/StringUTF16", name := "coderFromArrayLen", desc := "([BI)B" } : Jvm.MethodName) jdk_52_method_15_code (2 : Nat) (Option.some Jvm.ClassFile.FieldType.byte)).before args0 about1 = true := code_word (m := ⟨25, 1⟩) (meth := k25m1) (c := k25c1) (by decide +kernel) rfl rfl rfl (by decide +kernel)
set_option maxRecDepth 65536 in
theorem w_c40 : (Jvm.Cond.code ({ cls := "java/lang/String", name := "replaceNegatives", desc := "([BI)V" } : Jvm.MethodName) jdk_42_method_25_code (3 : Nat) (Option.none : Option Jvm.ClassFile.FieldType)).before args0 about1 = true := code_word (m := ⟨7, 4⟩) (meth := k7m4) (c := k7c4) (by decide +kernel) rfl rfl rfl (by decide +kernel)
set_option maxRecDepth 65536 in
theorem w_c41 : (Jvm.Cond.code ({ cls := "com/example/tugas/tugas/cli/HttpGetPinLaw", name := "enc", desc := "(C)I" } : Jvm.MethodName) method_4_code (1 : Nat) (Option.some Jvm.ClassFile.FieldType.int)).before args0 about1 = true := code_word (m := ⟨1, 3⟩) (meth := k1m3) (c := k1c3) (by decide +kernel) rfl rfl rfl (by decide +kernel)
set_option maxRecDepth 65536 in
theorem w_c42 : (Jvm.Cond.code ({ cls := "java/lang/String", name := "valueOf", desc := "(C)Ljava/lang/String;" } : Jvm.MethodName) jdk_42_method_139_code (1 : Nat) (Option.some (Jvm.ClassFile.FieldType.object "java/lang/String"))).before args0 about1 = true := code_word (m := ⟨7, 8⟩) (meth := k7m8) (c := k7c8) (by decide +kernel) rfl rfl rfl (by decide +kernel)
set_option maxRecDepth 65536 in
theorem w_c43 : (Jvm.Cond.code ({ cls := "java/lang/StringLatin1", name := "canEncode", desc := "(C)Z" } : Jvm.MethodName) jdk_43_method_3_code (1 : Nat) (Option.some Jvm.ClassFile.FieldType.boolean)).before args0 about1 = true := code_word (m := ⟨26, 1⟩) (meth := k26m1) (c := k26c1) (by decide +kernel) rfl rfl rfl (by decide +kernel)
set_option maxRecDepth 65536 in
theorem w_c44 : (Jvm.Cond.code ({ cls := "java/lang/StringLatin1", name := "toBytes", desc := "(C)[B" } : Jvm.MethodName) jdk_43_method_46_code (1 : Nat) (Option.some (Jvm.ClassFile.FieldType.array Jvm.ClassFile.FieldType.byte))).before args0 about1 = true := code_word (m := ⟨26, 2⟩) (meth := k26m2) (c := k26c2) (by decide +kernel) rfl rfl rfl (by decide +kernel)
set_option maxRecDepth 65536 in
theorem w_c45 : (Jvm.Cond.code ({ cls := "java/lang/String", name := "<init>", desc := "([BB)V" } : Jvm.MethodName) jdk_42_method_151_code (3 : Nat) (Option.none : Option Jvm.ClassFile.FieldType)).before args0 about1 = true := code_word (m := ⟨7, 12⟩) (meth := k7m12) (c := k7c12) (by decide +kernel) rfl rfl rfl (by decide +kernel)
def codes1 : List Jvm.Cond := [Jvm.Cond.code x code maxLocals ret, Jvm.Cond.code ({ cls := "com/example/tugas/tugas/cli/HttpGetPinLaw", name := "make", desc := "(ICC)Ljava/lang/String;" } : Jvm.MethodName) method_3_code (3 : Nat) (Option.some (Jvm.ClassFile.FieldType.object "java/lang/String")), Jvm.Cond.code ({ cls := "java/lang/String", name := "<init>", desc := "([C)V" } : Jvm.MethodName) jdk_42_method_3_code (2 : Nat) (Option.none : Option Jvm.ClassFile.FieldType), Jvm.Cond.code ({ cls := "java/lang/String", name := "<init>", desc := "([CIILjava/lang/Void;)V" } : Jvm.MethodName) jdk_42_method_149_code (6 : Nat) (Option.none : Option Jvm.ClassFile.FieldType), Jvm.Cond.code ({ cls := "java/lang/Object", name := "<init>", desc := "()V" } : Jvm.MethodName) object_method_1_code (1 : Nat) (Option.none : Option Jvm.ClassFile.FieldType), Jvm.Cond.code ({ cls := "com/example/tugas/tugas/cli/Http", name := "get", desc := "(Ljava/lang/String;Ljava/lang/String;)[B" } : Jvm.MethodName) prog_21_method_2_code (2 : Nat) (Option.some (Jvm.ClassFile.FieldType.array Jvm.ClassFile.FieldType.byte)), Jvm.Cond.code ({ cls := "java/lang/StringBuilder", name := "<init>", desc := "()V" } : Jvm.MethodName) jdk_67_method_1_code (1 : Nat) (Option.none : Option Jvm.ClassFile.FieldType), Jvm.Cond.code ({ cls := "java/lang/AbstractStringBuilder", name := "<init>", desc := "(I)V" } : Jvm.MethodName) jdk_68_method_2_code (2 : Nat) (Option.none : Option Jvm.ClassFile.FieldType), Jvm.Cond.code ({ cls := "com/example/tugas/tugas/cli/Http", name := "headStart", desc := "(Ljava/lang/String;Ljava/lang/String;Ljava/lang/String;)Ljava/lang/String;" } : Jvm.MethodName) prog_21_method_4_code (3 : Nat) (Option.some (Jvm.ClassFile.FieldType.object "java/lang/String")), Jvm.Cond.code ({ cls := "java/lang/StringBuilder", name := "append", desc := "(Ljava/lang/String;)Ljava/lang/StringBuilder;" } : Jvm.MethodName) jdk_67_method_7_code (2 : Nat) (Option.some (Jvm.ClassFile.FieldType.object "java/lang/StringBuilder")), Jvm.Cond.code ({ cls := "java/lang/AbstractStringBuilder", name := "append", desc := "(Ljava/lang/String;)Ljava/lang/AbstractStringBuilder;" } : Jvm.MethodName) jdk_68_method_22_code (3 : Nat) (Option.some (Jvm.ClassFile.FieldType.object "java/lang/AbstractStringBuilder")), Jvm.Cond.code ({ cls := "java/lang/String", name := "length", desc := "()I" } : Jvm.MethodName) jdk_42_method_54_code (1 : Nat) (Option.some Jvm.ClassFile.FieldType.int), Jvm.Cond.code ({ cls := "java/lang/String", name := "coder", desc := "()B" } : Jvm.MethodName) jdk_42_method_152_code (1 : Nat) (Option.some Jvm.ClassFile.FieldType.byte), Jvm.Cond.code ({ cls := "java/lang/AbstractStringBuilder", name := "ensureCapacityInternal", desc := "(I)V" } : Jvm.MethodName) jdk_68_method_9_code (3 : Nat) (Option.none : Option Jvm.ClassFile.FieldType), Jvm.Cond.code ({ cls := "java/lang/AbstractStringBuilder", name := "putStringAt", desc := "(ILjava/lang/String;)V" } : Jvm.MethodName) jdk_68_method_73_code (3 : Nat) (Option.none : Option Jvm.ClassFile.FieldType), Jvm.Cond.code ({ cls := "java/lang/AbstractStringBuilder", name := "inflateIfNeededFor", desc := "(Ljava/lang/String;)V" } : Jvm.MethodName) jdk_68_method_71_code (2 : Nat) (Option.none : Option Jvm.ClassFile.FieldType), Jvm.Cond.code ({ cls := "java/lang/String", name := "getBytes", desc := "([BIB)V" } : Jvm.MethodName) jdk_42_method_147_code (4 : Nat) (Option.none : Option Jvm.ClassFile.FieldType), Jvm.Cond.code ({ cls := "java/lang/AbstractStringBuilder", name := "newCapacity", desc := "(I)I" } : Jvm.MethodName) jdk_68_method_10_code (6 : Nat) (Option.some Jvm.ClassFile.FieldType.int), Jvm.Cond.code ({ cls := "jdk/internal/util/ArraysSupport", name := "newLength", desc := "(III)I" } : Jvm.MethodName) jdk_48_method_27_code (4 : Nat) (Option.some Jvm.ClassFile.FieldType.int), Jvm.Cond.code ({ cls := "java/lang/Math", name := "max", desc := "(II)I" } : Jvm.MethodName) jdk_29_method_65_code (2 : Nat) (Option.some Jvm.ClassFile.FieldType.int), Jvm.Cond.code ({ cls := "java/util/Arrays", name := "copyOf", desc := "([BI)[B" } : Jvm.MethodName) jdk_65_method_121_code (3 : Nat) (Option.some (Jvm.ClassFile.FieldType.array Jvm.ClassFile.FieldType.byte)), Jvm.Cond.code ({ cls := "java/lang/Math", name := "min", desc := "(II)I" } : Jvm.MethodName) jdk_29_method_69_code (2 : Nat) (Option.some Jvm.ClassFile.FieldType.int), Jvm.Cond.code ({ cls := "java/lang/StringBuilder", name := "toString", desc := "()Ljava/lang/String;" } : Jvm.MethodName) jdk_67_method_42_code (1 : Nat) (Option.some (Jvm.ClassFile.FieldType.object "java/lang/String")), Jvm.Cond.code ({ cls := "java/lang/String", name := "<init>", desc := "(Ljava/lang/StringBuilder;)V" } : Jvm.MethodName) jdk_42_method_53_code (2 : Nat) (Option.none : Option Jvm.ClassFile.FieldType), Jvm.Cond.code ({ cls := "java/lang/String", name := "<init>", desc := "(Ljava/lang/AbstractStringBuilder;Ljava/lang/Void;)V" } : Jvm.MethodName) jdk_42_method_150_code (5 : Nat) (Option.none : Option Jvm.ClassFile.FieldType), Jvm.Cond.code ({ cls := "java/lang/AbstractStringBuilder", name := "getValue", desc := "()[B" } : Jvm.MethodName) jdk_68_method_64_code (1 : Nat) (Option.some (Jvm.ClassFile.FieldType.array Jvm.ClassFile.FieldType.byte)), Jvm.Cond.code ({ cls := "java/lang/StringBuilder", name := "length", desc := "()I" } : Jvm.MethodName) jdk_67_method_93_code (1 : Nat) (Option.some Jvm.ClassFile.FieldType.int), Jvm.Cond.code ({ cls := "java/lang/AbstractStringBuilder", name := "length", desc := "()I" } : Jvm.MethodName) jdk_68_method_6_code (1 : Nat) (Option.some Jvm.ClassFile.FieldType.int), Jvm.Cond.code ({ cls := "java/lang/AbstractStringBuilder", name := "isLatin1", desc := "()Z" } : Jvm.MethodName) jdk_68_method_68_code (1 : Nat) (Option.some Jvm.ClassFile.FieldType.boolean), Jvm.Cond.code ({ cls := "java/util/Arrays", name := "copyOfRange", desc := "([BII)[B" } : Jvm.MethodName) jdk_65_method_132_code (3 : Nat) (Option.some (Jvm.ClassFile.FieldType.array Jvm.ClassFile.FieldType.byte)), Jvm.Cond.code ({ cls := "java/util/Arrays", name := "copyOfRangeByte", desc := "([BII)[B" } : Jvm.MethodName) jdk_65_method_133_code (5 : Nat) (Option.some (Jvm.ClassFile.FieldType.array Jvm.ClassFile.FieldType.byte)), Jvm.Cond.code ({ cls := "java/util/Arrays", name := "checkLength", desc := "(II)V" } : Jvm.MethodName) jdk_65_method_131_code (2 : Nat) (Option.none : Option Jvm.ClassFile.FieldType), Jvm.Cond.code ({ cls := "java/lang/String", name := "getBytes", desc := "(Ljava/nio/charset/Charset;)[B" } : Jvm.MethodName) jdk_42_method_64_code (2 : Nat) (Option.some (Jvm.ClassFile.FieldType.array Jvm.ClassFile.FieldType.byte)), Jvm.Cond.code ({ cls := "java/lang/String", name := "encode", desc := "(Ljava/nio/charset/Charset;B[B)[B" } : Jvm.MethodName) jdk_42_method_18_code (3 : Nat) (Option.some (Jvm.ClassFile.FieldType.array Jvm.ClassFile.FieldType.byte)), Jvm.Cond.code ({ cls := "java/lang/String", name := "encodeASCII", desc := "(B[B)[B" } : Jvm.MethodName) jdk_42_method_24_code (7 : Nat) (Option.some (Jvm.ClassFile.FieldType.array Jvm.ClassFile.FieldType.byte)), Jvm.Cond.code ({ cls := "java/lang/StringCoding", name := "countPositives", desc := "([BII)I" } : Jvm.MethodName) jdk_123_method_3_code (5 : Nat) (Option.some Jvm.ClassFile.FieldType.int), Jvm.Cond.code ({ cls := "com/example/tugas/tugas/cli/HttpGetPinLaw", name := "at", desc := "([BII)Z" } : Jvm.MethodName) method_5_code (3 : Nat) (Option.some Jvm.ClassFile.FieldType.boolean), Jvm.Cond.code ({ cls := "java/lang/StringUTF16", name := "compress", desc := "([CII)[B" } : Jvm.MethodName) jdk_52_method_16_code (6 : Nat) (Option.some (Jvm.ClassFile.FieldType.array Jvm.ClassFile.FieldType.byte)), Jvm.Cond.code ({ cls := "java/lang/StringUTF16", name := "compress", desc := "([CI[BII)I" } : Jvm.MethodName) jdk_52_method_21_code (7 : Nat) (Option.some Jvm.ClassFile.FieldType.int), Jvm.Cond.code ({ cls := "java/lang/StringUTF16", name := "coderFromArrayLen", desc := "([BI)B" } : Jvm.MethodName) jdk_52_method_15_code (2 : Nat) (Option.some Jvm.ClassFile.FieldType.byte), Jvm.Cond.code ({ cls := "java/lang/String", name := "replaceNegatives", desc := "([BI)V" } : Jvm.MethodName) jdk_42_method_25_code (3 : Nat) (Option.none : Option Jvm.ClassFile.FieldType), Jvm.Cond.code ({ cls := "com/example/tugas/tugas/cli/HttpGetPinLaw", name := "enc", desc := "(C)I" } : Jvm.MethodName) method_4_code (1 : Nat) (Option.some Jvm.ClassFile.FieldType.int), Jvm.Cond.code ({ cls := "java/lang/String", name := "valueOf", desc := "(C)Ljava/lang/String;" } : Jvm.MethodName) jdk_42_method_139_code (1 : Nat) (Option.some (Jvm.ClassFile.FieldType.object "java/lang/String")), Jvm.Cond.code ({ cls := "java/lang/StringLatin1", name := "canEncode", desc := "(C)Z" } : Jvm.MethodName) jdk_43_method_3_code (1 : Nat) (Option.some Jvm.ClassFile.FieldType.boolean), Jvm.Cond.code ({ cls := "java/lang/StringLatin1", name := "toBytes", desc := "(C)[B" } : Jvm.MethodName) jdk_43_method_46_code (1 : Nat) (Option.some (Jvm.ClassFile.FieldType.array Jvm.ClassFile.FieldType.byte)), Jvm.Cond.code ({ cls := "java/lang/String", name := "<init>", desc := "([BB)V" } : Jvm.MethodName) jdk_42_method_151_code (3 : Nat) (Option.none : Option Jvm.ClassFile.FieldType)]
set_option maxRecDepth 65536 in
theorem codes_eq : words1.filter isCode = codes1 := rfl
theorem w_codes : ∀ c ∈ words1.filter isCode, c.before args0 about1 = true := by
  rw [codes_eq]
  intro c hc
  simp only [codes1, List.mem_cons, List.not_mem_nil, or_false] at hc
  rcases hc with rfl | rfl | rfl | rfl | rfl | rfl | rfl | rfl | rfl | rfl | rfl | rfl | rfl | rfl | rfl | rfl | rfl | rfl | rfl | rfl | rfl | rfl | rfl | rfl | rfl | rfl | rfl | rfl | rfl | rfl | rfl | rfl | rfl | rfl | rfl | rfl | rfl | rfl | rfl | rfl | rfl | rfl | rfl | rfl | rfl | rfl
  · exact w_c0
  · exact w_c1
  · exact w_c2
  · exact w_c3
  · exact w_c4
  · exact w_c5
  · exact w_c6
  · exact w_c7
  · exact w_c8
  · exact w_c9
  · exact w_c10
  · exact w_c11
  · exact w_c12
  · exact w_c13
  · exact w_c14
  · exact w_c15
  · exact w_c16
  · exact w_c17
  · exact w_c18
  · exact w_c19
  · exact w_c20
  · exact w_c21
  · exact w_c22
  · exact w_c23
  · exact w_c24
  · exact w_c25
  · exact w_c26
  · exact w_c27
  · exact w_c28
  · exact w_c29
  · exact w_c30
  · exact w_c31
  · exact w_c32
  · exact w_c33
  · exact w_c34
  · exact w_c35
  · exact w_c36
  · exact w_c37
  · exact w_c38
  · exact w_c39
  · exact w_c40
  · exact w_c41
  · exact w_c42
  · exact w_c43
  · exact w_c44
  · exact w_c45
set_option maxRecDepth 65536 in
theorem w_t1 : (words1.take 24).all (fun c => isCode c || c.before args0 about1) = true := by decide +kernel
set_option maxRecDepth 65536 in
theorem w_t2 : ((words1.drop 24).take 24).all (fun c => isCode c || c.before args0 about1) = true := by decide +kernel
set_option maxRecDepth 65536 in
theorem w_t3 : (((words1.drop 24).drop 24).take 24).all (fun c => isCode c || c.before args0 about1) = true := by decide +kernel
set_option maxRecDepth 65536 in
theorem w_t4 : ((((words1.drop 24).drop 24).drop 24).take 24).all (fun c => isCode c || c.before args0 about1) = true := by decide +kernel
set_option maxRecDepth 65536 in
theorem w_t5 : (((((words1.drop 24).drop 24).drop 24).drop 24).take 24).all (fun c => isCode c || c.before args0 about1) = true := by decide +kernel
set_option maxRecDepth 65536 in
theorem w_t6 : ((((((words1.drop 24).drop 24).drop 24).drop 24).drop 24).take 24).all (fun c => isCode c || c.before args0 about1) = true := by decide +kernel
set_option maxRecDepth 65536 in
theorem w_t7 : (((((((words1.drop 24).drop 24).drop 24).drop 24).drop 24).drop 24).take 24).all (fun c => isCode c || c.before args0 about1) = true := by decide +kernel
set_option maxRecDepth 65536 in
theorem w_t8 : ((((((((words1.drop 24).drop 24).drop 24).drop 24).drop 24).drop 24).drop 24).take 24).all (fun c => isCode c || c.before args0 about1) = true := by decide +kernel
set_option maxRecDepth 65536 in
theorem w_t9 : (((((((((words1.drop 24).drop 24).drop 24).drop 24).drop 24).drop 24).drop 24).drop 24).take 24).all (fun c => isCode c || c.before args0 about1) = true := by decide +kernel
set_option maxRecDepth 65536 in
theorem w_t10 : (((((((((words1.drop 24).drop 24).drop 24).drop 24).drop 24).drop 24).drop 24).drop 24).drop 24).all (fun c => isCode c || c.before args0 about1) = true := by decide +kernel
theorem w_tables : (allAtoms (Jvm.Cond.code x code maxLocals ret :: tables_1)).before args0 about1 = true := by
  rw [allAtoms_all]
  show words1.all (fun c => c.before args0 about1) = true
  refine all_split ?_ w_codes
  rw [← List.take_append_drop 24 words1, List.all_append, w_t1, ← List.take_append_drop 24 (words1.drop 24), List.all_append, w_t2, ← List.take_append_drop 24 ((words1.drop 24).drop 24), List.all_append, w_t3, ← List.take_append_drop 24 (((words1.drop 24).drop 24).drop 24), List.all_append, w_t4, ← List.take_append_drop 24 ((((words1.drop 24).drop 24).drop 24).drop 24), List.all_append, w_t5, ← List.take_append_drop 24 (((((words1.drop 24).drop 24).drop 24).drop 24).drop 24), List.all_append, w_t6, ← List.take_append_drop 24 ((((((words1.drop 24).drop 24).drop 24).drop 24).drop 24).drop 24), List.all_append, w_t7, ← List.take_append_drop 24 (((((((words1.drop 24).drop 24).drop 24).drop 24).drop 24).drop 24).drop 24), List.all_append, w_t8, ← List.take_append_drop 24 ((((((((words1.drop 24).drop 24).drop 24).drop 24).drop 24).drop 24).drop 24).drop 24), List.all_append, w_t9, w_t10]
  rfl
set_option maxRecDepth 65536 in
theorem w_rest : rest_1_c.before args0 about1 = true := by decide +kernel
set_option maxRecDepth 65536 in
theorem w_case : (Jvm.Cond.and given_1 narrow_1).before args0 about1 = true := by decide +kernel
set_option maxRecDepth 65536 in
theorem w_consts : constsHeld consts_1 about1 := Jvm.Lit.constsHeldB_iff.mp (by decide +kernel)
theorem w_applies : (headSpec (Jvm.Cond.code x code maxLocals ret :: tables_1) room_1).applies x e0.platform about1 = true :=
  (Spec.applies_iff w_frames).mpr ⟨w_running, w_runnable, w_alone, w_named, w_hears, w_ripe, w_room, w_tables⟩
theorem atStart : AtStart classFile x code maxLocals ret World_1 tables_1 room_1 Calls_1 rest_1 Pre_1 launch0 p0 e0 about1 theMethod args0 below0 :=
  ⟨lists_1, trivial, launch0.admits_env _ _ _, launch0.least_env, fairChoices_fair.cas, fairChoices_fair.clock, w_frames, w_args, w_heap, w_applies, ⟨w_consts, trivial⟩, w_rest, w_case⟩
end start1
theorem witness_1 : WitnessClaimed_1 := ⟨start1.p0, start1.e0, start1.about1, start1.theMethod, start1.args0, start1.below0, start1.atStart⟩
end Jvm.Pilot.@@N@@
