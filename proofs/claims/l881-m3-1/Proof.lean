import JvmDerived
import JvmDerived.Pilot.@@N@@Statement
import JvmDerived.Pilot.@@N@@Code
set_option linter.unusedVariables false
set_option linter.unusedSimpArgs false
namespace Jvm.RoadKit
open Sem ClassFile Op Lib Jvm.Stand Jvm.Free Jvm.LawKit
section Own
variable {p : Program} {l : Launch} {e : Env} {R : Room} {s : State} {m : MethodId} {args : Array Value} {below : List Frame} {meth : Method} {c : Code} {T : State} {locs : List Loc} {cells slots : Nat} {Z : State} {h h' : Heap} {a b : Addr} {ty : FieldType} {ws : List Addr}
/-- from the state S the run comes to an end that Q allows -/
def Go (p : Program) (e : Env) (below : List Frame) (s : State) (Q : Option Value → Heap → List Loc → Prop) (K N : Nat) (S : State) : Prop :=
  ∃ (t : State) (o : Outcome), Steps p.tables e below S t ∧ t.status = .running ∧ Ended t below o ∧ ∃ v L, o = .returned v ∧ Q v t.heap L ∧ FrameEnd s o t L K N
variable {Q : Option Value → Heap → List Loc → Prop} {K N : Nat} {S S' : State}
theorem gs (h : ∀ t, Steps p.tables e below S' t → Steps p.tables e below S t) (k : Go p e below s Q K N S') : Go p e below s Q K N S := by
  obtain ⟨t, o, a, b⟩ := k
  exact ⟨t, o, h t a, b⟩
theorem gt (h : Steps p.tables e below S S') (k : Go p e below s Q K N S') : Go p e below s Q K N S := gs (fun _ => h.trans) k
theorem goEnd (X : Stand p l e R s m args below meth c T locs cells slots) {v : Option Value} (hlocks : meth.locks = false) (hv : meth.sig.returnType = none → v = none)
    (hs : ∀ fs, (∀ (f : JFrame) (acts : List Action), f.method = m → f.locked = none → f.entered = [] → (doReturn e (T.setTop f) acts v).1 = T.setFrames fs) → Steps p.tables e below S (T.setFrames fs))
    (hQ : Q v T.heap locs) (hk : cells ≤ K) (hn : slots ≤ N) : Go p e below s Q K N S := by
  obtain ⟨fs, hr, hrun, hended, hW, hsame⟩ := X.leave (v := v) hv hlocks
  exact ⟨_, _, hs fs hr, hrun, hended, v, locs, rfl, hQ, ⟨_, rfl⟩, hW, hsame.mono hk hn⟩
theorem goV (X : Stand p l e R s m args below meth c T locs cells slots) (hx : p.tables.exec = Jvm.exec) (hlocks : meth.locks = false) (hret : meth.sig.returnType = none) {pc : Nat} {Ls : Array Slot} (hd : decode c.code pc = .ok (.return_, 1)) (hQ : Q none T.heap locs) (hk : cells ≤ K) (hn : slots ≤ N) :
    Go p e below s Q K N (T.setTop (mkF m pc Ls [])) := goEnd X hlocks (fun _ => rfl) (fun _ hr => X.returnOut hx hret hd hr) hQ hk hn
theorem goW (X : Stand p l e R s m args below meth c T locs cells slots) (hx : p.tables.exec = Jvm.exec) (hlocks : meth.locks = false) {t : FieldType} (hret : meth.sig.returnType = some t) {pc : Nat} {Ls : Array Slot} {w : Value} {i : Instr} {rest : List Value} (hn0 : narrow t w = w)
    (hi : (i = .ireturn ∧ (t = .int ∨ t = .boolean ∨ t = .byte ∨ t = .char ∨ t = .short) ∧ ∃ z, w = .int z) ∨ (i = .lreturn ∧ t = .long ∧ ∃ z, w = .long z) ∨ (i = .dreturn ∧ t = .double ∧ ∃ z, w = .double z) ∨ (i = .freturn ∧ t = .float ∧ ∃ z, w = .float z) ∨ (i = .areturn ∧ t.isReference = true ∧ w.isRef = true))
    (hd : decode c.code pc = .ok (i, 1)) (hQ : Q (some w) T.heap locs) (hk : cells ≤ K) (hn : slots ≤ N) : Go p e below s Q K N (T.setTop (mkF m pc Ls (w :: rest))) :=
  goEnd X hlocks (fun q => by rw [hret] at q; cases q) (fun _ hr => retOut X hx hret hn0 hi hd hr) hQ hk hn
theorem goI (X : Stand p l e R s m args below meth c T locs cells slots) (hx : p.tables.exec = Jvm.exec) (hlocks : meth.locks = false) (hret : meth.sig.returnType = some .int) {pc : Nat} {Ls : Array Slot} {w : Int32} {rest : List Value} (hd : decode c.code pc = .ok (.ireturn, 1)) (hQ : Q (some (.int w)) T.heap locs) (hk : cells ≤ K) (hn : slots ≤ N) :
    Go p e below s Q K N (T.setTop (mkF m pc Ls (.int w :: rest))) := goW X hx hlocks hret rfl (Or.inl ⟨rfl, Or.inl rfl, w, rfl⟩) hd hQ hk hn
theorem goJ (X : Stand p l e R s m args below meth c T locs cells slots) (hx : p.tables.exec = Jvm.exec) (hlocks : meth.locks = false) (hret : meth.sig.returnType = some .long) {pc : Nat} {Ls : Array Slot} {w : Int64} {rest : List Value} (hd : decode c.code pc = .ok (.lreturn, 1)) (hQ : Q (some (.long w)) T.heap locs) (hk : cells ≤ K) (hn : slots ≤ N) :
    Go p e below s Q K N (T.setTop (mkF m pc Ls (.long w :: rest))) := goW X hx hlocks hret rfl (Or.inr (Or.inl ⟨rfl, rfl, w, rfl⟩)) hd hQ hk hn
theorem goR (X : Stand p l e R s m args below meth c T locs cells slots) (hx : p.tables.exec = Jvm.exec) (hlocks : meth.locks = false) {t : FieldType} (hret : meth.sig.returnType = some t) (ht : t.isReference = true) {pc : Nat} {Ls : Array Slot} {w : Value} (hw : w.isRef = true) {rest : List Value} (hd : decode c.code pc = .ok (.areturn, 1)) (hQ : Q (some w) T.heap locs) (hk : cells ≤ K) (hn : slots ≤ N) :
    Go p e below s Q K N (T.setTop (mkF m pc Ls (w :: rest))) :=
  goW X hx hlocks hret (by cases t <;> simp [FieldType.isReference] at ht <;> rfl) (Or.inr (Or.inr (Or.inr (Or.inr ⟨rfl, ht, hw⟩)))) hd hQ hk hn
theorem goB (X : Stand p l e R s m args below meth c T locs cells slots) (hx : p.tables.exec = Jvm.exec) (hlocks : meth.locks = false) {t : FieldType} (hret : meth.sig.returnType = some t) (ht : t = .boolean ∨ t = .byte ∨ t = .char ∨ t = .short) {pc : Nat} {Ls : Array Slot} {z w : Int32} {rest : List Value} (hz : nar t z = w) (hd : decode c.code pc = .ok (.ireturn, 1)) (hQ : Q (some (.int w)) T.heap locs) (hk : cells ≤ K) (hn : slots ≤ N) :
    Go p e below s Q K N (T.setTop (mkF m pc Ls (.int z :: rest))) := by
  subst hz
  exact goEnd X hlocks (fun q => by rw [hret] at q; cases q) (fun _ hr => retN X hx hret ht hd hr) hQ hk hn
/-- an array of n places; the place i holds f i -/
def Arf (Z : State) (h : Heap) (a : Addr) (ty : FieldType) (n : Nat) (f : Nat → Value) : Prop := ∃ c : Cell, Arr Z h a c ty ∧ c.slots.size = n ∧ n < 2 ^ 31 ∧ ∀ i, i < n → c.slots[i]? = some (f i)
def upd (f : Nat → Value) (j : Nat) (v : Value) : Nat → Value := fun i => if i = j then v else f i
variable {n : Nat} {f g : Nat → Value} {sl : Nat} {v : Value}
theorem Arf.lt (F : Arf Z h a ty n f) : a < h.size := by obtain ⟨c, A, -⟩ := F; exact A.lt
theorem Arf.ext (F : Arf Z h a ty n f) (E : Ext h h') : Arf Z h' a ty n f := by obtain ⟨c, A, r⟩ := F; exact ⟨c, A.ext E, r⟩
theorem Arf.other (F : Arf Z h b ty n f) (W : Wr h h' a sl v) (q : b ≠ a) : Arf Z h' b ty n f := by obtain ⟨c, A, r⟩ := F; exact ⟨c, A.other W q, r⟩
theorem Arf.keep (F : Arf Z h a ty n f) (K : Keep h h' ws) (q : a ∉ ws) : Arf Z h' a ty n f := by obtain ⟨c, A, r⟩ := F; exact ⟨c, ⟨K.2.1 a c A.1 q, A.2⟩, r⟩
theorem Arf.congr (F : Arf Z h a ty n f) (q : ∀ i, i < n → f i = g i) : Arf Z h a ty n g := by
  obtain ⟨c, A, r1, r2, r3⟩ := F
  exact ⟨c, A, r1, r2, fun i hi => by rw [← q i hi]; exact r3 i hi⟩
theorem clampLt (z : Int32) : z.toNatClampNeg < 2 ^ 31 := by
  have h1 := z.toInt_lt
  have h2 : z.toNatClampNeg = z.toInt.toNat := rfl
  omega
theorem clampOf {j : Int32} (h0 : 0 ≤ j.toInt) : (j.toNatClampNeg : Int) = j.toInt := by
  have h2 : j.toNatClampNeg = j.toInt.toNat := rfl
  omega
theorem Arf.new {k : ClassId} {z : Int32} (A : Arr Z h a (newA k ty z) ty) : Arf Z h a ty z.toNatClampNeg (fun _ => defaultValue ty) := by
  refine ⟨_, A, sz_new _ _ _, clampLt z, fun i hi => ?_⟩
  simp [newA, hi]
theorem Arf.set (F : Arf Z h a ty n f) {j : Nat} (W : Wr h h' a j v) (hj : j < n) : Arf Z h' a ty n (upd f j v) := by
  obtain ⟨c, A, r1, r2, r3⟩ := F
  refine ⟨_, A.same W, by rw [sz_set]; exact r1, r2, fun i hi => ?_⟩
  by_cases q : i = j
  · subst q
    simp [Cell.setSlot, upd, r1, hi]
  · have q' : ¬ j = i := fun x => q x.symm
    simp [Cell.setSlot, upd, q, Array.getElem?_setIfInBounds_ne q', r3 i hi]
theorem inI {cl : Cell} (S : cl.slots.size = n) {j : Int32} (hj : 0 ≤ j.toInt ∧ j.toInt < n) : ¬ (j < 0 ∨ cl.slots.size ≤ j.toNatClampNeg) := by
  have q := clampOf hj.1
  rintro (h1 | h1)
  · rw [Int32.lt_iff_toInt_lt] at h1
    have : (0 : Int32).toInt = 0 := rfl
    omega
  · omega
theorem stIf (X : Stand p l e R s m args below meth c T locs cells slots) (hx : p.tables.exec = Jvm.exec) (hZ : Z.Warmed39 s.vm) (eT : T.heap = h) (F : Arf Z h a .int n f) {j x : Int32} (hj : 0 ≤ j.toInt ∧ j.toInt < n) {g : JFrame} (hg : g.method = m) {rest : List Value} (hs : g.stack = .int x :: .int j :: .ref a :: rest) (hd : decode c.code g.pc = .ok (.iastore, 1)) :
    ∃ T' h', Stand p l e R s m args below meth c T' (locs ++ [⟨a, j.toNatClampNeg⟩]) cells slots ∧ T'.heap = h' ∧ Wr h h' a j.toNatClampNeg (.int x) ∧ Arf Z h' a .int n (upd f j.toNatClampNeg (.int x)) ∧ ∀ target, Steps p.tables e below (T'.setTop { g with pc := g.pc + 1, stack := rest }) target → Steps p.tables e below (T.setTop g) target := by
  obtain ⟨cl, A, r1, r2, r3⟩ := id F
  obtain ⟨T', h', X', e', W, st⟩ := stI X hx hZ eT A (j := j) (x := x) (inI r1 hj) hg hs hd
  have q := clampOf hj.1
  exact ⟨T', h', X', e', W, F.set W (by omega), st⟩
theorem stJf (X : Stand p l e R s m args below meth c T locs cells slots) (hx : p.tables.exec = Jvm.exec) (hZ : Z.Warmed39 s.vm) (eT : T.heap = h) (F : Arf Z h a .long n f) {j : Int32} {x : Int64} (hj : 0 ≤ j.toInt ∧ j.toInt < n) {g : JFrame} (hg : g.method = m) {rest : List Value} (hs : g.stack = .long x :: .int j :: .ref a :: rest) (hd : decode c.code g.pc = .ok (.lastore, 1)) :
    ∃ T' h', Stand p l e R s m args below meth c T' (locs ++ [⟨a, j.toNatClampNeg⟩]) cells slots ∧ T'.heap = h' ∧ Wr h h' a j.toNatClampNeg (.long x) ∧ Arf Z h' a .long n (upd f j.toNatClampNeg (.long x)) ∧ ∀ target, Steps p.tables e below (T'.setTop { g with pc := g.pc + 1, stack := rest }) target → Steps p.tables e below (T.setTop g) target := by
  obtain ⟨cl, A, r1, r2, r3⟩ := id F
  obtain ⟨T', h', X', e', W, st⟩ := stJ X hx hZ eT A (j := j) (x := x) (inI r1 hj) hg hs hd
  have q := clampOf hj.1
  exact ⟨T', h', X', e', W, F.set W (by omega), st⟩
theorem stBf (X : Stand p l e R s m args below meth c T locs cells slots) (hx : p.tables.exec = Jvm.exec) (hZ : Z.Warmed39 s.vm) (eT : T.heap = h) (F : Arf Z h a .byte n f) {j x : Int32} (hj : 0 ≤ j.toInt ∧ j.toInt < n) {g : JFrame} (hg : g.method = m) {rest : List Value} (hs : g.stack = .int x :: .int j :: .ref a :: rest) (hd : decode c.code g.pc = .ok (.bastore, 1)) :
    ∃ T' h', Stand p l e R s m args below meth c T' (locs ++ [⟨a, j.toNatClampNeg⟩]) cells slots ∧ T'.heap = h' ∧ Wr h h' a j.toNatClampNeg (.int (nar .byte x)) ∧ Arf Z h' a .byte n (upd f j.toNatClampNeg (.int (nar .byte x))) ∧ ∀ target, Steps p.tables e below (T'.setTop { g with pc := g.pc + 1, stack := rest }) target → Steps p.tables e below (T.setTop g) target := by
  obtain ⟨cl, A, r1, r2, r3⟩ := id F
  obtain ⟨T', h', X', e', W, st⟩ := stB X hx hZ eT A (j := j) (x := x) (inI r1 hj) hg hs hd
  have q := clampOf hj.1
  exact ⟨T', h', X', e', W, F.set W (by omega), st⟩
theorem stZf (X : Stand p l e R s m args below meth c T locs cells slots) (hx : p.tables.exec = Jvm.exec) (hZ : Z.Warmed39 s.vm) (eT : T.heap = h) (F : Arf Z h a .boolean n f) {j x : Int32} (hj : 0 ≤ j.toInt ∧ j.toInt < n) {g : JFrame} (hg : g.method = m) {rest : List Value} (hs : g.stack = .int x :: .int j :: .ref a :: rest) (hd : decode c.code g.pc = .ok (.bastore, 1)) :
    ∃ T' h', Stand p l e R s m args below meth c T' (locs ++ [⟨a, j.toNatClampNeg⟩]) cells slots ∧ T'.heap = h' ∧ Wr h h' a j.toNatClampNeg (.int (nar .boolean x)) ∧ Arf Z h' a .boolean n (upd f j.toNatClampNeg (.int (nar .boolean x))) ∧ ∀ target, Steps p.tables e below (T'.setTop { g with pc := g.pc + 1, stack := rest }) target → Steps p.tables e below (T.setTop g) target := by
  obtain ⟨cl, A, r1, r2, r3⟩ := id F
  obtain ⟨T', h', X', e', W, st⟩ := stZ X hx hZ eT A (j := j) (x := x) (inI r1 hj) hg hs hd
  have q := clampOf hj.1
  exact ⟨T', h', X', e', W, F.set W (by omega), st⟩
theorem stCf (X : Stand p l e R s m args below meth c T locs cells slots) (hx : p.tables.exec = Jvm.exec) (hZ : Z.Warmed39 s.vm) (eT : T.heap = h) (F : Arf Z h a .char n f) {j x : Int32} (hj : 0 ≤ j.toInt ∧ j.toInt < n) {g : JFrame} (hg : g.method = m) {rest : List Value} (hs : g.stack = .int x :: .int j :: .ref a :: rest) (hd : decode c.code g.pc = .ok (.castore, 1)) :
    ∃ T' h', Stand p l e R s m args below meth c T' (locs ++ [⟨a, j.toNatClampNeg⟩]) cells slots ∧ T'.heap = h' ∧ Wr h h' a j.toNatClampNeg (.int (nar .char x)) ∧ Arf Z h' a .char n (upd f j.toNatClampNeg (.int (nar .char x))) ∧ ∀ target, Steps p.tables e below (T'.setTop { g with pc := g.pc + 1, stack := rest }) target → Steps p.tables e below (T.setTop g) target := by
  obtain ⟨cl, A, r1, r2, r3⟩ := id F
  obtain ⟨T', h', X', e', W, st⟩ := stC X hx hZ eT A (j := j) (x := x) (inI r1 hj) hg hs hd
  have q := clampOf hj.1
  exact ⟨T', h', X', e', W, F.set W (by omega), st⟩
theorem stRf (X : Stand p l e R s m args below meth c T locs cells slots) (hx : p.tables.exec = Jvm.exec) (hZ : Z.Warmed39 s.vm) (eT : T.heap = h) (F : Arf Z h a ty n f) (hty : ty.isReference = true) {j : Int32} {v : Value} (hv : Sto Z h a v) (hj : 0 ≤ j.toInt ∧ j.toInt < n) {g : JFrame} (hg : g.method = m) {rest : List Value} (hs : g.stack = v :: .int j :: .ref a :: rest) (hd : decode c.code g.pc = .ok (.aastore, 1)) :
    ∃ T' h', Stand p l e R s m args below meth c T' (locs ++ [⟨a, j.toNatClampNeg⟩]) cells slots ∧ T'.heap = h' ∧ Wr h h' a j.toNatClampNeg v ∧ Arf Z h' a ty n (upd f j.toNatClampNeg v) ∧ ∀ target, Steps p.tables e below (T'.setTop { g with pc := g.pc + 1, stack := rest }) target → Steps p.tables e below (T.setTop g) target := by
  obtain ⟨cl, A, r1, r2, r3⟩ := id F
  obtain ⟨T', h', X', e', W, st⟩ := stR X hx hZ eT A (j := j) (v := v) (inI r1 hj) hty hv hg hs hd
  have q := clampOf hj.1
  exact ⟨T', h', X', e', W, F.set W (by omega), st⟩
theorem ldIf (X : Stand p l e R s m args below meth c T locs cells slots) (hx : p.tables.exec = Jvm.exec) (hZ : Z.Warmed39 s.vm) (eT : T.heap = h) (F : Arf Z h a .int n f) {j : Int32} {v : Value} (hj : 0 ≤ j.toInt ∧ j.toInt < n) (hv : f j.toNatClampNeg = v) {g : JFrame} (hg : g.method = m) {rest : List Value} (hs : g.stack = .int j :: .ref a :: rest) (hd : decode c.code g.pc = .ok (.iaload, 1)) :
    ∀ target, Steps p.tables e below (T.setTop { g with pc := g.pc + 1, stack := v :: rest }) target → Steps p.tables e below (T.setTop g) target := by
  obtain ⟨cl, A, r1, r2, r3⟩ := F
  have q := clampOf hj.1
  exact fun t => X.iaload hx (by rw [eT]; exact A.1) (State.isArrayOf_alike hZ.alike A.2.1) A.2.2 (inI r1 hj) (by rw [← hv]; exact r3 _ (by omega)) hg hs hd t
theorem ldJf (X : Stand p l e R s m args below meth c T locs cells slots) (hx : p.tables.exec = Jvm.exec) (hZ : Z.Warmed39 s.vm) (eT : T.heap = h) (F : Arf Z h a .long n f) {j : Int32} {v : Value} (hj : 0 ≤ j.toInt ∧ j.toInt < n) (hv : f j.toNatClampNeg = v) {g : JFrame} (hg : g.method = m) {rest : List Value} (hs : g.stack = .int j :: .ref a :: rest) (hd : decode c.code g.pc = .ok (.laload, 1)) :
    ∀ target, Steps p.tables e below (T.setTop { g with pc := g.pc + 1, stack := v :: rest }) target → Steps p.tables e below (T.setTop g) target := by
  obtain ⟨cl, A, r1, r2, r3⟩ := F
  have q := clampOf hj.1
  exact fun t => X.laload hx (by rw [eT]; exact A.1) (State.isArrayOf_alike hZ.alike A.2.1) A.2.2 (inI r1 hj) (by rw [← hv]; exact r3 _ (by omega)) hg hs hd t
theorem ldCf (X : Stand p l e R s m args below meth c T locs cells slots) (hx : p.tables.exec = Jvm.exec) (hZ : Z.Warmed39 s.vm) (eT : T.heap = h) (F : Arf Z h a .char n f) {j : Int32} {v : Value} (hj : 0 ≤ j.toInt ∧ j.toInt < n) (hv : f j.toNatClampNeg = v) {g : JFrame} (hg : g.method = m) {rest : List Value} (hs : g.stack = .int j :: .ref a :: rest) (hd : decode c.code g.pc = .ok (.caload, 1)) :
    ∀ target, Steps p.tables e below (T.setTop { g with pc := g.pc + 1, stack := v :: rest }) target → Steps p.tables e below (T.setTop g) target := by
  obtain ⟨cl, A, r1, r2, r3⟩ := F
  have q := clampOf hj.1
  exact fun t => X.caload hx (by rw [eT]; exact A.1) (State.isArrayOf_alike hZ.alike A.2.1) A.2.2 (inI r1 hj) (by rw [← hv]; exact r3 _ (by omega)) hg hs hd t
theorem ldBf (X : Stand p l e R s m args below meth c T locs cells slots) (hx : p.tables.exec = Jvm.exec) (hZ : Z.Warmed39 s.vm) (eT : T.heap = h) (F : Arf Z h a .byte n f) {j : Int32} {v : Value} (hj : 0 ≤ j.toInt ∧ j.toInt < n) (hv : f j.toNatClampNeg = v) {g : JFrame} (hg : g.method = m) {rest : List Value} (hs : g.stack = .int j :: .ref a :: rest) (hd : decode c.code g.pc = .ok (.baload, 1)) :
    ∀ target, Steps p.tables e below (T.setTop { g with pc := g.pc + 1, stack := v :: rest }) target → Steps p.tables e below (T.setTop g) target := by
  obtain ⟨cl, A, r1, r2, r3⟩ := F
  have q := clampOf hj.1
  exact fun t => X.baloadBytes hx (by rw [eT]; exact A.1) (State.isArrayOf_alike hZ.alike A.2.1) A.2.2 (inI r1 hj) (by rw [← hv]; exact r3 _ (by omega)) hg hs hd t
theorem ldZf (X : Stand p l e R s m args below meth c T locs cells slots) (hx : p.tables.exec = Jvm.exec) (hZ : Z.Warmed39 s.vm) (eT : T.heap = h) (F : Arf Z h a .boolean n f) {j : Int32} {v : Value} (hj : 0 ≤ j.toInt ∧ j.toInt < n) (hv : f j.toNatClampNeg = v) {g : JFrame} (hg : g.method = m) {rest : List Value} (hs : g.stack = .int j :: .ref a :: rest) (hd : decode c.code g.pc = .ok (.baload, 1)) :
    ∀ target, Steps p.tables e below (T.setTop { g with pc := g.pc + 1, stack := v :: rest }) target → Steps p.tables e below (T.setTop g) target := by
  obtain ⟨cl, A, r1, r2, r3⟩ := F
  have q := clampOf hj.1
  exact fun t => X.baloadBooleans hx (by rw [eT]; exact A.1) (State.isArrayOf_alike hZ.alike A.2.1) A.2.2 (inI r1 hj) (by rw [← hv]; exact r3 _ (by omega)) hg hs hd t
theorem ldRf (X : Stand p l e R s m args below meth c T locs cells slots) (hx : p.tables.exec = Jvm.exec) (hZ : Z.Warmed39 s.vm) (eT : T.heap = h) (F : Arf Z h a ty n f) (hty : ty.isReference = true) {j : Int32} {v : Value} (hj : 0 ≤ j.toInt ∧ j.toInt < n) (hv : f j.toNatClampNeg = v) {g : JFrame} (hg : g.method = m) {rest : List Value} (hs : g.stack = .int j :: .ref a :: rest) (hd : decode c.code g.pc = .ok (.aaload, 1)) :
    ∀ target, Steps p.tables e below (T.setTop { g with pc := g.pc + 1, stack := v :: rest }) target → Steps p.tables e below (T.setTop g) target := by
  obtain ⟨cl, A, r1, r2, r3⟩ := F
  have q := clampOf hj.1
  exact fun t => X.aaload hx (by rw [eT]; exact A.1) (State.isArrayOf_alike hZ.alike A.2.1) hty A.2.2 (inI r1 hj) (by rw [← hv]; exact r3 _ (by omega)) hg hs hd t
theorem lenf (X : Stand p l e R s m args below meth c T locs cells slots) (hx : p.tables.exec = Jvm.exec) (hZ : Z.Warmed39 s.vm) (eT : T.heap = h) (F : Arf Z h a ty n f) {z : Int32} (hz : n.toInt32 = z) {g : JFrame} (hg : g.method = m) {rest : List Value} (hs : g.stack = .ref a :: rest) (hd : decode c.code g.pc = .ok (.arraylength, 1)) :
    ∀ target, Steps p.tables e below (T.setTop { g with pc := g.pc + 1, stack := .int z :: rest }) target → Steps p.tables e below (T.setTop g) target := by
  obtain ⟨cl, A, r1, r2, r3⟩ := F
  subst hz r1
  exact fun t => X.arraylength hx (by rw [eT]; exact A.1) (State.isArrayOf_alike hZ.alike A.2.1) hg hs hd t
theorem toClamp {z : Int32} (q : 0 ≤ z.toInt) : z.toNatClampNeg.toInt32 = z := (back32 (fun h => by rw [Int32.lt_iff_toInt_lt] at h; have : (0 : Int32).toInt = 0 := rfl; omega)).1
/-- an array that takes every object of the class C -/
def Tak (Z : State) (h : Heap) (a : Addr) (C : String) : Prop := ∃ (cell : Cell) (k kc : Class) (comp : ClassId) (t : FieldType), h[a]? = some cell ∧ Z.vm.classes[cell.cls]? = some k ∧ k.kind = .array comp t ∧ Z.vm.classes[comp]? = some kc ∧ Z.vm.findClass C = some comp
variable {C : String}
theorem Tak.ext (F : Tak Z h a C) (E : Ext h h') : Tak Z h' a C := by obtain ⟨cell, k, kc, comp, t, h1, r⟩ := F; exact ⟨cell, k, kc, comp, t, E.2 _ _ h1, r⟩
theorem Tak.wr (F : Tak Z h a C) (W : Wr h h' b sl v) : Tak Z h' a C := by
  obtain ⟨cell, k, kc, comp, t, h1, h2, r⟩ := F
  obtain ⟨c', e1, e2, -⟩ := wr_at W h1
  exact ⟨c', k, kc, comp, t, e1, by rw [e2]; exact h2, r⟩
theorem Tak.keep (F : Tak Z h a C) (K : Keep h h' ws) : Tak Z h' a C := by
  obtain ⟨cell, k, kc, comp, t, h1, h2, r⟩ := F
  obtain ⟨c', e1, e2, -⟩ := K.2.2 _ _ h1
  exact ⟨c', k, kc, comp, t, e1, by rw [e2]; exact h2, r⟩
theorem Tak.sto (F : Tak Z h a C) {y : Addr} (I : Ins Z h y C true) : Sto Z h a (.ref y) := by
  obtain ⟨cell, k, kc, comp, t, h1, h2, h3, h4, h5⟩ := F
  obtain ⟨cv, cT, g1, g2, g3⟩ := I
  cases h5.symm.trans g2
  simp only [Bool.and_eq_true, Bool.not_eq_true'] at g3
  have hv : ∃ kv, Z.vm.classes[cv.cls]? = some kv := by
    cases q : Z.vm.classes[cv.cls]? with
    | some kv => exact ⟨kv, rfl⟩
    | none =>
      by_cases e : cv.cls = comp
      · rw [e, h4] at q; cases q
      · have := g3.2
        simp [Vm.assignable, Vm.assignableAux, e, q] at this
  obtain ⟨kv, hkv⟩ := hv
  exact Or.inr ⟨cell, cv, k, kv, kc, comp, t, y, h1, h2, h3, h4, rfl, g1, g3.1, hkv, g3.2⟩
theorem Tak.of {cA : ClassId} {n : Int32} (A : Arr Z h a (newA cA ty n) ty) (O : Ovr Z cA C) : Tak Z h a C := by
  obtain ⟨k, comp, o1, o2, o3⟩ := O
  obtain ⟨kc, q, -⟩ := Vm.findClass_spec o3
  exact ⟨_, k, kc, comp, _, A.1, o1, o2, q, o3⟩
theorem Tak.ofA {cA : ClassId} {n : Int32} {ty' : FieldType} (A : Arr Z h a (newA cA ty n) ty) (O : OvrA Z cA ty' C) : Tak Z h a C := by
  obtain ⟨k, comp, o1, o2, o3⟩ := O
  obtain ⟨kc, q, -⟩ := Vm.findClass_spec o3
  exact ⟨_, k, kc, comp, _, A.1, o1, o2, q, o3⟩
theorem own_eqI {t : Term} {k : Int32} {args : Array Value} {first s : State} {o : Option Outcome} {idx : List Nat} (h : (Cond.eq t (.int k)).value args first o s idx = some true) : t.eval args first o idx s = some (.int k) := by
  simp only [Cond.value, Term.eval] at h
  cases ht : t.eval args first o idx s with
  | none => simp [ht] at h
  | some x => cases x <;> simp [ht] at h ⊢ <;> exact h
end Own
end Jvm.RoadKit
namespace Jvm.Pilot.@@N@@
open Jvm Jvm.ClassFile Sem Op Lib Jvm.Free Jvm.Stand Jvm.LawKit Jvm.RoadKit Bundle Jvm.Pilot.@@N@@.Jvm.D
theorem pd_0 : parseMethodDescriptor "()V" = some ⟨[], none⟩ := by decide +kernel
theorem pd_1 : parseMethodDescriptor "(II)V" = some ⟨[.int, .int], none⟩ := by decide +kernel
theorem pd_2 : parseMethodDescriptor "()Z" = some ⟨[], some .boolean⟩ := by decide +kernel
def own_prev (a b : Int32) : Int32 := if ¬ a < 56 ∧ b = 65535 then 1 else 0
theorem own_late (x : Int32) {m : Int32} (h : (56 : Int32) + ((x &&& (2147483647 : Int32)) % (65480 : Int32)) = m) : 56 ≤ m.toInt ∧ m.toInt ≤ 65535 := by
  have e1 := c_mask x 2147483647 31 (by decide) (by decide)
  have e2 := c_irem (x &&& 2147483647) 65480 65480 rfl
  have e3 := c_iadd 56 ((x &&& 2147483647) % 65480)
  rw [h] at e3
  have k : (56 : Int32).toInt = 56 := rfl
  have r := rng32 m
  omega
theorem own_early (x : Int32) {m : Int32} (h : (45 : Int32) + ((x &&& (2147483647 : Int32)) % (11 : Int32)) = m) : 45 ≤ m.toInt ∧ m.toInt ≤ 55 := by
  have e1 := c_mask x 2147483647 31 (by decide) (by decide)
  have e2 := c_irem (x &&& 2147483647) 11 11 rfl
  have e3 := c_iadd 45 ((x &&& 2147483647) % 11)
  rw [h] at e3
  have k : (45 : Int32).toInt = 45 := rfl
  have r := rng32 m
  omega
theorem own_minor (x : Int32) {m : Int32} (h : (x &&& (2147483647 : Int32)) % (65535 : Int32) = m) : 0 ≤ m.toInt ∧ m.toInt ≤ 65534 := by
  have e1 := c_mask x 2147483647 31 (by decide) (by decide)
  have e2 := c_irem (x &&& 2147483647) 65535 65535 rfl
  rw [h] at e2
  omega
theorem own_lt {a b : Int32} : a < b ↔ a.toInt < b.toInt := Int32.lt_iff_toInt_lt
theorem own_k45 : (45 : Int32).toInt = 45 := rfl
theorem own_k56 : (56 : Int32).toInt = 56 := rfl
theorem own_k0 : (0 : Int32).toInt = 0 := rfl
theorem own_kM : (65535 : Int32).toInt = 65535 := rfl
theorem d2_0 : decode jdk_30_method_1_code 0 = .ok (.aload_n 0, 1) := by decide +kernel
theorem d2_1 : decode jdk_30_method_1_code 1 = .ok (.invokespecial 1, 3) := by decide +kernel
theorem d2_4 : decode jdk_30_method_1_code 4 = .ok (.return_, 1) := by decide +kernel
theorem pn_2 : plainName "java/lang/Record" = true := by first | (simp [plainName, overriddenIn]; done) | decide +kernel
def Qrm2 (Z : State) (r0 : Addr) (h0 : Heap) (n0 : Nat) (v : Option Value) (h : Heap) (L : List Loc) : Prop := v = none ∧ Fr n0 L ∧ h = h0
set_option maxRecDepth 65536 in
set_option maxHeartbeats 40000000 in
theorem rm2 (l : Launch) (Z : State) (a0 : Array Value) (hw : ∀ d ∈ tables_1, d.before a0 Z = true) (ws : List Jvm.Cond) (r0 : Addr) (h0 : Heap) (n0 : Nat) (Z0 : n0 ≤ h0.size) :
    MetFree l (⟨"java/lang/Record", "<init>", "()V"⟩ : MethodName) (head1 (Jvm.Cond.code (⟨"java/lang/Record", "<init>", "()V"⟩ : MethodName) jdk_30_method_1_code 1 none :: ws) ({ frames := 1, cells := 0, slots := 0, locals := 12 } : Room)) (fun a U => a = #[(.ref r0)] ∧ Z.Warmed39 U.vm ∧ U.heap = h0) (fun _ _ _ _ _ => True) (fun _ U o U' => ∃ v L, o = .returned v ∧ Qrm2 Z r0 h0 n0 v U'.heap L ∧ FrameEnd U o U' L ({ frames := 1, cells := 0, slots := 0, locals := 12 } : Room).cells ({ frames := 1, cells := 0, slots := 0, locals := 12 } : Room).slots) := by
  refine MetFree.of_bodySF (plainFor_of_name pn_2) hisR ?_
  intro p e s m args below meth c s₁ Bd hml0 hP hK
  obtain ⟨rfl, hZ, hh⟩ := hP
  have hx := Bd.exec
  have hby := Bd.bytes
  have hml : c.maxLocals = 1 := hml0
  have hown : s.vm.findClass "java/lang/Record" = some m.cls := findClass_of_methodNamed Bd.named
  have hnm := (name_of_methodNamed Bd.named Bd.method).1
  have X0 : Stand p l e ({ frames := 1, cells := 0, slots := 0, locals := 12 } : Room) s m #[(.ref r0)] below meth c s₁ [] 0 0 := Stand.of_body Bd
  have e0 : s₁.heap = h0 := by rw [← hh, Bd.state]; rfl
  have N0 := Fr.nil n0
  have ZZ := Z0
  show Go p e below s (Qrm2 Z r0 h0 n0) 0 0 (s₁.setTop (entryFrame m #[(.ref r0)] 1))
  generalize hQQ : (Qrm2 Z r0 h0 n0) = QQ
  refine gs (fun t k => castTop (g' := (mkF m 0 #[.val (.ref r0)] [])) (by first | (simp [entryFrame, mkF, argsToLocals, Value.category, maxLocals]; done) | rfl) k) ?_
  show Go p e below s QQ 0 0 (s₁.setTop (mkF m 0 #[.val (.ref r0)] []))
  refine gs (fun t => XS.aloadN X0.here hx rfl (hb hby d2_0) rfl rfl) ?_
  show Go p e below s QQ 0 0 (s₁.setTop (mkF m 1 #[.val (.ref r0)] [(.ref r0)]))
  obtain ⟨T1, X1, e1, st1⟩ := initO X0 hx hZ hown (hw _ (List.mem_of_getElem? (i := 13) rfl)) (hw _ (List.mem_of_getElem? (i := 14) rfl)) (hw _ (List.mem_of_getElem? (i := 15) rfl)) e0 (g := (mkF m 1 #[.val (.ref r0)] [(.ref r0)])) rfl (by rw [hml]; rfl) rfl (hb hby d2_1) (by decide) (W := 0) (by show 2 * 0 + _ ≤ _; exact Nat.le_of_eq rfl) (by decide)
  refine gs st1 ?_
  show Go p e below s QQ 0 0 (T1.setTop (mkF m 4 #[.val (.ref r0)] []))
  exact goV X1 hx Bd.notSynchronized Bd.returns (hb hby d2_4) (by rw [← hQQ, e1]; exact ⟨rfl, N0, rfl⟩) (by decide) (by decide)
theorem d1_0 : decode prog_68_method_1_code 0 = .ok (.aload_n 0, 1) := by decide +kernel
theorem d1_1 : decode prog_68_method_1_code 1 = .ok (.invokespecial 1, 3) := by decide +kernel
theorem d1_4 : decode prog_68_method_1_code 4 = .ok (.iload_n 1, 1) := by decide +kernel
theorem d1_5 : decode prog_68_method_1_code 5 = .ok (.bipush 45, 2) := by decide +kernel
theorem d1_7 : decode prog_68_method_1_code 7 = .ok (.if_icmp .lt 19, 3) := by decide +kernel
theorem d1_10 : decode prog_68_method_1_code 10 = .ok (.iload_n 1, 1) := by decide +kernel
theorem d1_11 : decode prog_68_method_1_code 11 = .ok (.ldc 9, 2) := by decide +kernel
theorem d1_13 : decode prog_68_method_1_code 13 = .ok (.if_icmp .gt 13, 3) := by decide +kernel
theorem d1_16 : decode prog_68_method_1_code 16 = .ok (.iload_n 2, 1) := by decide +kernel
theorem d1_17 : decode prog_68_method_1_code 17 = .ok (.ifCond .lt 9, 3) := by decide +kernel
theorem d1_20 : decode prog_68_method_1_code 20 = .ok (.iload_n 2, 1) := by decide +kernel
theorem d1_21 : decode prog_68_method_1_code 21 = .ok (.ldc 9, 2) := by decide +kernel
theorem d1_23 : decode prog_68_method_1_code 23 = .ok (.if_icmp .le 18, 3) := by decide +kernel
theorem d1_26 : decode prog_68_method_1_code 26 = .ok (.new 10, 3) := by decide +kernel
theorem d1_29 : decode prog_68_method_1_code 29 = .ok (.dup, 1) := by decide +kernel
theorem d1_30 : decode prog_68_method_1_code 30 = .ok (.iload_n 1, 1) := by decide +kernel
theorem d1_31 : decode prog_68_method_1_code 31 = .ok (.iload_n 2, 1) := by decide +kernel
theorem d1_32 : decode prog_68_method_1_code 32 = .ok (.invokedynamic 12, 5) := by decide +kernel
theorem d1_37 : decode prog_68_method_1_code 37 = .ok (.invokespecial 16, 3) := by decide +kernel
theorem d1_40 : decode prog_68_method_1_code 40 = .ok (.athrow, 1) := by decide +kernel
theorem d1_41 : decode prog_68_method_1_code 41 = .ok (.aload_n 0, 1) := by decide +kernel
theorem d1_42 : decode prog_68_method_1_code 42 = .ok (.iload_n 1, 1) := by decide +kernel
theorem d1_43 : decode prog_68_method_1_code 43 = .ok (.putfield 19, 3) := by decide +kernel
theorem d1_46 : decode prog_68_method_1_code 46 = .ok (.aload_n 0, 1) := by decide +kernel
theorem d1_47 : decode prog_68_method_1_code 47 = .ok (.iload_n 2, 1) := by decide +kernel
theorem d1_48 : decode prog_68_method_1_code 48 = .ok (.putfield 23, 3) := by decide +kernel
theorem d1_51 : decode prog_68_method_1_code 51 = .ok (.return_, 1) := by decide +kernel
theorem pn_1 : plainName "com/example/roastery/roastery/model/ClassFileVersion" = true := by first | (simp [plainName, overriddenIn]; done) | decide +kernel
def Qrm1 (Z : State) (r0 : Addr) (p1 : Int32) (p2 : Int32) (h0 : Heap) (n0 : Nat) (v : Option Value) (h : Heap) (L : List Loc) : Prop := v = none ∧ Fr n0 L ∧ Keep h0 h [r0] ∧ Fld Z h r0 "com/example/roastery/roastery/model/ClassFileVersion" "major" "I" (.int p1) ∧ Fld Z h r0 "com/example/roastery/roastery/model/ClassFileVersion" "minor" "I" (.int p2)
set_option maxRecDepth 65536 in
set_option maxHeartbeats 40000000 in
theorem rm1 (l : Launch) (Z : State) (a0 : Array Value) (hw : ∀ d ∈ tables_1, d.before a0 Z = true) (ws : List Jvm.Cond) (r0 : Addr) (p1 : Int32) (p2 : Int32) (h0 : Heap) (n0 : Nat) (Z0 : n0 ≤ h0.size) (F_major_r0 : Fld Z h0 r0 "com/example/roastery/roastery/model/ClassFileVersion" "major" "I" (.int (0 : Int32))) (F_minor_r0 : Fld Z h0 r0 "com/example/roastery/roastery/model/ClassFileVersion" "minor" "I" (.int (0 : Int32))) (E_r0 : Exa Z h0 r0 "com/example/roastery/roastery/model/ClassFileVersion") (ge_r0 : n0 ≤ r0) (h1 : ¬ (p1 < (45 : Int32))) (h2 : ¬ ((65535 : Int32) < p1)) (h3 : ¬ (p2 < (0 : Int32))) (h4 : ¬ ((65535 : Int32) < p2)) :
    MetFree l (⟨"com/example/roastery/roastery/model/ClassFileVersion", "<init>", "(II)V"⟩ : MethodName) (head1 (Jvm.Cond.code (⟨"com/example/roastery/roastery/model/ClassFileVersion", "<init>", "(II)V"⟩ : MethodName) prog_68_method_1_code 3 none :: ws) ({ frames := 2, cells := 0, slots := 0, locals := 24 } : Room)) (fun a U => a = #[(.ref r0), (.int p1), (.int p2)] ∧ Z.Warmed39 U.vm ∧ U.heap = h0) (fun _ _ _ _ _ => True) (fun _ U o U' => ∃ v L, o = .returned v ∧ Qrm1 Z r0 p1 p2 h0 n0 v U'.heap L ∧ FrameEnd U o U' L ({ frames := 2, cells := 0, slots := 0, locals := 24 } : Room).cells ({ frames := 2, cells := 0, slots := 0, locals := 24 } : Room).slots) := by
  refine MetFree.of_bodySF (plainFor_of_name pn_1) hisR ?_
  intro p e s m args below meth c s₁ Bd hml0 hP hK
  obtain ⟨rfl, hZ, hh⟩ := hP
  have hx := Bd.exec
  have hby := Bd.bytes
  have hml : c.maxLocals = 3 := hml0
  have hown : s.vm.findClass "com/example/roastery/roastery/model/ClassFileVersion" = some m.cls := findClass_of_methodNamed Bd.named
  have hnm := (name_of_methodNamed Bd.named Bd.method).1
  have X0 : Stand p l e ({ frames := 2, cells := 0, slots := 0, locals := 24 } : Room) s m #[(.ref r0), (.int p1), (.int p2)] below meth c s₁ [] 0 0 := Stand.of_body Bd
  have e0 : s₁.heap = h0 := by rw [← hh, Bd.state]; rfl
  have N0 := Fr.nil n0
  have ZZ := Z0
  have KK : Keep h0 h0 [r0] := Keep.refl h0 _
  show Go p e below s (Qrm1 Z r0 p1 p2 h0 n0) 0 0 (s₁.setTop (entryFrame m #[(.ref r0), (.int p1), (.int p2)] 3))
  generalize hQQ : (Qrm1 Z r0 p1 p2 h0 n0) = QQ
  refine gs (fun t k => castTop (g' := (mkF m 0 #[.val (.ref r0), .val (.int p1), .val (.int p2)] [])) (by first | (simp [entryFrame, mkF, argsToLocals, Value.category, maxLocals]; done) | rfl) k) ?_
  show Go p e below s QQ 0 0 (s₁.setTop (mkF m 0 #[.val (.ref r0), .val (.int p1), .val (.int p2)] []))
  refine gs (fun t => XS.aloadN X0.here hx rfl (hb hby d1_0) rfl rfl) ?_
  show Go p e below s QQ 0 0 (s₁.setTop (mkF m 1 #[.val (.ref r0), .val (.int p1), .val (.int p2)] [(.ref r0)]))
  obtain ⟨_, _, ⟨T2, L2, k2, n2⟩, -, X2, ⟨Lc2, hQ2, l2, y2, z2⟩, st2⟩ := X0.specialBack hx (y := (⟨"java/lang/Record", "<init>", "()V"⟩ : MethodName)) rfl hown (mvT hZ (hw _ (List.mem_of_getElem? (i := 8) rfl))) (mvT hZ (hw _ (List.mem_of_getElem? (i := 9) rfl))) (mvT hZ (hw _ (List.mem_of_getElem? (i := 12) rfl))) (by decide) (backOf (W := 0) (rm2 l Z a0 hw [] r0 h0 n0 ZZ ) hZ (hw _ (List.mem_of_getElem? (i := 12) rfl)) (hw _ (List.mem_of_getElem? (i := 11) rfl)) (by decide) (by decide)) (g := (mkF m 1 #[.val (.ref r0), .val (.int p1), .val (.int p2)] [(.ref r0)])) rfl (by rw [hml]; rfl) (Steps.refl _) (a := r0) (argsL := []) (rest := []) (lenOf pd_0 rfl) rfl (by show 2 * 0 + _ ≤ _; exact Nat.le_of_eq rfl) (hb hby d1_1) (fun _ _ => ⟨rfl, e0, (by decide : 0 + 0 ≤ _), (by decide : 0 + 0 ≤ _)⟩)
  dsimp only [Pt.U, Pt.locs, Pt.cells, Pt.slots] at X2 l2 y2 z2 st2 hQ2
  subst l2 y2 z2
  obtain ⟨rfl, N2q, e2⟩ := hQ2
  replace N0 := Fr.app N0 N2q
  refine gt st2 ?_
  show Go p e below s QQ 0 0 (T2.setTop (mkF m 4 #[.val (.ref r0), .val (.int p1), .val (.int p2)] []))
  refine gs (fun t => XS.iloadN X2.here hx rfl (hb hby d1_4) rfl) ?_
  show Go p e below s QQ 0 0 (T2.setTop (mkF m 5 #[.val (.ref r0), .val (.int p1), .val (.int p2)] [(.int p1)]))
  refine gs (fun t => XS.bipush X2.here hx rfl (hb hby d1_5)) ?_
  show Go p e below s QQ 0 0 (T2.setTop (mkF m 7 #[.val (.ref r0), .val (.int p1), .val (.int p2)] [(.int (45 : Int32)), (.int p1)]))
  refine gs (fun t => XS.icmpNo X2.here hx rfl (hb hby d1_7) rfl (flt (h1 : ¬ (p1 < (45 : Int32)))).1) ?_
  show Go p e below s QQ 0 0 (T2.setTop (mkF m 10 #[.val (.ref r0), .val (.int p1), .val (.int p2)] []))
  refine gs (fun t => XS.iloadN X2.here hx rfl (hb hby d1_10) rfl) ?_
  show Go p e below s QQ 0 0 (T2.setTop (mkF m 11 #[.val (.ref r0), .val (.int p1), .val (.int p2)] [(.int p1)]))
  refine gs (fun t => X2.ldcInt hx hown (mvT hZ (hw _ (List.mem_of_getElem? (i := 16) rfl))) (g := (mkF m 11 #[.val (.ref r0), .val (.int p1), .val (.int p2)] [(.int p1)])) rfl (hb hby d1_11) t) ?_
  show Go p e below s QQ 0 0 (T2.setTop (mkF m 13 #[.val (.ref r0), .val (.int p1), .val (.int p2)] [(.int (65535 : Int32)), (.int p1)]))
  refine gs (fun t => XS.icmpNo X2.here hx rfl (hb hby d1_13) rfl (flt (h2 : ¬ ((65535 : Int32) < p1))).2.2.1) ?_
  show Go p e below s QQ 0 0 (T2.setTop (mkF m 16 #[.val (.ref r0), .val (.int p1), .val (.int p2)] []))
  refine gs (fun t => XS.iloadN X2.here hx rfl (hb hby d1_16) rfl) ?_
  show Go p e below s QQ 0 0 (T2.setTop (mkF m 17 #[.val (.ref r0), .val (.int p1), .val (.int p2)] [(.int p2)]))
  refine gs (fun t => XS.ifNo X2.here hx rfl (hb hby d1_17) rfl ((if0 _ _).trans (flt (h3 : ¬ (p2 < (0 : Int32)))).1)) ?_
  show Go p e below s QQ 0 0 (T2.setTop (mkF m 20 #[.val (.ref r0), .val (.int p1), .val (.int p2)] []))
  refine gs (fun t => XS.iloadN X2.here hx rfl (hb hby d1_20) rfl) ?_
  show Go p e below s QQ 0 0 (T2.setTop (mkF m 21 #[.val (.ref r0), .val (.int p1), .val (.int p2)] [(.int p2)]))
  refine gs (fun t => X2.ldcInt hx hown (mvT hZ (hw _ (List.mem_of_getElem? (i := 16) rfl))) (g := (mkF m 21 #[.val (.ref r0), .val (.int p1), .val (.int p2)] [(.int p2)])) rfl (hb hby d1_21) t) ?_
  show Go p e below s QQ 0 0 (T2.setTop (mkF m 23 #[.val (.ref r0), .val (.int p1), .val (.int p2)] [(.int (65535 : Int32)), (.int p2)]))
  refine gs (fun t => XS.icmpYes X2.here hx rfl (pc0 := 23) (pc' := 41) rfl (hb hby d1_23) rfl (flt (h4 : ¬ ((65535 : Int32) < p2))).2.2.2 (by decide) (by decide)) ?_
  show Go p e below s QQ 0 0 (T2.setTop (mkF m 41 #[.val (.ref r0), .val (.int p1), .val (.int p2)] []))
  refine gs (fun t => XS.aloadN X2.here hx rfl (hb hby d1_41) rfl rfl) ?_
  show Go p e below s QQ 0 0 (T2.setTop (mkF m 42 #[.val (.ref r0), .val (.int p1), .val (.int p2)] [(.ref r0)]))
  refine gs (fun t => XS.iloadN X2.here hx rfl (hb hby d1_42) rfl) ?_
  show Go p e below s QQ 0 0 (T2.setTop (mkF m 43 #[.val (.ref r0), .val (.int p1), .val (.int p2)] [(.int p1), (.ref r0)]))
  obtain ⟨T3, h3, X3, e3, W3, st3⟩ := putF X2 hx hZ hown (host := "") (Or.inl (hw _ (List.mem_of_getElem? (i := 17) rfl))) Via.refl e2 F_major_r0 E_r0 (Or.inr ⟨(hw _ (List.mem_of_getElem? (i := 18) rfl)), rfl, hnm⟩) (hw _ (List.mem_of_getElem? (i := 3) rfl)) (ty := .int) (by decide) rfl rfl (g := (mkF m 43 #[.val (.ref r0), .val (.int p1), .val (.int p2)] [(.int p1), (.ref r0)])) rfl rfl (hb hby d1_43)
  replace N0 := Fr.snoc X3 N0 ge_r0
  refine gs st3 ?_
  show Go p e below s QQ 0 0 (T3.setTop (mkF m 46 #[.val (.ref r0), .val (.int p1), .val (.int p2)] []))
  replace F_major_r0 := F_major_r0.same W3
  replace F_minor_r0 := F_minor_r0.other W3 (Or.inr (slot_ne (Or.inr (hw _ (List.mem_of_getElem? (i := 20) rfl))) (Or.inr (hw _ (List.mem_of_getElem? (i := 18) rfl))) (by decide) (t := .int) (t' := .int) (by decide) (by decide)))
  replace E_r0 := E_r0.wr W3
  replace ZZ : n0 ≤ h3.size := by rw [W3.size]; exact ZZ
  replace KK := KK.wr W3 (Or.inl (by simp))
  refine gs (fun t => XS.aloadN X3.here hx rfl (hb hby d1_46) rfl rfl) ?_
  show Go p e below s QQ 0 0 (T3.setTop (mkF m 47 #[.val (.ref r0), .val (.int p1), .val (.int p2)] [(.ref r0)]))
  refine gs (fun t => XS.iloadN X3.here hx rfl (hb hby d1_47) rfl) ?_
  show Go p e below s QQ 0 0 (T3.setTop (mkF m 48 #[.val (.ref r0), .val (.int p1), .val (.int p2)] [(.int p2), (.ref r0)]))
  obtain ⟨T4, h4, X4, e4, W4, st4⟩ := putF X3 hx hZ hown (host := "") (Or.inl (hw _ (List.mem_of_getElem? (i := 19) rfl))) Via.refl e3 F_minor_r0 E_r0 (Or.inr ⟨(hw _ (List.mem_of_getElem? (i := 20) rfl)), rfl, hnm⟩) (hw _ (List.mem_of_getElem? (i := 3) rfl)) (ty := .int) (by decide) rfl rfl (g := (mkF m 48 #[.val (.ref r0), .val (.int p1), .val (.int p2)] [(.int p2), (.ref r0)])) rfl rfl (hb hby d1_48)
  replace N0 := Fr.snoc X4 N0 ge_r0
  refine gs st4 ?_
  show Go p e below s QQ 0 0 (T4.setTop (mkF m 51 #[.val (.ref r0), .val (.int p1), .val (.int p2)] []))
  replace F_major_r0 := F_major_r0.other W4 (Or.inr (slot_ne (Or.inr (hw _ (List.mem_of_getElem? (i := 18) rfl))) (Or.inr (hw _ (List.mem_of_getElem? (i := 20) rfl))) (by decide) (t := .int) (t' := .int) (by decide) (by decide)))
  replace F_minor_r0 := F_minor_r0.same W4
  replace E_r0 := E_r0.wr W4
  replace ZZ : n0 ≤ h4.size := by rw [W4.size]; exact ZZ
  replace KK := KK.wr W4 (Or.inl (by simp))
  exact goV X4 hx Bd.notSynchronized Bd.returns (hb hby d1_51) (by rw [← hQQ, e4]; exact ⟨rfl, N0, KK, F_major_r0, F_minor_r0⟩) (by decide) (by decide)
theorem d4_0 : decode prog_68_method_3_code 0 = .ok (.aload_n 0, 1) := by decide +kernel
theorem d4_1 : decode prog_68_method_3_code 1 = .ok (.getfield 19, 3) := by decide +kernel
theorem d4_4 : decode prog_68_method_3_code 4 = .ok (.bipush 56, 2) := by decide +kernel
theorem d4_6 : decode prog_68_method_3_code 6 = .ok (.if_icmp .lt 16, 3) := by decide +kernel
theorem d4_9 : decode prog_68_method_3_code 9 = .ok (.aload_n 0, 1) := by decide +kernel
theorem d4_10 : decode prog_68_method_3_code 10 = .ok (.getfield 23, 3) := by decide +kernel
theorem d4_13 : decode prog_68_method_3_code 13 = .ok (.ldc 9, 2) := by decide +kernel
theorem d4_15 : decode prog_68_method_3_code 15 = .ok (.if_icmp .ne 7, 3) := by decide +kernel
theorem d4_18 : decode prog_68_method_3_code 18 = .ok (.iconst 1, 1) := by decide +kernel
theorem d4_19 : decode prog_68_method_3_code 19 = .ok (.goto 4, 3) := by decide +kernel
theorem d4_22 : decode prog_68_method_3_code 22 = .ok (.iconst 0, 1) := by decide +kernel
theorem d4_23 : decode prog_68_method_3_code 23 = .ok (.ireturn, 1) := by decide +kernel
theorem pn_4 : plainName "com/example/roastery/roastery/model/ClassFileVersion" = true := by first | (simp [plainName, overriddenIn]; done) | decide +kernel
def Qrm4 (Z : State) (r0 : Addr) (qa : Int32) (qb : Int32) (h0 : Heap) (n0 : Nat) (v : Option Value) (h : Heap) (L : List Loc) : Prop := v = some (.int (own_prev qa qb)) ∧ Fr n0 L ∧ h = h0
set_option maxRecDepth 65536 in
set_option maxHeartbeats 40000000 in
theorem rm4 (l : Launch) (Z : State) (a0 : Array Value) (hw : ∀ d ∈ tables_1, d.before a0 Z = true) (ws : List Jvm.Cond) (r0 : Addr) (qa : Int32) (qb : Int32) (h0 : Heap) (n0 : Nat) (Z0 : n0 ≤ h0.size) (F_major_r0 : Fld Z h0 r0 "com/example/roastery/roastery/model/ClassFileVersion" "major" "I" (.int qa)) (F_minor_r0 : Fld Z h0 r0 "com/example/roastery/roastery/model/ClassFileVersion" "minor" "I" (.int qb)) :
    MetFree l (⟨"com/example/roastery/roastery/model/ClassFileVersion", "isPreview", "()Z"⟩ : MethodName) (head1 (Jvm.Cond.code (⟨"com/example/roastery/roastery/model/ClassFileVersion", "isPreview", "()Z"⟩ : MethodName) prog_68_method_3_code 1 (some .boolean) :: ws) ({ frames := 0, cells := 0, slots := 0, locals := 0 } : Room)) (fun a U => a = #[(.ref r0)] ∧ Z.Warmed39 U.vm ∧ U.heap = h0) (fun _ _ _ _ _ => True) (fun _ U o U' => ∃ v L, o = .returned v ∧ Qrm4 Z r0 qa qb h0 n0 v U'.heap L ∧ FrameEnd U o U' L ({ frames := 0, cells := 0, slots := 0, locals := 0 } : Room).cells ({ frames := 0, cells := 0, slots := 0, locals := 0 } : Room).slots) := by
  refine MetFree.of_bodySF (plainFor_of_name pn_4) hisR ?_
  intro p e s m args below meth c s₁ Bd hml0 hP hK
  obtain ⟨rfl, hZ, hh⟩ := hP
  have hx := Bd.exec
  have hby := Bd.bytes
  have hml : c.maxLocals = 1 := hml0
  have hown : s.vm.findClass "com/example/roastery/roastery/model/ClassFileVersion" = some m.cls := findClass_of_methodNamed Bd.named
  have hnm := (name_of_methodNamed Bd.named Bd.method).1
  have X0 : Stand p l e ({ frames := 0, cells := 0, slots := 0, locals := 0 } : Room) s m #[(.ref r0)] below meth c s₁ [] 0 0 := Stand.of_body Bd
  have e0 : s₁.heap = h0 := by rw [← hh, Bd.state]; rfl
  have N0 := Fr.nil n0
  have ZZ := Z0
  show Go p e below s (Qrm4 Z r0 qa qb h0 n0) 0 0 (s₁.setTop (entryFrame m #[(.ref r0)] 1))
  generalize hQQ : (Qrm4 Z r0 qa qb h0 n0) = QQ
  refine gs (fun t k => castTop (g' := (mkF m 0 #[.val (.ref r0)] [])) (by first | (simp [entryFrame, mkF, argsToLocals, Value.category, maxLocals]; done) | rfl) k) ?_
  show Go p e below s QQ 0 0 (s₁.setTop (mkF m 0 #[.val (.ref r0)] []))
  refine gs (fun t => XS.aloadN X0.here hx rfl (hb hby d4_0) rfl rfl) ?_
  show Go p e below s QQ 0 0 (s₁.setTop (mkF m 1 #[.val (.ref r0)] [(.ref r0)]))
  obtain ⟨T5, X5, e5, st5⟩ := getF X0 hx hZ hown (host := "") (Or.inl (hw _ (List.mem_of_getElem? (i := 17) rfl))) Via.refl e0 F_major_r0 (g := (mkF m 1 #[.val (.ref r0)] [(.ref r0)])) rfl rfl (hb hby d4_1)
  refine gs st5 ?_
  show Go p e below s QQ 0 0 (T5.setTop (mkF m 4 #[.val (.ref r0)] [(.int qa)]))
  refine gs (fun t => XS.bipush X5.here hx rfl (hb hby d4_4)) ?_
  show Go p e below s QQ 0 0 (T5.setTop (mkF m 6 #[.val (.ref r0)] [(.int (56 : Int32)), (.int qa)]))
  by_cases hc : qa < (56 : Int32)
  · skip
    refine gs (fun t => XS.icmpYes X5.here hx rfl (pc0 := 6) (pc' := 22) rfl (hb hby d4_6) rfl (tlt hc).1 (by decide) (by decide)) ?_
    show Go p e below s QQ 0 0 (T5.setTop (mkF m 22 #[.val (.ref r0)] []))
    refine gs (fun t => XS.iconst X5.here hx rfl (hb hby d4_22)) ?_
    show Go p e below s QQ 0 0 (T5.setTop (mkF m 23 #[.val (.ref r0)] [(.int (0 : Int32))]))
    exact goB X5 hx Bd.notSynchronized Bd.returns (by simp) (w := (0 : Int32)) (by first | rfl | decide) (hb hby d4_23) (by rw [← hQQ, e5]; exact ⟨by simp [own_prev, hc], N0, rfl⟩) (by decide) (by decide)
  · skip
    refine gs (fun t => XS.icmpNo X5.here hx rfl (hb hby d4_6) rfl (flt hc).1) ?_
    show Go p e below s QQ 0 0 (T5.setTop (mkF m 9 #[.val (.ref r0)] []))
    refine gs (fun t => XS.aloadN X5.here hx rfl (hb hby d4_9) rfl rfl) ?_
    show Go p e below s QQ 0 0 (T5.setTop (mkF m 10 #[.val (.ref r0)] [(.ref r0)]))
    obtain ⟨T6, X6, e6, st6⟩ := getF X5 hx hZ hown (host := "") (Or.inl (hw _ (List.mem_of_getElem? (i := 19) rfl))) Via.refl e5 F_minor_r0 (g := (mkF m 10 #[.val (.ref r0)] [(.ref r0)])) rfl rfl (hb hby d4_10)
    refine gs st6 ?_
    show Go p e below s QQ 0 0 (T6.setTop (mkF m 13 #[.val (.ref r0)] [(.int qb)]))
    refine gs (fun t => X6.ldcInt hx hown (mvT hZ (hw _ (List.mem_of_getElem? (i := 16) rfl))) (g := (mkF m 13 #[.val (.ref r0)] [(.int qb)])) rfl (hb hby d4_13) t) ?_
    show Go p e below s QQ 0 0 (T6.setTop (mkF m 15 #[.val (.ref r0)] [(.int (65535 : Int32)), (.int qb)]))
    by_cases hd : qb = (65535 : Int32)
    · skip
      refine gs (fun t => XS.icmpNo X6.here hx rfl (hb hby d4_15) rfl (teq hd).2) ?_
      show Go p e below s QQ 0 0 (T6.setTop (mkF m 18 #[.val (.ref r0)] []))
      refine gs (fun t => XS.iconst X6.here hx rfl (hb hby d4_18)) ?_
      show Go p e below s QQ 0 0 (T6.setTop (mkF m 19 #[.val (.ref r0)] [(.int (1 : Int32))]))
      refine gs (fun t => XS.goto X6.here hx rfl (pc0 := 19) (pc' := 23) rfl (hb hby d4_19) (by decide) (by decide)) ?_
      show Go p e below s QQ 0 0 (T6.setTop (mkF m 23 #[.val (.ref r0)] [(.int (1 : Int32))]))
      exact goB X6 hx Bd.notSynchronized Bd.returns (by simp) (w := (1 : Int32)) (by first | rfl | decide) (hb hby d4_23) (by rw [← hQQ, e6]; exact ⟨by simp [own_prev, hc, hd], N0, rfl⟩) (by decide) (by decide)
    · skip
      refine gs (fun t => XS.icmpYes X6.here hx rfl (pc0 := 15) (pc' := 22) rfl (hb hby d4_15) rfl (feq hd).2 (by decide) (by decide)) ?_
      show Go p e below s QQ 0 0 (T6.setTop (mkF m 22 #[.val (.ref r0)] []))
      refine gs (fun t => XS.iconst X6.here hx rfl (hb hby d4_22)) ?_
      show Go p e below s QQ 0 0 (T6.setTop (mkF m 23 #[.val (.ref r0)] [(.int (0 : Int32))]))
      exact goB X6 hx Bd.notSynchronized Bd.returns (by simp) (w := (0 : Int32)) (by first | rfl | decide) (hb hby d4_23) (by rw [← hQQ, e6]; exact ⟨by simp [own_prev, hc, hd], N0, rfl⟩) (by decide) (by decide)
theorem pn_0 : plainName "com/example/roastery/roastery/model/ClassFileVersionIsPreviewPinLaw" = true := by first | (simp [plainName, overriddenIn]; done) | decide +kernel
def Qrm0 (Z : State) (p0 : Int32) (p1 : Int32) (p2 : Int32) (h0 : Heap) (n0 : Nat) (v : Option Value) (h : Heap) (L : List Loc) : Prop := v = some (.int 1) ∧ Fr n0 L
set_option maxRecDepth 65536 in
set_option maxHeartbeats 40000000 in
theorem rm0 (l : Launch) (Z : State) (a0 : Array Value) (hw : ∀ d ∈ tables_1, d.before a0 Z = true) (ws : List Jvm.Cond) (p0 : Int32) (p1 : Int32) (p2 : Int32) (h0 : Heap) (n0 : Nat) (Z0 : n0 ≤ h0.size) :
    MetFree l x (head1 (Jvm.Cond.code x code maxLocals ret :: ws) room_1) (fun a U => a = #[(.int p0), (.int p1), (.int p2)] ∧ Z.Warmed39 U.vm ∧ U.heap = h0) (fun _ _ _ _ _ => True) (fun _ U o U' => ∃ v L, o = .returned v ∧ Qrm0 Z p0 p1 p2 h0 n0 v U'.heap L ∧ FrameEnd U o U' L room_1.cells room_1.slots) := by
  refine MetFree.of_bodySF (plainFor_of_name pn_0) hisR ?_
  intro p e s m args below meth c s₁ Bd hml0 hP hK
  obtain ⟨rfl, hZ, hh⟩ := hP
  have hx := Bd.exec
  have hby := Bd.bytes
  have hml : c.maxLocals = 9 := hml0
  have hown : s.vm.findClass "com/example/roastery/roastery/model/ClassFileVersionIsPreviewPinLaw" = some m.cls := findClass_of_methodNamed Bd.named
  have hnm := (name_of_methodNamed Bd.named Bd.method).1
  have X0 : Stand p l e room_1 s m #[(.int p0), (.int p1), (.int p2)] below meth c s₁ [] 0 0 := Stand.of_body Bd
  have e0 : s₁.heap = h0 := by rw [← hh, Bd.state]; rfl
  have N0 := Fr.nil n0
  have ZZ := Z0
  show Go p e below s (Qrm0 Z p0 p1 p2 h0 n0) room_1.cells room_1.slots (s₁.setTop (entryFrame m #[(.int p0), (.int p1), (.int p2)] maxLocals))
  generalize hQQ : (Qrm0 Z p0 p1 p2 h0 n0) = QQ
  refine gs (fun t k => castTop (g' := (mkF m 0 #[.val (.int p0), .val (.int p1), .val (.int p2), .unset, .unset, .unset, .unset, .unset, .unset] [])) (by first | (simp [entryFrame, mkF, argsToLocals, Value.category, maxLocals]; done) | rfl) k) ?_
  show Go p e below s QQ room_1.cells room_1.slots (s₁.setTop (mkF m 0 #[.val (.int p0), .val (.int p1), .val (.int p2), .unset, .unset, .unset, .unset, .unset, .unset] []))
  by_cases hb1 : (p2 &&& (1 : Int32)) = (0 : Int32)
  · skip
    by_cases hb2 : (p2 &&& (2 : Int32)) = (0 : Int32)
    · skip
      refine gs (fun t => XS.iloadN X0.here hx rfl (hb hby at_0) rfl) ?_
      show Go p e below s QQ room_1.cells room_1.slots (s₁.setTop (mkF m 1 #[.val (.int p0), .val (.int p1), .val (.int p2), .unset, .unset, .unset, .unset, .unset, .unset] [(.int p2)]))
      refine gs (fun t => XS.iconst X0.here hx rfl (hb hby at_1)) ?_
      show Go p e below s QQ room_1.cells room_1.slots (s₁.setTop (mkF m 2 #[.val (.int p0), .val (.int p1), .val (.int p2), .unset, .unset, .unset, .unset, .unset, .unset] [(.int (1 : Int32)), (.int p2)]))
      refine gs (fun t => XS.iand X0.here hx rfl (hb hby at_2) rfl) ?_
      show Go p e below s QQ room_1.cells room_1.slots (s₁.setTop (mkF m 3 #[.val (.int p0), .val (.int p1), .val (.int p2), .unset, .unset, .unset, .unset, .unset, .unset] [(.int (p2 &&& (1 : Int32)))]))
      refine gs (fun t => XS.ifYes X0.here hx rfl (pc0 := 3) (pc' := 10) rfl (hb hby at_3) rfl ((if0 _ _).trans (teq (hb1 : (p2 &&& (1 : Int32)) = (0 : Int32))).1) (by decide) (by decide)) ?_
      show Go p e below s QQ room_1.cells room_1.slots (s₁.setTop (mkF m 10 #[.val (.int p0), .val (.int p1), .val (.int p2), .unset, .unset, .unset, .unset, .unset, .unset] []))
      refine gs (fun t => XS.iconst X0.here hx rfl (hb hby at_10)) ?_
      show Go p e below s QQ room_1.cells room_1.slots (s₁.setTop (mkF m 11 #[.val (.int p0), .val (.int p1), .val (.int p2), .unset, .unset, .unset, .unset, .unset, .unset] [(.int (0 : Int32))]))
      refine gs (fun t => XS.istoreN X0.here hx rfl (hb hby at_11) rfl (l' := #[.val (.int p0), .val (.int p1), .val (.int p2), .val (.int (0 : Int32)), .unset, .unset, .unset, .unset, .unset]) rfl) ?_
      show Go p e below s QQ room_1.cells room_1.slots (s₁.setTop (mkF m 12 #[.val (.int p0), .val (.int p1), .val (.int p2), .val (.int (0 : Int32)), .unset, .unset, .unset, .unset, .unset] []))
      refine gs (fun t => XS.iloadN X0.here hx rfl (hb hby at_12) rfl) ?_
      show Go p e below s QQ room_1.cells room_1.slots (s₁.setTop (mkF m 13 #[.val (.int p0), .val (.int p1), .val (.int p2), .val (.int (0 : Int32)), .unset, .unset, .unset, .unset, .unset] [(.int p2)]))
      refine gs (fun t => XS.iconst X0.here hx rfl (hb hby at_13)) ?_
      show Go p e below s QQ room_1.cells room_1.slots (s₁.setTop (mkF m 14 #[.val (.int p0), .val (.int p1), .val (.int p2), .val (.int (0 : Int32)), .unset, .unset, .unset, .unset, .unset] [(.int (2 : Int32)), (.int p2)]))
      refine gs (fun t => XS.iand X0.here hx rfl (hb hby at_14) rfl) ?_
      show Go p e below s QQ room_1.cells room_1.slots (s₁.setTop (mkF m 15 #[.val (.int p0), .val (.int p1), .val (.int p2), .val (.int (0 : Int32)), .unset, .unset, .unset, .unset, .unset] [(.int (p2 &&& (2 : Int32)))]))
      refine gs (fun t => XS.ifYes X0.here hx rfl (pc0 := 15) (pc' := 22) rfl (hb hby at_15) rfl ((if0 _ _).trans (teq (hb2 : (p2 &&& (2 : Int32)) = (0 : Int32))).1) (by decide) (by decide)) ?_
      show Go p e below s QQ room_1.cells room_1.slots (s₁.setTop (mkF m 22 #[.val (.int p0), .val (.int p1), .val (.int p2), .val (.int (0 : Int32)), .unset, .unset, .unset, .unset, .unset] []))
      refine gs (fun t => XS.iconst X0.here hx rfl (hb hby at_22)) ?_
      show Go p e below s QQ room_1.cells room_1.slots (s₁.setTop (mkF m 23 #[.val (.int p0), .val (.int p1), .val (.int p2), .val (.int (0 : Int32)), .unset, .unset, .unset, .unset, .unset] [(.int (0 : Int32))]))
      refine gs (fun t => XS.istore X0.here hx rfl (hb hby at_23) rfl (l' := #[.val (.int p0), .val (.int p1), .val (.int p2), .val (.int (0 : Int32)), .val (.int (0 : Int32)), .unset, .unset, .unset, .unset]) rfl) ?_
      show Go p e below s QQ room_1.cells room_1.slots (s₁.setTop (mkF m 25 #[.val (.int p0), .val (.int p1), .val (.int p2), .val (.int (0 : Int32)), .val (.int (0 : Int32)), .unset, .unset, .unset, .unset] []))
      refine gs (fun t => XS.iloadN X0.here hx rfl (hb hby at_25) rfl) ?_
      show Go p e below s QQ room_1.cells room_1.slots (s₁.setTop (mkF m 26 #[.val (.int p0), .val (.int p1), .val (.int p2), .val (.int (0 : Int32)), .val (.int (0 : Int32)), .unset, .unset, .unset, .unset] [(.int (0 : Int32))]))
      refine gs (fun t => XS.ifYes X0.here hx rfl (pc0 := 26) (pc' := 44) rfl (hb hby at_26) rfl ((if0 _ _).trans (teq (by decide : (0 : Int32) = (0 : Int32))).1) (by decide) (by decide)) ?_
      show Go p e below s QQ room_1.cells room_1.slots (s₁.setTop (mkF m 44 #[.val (.int p0), .val (.int p1), .val (.int p2), .val (.int (0 : Int32)), .val (.int (0 : Int32)), .unset, .unset, .unset, .unset] []))
      refine gs (fun t => XS.bipush X0.here hx rfl (hb hby at_44)) ?_
      show Go p e below s QQ room_1.cells room_1.slots (s₁.setTop (mkF m 46 #[.val (.int p0), .val (.int p1), .val (.int p2), .val (.int (0 : Int32)), .val (.int (0 : Int32)), .unset, .unset, .unset, .unset] [(.int (45 : Int32))]))
      refine gs (fun t => XS.iloadN X0.here hx rfl (hb hby at_46) rfl) ?_
      show Go p e below s QQ room_1.cells room_1.slots (s₁.setTop (mkF m 47 #[.val (.int p0), .val (.int p1), .val (.int p2), .val (.int (0 : Int32)), .val (.int (0 : Int32)), .unset, .unset, .unset, .unset] [(.int p0), (.int (45 : Int32))]))
      refine gs (fun t => X0.ldcInt hx hown (mvT hZ (hw _ (List.mem_of_getElem? (i := 0) rfl))) (g := (mkF m 47 #[.val (.int p0), .val (.int p1), .val (.int p2), .val (.int (0 : Int32)), .val (.int (0 : Int32)), .unset, .unset, .unset, .unset] [(.int p0), (.int (45 : Int32))])) rfl (hb hby at_47) t) ?_
      show Go p e below s QQ room_1.cells room_1.slots (s₁.setTop (mkF m 49 #[.val (.int p0), .val (.int p1), .val (.int p2), .val (.int (0 : Int32)), .val (.int (0 : Int32)), .unset, .unset, .unset, .unset] [(.int (2147483647 : Int32)), (.int p0), (.int (45 : Int32))]))
      refine gs (fun t => XS.iand X0.here hx rfl (hb hby at_49) rfl) ?_
      show Go p e below s QQ room_1.cells room_1.slots (s₁.setTop (mkF m 50 #[.val (.int p0), .val (.int p1), .val (.int p2), .val (.int (0 : Int32)), .val (.int (0 : Int32)), .unset, .unset, .unset, .unset] [(.int (p0 &&& (2147483647 : Int32))), (.int (45 : Int32))]))
      refine gs (fun t => XS.bipush X0.here hx rfl (hb hby at_50)) ?_
      show Go p e below s QQ room_1.cells room_1.slots (s₁.setTop (mkF m 52 #[.val (.int p0), .val (.int p1), .val (.int p2), .val (.int (0 : Int32)), .val (.int (0 : Int32)), .unset, .unset, .unset, .unset] [(.int (11 : Int32)), (.int (p0 &&& (2147483647 : Int32))), (.int (45 : Int32))]))
      refine gs (fun t => iremM X0 hx (g := (mkF m 52 #[.val (.int p0), .val (.int p1), .val (.int p2), .val (.int (0 : Int32)), .val (.int (0 : Int32)), .unset, .unset, .unset, .unset] [(.int (11 : Int32)), (.int (p0 &&& (2147483647 : Int32))), (.int (45 : Int32))])) rfl (hb hby at_52) rfl (by decide)) ?_
      show Go p e below s QQ room_1.cells room_1.slots (s₁.setTop (mkF m 53 #[.val (.int p0), .val (.int p1), .val (.int p2), .val (.int (0 : Int32)), .val (.int (0 : Int32)), .unset, .unset, .unset, .unset] [(.int ((p0 &&& (2147483647 : Int32)) % (11 : Int32))), (.int (45 : Int32))]))
      refine gs (fun t => XS.iadd X0.here hx rfl (hb hby at_53) rfl) ?_
      show Go p e below s QQ room_1.cells room_1.slots (s₁.setTop (mkF m 54 #[.val (.int p0), .val (.int p1), .val (.int p2), .val (.int (0 : Int32)), .val (.int (0 : Int32)), .unset, .unset, .unset, .unset] [(.int ((45 : Int32) + ((p0 &&& (2147483647 : Int32)) % (11 : Int32))))]))
      generalize hmj : ((45 : Int32) + ((p0 &&& (2147483647 : Int32)) % (11 : Int32))) = mj
      show Go p e below s QQ room_1.cells room_1.slots (s₁.setTop (mkF m 54 #[.val (.int p0), .val (.int p1), .val (.int p2), .val (.int (0 : Int32)), .val (.int (0 : Int32)), .unset, .unset, .unset, .unset] [(.int mj)]))
      have bm := own_early p0 hmj
      refine gs (fun t => XS.istore X0.here hx rfl (hb hby at_54) rfl (l' := #[.val (.int p0), .val (.int p1), .val (.int p2), .val (.int (0 : Int32)), .val (.int (0 : Int32)), .val (.int mj), .unset, .unset, .unset]) rfl) ?_
      show Go p e below s QQ room_1.cells room_1.slots (s₁.setTop (mkF m 56 #[.val (.int p0), .val (.int p1), .val (.int p2), .val (.int (0 : Int32)), .val (.int (0 : Int32)), .val (.int mj), .unset, .unset, .unset] []))
      refine gs (fun t => XS.iload X0.here hx rfl (hb hby at_56) rfl) ?_
      show Go p e below s QQ room_1.cells room_1.slots (s₁.setTop (mkF m 58 #[.val (.int p0), .val (.int p1), .val (.int p2), .val (.int (0 : Int32)), .val (.int (0 : Int32)), .val (.int mj), .unset, .unset, .unset] [(.int (0 : Int32))]))
      refine gs (fun t => XS.ifYes X0.here hx rfl (pc0 := 58) (pc' := 68) rfl (hb hby at_58) rfl ((if0 _ _).trans (teq (by decide : (0 : Int32) = (0 : Int32))).1) (by decide) (by decide)) ?_
      show Go p e below s QQ room_1.cells room_1.slots (s₁.setTop (mkF m 68 #[.val (.int p0), .val (.int p1), .val (.int p2), .val (.int (0 : Int32)), .val (.int (0 : Int32)), .val (.int mj), .unset, .unset, .unset] []))
      refine gs (fun t => XS.iloadN X0.here hx rfl (hb hby at_68) rfl) ?_
      show Go p e below s QQ room_1.cells room_1.slots (s₁.setTop (mkF m 69 #[.val (.int p0), .val (.int p1), .val (.int p2), .val (.int (0 : Int32)), .val (.int (0 : Int32)), .val (.int mj), .unset, .unset, .unset] [(.int p1)]))
      refine gs (fun t => X0.ldcInt hx hown (mvT hZ (hw _ (List.mem_of_getElem? (i := 0) rfl))) (g := (mkF m 69 #[.val (.int p0), .val (.int p1), .val (.int p2), .val (.int (0 : Int32)), .val (.int (0 : Int32)), .val (.int mj), .unset, .unset, .unset] [(.int p1)])) rfl (hb hby at_69) t) ?_
      show Go p e below s QQ room_1.cells room_1.slots (s₁.setTop (mkF m 71 #[.val (.int p0), .val (.int p1), .val (.int p2), .val (.int (0 : Int32)), .val (.int (0 : Int32)), .val (.int mj), .unset, .unset, .unset] [(.int (2147483647 : Int32)), (.int p1)]))
      refine gs (fun t => XS.iand X0.here hx rfl (hb hby at_71) rfl) ?_
      show Go p e below s QQ room_1.cells room_1.slots (s₁.setTop (mkF m 72 #[.val (.int p0), .val (.int p1), .val (.int p2), .val (.int (0 : Int32)), .val (.int (0 : Int32)), .val (.int mj), .unset, .unset, .unset] [(.int (p1 &&& (2147483647 : Int32)))]))
      refine gs (fun t => X0.ldcInt hx hown (mvT hZ (hw _ (List.mem_of_getElem? (i := 1) rfl))) (g := (mkF m 72 #[.val (.int p0), .val (.int p1), .val (.int p2), .val (.int (0 : Int32)), .val (.int (0 : Int32)), .val (.int mj), .unset, .unset, .unset] [(.int (p1 &&& (2147483647 : Int32)))])) rfl (hb hby at_72) t) ?_
      show Go p e below s QQ room_1.cells room_1.slots (s₁.setTop (mkF m 74 #[.val (.int p0), .val (.int p1), .val (.int p2), .val (.int (0 : Int32)), .val (.int (0 : Int32)), .val (.int mj), .unset, .unset, .unset] [(.int (65535 : Int32)), (.int (p1 &&& (2147483647 : Int32)))]))
      refine gs (fun t => iremM X0 hx (g := (mkF m 74 #[.val (.int p0), .val (.int p1), .val (.int p2), .val (.int (0 : Int32)), .val (.int (0 : Int32)), .val (.int mj), .unset, .unset, .unset] [(.int (65535 : Int32)), (.int (p1 &&& (2147483647 : Int32)))])) rfl (hb hby at_74) rfl (by decide)) ?_
      show Go p e below s QQ room_1.cells room_1.slots (s₁.setTop (mkF m 75 #[.val (.int p0), .val (.int p1), .val (.int p2), .val (.int (0 : Int32)), .val (.int (0 : Int32)), .val (.int mj), .unset, .unset, .unset] [(.int ((p1 &&& (2147483647 : Int32)) % (65535 : Int32)))]))
      generalize hmi : ((p1 &&& (2147483647 : Int32)) % (65535 : Int32)) = mi
      show Go p e below s QQ room_1.cells room_1.slots (s₁.setTop (mkF m 75 #[.val (.int p0), .val (.int p1), .val (.int p2), .val (.int (0 : Int32)), .val (.int (0 : Int32)), .val (.int mj), .unset, .unset, .unset] [(.int mi)]))
      have bn := own_minor p1 hmi
      refine gs (fun t => XS.istore X0.here hx rfl (hb hby at_75) rfl (l' := #[.val (.int p0), .val (.int p1), .val (.int p2), .val (.int (0 : Int32)), .val (.int (0 : Int32)), .val (.int mj), .val (.int mi), .unset, .unset]) rfl) ?_
      show Go p e below s QQ room_1.cells room_1.slots (s₁.setTop (mkF m 77 #[.val (.int p0), .val (.int p1), .val (.int p2), .val (.int (0 : Int32)), .val (.int (0 : Int32)), .val (.int mj), .val (.int mi), .unset, .unset] []))
      obtain ⟨T7, h7, X7, e7, E7, A7, D7, -, st7⟩ := newO X0 hx hZ hown (hw _ (List.mem_of_getElem? (i := 2) rfl)) (hw _ (List.mem_of_getElem? (i := 3) rfl)) (hw _ (List.mem_of_getElem? (i := 4) rfl)) e0 (g := (mkF m 77 #[.val (.int p0), .val (.int p1), .val (.int p2), .val (.int (0 : Int32)), .val (.int (0 : Int32)), .val (.int mj), .val (.int mi), .unset, .unset] [])) rfl (hb hby at_77) (by decide) (by decide)
      obtain ⟨b7, g7⟩ : ∃ z, z = h0.size := ⟨_, rfl⟩
      rw [← g7] at A7 D7 st7
      have ge_b7 : n0 ≤ b7 := by rw [g7]; exact ZZ
      refine gs st7 ?_
      show Go p e below s QQ room_1.cells room_1.slots (T7.setTop (mkF m 80 #[.val (.int p0), .val (.int p1), .val (.int p2), .val (.int (0 : Int32)), .val (.int (0 : Int32)), .val (.int mj), .val (.int mi), .unset, .unset] [(.ref b7)]))
      replace ZZ := Nat.le_trans ZZ E7.1
      have Ex_b7 := A7
      have F_major_b7 : Fld Z h7 b7 "com/example/roastery/roastery/model/ClassFileVersion" "major" "I" (.int (0 : Int32)) := D7 (Or.inr (hw _ (List.mem_of_getElem? (i := 18) rfl))) (ty := .int) (by decide)
      have F_minor_b7 : Fld Z h7 b7 "com/example/roastery/roastery/model/ClassFileVersion" "minor" "I" (.int (0 : Int32)) := D7 (Or.inr (hw _ (List.mem_of_getElem? (i := 20) rfl))) (ty := .int) (by decide)
      refine gs (fun t => XS.dup X7.here hx rfl (hb hby at_80) rfl rfl) ?_
      show Go p e below s QQ room_1.cells room_1.slots (T7.setTop (mkF m 81 #[.val (.int p0), .val (.int p1), .val (.int p2), .val (.int (0 : Int32)), .val (.int (0 : Int32)), .val (.int mj), .val (.int mi), .unset, .unset] [(.ref b7), (.ref b7)]))
      refine gs (fun t => XS.iload X7.here hx rfl (hb hby at_81) rfl) ?_
      show Go p e below s QQ room_1.cells room_1.slots (T7.setTop (mkF m 83 #[.val (.int p0), .val (.int p1), .val (.int p2), .val (.int (0 : Int32)), .val (.int (0 : Int32)), .val (.int mj), .val (.int mi), .unset, .unset] [(.int mj), (.ref b7), (.ref b7)]))
      refine gs (fun t => XS.iload X7.here hx rfl (hb hby at_83) rfl) ?_
      show Go p e below s QQ room_1.cells room_1.slots (T7.setTop (mkF m 85 #[.val (.int p0), .val (.int p1), .val (.int p2), .val (.int (0 : Int32)), .val (.int (0 : Int32)), .val (.int mj), .val (.int mi), .unset, .unset] [(.int mi), (.int mj), (.ref b7), (.ref b7)]))
      obtain ⟨_, _, ⟨T8, L8, k8, n8⟩, -, X8, ⟨Lc8, hQ8, l8, y8, z8⟩, st8⟩ := X7.specialBack hx (y := (⟨"com/example/roastery/roastery/model/ClassFileVersion", "<init>", "(II)V"⟩ : MethodName)) rfl hown (mvT hZ (hw _ (List.mem_of_getElem? (i := 5) rfl))) (mvT hZ (hw _ (List.mem_of_getElem? (i := 6) rfl))) (mvT hZ (hw _ (List.mem_of_getElem? (i := 7) rfl))) (by decide) (backOf (W := 1) (rm1 l Z a0 hw [] b7 mj mi h7 n0 ZZ F_major_b7 F_minor_b7 Ex_b7 ge_b7 (by rw [own_lt]; have := own_k45; have := own_k0; have := own_kM; omega) (by rw [own_lt]; have := own_k45; have := own_k0; have := own_kM; omega) (by rw [own_lt]; have := own_k45; have := own_k0; have := own_kM; omega) (by rw [own_lt]; have := own_k45; have := own_k0; have := own_kM; omega)) hZ (hw _ (List.mem_of_getElem? (i := 7) rfl)) (hw _ (List.mem_of_getElem? (i := 4) rfl)) (by decide) (by decide)) (g := (mkF m 85 #[.val (.int p0), .val (.int p1), .val (.int p2), .val (.int (0 : Int32)), .val (.int (0 : Int32)), .val (.int mj), .val (.int mi), .unset, .unset] [(.int mi), (.int mj), (.ref b7), (.ref b7)])) rfl (by rw [hml]; rfl) (Steps.refl _) (a := b7) (argsL := [(.int mj), (.int mi)]) (rest := [(.ref b7)]) (lenOf pd_1 rfl) rfl (by show 2 * 0 + _ ≤ _; exact Nat.le_of_eq rfl) (hb hby at_85) (fun _ _ => ⟨rfl, e7, (by decide : 1 + 0 ≤ _), (by decide : 2 + 0 ≤ _)⟩)
      dsimp only [Pt.U, Pt.locs, Pt.cells, Pt.slots] at X8 l8 y8 z8 st8 hQ8
      subst l8 y8 z8
      obtain ⟨rfl, N8q, K8, Fa8, Fb8⟩ := hQ8
      replace N0 := Fr.app N0 N8q
      refine gt st8 ?_
      show Go p e below s QQ room_1.cells room_1.slots (T8.setTop (mkF m 88 #[.val (.int p0), .val (.int p1), .val (.int p2), .val (.int (0 : Int32)), .val (.int (0 : Int32)), .val (.int mj), .val (.int mi), .unset, .unset] [(.ref b7)]))
      replace Ex_b7 := Ex_b7.keep K8
      replace ZZ := Nat.le_trans ZZ K8.1
      refine gs (fun t => XS.astore X8.here hx rfl (hb hby at_88) rfl rfl (l' := #[.val (.int p0), .val (.int p1), .val (.int p2), .val (.int (0 : Int32)), .val (.int (0 : Int32)), .val (.int mj), .val (.int mi), .val (.ref b7), .unset]) rfl) ?_
      show Go p e below s QQ room_1.cells room_1.slots (T8.setTop (mkF m 90 #[.val (.int p0), .val (.int p1), .val (.int p2), .val (.int (0 : Int32)), .val (.int (0 : Int32)), .val (.int mj), .val (.int mi), .val (.ref b7), .unset] []))
      refine gs (fun t => XS.iloadN X8.here hx rfl (hb hby at_90) rfl) ?_
      show Go p e below s QQ room_1.cells room_1.slots (T8.setTop (mkF m 91 #[.val (.int p0), .val (.int p1), .val (.int p2), .val (.int (0 : Int32)), .val (.int (0 : Int32)), .val (.int mj), .val (.int mi), .val (.ref b7), .unset] [(.int (0 : Int32))]))
      refine gs (fun t => XS.ifYes X8.here hx rfl (pc0 := 91) (pc' := 103) rfl (hb hby at_91) rfl ((if0 _ _).trans (teq (by decide : (0 : Int32) = (0 : Int32))).1) (by decide) (by decide)) ?_
      show Go p e below s QQ room_1.cells room_1.slots (T8.setTop (mkF m 103 #[.val (.int p0), .val (.int p1), .val (.int p2), .val (.int (0 : Int32)), .val (.int (0 : Int32)), .val (.int mj), .val (.int mi), .val (.ref b7), .unset] []))
      refine gs (fun t => XS.iconst X8.here hx rfl (hb hby at_103)) ?_
      show Go p e below s QQ room_1.cells room_1.slots (T8.setTop (mkF m 104 #[.val (.int p0), .val (.int p1), .val (.int p2), .val (.int (0 : Int32)), .val (.int (0 : Int32)), .val (.int mj), .val (.int mi), .val (.ref b7), .unset] [(.int (0 : Int32))]))
      refine gs (fun t => XS.istore X8.here hx rfl (hb hby at_104) rfl (l' := #[.val (.int p0), .val (.int p1), .val (.int p2), .val (.int (0 : Int32)), .val (.int (0 : Int32)), .val (.int mj), .val (.int mi), .val (.ref b7), .val (.int (0 : Int32))]) rfl) ?_
      show Go p e below s QQ room_1.cells room_1.slots (T8.setTop (mkF m 106 #[.val (.int p0), .val (.int p1), .val (.int p2), .val (.int (0 : Int32)), .val (.int (0 : Int32)), .val (.int mj), .val (.int mi), .val (.ref b7), .val (.int (0 : Int32))] []))
      refine gs (fun t => XS.aload X8.here hx rfl (hb hby at_106) rfl rfl) ?_
      show Go p e below s QQ room_1.cells room_1.slots (T8.setTop (mkF m 108 #[.val (.int p0), .val (.int p1), .val (.int p2), .val (.int (0 : Int32)), .val (.int (0 : Int32)), .val (.int mj), .val (.int mi), .val (.ref b7), .val (.int (0 : Int32))] [(.ref b7)]))
      obtain ⟨cq9, kq9, q9a, q9b, q9c⟩ := isOf hZ rfl Ex_b7
      obtain ⟨_, _, ⟨T9, L9, k9, n9⟩, -, X9, ⟨Lc9, hQ9, l9, y9, z9⟩, st9⟩ := X8.virtualBack hx (y := (⟨"com/example/roastery/roastery/model/ClassFileVersion", "isPreview", "()Z"⟩ : MethodName)) (z := (⟨"com/example/roastery/roastery/model/ClassFileVersion", "isPreview", "()Z"⟩ : MethodName)) hown (mvT hZ (hw _ (List.mem_of_getElem? (i := 21) rfl))) (mvT hZ (hw _ (List.mem_of_getElem? (i := 22) rfl))) (notFace_of_selects (args := #[]) (mvT hZ (hw _ (List.mem_of_getElem? (i := 24) rfl)))) (mvT hZ (hw _ (List.mem_of_getElem? (i := 24) rfl))) (mvT hZ (hw _ (List.mem_of_getElem? (i := 23) rfl))) (by decide) (backOf (W := 0) (rm4 l Z a0 hw [] b7 mj mi T8.heap n0 ZZ Fa8 Fb8) hZ (hw _ (List.mem_of_getElem? (i := 25) rfl)) (hw _ (List.mem_of_getElem? (i := 4) rfl)) (by decide) (by decide)) q9a q9c (g := (mkF m 108 #[.val (.int p0), .val (.int p1), .val (.int p2), .val (.int (0 : Int32)), .val (.int (0 : Int32)), .val (.int mj), .val (.int mi), .val (.ref b7), .val (.int (0 : Int32))] [(.ref b7)])) rfl (by rw [hml]; rfl) (Steps.refl _) (argsL := []) (rest := []) (lenOf pd_2 rfl) rfl (by show 2 * 0 + _ ≤ _; exact Nat.le_of_eq rfl) (hb hby at_108) (fun _ _ => ⟨rfl, rfl, (by decide : 1 + 0 ≤ _), (by decide : 2 + 0 ≤ _)⟩)
      dsimp only [Pt.U, Pt.locs, Pt.cells, Pt.slots] at X9 l9 y9 z9 st9 hQ9
      subst l9 y9 z9
      obtain ⟨rfl, N9q, e9⟩ := hQ9
      replace N0 := Fr.app N0 N9q
      refine gt st9 ?_
      show Go p e below s QQ room_1.cells room_1.slots (T9.setTop (mkF m 111 #[.val (.int p0), .val (.int p1), .val (.int p2), .val (.int (0 : Int32)), .val (.int (0 : Int32)), .val (.int mj), .val (.int mi), .val (.ref b7), .val (.int (0 : Int32))] [(.int (own_prev mj mi))]))
      refine gs (fun t => XS.iload X9.here hx rfl (hb hby at_111) rfl) ?_
      show Go p e below s QQ room_1.cells room_1.slots (T9.setTop (mkF m 113 #[.val (.int p0), .val (.int p1), .val (.int p2), .val (.int (0 : Int32)), .val (.int (0 : Int32)), .val (.int mj), .val (.int mi), .val (.ref b7), .val (.int (0 : Int32))] [(.int (0 : Int32)), (.int (own_prev mj mi))]))
      refine gs (fun t => XS.icmpNo X9.here hx rfl (hb hby at_113) rfl (teq (by unfold own_prev; have := own_k56; have := own_kM; exact if_neg (fun q => q.1 (own_lt.mpr (by omega))) : (own_prev mj mi) = (0 : Int32))).2) ?_
      show Go p e below s QQ room_1.cells room_1.slots (T9.setTop (mkF m 116 #[.val (.int p0), .val (.int p1), .val (.int p2), .val (.int (0 : Int32)), .val (.int (0 : Int32)), .val (.int mj), .val (.int mi), .val (.ref b7), .val (.int (0 : Int32))] []))
      refine gs (fun t => XS.iconst X9.here hx rfl (hb hby at_116)) ?_
      show Go p e below s QQ room_1.cells room_1.slots (T9.setTop (mkF m 117 #[.val (.int p0), .val (.int p1), .val (.int p2), .val (.int (0 : Int32)), .val (.int (0 : Int32)), .val (.int mj), .val (.int mi), .val (.ref b7), .val (.int (0 : Int32))] [(.int (1 : Int32))]))
      refine gs (fun t => XS.goto X9.here hx rfl (pc0 := 117) (pc' := 121) rfl (hb hby at_117) (by decide) (by decide)) ?_
      show Go p e below s QQ room_1.cells room_1.slots (T9.setTop (mkF m 121 #[.val (.int p0), .val (.int p1), .val (.int p2), .val (.int (0 : Int32)), .val (.int (0 : Int32)), .val (.int mj), .val (.int mi), .val (.ref b7), .val (.int (0 : Int32))] [(.int (1 : Int32))]))
      exact goB X9 hx Bd.notSynchronized Bd.returns (by simp) (w := (1 : Int32)) (by first | rfl | decide) (hb hby at_121) (by rw [← hQQ, e9]; exact ⟨rfl, N0⟩) (by decide) (by decide)
    · skip
      refine gs (fun t => XS.iloadN X0.here hx rfl (hb hby at_0) rfl) ?_
      show Go p e below s QQ room_1.cells room_1.slots (s₁.setTop (mkF m 1 #[.val (.int p0), .val (.int p1), .val (.int p2), .unset, .unset, .unset, .unset, .unset, .unset] [(.int p2)]))
      refine gs (fun t => XS.iconst X0.here hx rfl (hb hby at_1)) ?_
      show Go p e below s QQ room_1.cells room_1.slots (s₁.setTop (mkF m 2 #[.val (.int p0), .val (.int p1), .val (.int p2), .unset, .unset, .unset, .unset, .unset, .unset] [(.int (1 : Int32)), (.int p2)]))
      refine gs (fun t => XS.iand X0.here hx rfl (hb hby at_2) rfl) ?_
      show Go p e below s QQ room_1.cells room_1.slots (s₁.setTop (mkF m 3 #[.val (.int p0), .val (.int p1), .val (.int p2), .unset, .unset, .unset, .unset, .unset, .unset] [(.int (p2 &&& (1 : Int32)))]))
      refine gs (fun t => XS.ifYes X0.here hx rfl (pc0 := 3) (pc' := 10) rfl (hb hby at_3) rfl ((if0 _ _).trans (teq (hb1 : (p2 &&& (1 : Int32)) = (0 : Int32))).1) (by decide) (by decide)) ?_
      show Go p e below s QQ room_1.cells room_1.slots (s₁.setTop (mkF m 10 #[.val (.int p0), .val (.int p1), .val (.int p2), .unset, .unset, .unset, .unset, .unset, .unset] []))
      refine gs (fun t => XS.iconst X0.here hx rfl (hb hby at_10)) ?_
      show Go p e below s QQ room_1.cells room_1.slots (s₁.setTop (mkF m 11 #[.val (.int p0), .val (.int p1), .val (.int p2), .unset, .unset, .unset, .unset, .unset, .unset] [(.int (0 : Int32))]))
      refine gs (fun t => XS.istoreN X0.here hx rfl (hb hby at_11) rfl (l' := #[.val (.int p0), .val (.int p1), .val (.int p2), .val (.int (0 : Int32)), .unset, .unset, .unset, .unset, .unset]) rfl) ?_
      show Go p e below s QQ room_1.cells room_1.slots (s₁.setTop (mkF m 12 #[.val (.int p0), .val (.int p1), .val (.int p2), .val (.int (0 : Int32)), .unset, .unset, .unset, .unset, .unset] []))
      refine gs (fun t => XS.iloadN X0.here hx rfl (hb hby at_12) rfl) ?_
      show Go p e below s QQ room_1.cells room_1.slots (s₁.setTop (mkF m 13 #[.val (.int p0), .val (.int p1), .val (.int p2), .val (.int (0 : Int32)), .unset, .unset, .unset, .unset, .unset] [(.int p2)]))
      refine gs (fun t => XS.iconst X0.here hx rfl (hb hby at_13)) ?_
      show Go p e below s QQ room_1.cells room_1.slots (s₁.setTop (mkF m 14 #[.val (.int p0), .val (.int p1), .val (.int p2), .val (.int (0 : Int32)), .unset, .unset, .unset, .unset, .unset] [(.int (2 : Int32)), (.int p2)]))
      refine gs (fun t => XS.iand X0.here hx rfl (hb hby at_14) rfl) ?_
      show Go p e below s QQ room_1.cells room_1.slots (s₁.setTop (mkF m 15 #[.val (.int p0), .val (.int p1), .val (.int p2), .val (.int (0 : Int32)), .unset, .unset, .unset, .unset, .unset] [(.int (p2 &&& (2 : Int32)))]))
      refine gs (fun t => XS.ifNo X0.here hx rfl (hb hby at_15) rfl ((if0 _ _).trans (feq (hb2 : ¬ ((p2 &&& (2 : Int32)) = (0 : Int32)))).1)) ?_
      show Go p e below s QQ room_1.cells room_1.slots (s₁.setTop (mkF m 18 #[.val (.int p0), .val (.int p1), .val (.int p2), .val (.int (0 : Int32)), .unset, .unset, .unset, .unset, .unset] []))
      refine gs (fun t => XS.iconst X0.here hx rfl (hb hby at_18)) ?_
      show Go p e below s QQ room_1.cells room_1.slots (s₁.setTop (mkF m 19 #[.val (.int p0), .val (.int p1), .val (.int p2), .val (.int (0 : Int32)), .unset, .unset, .unset, .unset, .unset] [(.int (1 : Int32))]))
      refine gs (fun t => XS.goto X0.here hx rfl (pc0 := 19) (pc' := 23) rfl (hb hby at_19) (by decide) (by decide)) ?_
      show Go p e below s QQ room_1.cells room_1.slots (s₁.setTop (mkF m 23 #[.val (.int p0), .val (.int p1), .val (.int p2), .val (.int (0 : Int32)), .unset, .unset, .unset, .unset, .unset] [(.int (1 : Int32))]))
      refine gs (fun t => XS.istore X0.here hx rfl (hb hby at_23) rfl (l' := #[.val (.int p0), .val (.int p1), .val (.int p2), .val (.int (0 : Int32)), .val (.int (1 : Int32)), .unset, .unset, .unset, .unset]) rfl) ?_
      show Go p e below s QQ room_1.cells room_1.slots (s₁.setTop (mkF m 25 #[.val (.int p0), .val (.int p1), .val (.int p2), .val (.int (0 : Int32)), .val (.int (1 : Int32)), .unset, .unset, .unset, .unset] []))
      refine gs (fun t => XS.iloadN X0.here hx rfl (hb hby at_25) rfl) ?_
      show Go p e below s QQ room_1.cells room_1.slots (s₁.setTop (mkF m 26 #[.val (.int p0), .val (.int p1), .val (.int p2), .val (.int (0 : Int32)), .val (.int (1 : Int32)), .unset, .unset, .unset, .unset] [(.int (0 : Int32))]))
      refine gs (fun t => XS.ifYes X0.here hx rfl (pc0 := 26) (pc' := 44) rfl (hb hby at_26) rfl ((if0 _ _).trans (teq (by decide : (0 : Int32) = (0 : Int32))).1) (by decide) (by decide)) ?_
      show Go p e below s QQ room_1.cells room_1.slots (s₁.setTop (mkF m 44 #[.val (.int p0), .val (.int p1), .val (.int p2), .val (.int (0 : Int32)), .val (.int (1 : Int32)), .unset, .unset, .unset, .unset] []))
      refine gs (fun t => XS.bipush X0.here hx rfl (hb hby at_44)) ?_
      show Go p e below s QQ room_1.cells room_1.slots (s₁.setTop (mkF m 46 #[.val (.int p0), .val (.int p1), .val (.int p2), .val (.int (0 : Int32)), .val (.int (1 : Int32)), .unset, .unset, .unset, .unset] [(.int (45 : Int32))]))
      refine gs (fun t => XS.iloadN X0.here hx rfl (hb hby at_46) rfl) ?_
      show Go p e below s QQ room_1.cells room_1.slots (s₁.setTop (mkF m 47 #[.val (.int p0), .val (.int p1), .val (.int p2), .val (.int (0 : Int32)), .val (.int (1 : Int32)), .unset, .unset, .unset, .unset] [(.int p0), (.int (45 : Int32))]))
      refine gs (fun t => X0.ldcInt hx hown (mvT hZ (hw _ (List.mem_of_getElem? (i := 0) rfl))) (g := (mkF m 47 #[.val (.int p0), .val (.int p1), .val (.int p2), .val (.int (0 : Int32)), .val (.int (1 : Int32)), .unset, .unset, .unset, .unset] [(.int p0), (.int (45 : Int32))])) rfl (hb hby at_47) t) ?_
      show Go p e below s QQ room_1.cells room_1.slots (s₁.setTop (mkF m 49 #[.val (.int p0), .val (.int p1), .val (.int p2), .val (.int (0 : Int32)), .val (.int (1 : Int32)), .unset, .unset, .unset, .unset] [(.int (2147483647 : Int32)), (.int p0), (.int (45 : Int32))]))
      refine gs (fun t => XS.iand X0.here hx rfl (hb hby at_49) rfl) ?_
      show Go p e below s QQ room_1.cells room_1.slots (s₁.setTop (mkF m 50 #[.val (.int p0), .val (.int p1), .val (.int p2), .val (.int (0 : Int32)), .val (.int (1 : Int32)), .unset, .unset, .unset, .unset] [(.int (p0 &&& (2147483647 : Int32))), (.int (45 : Int32))]))
      refine gs (fun t => XS.bipush X0.here hx rfl (hb hby at_50)) ?_
      show Go p e below s QQ room_1.cells room_1.slots (s₁.setTop (mkF m 52 #[.val (.int p0), .val (.int p1), .val (.int p2), .val (.int (0 : Int32)), .val (.int (1 : Int32)), .unset, .unset, .unset, .unset] [(.int (11 : Int32)), (.int (p0 &&& (2147483647 : Int32))), (.int (45 : Int32))]))
      refine gs (fun t => iremM X0 hx (g := (mkF m 52 #[.val (.int p0), .val (.int p1), .val (.int p2), .val (.int (0 : Int32)), .val (.int (1 : Int32)), .unset, .unset, .unset, .unset] [(.int (11 : Int32)), (.int (p0 &&& (2147483647 : Int32))), (.int (45 : Int32))])) rfl (hb hby at_52) rfl (by decide)) ?_
      show Go p e below s QQ room_1.cells room_1.slots (s₁.setTop (mkF m 53 #[.val (.int p0), .val (.int p1), .val (.int p2), .val (.int (0 : Int32)), .val (.int (1 : Int32)), .unset, .unset, .unset, .unset] [(.int ((p0 &&& (2147483647 : Int32)) % (11 : Int32))), (.int (45 : Int32))]))
      refine gs (fun t => XS.iadd X0.here hx rfl (hb hby at_53) rfl) ?_
      show Go p e below s QQ room_1.cells room_1.slots (s₁.setTop (mkF m 54 #[.val (.int p0), .val (.int p1), .val (.int p2), .val (.int (0 : Int32)), .val (.int (1 : Int32)), .unset, .unset, .unset, .unset] [(.int ((45 : Int32) + ((p0 &&& (2147483647 : Int32)) % (11 : Int32))))]))
      generalize hmj : ((45 : Int32) + ((p0 &&& (2147483647 : Int32)) % (11 : Int32))) = mj
      show Go p e below s QQ room_1.cells room_1.slots (s₁.setTop (mkF m 54 #[.val (.int p0), .val (.int p1), .val (.int p2), .val (.int (0 : Int32)), .val (.int (1 : Int32)), .unset, .unset, .unset, .unset] [(.int mj)]))
      have bm := own_early p0 hmj
      refine gs (fun t => XS.istore X0.here hx rfl (hb hby at_54) rfl (l' := #[.val (.int p0), .val (.int p1), .val (.int p2), .val (.int (0 : Int32)), .val (.int (1 : Int32)), .val (.int mj), .unset, .unset, .unset]) rfl) ?_
      show Go p e below s QQ room_1.cells room_1.slots (s₁.setTop (mkF m 56 #[.val (.int p0), .val (.int p1), .val (.int p2), .val (.int (0 : Int32)), .val (.int (1 : Int32)), .val (.int mj), .unset, .unset, .unset] []))
      refine gs (fun t => XS.iload X0.here hx rfl (hb hby at_56) rfl) ?_
      show Go p e below s QQ room_1.cells room_1.slots (s₁.setTop (mkF m 58 #[.val (.int p0), .val (.int p1), .val (.int p2), .val (.int (0 : Int32)), .val (.int (1 : Int32)), .val (.int mj), .unset, .unset, .unset] [(.int (1 : Int32))]))
      refine gs (fun t => XS.ifNo X0.here hx rfl (hb hby at_58) rfl ((if0 _ _).trans (feq (by decide : ¬ ((1 : Int32) = (0 : Int32)))).1)) ?_
      show Go p e below s QQ room_1.cells room_1.slots (s₁.setTop (mkF m 61 #[.val (.int p0), .val (.int p1), .val (.int p2), .val (.int (0 : Int32)), .val (.int (1 : Int32)), .val (.int mj), .unset, .unset, .unset] []))
      refine gs (fun t => X0.ldcInt hx hown (mvT hZ (hw _ (List.mem_of_getElem? (i := 1) rfl))) (g := (mkF m 61 #[.val (.int p0), .val (.int p1), .val (.int p2), .val (.int (0 : Int32)), .val (.int (1 : Int32)), .val (.int mj), .unset, .unset, .unset] [])) rfl (hb hby at_61) t) ?_
      show Go p e below s QQ room_1.cells room_1.slots (s₁.setTop (mkF m 63 #[.val (.int p0), .val (.int p1), .val (.int p2), .val (.int (0 : Int32)), .val (.int (1 : Int32)), .val (.int mj), .unset, .unset, .unset] [(.int (65535 : Int32))]))
      refine gs (fun t => XS.istore X0.here hx rfl (hb hby at_63) rfl (l' := #[.val (.int p0), .val (.int p1), .val (.int p2), .val (.int (0 : Int32)), .val (.int (1 : Int32)), .val (.int mj), .val (.int (65535 : Int32)), .unset, .unset]) rfl) ?_
      show Go p e below s QQ room_1.cells room_1.slots (s₁.setTop (mkF m 65 #[.val (.int p0), .val (.int p1), .val (.int p2), .val (.int (0 : Int32)), .val (.int (1 : Int32)), .val (.int mj), .val (.int (65535 : Int32)), .unset, .unset] []))
      refine gs (fun t => XS.goto X0.here hx rfl (pc0 := 65) (pc' := 77) rfl (hb hby at_65) (by decide) (by decide)) ?_
      show Go p e below s QQ room_1.cells room_1.slots (s₁.setTop (mkF m 77 #[.val (.int p0), .val (.int p1), .val (.int p2), .val (.int (0 : Int32)), .val (.int (1 : Int32)), .val (.int mj), .val (.int (65535 : Int32)), .unset, .unset] []))
      obtain ⟨T10, h10, X10, e10, E10, A10, D10, -, st10⟩ := newO X0 hx hZ hown (hw _ (List.mem_of_getElem? (i := 2) rfl)) (hw _ (List.mem_of_getElem? (i := 3) rfl)) (hw _ (List.mem_of_getElem? (i := 4) rfl)) e0 (g := (mkF m 77 #[.val (.int p0), .val (.int p1), .val (.int p2), .val (.int (0 : Int32)), .val (.int (1 : Int32)), .val (.int mj), .val (.int (65535 : Int32)), .unset, .unset] [])) rfl (hb hby at_77) (by decide) (by decide)
      obtain ⟨b10, g10⟩ : ∃ z, z = h0.size := ⟨_, rfl⟩
      rw [← g10] at A10 D10 st10
      have ge_b10 : n0 ≤ b10 := by rw [g10]; exact ZZ
      refine gs st10 ?_
      show Go p e below s QQ room_1.cells room_1.slots (T10.setTop (mkF m 80 #[.val (.int p0), .val (.int p1), .val (.int p2), .val (.int (0 : Int32)), .val (.int (1 : Int32)), .val (.int mj), .val (.int (65535 : Int32)), .unset, .unset] [(.ref b10)]))
      replace ZZ := Nat.le_trans ZZ E10.1
      have Ex_b10 := A10
      have F_major_b10 : Fld Z h10 b10 "com/example/roastery/roastery/model/ClassFileVersion" "major" "I" (.int (0 : Int32)) := D10 (Or.inr (hw _ (List.mem_of_getElem? (i := 18) rfl))) (ty := .int) (by decide)
      have F_minor_b10 : Fld Z h10 b10 "com/example/roastery/roastery/model/ClassFileVersion" "minor" "I" (.int (0 : Int32)) := D10 (Or.inr (hw _ (List.mem_of_getElem? (i := 20) rfl))) (ty := .int) (by decide)
      refine gs (fun t => XS.dup X10.here hx rfl (hb hby at_80) rfl rfl) ?_
      show Go p e below s QQ room_1.cells room_1.slots (T10.setTop (mkF m 81 #[.val (.int p0), .val (.int p1), .val (.int p2), .val (.int (0 : Int32)), .val (.int (1 : Int32)), .val (.int mj), .val (.int (65535 : Int32)), .unset, .unset] [(.ref b10), (.ref b10)]))
      refine gs (fun t => XS.iload X10.here hx rfl (hb hby at_81) rfl) ?_
      show Go p e below s QQ room_1.cells room_1.slots (T10.setTop (mkF m 83 #[.val (.int p0), .val (.int p1), .val (.int p2), .val (.int (0 : Int32)), .val (.int (1 : Int32)), .val (.int mj), .val (.int (65535 : Int32)), .unset, .unset] [(.int mj), (.ref b10), (.ref b10)]))
      refine gs (fun t => XS.iload X10.here hx rfl (hb hby at_83) rfl) ?_
      show Go p e below s QQ room_1.cells room_1.slots (T10.setTop (mkF m 85 #[.val (.int p0), .val (.int p1), .val (.int p2), .val (.int (0 : Int32)), .val (.int (1 : Int32)), .val (.int mj), .val (.int (65535 : Int32)), .unset, .unset] [(.int (65535 : Int32)), (.int mj), (.ref b10), (.ref b10)]))
      have bn : (0 : Int) ≤ (65535 : Int32).toInt ∧ (65535 : Int32).toInt ≤ 65535 := by decide
      obtain ⟨_, _, ⟨T11, L11, k11, n11⟩, -, X11, ⟨Lc11, hQ11, l11, y11, z11⟩, st11⟩ := X10.specialBack hx (y := (⟨"com/example/roastery/roastery/model/ClassFileVersion", "<init>", "(II)V"⟩ : MethodName)) rfl hown (mvT hZ (hw _ (List.mem_of_getElem? (i := 5) rfl))) (mvT hZ (hw _ (List.mem_of_getElem? (i := 6) rfl))) (mvT hZ (hw _ (List.mem_of_getElem? (i := 7) rfl))) (by decide) (backOf (W := 1) (rm1 l Z a0 hw [] b10 mj (65535 : Int32) h10 n0 ZZ F_major_b10 F_minor_b10 Ex_b10 ge_b10 (by rw [own_lt]; have := own_k45; have := own_k0; have := own_kM; omega) (by rw [own_lt]; have := own_k45; have := own_k0; have := own_kM; omega) (by rw [own_lt]; have := own_k45; have := own_k0; have := own_kM; omega) (by rw [own_lt]; have := own_k45; have := own_k0; have := own_kM; omega)) hZ (hw _ (List.mem_of_getElem? (i := 7) rfl)) (hw _ (List.mem_of_getElem? (i := 4) rfl)) (by decide) (by decide)) (g := (mkF m 85 #[.val (.int p0), .val (.int p1), .val (.int p2), .val (.int (0 : Int32)), .val (.int (1 : Int32)), .val (.int mj), .val (.int (65535 : Int32)), .unset, .unset] [(.int (65535 : Int32)), (.int mj), (.ref b10), (.ref b10)])) rfl (by rw [hml]; rfl) (Steps.refl _) (a := b10) (argsL := [(.int mj), (.int (65535 : Int32))]) (rest := [(.ref b10)]) (lenOf pd_1 rfl) rfl (by show 2 * 0 + _ ≤ _; exact Nat.le_of_eq rfl) (hb hby at_85) (fun _ _ => ⟨rfl, e10, (by decide : 1 + 0 ≤ _), (by decide : 2 + 0 ≤ _)⟩)
      dsimp only [Pt.U, Pt.locs, Pt.cells, Pt.slots] at X11 l11 y11 z11 st11 hQ11
      subst l11 y11 z11
      obtain ⟨rfl, N11q, K11, Fa11, Fb11⟩ := hQ11
      replace N0 := Fr.app N0 N11q
      refine gt st11 ?_
      show Go p e below s QQ room_1.cells room_1.slots (T11.setTop (mkF m 88 #[.val (.int p0), .val (.int p1), .val (.int p2), .val (.int (0 : Int32)), .val (.int (1 : Int32)), .val (.int mj), .val (.int (65535 : Int32)), .unset, .unset] [(.ref b10)]))
      replace Ex_b10 := Ex_b10.keep K11
      replace ZZ := Nat.le_trans ZZ K11.1
      refine gs (fun t => XS.astore X11.here hx rfl (hb hby at_88) rfl rfl (l' := #[.val (.int p0), .val (.int p1), .val (.int p2), .val (.int (0 : Int32)), .val (.int (1 : Int32)), .val (.int mj), .val (.int (65535 : Int32)), .val (.ref b10), .unset]) rfl) ?_
      show Go p e below s QQ room_1.cells room_1.slots (T11.setTop (mkF m 90 #[.val (.int p0), .val (.int p1), .val (.int p2), .val (.int (0 : Int32)), .val (.int (1 : Int32)), .val (.int mj), .val (.int (65535 : Int32)), .val (.ref b10), .unset] []))
      refine gs (fun t => XS.iloadN X11.here hx rfl (hb hby at_90) rfl) ?_
      show Go p e below s QQ room_1.cells room_1.slots (T11.setTop (mkF m 91 #[.val (.int p0), .val (.int p1), .val (.int p2), .val (.int (0 : Int32)), .val (.int (1 : Int32)), .val (.int mj), .val (.int (65535 : Int32)), .val (.ref b10), .unset] [(.int (0 : Int32))]))
      refine gs (fun t => XS.ifYes X11.here hx rfl (pc0 := 91) (pc' := 103) rfl (hb hby at_91) rfl ((if0 _ _).trans (teq (by decide : (0 : Int32) = (0 : Int32))).1) (by decide) (by decide)) ?_
      show Go p e below s QQ room_1.cells room_1.slots (T11.setTop (mkF m 103 #[.val (.int p0), .val (.int p1), .val (.int p2), .val (.int (0 : Int32)), .val (.int (1 : Int32)), .val (.int mj), .val (.int (65535 : Int32)), .val (.ref b10), .unset] []))
      refine gs (fun t => XS.iconst X11.here hx rfl (hb hby at_103)) ?_
      show Go p e below s QQ room_1.cells room_1.slots (T11.setTop (mkF m 104 #[.val (.int p0), .val (.int p1), .val (.int p2), .val (.int (0 : Int32)), .val (.int (1 : Int32)), .val (.int mj), .val (.int (65535 : Int32)), .val (.ref b10), .unset] [(.int (0 : Int32))]))
      refine gs (fun t => XS.istore X11.here hx rfl (hb hby at_104) rfl (l' := #[.val (.int p0), .val (.int p1), .val (.int p2), .val (.int (0 : Int32)), .val (.int (1 : Int32)), .val (.int mj), .val (.int (65535 : Int32)), .val (.ref b10), .val (.int (0 : Int32))]) rfl) ?_
      show Go p e below s QQ room_1.cells room_1.slots (T11.setTop (mkF m 106 #[.val (.int p0), .val (.int p1), .val (.int p2), .val (.int (0 : Int32)), .val (.int (1 : Int32)), .val (.int mj), .val (.int (65535 : Int32)), .val (.ref b10), .val (.int (0 : Int32))] []))
      refine gs (fun t => XS.aload X11.here hx rfl (hb hby at_106) rfl rfl) ?_
      show Go p e below s QQ room_1.cells room_1.slots (T11.setTop (mkF m 108 #[.val (.int p0), .val (.int p1), .val (.int p2), .val (.int (0 : Int32)), .val (.int (1 : Int32)), .val (.int mj), .val (.int (65535 : Int32)), .val (.ref b10), .val (.int (0 : Int32))] [(.ref b10)]))
      obtain ⟨cq12, kq12, q12a, q12b, q12c⟩ := isOf hZ rfl Ex_b10
      obtain ⟨_, _, ⟨T12, L12, k12, n12⟩, -, X12, ⟨Lc12, hQ12, l12, y12, z12⟩, st12⟩ := X11.virtualBack hx (y := (⟨"com/example/roastery/roastery/model/ClassFileVersion", "isPreview", "()Z"⟩ : MethodName)) (z := (⟨"com/example/roastery/roastery/model/ClassFileVersion", "isPreview", "()Z"⟩ : MethodName)) hown (mvT hZ (hw _ (List.mem_of_getElem? (i := 21) rfl))) (mvT hZ (hw _ (List.mem_of_getElem? (i := 22) rfl))) (notFace_of_selects (args := #[]) (mvT hZ (hw _ (List.mem_of_getElem? (i := 24) rfl)))) (mvT hZ (hw _ (List.mem_of_getElem? (i := 24) rfl))) (mvT hZ (hw _ (List.mem_of_getElem? (i := 23) rfl))) (by decide) (backOf (W := 0) (rm4 l Z a0 hw [] b10 mj (65535 : Int32) T11.heap n0 ZZ Fa11 Fb11) hZ (hw _ (List.mem_of_getElem? (i := 25) rfl)) (hw _ (List.mem_of_getElem? (i := 4) rfl)) (by decide) (by decide)) q12a q12c (g := (mkF m 108 #[.val (.int p0), .val (.int p1), .val (.int p2), .val (.int (0 : Int32)), .val (.int (1 : Int32)), .val (.int mj), .val (.int (65535 : Int32)), .val (.ref b10), .val (.int (0 : Int32))] [(.ref b10)])) rfl (by rw [hml]; rfl) (Steps.refl _) (argsL := []) (rest := []) (lenOf pd_2 rfl) rfl (by show 2 * 0 + _ ≤ _; exact Nat.le_of_eq rfl) (hb hby at_108) (fun _ _ => ⟨rfl, rfl, (by decide : 1 + 0 ≤ _), (by decide : 2 + 0 ≤ _)⟩)
      dsimp only [Pt.U, Pt.locs, Pt.cells, Pt.slots] at X12 l12 y12 z12 st12 hQ12
      subst l12 y12 z12
      obtain ⟨rfl, N12q, e12⟩ := hQ12
      replace N0 := Fr.app N0 N12q
      refine gt st12 ?_
      show Go p e below s QQ room_1.cells room_1.slots (T12.setTop (mkF m 111 #[.val (.int p0), .val (.int p1), .val (.int p2), .val (.int (0 : Int32)), .val (.int (1 : Int32)), .val (.int mj), .val (.int (65535 : Int32)), .val (.ref b10), .val (.int (0 : Int32))] [(.int (own_prev mj (65535 : Int32)))]))
      refine gs (fun t => XS.iload X12.here hx rfl (hb hby at_111) rfl) ?_
      show Go p e below s QQ room_1.cells room_1.slots (T12.setTop (mkF m 113 #[.val (.int p0), .val (.int p1), .val (.int p2), .val (.int (0 : Int32)), .val (.int (1 : Int32)), .val (.int mj), .val (.int (65535 : Int32)), .val (.ref b10), .val (.int (0 : Int32))] [(.int (0 : Int32)), (.int (own_prev mj (65535 : Int32)))]))
      refine gs (fun t => XS.icmpNo X12.here hx rfl (hb hby at_113) rfl (teq (by unfold own_prev; have := own_k56; have := own_kM; exact if_neg (fun q => q.1 (own_lt.mpr (by omega))) : (own_prev mj (65535 : Int32)) = (0 : Int32))).2) ?_
      show Go p e below s QQ room_1.cells room_1.slots (T12.setTop (mkF m 116 #[.val (.int p0), .val (.int p1), .val (.int p2), .val (.int (0 : Int32)), .val (.int (1 : Int32)), .val (.int mj), .val (.int (65535 : Int32)), .val (.ref b10), .val (.int (0 : Int32))] []))
      refine gs (fun t => XS.iconst X12.here hx rfl (hb hby at_116)) ?_
      show Go p e below s QQ room_1.cells room_1.slots (T12.setTop (mkF m 117 #[.val (.int p0), .val (.int p1), .val (.int p2), .val (.int (0 : Int32)), .val (.int (1 : Int32)), .val (.int mj), .val (.int (65535 : Int32)), .val (.ref b10), .val (.int (0 : Int32))] [(.int (1 : Int32))]))
      refine gs (fun t => XS.goto X12.here hx rfl (pc0 := 117) (pc' := 121) rfl (hb hby at_117) (by decide) (by decide)) ?_
      show Go p e below s QQ room_1.cells room_1.slots (T12.setTop (mkF m 121 #[.val (.int p0), .val (.int p1), .val (.int p2), .val (.int (0 : Int32)), .val (.int (1 : Int32)), .val (.int mj), .val (.int (65535 : Int32)), .val (.ref b10), .val (.int (0 : Int32))] [(.int (1 : Int32))]))
      exact goB X12 hx Bd.notSynchronized Bd.returns (by simp) (w := (1 : Int32)) (by first | rfl | decide) (hb hby at_121) (by rw [← hQQ, e12]; exact ⟨rfl, N0⟩) (by decide) (by decide)
  · skip
    by_cases hb2 : (p2 &&& (2 : Int32)) = (0 : Int32)
    · skip
      refine gs (fun t => XS.iloadN X0.here hx rfl (hb hby at_0) rfl) ?_
      show Go p e below s QQ room_1.cells room_1.slots (s₁.setTop (mkF m 1 #[.val (.int p0), .val (.int p1), .val (.int p2), .unset, .unset, .unset, .unset, .unset, .unset] [(.int p2)]))
      refine gs (fun t => XS.iconst X0.here hx rfl (hb hby at_1)) ?_
      show Go p e below s QQ room_1.cells room_1.slots (s₁.setTop (mkF m 2 #[.val (.int p0), .val (.int p1), .val (.int p2), .unset, .unset, .unset, .unset, .unset, .unset] [(.int (1 : Int32)), (.int p2)]))
      refine gs (fun t => XS.iand X0.here hx rfl (hb hby at_2) rfl) ?_
      show Go p e below s QQ room_1.cells room_1.slots (s₁.setTop (mkF m 3 #[.val (.int p0), .val (.int p1), .val (.int p2), .unset, .unset, .unset, .unset, .unset, .unset] [(.int (p2 &&& (1 : Int32)))]))
      refine gs (fun t => XS.ifNo X0.here hx rfl (hb hby at_3) rfl ((if0 _ _).trans (feq (hb1 : ¬ ((p2 &&& (1 : Int32)) = (0 : Int32)))).1)) ?_
      show Go p e below s QQ room_1.cells room_1.slots (s₁.setTop (mkF m 6 #[.val (.int p0), .val (.int p1), .val (.int p2), .unset, .unset, .unset, .unset, .unset, .unset] []))
      refine gs (fun t => XS.iconst X0.here hx rfl (hb hby at_6)) ?_
      show Go p e below s QQ room_1.cells room_1.slots (s₁.setTop (mkF m 7 #[.val (.int p0), .val (.int p1), .val (.int p2), .unset, .unset, .unset, .unset, .unset, .unset] [(.int (1 : Int32))]))
      refine gs (fun t => XS.goto X0.here hx rfl (pc0 := 7) (pc' := 11) rfl (hb hby at_7) (by decide) (by decide)) ?_
      show Go p e below s QQ room_1.cells room_1.slots (s₁.setTop (mkF m 11 #[.val (.int p0), .val (.int p1), .val (.int p2), .unset, .unset, .unset, .unset, .unset, .unset] [(.int (1 : Int32))]))
      refine gs (fun t => XS.istoreN X0.here hx rfl (hb hby at_11) rfl (l' := #[.val (.int p0), .val (.int p1), .val (.int p2), .val (.int (1 : Int32)), .unset, .unset, .unset, .unset, .unset]) rfl) ?_
      show Go p e below s QQ room_1.cells room_1.slots (s₁.setTop (mkF m 12 #[.val (.int p0), .val (.int p1), .val (.int p2), .val (.int (1 : Int32)), .unset, .unset, .unset, .unset, .unset] []))
      refine gs (fun t => XS.iloadN X0.here hx rfl (hb hby at_12) rfl) ?_
      show Go p e below s QQ room_1.cells room_1.slots (s₁.setTop (mkF m 13 #[.val (.int p0), .val (.int p1), .val (.int p2), .val (.int (1 : Int32)), .unset, .unset, .unset, .unset, .unset] [(.int p2)]))
      refine gs (fun t => XS.iconst X0.here hx rfl (hb hby at_13)) ?_
      show Go p e below s QQ room_1.cells room_1.slots (s₁.setTop (mkF m 14 #[.val (.int p0), .val (.int p1), .val (.int p2), .val (.int (1 : Int32)), .unset, .unset, .unset, .unset, .unset] [(.int (2 : Int32)), (.int p2)]))
      refine gs (fun t => XS.iand X0.here hx rfl (hb hby at_14) rfl) ?_
      show Go p e below s QQ room_1.cells room_1.slots (s₁.setTop (mkF m 15 #[.val (.int p0), .val (.int p1), .val (.int p2), .val (.int (1 : Int32)), .unset, .unset, .unset, .unset, .unset] [(.int (p2 &&& (2 : Int32)))]))
      refine gs (fun t => XS.ifYes X0.here hx rfl (pc0 := 15) (pc' := 22) rfl (hb hby at_15) rfl ((if0 _ _).trans (teq (hb2 : (p2 &&& (2 : Int32)) = (0 : Int32))).1) (by decide) (by decide)) ?_
      show Go p e below s QQ room_1.cells room_1.slots (s₁.setTop (mkF m 22 #[.val (.int p0), .val (.int p1), .val (.int p2), .val (.int (1 : Int32)), .unset, .unset, .unset, .unset, .unset] []))
      refine gs (fun t => XS.iconst X0.here hx rfl (hb hby at_22)) ?_
      show Go p e below s QQ room_1.cells room_1.slots (s₁.setTop (mkF m 23 #[.val (.int p0), .val (.int p1), .val (.int p2), .val (.int (1 : Int32)), .unset, .unset, .unset, .unset, .unset] [(.int (0 : Int32))]))
      refine gs (fun t => XS.istore X0.here hx rfl (hb hby at_23) rfl (l' := #[.val (.int p0), .val (.int p1), .val (.int p2), .val (.int (1 : Int32)), .val (.int (0 : Int32)), .unset, .unset, .unset, .unset]) rfl) ?_
      show Go p e below s QQ room_1.cells room_1.slots (s₁.setTop (mkF m 25 #[.val (.int p0), .val (.int p1), .val (.int p2), .val (.int (1 : Int32)), .val (.int (0 : Int32)), .unset, .unset, .unset, .unset] []))
      refine gs (fun t => XS.iloadN X0.here hx rfl (hb hby at_25) rfl) ?_
      show Go p e below s QQ room_1.cells room_1.slots (s₁.setTop (mkF m 26 #[.val (.int p0), .val (.int p1), .val (.int p2), .val (.int (1 : Int32)), .val (.int (0 : Int32)), .unset, .unset, .unset, .unset] [(.int (1 : Int32))]))
      refine gs (fun t => XS.ifNo X0.here hx rfl (hb hby at_26) rfl ((if0 _ _).trans (feq (by decide : ¬ ((1 : Int32) = (0 : Int32)))).1)) ?_
      show Go p e below s QQ room_1.cells room_1.slots (s₁.setTop (mkF m 29 #[.val (.int p0), .val (.int p1), .val (.int p2), .val (.int (1 : Int32)), .val (.int (0 : Int32)), .unset, .unset, .unset, .unset] []))
      refine gs (fun t => XS.bipush X0.here hx rfl (hb hby at_29)) ?_
      show Go p e below s QQ room_1.cells room_1.slots (s₁.setTop (mkF m 31 #[.val (.int p0), .val (.int p1), .val (.int p2), .val (.int (1 : Int32)), .val (.int (0 : Int32)), .unset, .unset, .unset, .unset] [(.int (56 : Int32))]))
      refine gs (fun t => XS.iloadN X0.here hx rfl (hb hby at_31) rfl) ?_
      show Go p e below s QQ room_1.cells room_1.slots (s₁.setTop (mkF m 32 #[.val (.int p0), .val (.int p1), .val (.int p2), .val (.int (1 : Int32)), .val (.int (0 : Int32)), .unset, .unset, .unset, .unset] [(.int p0), (.int (56 : Int32))]))
      refine gs (fun t => X0.ldcInt hx hown (mvT hZ (hw _ (List.mem_of_getElem? (i := 0) rfl))) (g := (mkF m 32 #[.val (.int p0), .val (.int p1), .val (.int p2), .val (.int (1 : Int32)), .val (.int (0 : Int32)), .unset, .unset, .unset, .unset] [(.int p0), (.int (56 : Int32))])) rfl (hb hby at_32) t) ?_
      show Go p e below s QQ room_1.cells room_1.slots (s₁.setTop (mkF m 34 #[.val (.int p0), .val (.int p1), .val (.int p2), .val (.int (1 : Int32)), .val (.int (0 : Int32)), .unset, .unset, .unset, .unset] [(.int (2147483647 : Int32)), (.int p0), (.int (56 : Int32))]))
      refine gs (fun t => XS.iand X0.here hx rfl (hb hby at_34) rfl) ?_
      show Go p e below s QQ room_1.cells room_1.slots (s₁.setTop (mkF m 35 #[.val (.int p0), .val (.int p1), .val (.int p2), .val (.int (1 : Int32)), .val (.int (0 : Int32)), .unset, .unset, .unset, .unset] [(.int (p0 &&& (2147483647 : Int32))), (.int (56 : Int32))]))
      refine gs (fun t => X0.ldcInt hx hown (mvT hZ (hw _ (List.mem_of_getElem? (i := 26) rfl))) (g := (mkF m 35 #[.val (.int p0), .val (.int p1), .val (.int p2), .val (.int (1 : Int32)), .val (.int (0 : Int32)), .unset, .unset, .unset, .unset] [(.int (p0 &&& (2147483647 : Int32))), (.int (56 : Int32))])) rfl (hb hby at_35) t) ?_
      show Go p e below s QQ room_1.cells room_1.slots (s₁.setTop (mkF m 37 #[.val (.int p0), .val (.int p1), .val (.int p2), .val (.int (1 : Int32)), .val (.int (0 : Int32)), .unset, .unset, .unset, .unset] [(.int (65480 : Int32)), (.int (p0 &&& (2147483647 : Int32))), (.int (56 : Int32))]))
      refine gs (fun t => iremM X0 hx (g := (mkF m 37 #[.val (.int p0), .val (.int p1), .val (.int p2), .val (.int (1 : Int32)), .val (.int (0 : Int32)), .unset, .unset, .unset, .unset] [(.int (65480 : Int32)), (.int (p0 &&& (2147483647 : Int32))), (.int (56 : Int32))])) rfl (hb hby at_37) rfl (by decide)) ?_
      show Go p e below s QQ room_1.cells room_1.slots (s₁.setTop (mkF m 38 #[.val (.int p0), .val (.int p1), .val (.int p2), .val (.int (1 : Int32)), .val (.int (0 : Int32)), .unset, .unset, .unset, .unset] [(.int ((p0 &&& (2147483647 : Int32)) % (65480 : Int32))), (.int (56 : Int32))]))
      refine gs (fun t => XS.iadd X0.here hx rfl (hb hby at_38) rfl) ?_
      show Go p e below s QQ room_1.cells room_1.slots (s₁.setTop (mkF m 39 #[.val (.int p0), .val (.int p1), .val (.int p2), .val (.int (1 : Int32)), .val (.int (0 : Int32)), .unset, .unset, .unset, .unset] [(.int ((56 : Int32) + ((p0 &&& (2147483647 : Int32)) % (65480 : Int32))))]))
      generalize hmj : ((56 : Int32) + ((p0 &&& (2147483647 : Int32)) % (65480 : Int32))) = mj
      show Go p e below s QQ room_1.cells room_1.slots (s₁.setTop (mkF m 39 #[.val (.int p0), .val (.int p1), .val (.int p2), .val (.int (1 : Int32)), .val (.int (0 : Int32)), .unset, .unset, .unset, .unset] [(.int mj)]))
      have bm := own_late p0 hmj
      refine gs (fun t => XS.istore X0.here hx rfl (hb hby at_39) rfl (l' := #[.val (.int p0), .val (.int p1), .val (.int p2), .val (.int (1 : Int32)), .val (.int (0 : Int32)), .val (.int mj), .unset, .unset, .unset]) rfl) ?_
      show Go p e below s QQ room_1.cells room_1.slots (s₁.setTop (mkF m 41 #[.val (.int p0), .val (.int p1), .val (.int p2), .val (.int (1 : Int32)), .val (.int (0 : Int32)), .val (.int mj), .unset, .unset, .unset] []))
      refine gs (fun t => XS.goto X0.here hx rfl (pc0 := 41) (pc' := 56) rfl (hb hby at_41) (by decide) (by decide)) ?_
      show Go p e below s QQ room_1.cells room_1.slots (s₁.setTop (mkF m 56 #[.val (.int p0), .val (.int p1), .val (.int p2), .val (.int (1 : Int32)), .val (.int (0 : Int32)), .val (.int mj), .unset, .unset, .unset] []))
      refine gs (fun t => XS.iload X0.here hx rfl (hb hby at_56) rfl) ?_
      show Go p e below s QQ room_1.cells room_1.slots (s₁.setTop (mkF m 58 #[.val (.int p0), .val (.int p1), .val (.int p2), .val (.int (1 : Int32)), .val (.int (0 : Int32)), .val (.int mj), .unset, .unset, .unset] [(.int (0 : Int32))]))
      refine gs (fun t => XS.ifYes X0.here hx rfl (pc0 := 58) (pc' := 68) rfl (hb hby at_58) rfl ((if0 _ _).trans (teq (by decide : (0 : Int32) = (0 : Int32))).1) (by decide) (by decide)) ?_
      show Go p e below s QQ room_1.cells room_1.slots (s₁.setTop (mkF m 68 #[.val (.int p0), .val (.int p1), .val (.int p2), .val (.int (1 : Int32)), .val (.int (0 : Int32)), .val (.int mj), .unset, .unset, .unset] []))
      refine gs (fun t => XS.iloadN X0.here hx rfl (hb hby at_68) rfl) ?_
      show Go p e below s QQ room_1.cells room_1.slots (s₁.setTop (mkF m 69 #[.val (.int p0), .val (.int p1), .val (.int p2), .val (.int (1 : Int32)), .val (.int (0 : Int32)), .val (.int mj), .unset, .unset, .unset] [(.int p1)]))
      refine gs (fun t => X0.ldcInt hx hown (mvT hZ (hw _ (List.mem_of_getElem? (i := 0) rfl))) (g := (mkF m 69 #[.val (.int p0), .val (.int p1), .val (.int p2), .val (.int (1 : Int32)), .val (.int (0 : Int32)), .val (.int mj), .unset, .unset, .unset] [(.int p1)])) rfl (hb hby at_69) t) ?_
      show Go p e below s QQ room_1.cells room_1.slots (s₁.setTop (mkF m 71 #[.val (.int p0), .val (.int p1), .val (.int p2), .val (.int (1 : Int32)), .val (.int (0 : Int32)), .val (.int mj), .unset, .unset, .unset] [(.int (2147483647 : Int32)), (.int p1)]))
      refine gs (fun t => XS.iand X0.here hx rfl (hb hby at_71) rfl) ?_
      show Go p e below s QQ room_1.cells room_1.slots (s₁.setTop (mkF m 72 #[.val (.int p0), .val (.int p1), .val (.int p2), .val (.int (1 : Int32)), .val (.int (0 : Int32)), .val (.int mj), .unset, .unset, .unset] [(.int (p1 &&& (2147483647 : Int32)))]))
      refine gs (fun t => X0.ldcInt hx hown (mvT hZ (hw _ (List.mem_of_getElem? (i := 1) rfl))) (g := (mkF m 72 #[.val (.int p0), .val (.int p1), .val (.int p2), .val (.int (1 : Int32)), .val (.int (0 : Int32)), .val (.int mj), .unset, .unset, .unset] [(.int (p1 &&& (2147483647 : Int32)))])) rfl (hb hby at_72) t) ?_
      show Go p e below s QQ room_1.cells room_1.slots (s₁.setTop (mkF m 74 #[.val (.int p0), .val (.int p1), .val (.int p2), .val (.int (1 : Int32)), .val (.int (0 : Int32)), .val (.int mj), .unset, .unset, .unset] [(.int (65535 : Int32)), (.int (p1 &&& (2147483647 : Int32)))]))
      refine gs (fun t => iremM X0 hx (g := (mkF m 74 #[.val (.int p0), .val (.int p1), .val (.int p2), .val (.int (1 : Int32)), .val (.int (0 : Int32)), .val (.int mj), .unset, .unset, .unset] [(.int (65535 : Int32)), (.int (p1 &&& (2147483647 : Int32)))])) rfl (hb hby at_74) rfl (by decide)) ?_
      show Go p e below s QQ room_1.cells room_1.slots (s₁.setTop (mkF m 75 #[.val (.int p0), .val (.int p1), .val (.int p2), .val (.int (1 : Int32)), .val (.int (0 : Int32)), .val (.int mj), .unset, .unset, .unset] [(.int ((p1 &&& (2147483647 : Int32)) % (65535 : Int32)))]))
      generalize hmi : ((p1 &&& (2147483647 : Int32)) % (65535 : Int32)) = mi
      show Go p e below s QQ room_1.cells room_1.slots (s₁.setTop (mkF m 75 #[.val (.int p0), .val (.int p1), .val (.int p2), .val (.int (1 : Int32)), .val (.int (0 : Int32)), .val (.int mj), .unset, .unset, .unset] [(.int mi)]))
      have bn := own_minor p1 hmi
      refine gs (fun t => XS.istore X0.here hx rfl (hb hby at_75) rfl (l' := #[.val (.int p0), .val (.int p1), .val (.int p2), .val (.int (1 : Int32)), .val (.int (0 : Int32)), .val (.int mj), .val (.int mi), .unset, .unset]) rfl) ?_
      show Go p e below s QQ room_1.cells room_1.slots (s₁.setTop (mkF m 77 #[.val (.int p0), .val (.int p1), .val (.int p2), .val (.int (1 : Int32)), .val (.int (0 : Int32)), .val (.int mj), .val (.int mi), .unset, .unset] []))
      obtain ⟨T13, h13, X13, e13, E13, A13, D13, -, st13⟩ := newO X0 hx hZ hown (hw _ (List.mem_of_getElem? (i := 2) rfl)) (hw _ (List.mem_of_getElem? (i := 3) rfl)) (hw _ (List.mem_of_getElem? (i := 4) rfl)) e0 (g := (mkF m 77 #[.val (.int p0), .val (.int p1), .val (.int p2), .val (.int (1 : Int32)), .val (.int (0 : Int32)), .val (.int mj), .val (.int mi), .unset, .unset] [])) rfl (hb hby at_77) (by decide) (by decide)
      obtain ⟨b13, g13⟩ : ∃ z, z = h0.size := ⟨_, rfl⟩
      rw [← g13] at A13 D13 st13
      have ge_b13 : n0 ≤ b13 := by rw [g13]; exact ZZ
      refine gs st13 ?_
      show Go p e below s QQ room_1.cells room_1.slots (T13.setTop (mkF m 80 #[.val (.int p0), .val (.int p1), .val (.int p2), .val (.int (1 : Int32)), .val (.int (0 : Int32)), .val (.int mj), .val (.int mi), .unset, .unset] [(.ref b13)]))
      replace ZZ := Nat.le_trans ZZ E13.1
      have Ex_b13 := A13
      have F_major_b13 : Fld Z h13 b13 "com/example/roastery/roastery/model/ClassFileVersion" "major" "I" (.int (0 : Int32)) := D13 (Or.inr (hw _ (List.mem_of_getElem? (i := 18) rfl))) (ty := .int) (by decide)
      have F_minor_b13 : Fld Z h13 b13 "com/example/roastery/roastery/model/ClassFileVersion" "minor" "I" (.int (0 : Int32)) := D13 (Or.inr (hw _ (List.mem_of_getElem? (i := 20) rfl))) (ty := .int) (by decide)
      refine gs (fun t => XS.dup X13.here hx rfl (hb hby at_80) rfl rfl) ?_
      show Go p e below s QQ room_1.cells room_1.slots (T13.setTop (mkF m 81 #[.val (.int p0), .val (.int p1), .val (.int p2), .val (.int (1 : Int32)), .val (.int (0 : Int32)), .val (.int mj), .val (.int mi), .unset, .unset] [(.ref b13), (.ref b13)]))
      refine gs (fun t => XS.iload X13.here hx rfl (hb hby at_81) rfl) ?_
      show Go p e below s QQ room_1.cells room_1.slots (T13.setTop (mkF m 83 #[.val (.int p0), .val (.int p1), .val (.int p2), .val (.int (1 : Int32)), .val (.int (0 : Int32)), .val (.int mj), .val (.int mi), .unset, .unset] [(.int mj), (.ref b13), (.ref b13)]))
      refine gs (fun t => XS.iload X13.here hx rfl (hb hby at_83) rfl) ?_
      show Go p e below s QQ room_1.cells room_1.slots (T13.setTop (mkF m 85 #[.val (.int p0), .val (.int p1), .val (.int p2), .val (.int (1 : Int32)), .val (.int (0 : Int32)), .val (.int mj), .val (.int mi), .unset, .unset] [(.int mi), (.int mj), (.ref b13), (.ref b13)]))
      obtain ⟨_, _, ⟨T14, L14, k14, n14⟩, -, X14, ⟨Lc14, hQ14, l14, y14, z14⟩, st14⟩ := X13.specialBack hx (y := (⟨"com/example/roastery/roastery/model/ClassFileVersion", "<init>", "(II)V"⟩ : MethodName)) rfl hown (mvT hZ (hw _ (List.mem_of_getElem? (i := 5) rfl))) (mvT hZ (hw _ (List.mem_of_getElem? (i := 6) rfl))) (mvT hZ (hw _ (List.mem_of_getElem? (i := 7) rfl))) (by decide) (backOf (W := 1) (rm1 l Z a0 hw [] b13 mj mi h13 n0 ZZ F_major_b13 F_minor_b13 Ex_b13 ge_b13 (by rw [own_lt]; have := own_k45; have := own_k0; have := own_kM; omega) (by rw [own_lt]; have := own_k45; have := own_k0; have := own_kM; omega) (by rw [own_lt]; have := own_k45; have := own_k0; have := own_kM; omega) (by rw [own_lt]; have := own_k45; have := own_k0; have := own_kM; omega)) hZ (hw _ (List.mem_of_getElem? (i := 7) rfl)) (hw _ (List.mem_of_getElem? (i := 4) rfl)) (by decide) (by decide)) (g := (mkF m 85 #[.val (.int p0), .val (.int p1), .val (.int p2), .val (.int (1 : Int32)), .val (.int (0 : Int32)), .val (.int mj), .val (.int mi), .unset, .unset] [(.int mi), (.int mj), (.ref b13), (.ref b13)])) rfl (by rw [hml]; rfl) (Steps.refl _) (a := b13) (argsL := [(.int mj), (.int mi)]) (rest := [(.ref b13)]) (lenOf pd_1 rfl) rfl (by show 2 * 0 + _ ≤ _; exact Nat.le_of_eq rfl) (hb hby at_85) (fun _ _ => ⟨rfl, e13, (by decide : 1 + 0 ≤ _), (by decide : 2 + 0 ≤ _)⟩)
      dsimp only [Pt.U, Pt.locs, Pt.cells, Pt.slots] at X14 l14 y14 z14 st14 hQ14
      subst l14 y14 z14
      obtain ⟨rfl, N14q, K14, Fa14, Fb14⟩ := hQ14
      replace N0 := Fr.app N0 N14q
      refine gt st14 ?_
      show Go p e below s QQ room_1.cells room_1.slots (T14.setTop (mkF m 88 #[.val (.int p0), .val (.int p1), .val (.int p2), .val (.int (1 : Int32)), .val (.int (0 : Int32)), .val (.int mj), .val (.int mi), .unset, .unset] [(.ref b13)]))
      replace Ex_b13 := Ex_b13.keep K14
      replace ZZ := Nat.le_trans ZZ K14.1
      refine gs (fun t => XS.astore X14.here hx rfl (hb hby at_88) rfl rfl (l' := #[.val (.int p0), .val (.int p1), .val (.int p2), .val (.int (1 : Int32)), .val (.int (0 : Int32)), .val (.int mj), .val (.int mi), .val (.ref b13), .unset]) rfl) ?_
      show Go p e below s QQ room_1.cells room_1.slots (T14.setTop (mkF m 90 #[.val (.int p0), .val (.int p1), .val (.int p2), .val (.int (1 : Int32)), .val (.int (0 : Int32)), .val (.int mj), .val (.int mi), .val (.ref b13), .unset] []))
      refine gs (fun t => XS.iloadN X14.here hx rfl (hb hby at_90) rfl) ?_
      show Go p e below s QQ room_1.cells room_1.slots (T14.setTop (mkF m 91 #[.val (.int p0), .val (.int p1), .val (.int p2), .val (.int (1 : Int32)), .val (.int (0 : Int32)), .val (.int mj), .val (.int mi), .val (.ref b13), .unset] [(.int (1 : Int32))]))
      refine gs (fun t => XS.ifNo X14.here hx rfl (hb hby at_91) rfl ((if0 _ _).trans (feq (by decide : ¬ ((1 : Int32) = (0 : Int32)))).1)) ?_
      show Go p e below s QQ room_1.cells room_1.slots (T14.setTop (mkF m 94 #[.val (.int p0), .val (.int p1), .val (.int p2), .val (.int (1 : Int32)), .val (.int (0 : Int32)), .val (.int mj), .val (.int mi), .val (.ref b13), .unset] []))
      refine gs (fun t => XS.iload X14.here hx rfl (hb hby at_94) rfl) ?_
      show Go p e below s QQ room_1.cells room_1.slots (T14.setTop (mkF m 96 #[.val (.int p0), .val (.int p1), .val (.int p2), .val (.int (1 : Int32)), .val (.int (0 : Int32)), .val (.int mj), .val (.int mi), .val (.ref b13), .unset] [(.int (0 : Int32))]))
      refine gs (fun t => XS.ifYes X14.here hx rfl (pc0 := 96) (pc' := 103) rfl (hb hby at_96) rfl ((if0 _ _).trans (teq (by decide : (0 : Int32) = (0 : Int32))).1) (by decide) (by decide)) ?_
      show Go p e below s QQ room_1.cells room_1.slots (T14.setTop (mkF m 103 #[.val (.int p0), .val (.int p1), .val (.int p2), .val (.int (1 : Int32)), .val (.int (0 : Int32)), .val (.int mj), .val (.int mi), .val (.ref b13), .unset] []))
      refine gs (fun t => XS.iconst X14.here hx rfl (hb hby at_103)) ?_
      show Go p e below s QQ room_1.cells room_1.slots (T14.setTop (mkF m 104 #[.val (.int p0), .val (.int p1), .val (.int p2), .val (.int (1 : Int32)), .val (.int (0 : Int32)), .val (.int mj), .val (.int mi), .val (.ref b13), .unset] [(.int (0 : Int32))]))
      refine gs (fun t => XS.istore X14.here hx rfl (hb hby at_104) rfl (l' := #[.val (.int p0), .val (.int p1), .val (.int p2), .val (.int (1 : Int32)), .val (.int (0 : Int32)), .val (.int mj), .val (.int mi), .val (.ref b13), .val (.int (0 : Int32))]) rfl) ?_
      show Go p e below s QQ room_1.cells room_1.slots (T14.setTop (mkF m 106 #[.val (.int p0), .val (.int p1), .val (.int p2), .val (.int (1 : Int32)), .val (.int (0 : Int32)), .val (.int mj), .val (.int mi), .val (.ref b13), .val (.int (0 : Int32))] []))
      refine gs (fun t => XS.aload X14.here hx rfl (hb hby at_106) rfl rfl) ?_
      show Go p e below s QQ room_1.cells room_1.slots (T14.setTop (mkF m 108 #[.val (.int p0), .val (.int p1), .val (.int p2), .val (.int (1 : Int32)), .val (.int (0 : Int32)), .val (.int mj), .val (.int mi), .val (.ref b13), .val (.int (0 : Int32))] [(.ref b13)]))
      obtain ⟨cq15, kq15, q15a, q15b, q15c⟩ := isOf hZ rfl Ex_b13
      obtain ⟨_, _, ⟨T15, L15, k15, n15⟩, -, X15, ⟨Lc15, hQ15, l15, y15, z15⟩, st15⟩ := X14.virtualBack hx (y := (⟨"com/example/roastery/roastery/model/ClassFileVersion", "isPreview", "()Z"⟩ : MethodName)) (z := (⟨"com/example/roastery/roastery/model/ClassFileVersion", "isPreview", "()Z"⟩ : MethodName)) hown (mvT hZ (hw _ (List.mem_of_getElem? (i := 21) rfl))) (mvT hZ (hw _ (List.mem_of_getElem? (i := 22) rfl))) (notFace_of_selects (args := #[]) (mvT hZ (hw _ (List.mem_of_getElem? (i := 24) rfl)))) (mvT hZ (hw _ (List.mem_of_getElem? (i := 24) rfl))) (mvT hZ (hw _ (List.mem_of_getElem? (i := 23) rfl))) (by decide) (backOf (W := 0) (rm4 l Z a0 hw [] b13 mj mi T14.heap n0 ZZ Fa14 Fb14) hZ (hw _ (List.mem_of_getElem? (i := 25) rfl)) (hw _ (List.mem_of_getElem? (i := 4) rfl)) (by decide) (by decide)) q15a q15c (g := (mkF m 108 #[.val (.int p0), .val (.int p1), .val (.int p2), .val (.int (1 : Int32)), .val (.int (0 : Int32)), .val (.int mj), .val (.int mi), .val (.ref b13), .val (.int (0 : Int32))] [(.ref b13)])) rfl (by rw [hml]; rfl) (Steps.refl _) (argsL := []) (rest := []) (lenOf pd_2 rfl) rfl (by show 2 * 0 + _ ≤ _; exact Nat.le_of_eq rfl) (hb hby at_108) (fun _ _ => ⟨rfl, rfl, (by decide : 1 + 0 ≤ _), (by decide : 2 + 0 ≤ _)⟩)
      dsimp only [Pt.U, Pt.locs, Pt.cells, Pt.slots] at X15 l15 y15 z15 st15 hQ15
      subst l15 y15 z15
      obtain ⟨rfl, N15q, e15⟩ := hQ15
      replace N0 := Fr.app N0 N15q
      refine gt st15 ?_
      show Go p e below s QQ room_1.cells room_1.slots (T15.setTop (mkF m 111 #[.val (.int p0), .val (.int p1), .val (.int p2), .val (.int (1 : Int32)), .val (.int (0 : Int32)), .val (.int mj), .val (.int mi), .val (.ref b13), .val (.int (0 : Int32))] [(.int (own_prev mj mi))]))
      refine gs (fun t => XS.iload X15.here hx rfl (hb hby at_111) rfl) ?_
      show Go p e below s QQ room_1.cells room_1.slots (T15.setTop (mkF m 113 #[.val (.int p0), .val (.int p1), .val (.int p2), .val (.int (1 : Int32)), .val (.int (0 : Int32)), .val (.int mj), .val (.int mi), .val (.ref b13), .val (.int (0 : Int32))] [(.int (0 : Int32)), (.int (own_prev mj mi))]))
      refine gs (fun t => XS.icmpNo X15.here hx rfl (hb hby at_113) rfl (teq (by unfold own_prev; have := own_k56; have := own_kM; exact if_neg (fun q => by have := congrArg Int32.toInt q.2; omega) : (own_prev mj mi) = (0 : Int32))).2) ?_
      show Go p e below s QQ room_1.cells room_1.slots (T15.setTop (mkF m 116 #[.val (.int p0), .val (.int p1), .val (.int p2), .val (.int (1 : Int32)), .val (.int (0 : Int32)), .val (.int mj), .val (.int mi), .val (.ref b13), .val (.int (0 : Int32))] []))
      refine gs (fun t => XS.iconst X15.here hx rfl (hb hby at_116)) ?_
      show Go p e below s QQ room_1.cells room_1.slots (T15.setTop (mkF m 117 #[.val (.int p0), .val (.int p1), .val (.int p2), .val (.int (1 : Int32)), .val (.int (0 : Int32)), .val (.int mj), .val (.int mi), .val (.ref b13), .val (.int (0 : Int32))] [(.int (1 : Int32))]))
      refine gs (fun t => XS.goto X15.here hx rfl (pc0 := 117) (pc' := 121) rfl (hb hby at_117) (by decide) (by decide)) ?_
      show Go p e below s QQ room_1.cells room_1.slots (T15.setTop (mkF m 121 #[.val (.int p0), .val (.int p1), .val (.int p2), .val (.int (1 : Int32)), .val (.int (0 : Int32)), .val (.int mj), .val (.int mi), .val (.ref b13), .val (.int (0 : Int32))] [(.int (1 : Int32))]))
      exact goB X15 hx Bd.notSynchronized Bd.returns (by simp) (w := (1 : Int32)) (by first | rfl | decide) (hb hby at_121) (by rw [← hQQ, e15]; exact ⟨rfl, N0⟩) (by decide) (by decide)
    · skip
      refine gs (fun t => XS.iloadN X0.here hx rfl (hb hby at_0) rfl) ?_
      show Go p e below s QQ room_1.cells room_1.slots (s₁.setTop (mkF m 1 #[.val (.int p0), .val (.int p1), .val (.int p2), .unset, .unset, .unset, .unset, .unset, .unset] [(.int p2)]))
      refine gs (fun t => XS.iconst X0.here hx rfl (hb hby at_1)) ?_
      show Go p e below s QQ room_1.cells room_1.slots (s₁.setTop (mkF m 2 #[.val (.int p0), .val (.int p1), .val (.int p2), .unset, .unset, .unset, .unset, .unset, .unset] [(.int (1 : Int32)), (.int p2)]))
      refine gs (fun t => XS.iand X0.here hx rfl (hb hby at_2) rfl) ?_
      show Go p e below s QQ room_1.cells room_1.slots (s₁.setTop (mkF m 3 #[.val (.int p0), .val (.int p1), .val (.int p2), .unset, .unset, .unset, .unset, .unset, .unset] [(.int (p2 &&& (1 : Int32)))]))
      refine gs (fun t => XS.ifNo X0.here hx rfl (hb hby at_3) rfl ((if0 _ _).trans (feq (hb1 : ¬ ((p2 &&& (1 : Int32)) = (0 : Int32)))).1)) ?_
      show Go p e below s QQ room_1.cells room_1.slots (s₁.setTop (mkF m 6 #[.val (.int p0), .val (.int p1), .val (.int p2), .unset, .unset, .unset, .unset, .unset, .unset] []))
      refine gs (fun t => XS.iconst X0.here hx rfl (hb hby at_6)) ?_
      show Go p e below s QQ room_1.cells room_1.slots (s₁.setTop (mkF m 7 #[.val (.int p0), .val (.int p1), .val (.int p2), .unset, .unset, .unset, .unset, .unset, .unset] [(.int (1 : Int32))]))
      refine gs (fun t => XS.goto X0.here hx rfl (pc0 := 7) (pc' := 11) rfl (hb hby at_7) (by decide) (by decide)) ?_
      show Go p e below s QQ room_1.cells room_1.slots (s₁.setTop (mkF m 11 #[.val (.int p0), .val (.int p1), .val (.int p2), .unset, .unset, .unset, .unset, .unset, .unset] [(.int (1 : Int32))]))
      refine gs (fun t => XS.istoreN X0.here hx rfl (hb hby at_11) rfl (l' := #[.val (.int p0), .val (.int p1), .val (.int p2), .val (.int (1 : Int32)), .unset, .unset, .unset, .unset, .unset]) rfl) ?_
      show Go p e below s QQ room_1.cells room_1.slots (s₁.setTop (mkF m 12 #[.val (.int p0), .val (.int p1), .val (.int p2), .val (.int (1 : Int32)), .unset, .unset, .unset, .unset, .unset] []))
      refine gs (fun t => XS.iloadN X0.here hx rfl (hb hby at_12) rfl) ?_
      show Go p e below s QQ room_1.cells room_1.slots (s₁.setTop (mkF m 13 #[.val (.int p0), .val (.int p1), .val (.int p2), .val (.int (1 : Int32)), .unset, .unset, .unset, .unset, .unset] [(.int p2)]))
      refine gs (fun t => XS.iconst X0.here hx rfl (hb hby at_13)) ?_
      show Go p e below s QQ room_1.cells room_1.slots (s₁.setTop (mkF m 14 #[.val (.int p0), .val (.int p1), .val (.int p2), .val (.int (1 : Int32)), .unset, .unset, .unset, .unset, .unset] [(.int (2 : Int32)), (.int p2)]))
      refine gs (fun t => XS.iand X0.here hx rfl (hb hby at_14) rfl) ?_
      show Go p e below s QQ room_1.cells room_1.slots (s₁.setTop (mkF m 15 #[.val (.int p0), .val (.int p1), .val (.int p2), .val (.int (1 : Int32)), .unset, .unset, .unset, .unset, .unset] [(.int (p2 &&& (2 : Int32)))]))
      refine gs (fun t => XS.ifNo X0.here hx rfl (hb hby at_15) rfl ((if0 _ _).trans (feq (hb2 : ¬ ((p2 &&& (2 : Int32)) = (0 : Int32)))).1)) ?_
      show Go p e below s QQ room_1.cells room_1.slots (s₁.setTop (mkF m 18 #[.val (.int p0), .val (.int p1), .val (.int p2), .val (.int (1 : Int32)), .unset, .unset, .unset, .unset, .unset] []))
      refine gs (fun t => XS.iconst X0.here hx rfl (hb hby at_18)) ?_
      show Go p e below s QQ room_1.cells room_1.slots (s₁.setTop (mkF m 19 #[.val (.int p0), .val (.int p1), .val (.int p2), .val (.int (1 : Int32)), .unset, .unset, .unset, .unset, .unset] [(.int (1 : Int32))]))
      refine gs (fun t => XS.goto X0.here hx rfl (pc0 := 19) (pc' := 23) rfl (hb hby at_19) (by decide) (by decide)) ?_
      show Go p e below s QQ room_1.cells room_1.slots (s₁.setTop (mkF m 23 #[.val (.int p0), .val (.int p1), .val (.int p2), .val (.int (1 : Int32)), .unset, .unset, .unset, .unset, .unset] [(.int (1 : Int32))]))
      refine gs (fun t => XS.istore X0.here hx rfl (hb hby at_23) rfl (l' := #[.val (.int p0), .val (.int p1), .val (.int p2), .val (.int (1 : Int32)), .val (.int (1 : Int32)), .unset, .unset, .unset, .unset]) rfl) ?_
      show Go p e below s QQ room_1.cells room_1.slots (s₁.setTop (mkF m 25 #[.val (.int p0), .val (.int p1), .val (.int p2), .val (.int (1 : Int32)), .val (.int (1 : Int32)), .unset, .unset, .unset, .unset] []))
      refine gs (fun t => XS.iloadN X0.here hx rfl (hb hby at_25) rfl) ?_
      show Go p e below s QQ room_1.cells room_1.slots (s₁.setTop (mkF m 26 #[.val (.int p0), .val (.int p1), .val (.int p2), .val (.int (1 : Int32)), .val (.int (1 : Int32)), .unset, .unset, .unset, .unset] [(.int (1 : Int32))]))
      refine gs (fun t => XS.ifNo X0.here hx rfl (hb hby at_26) rfl ((if0 _ _).trans (feq (by decide : ¬ ((1 : Int32) = (0 : Int32)))).1)) ?_
      show Go p e below s QQ room_1.cells room_1.slots (s₁.setTop (mkF m 29 #[.val (.int p0), .val (.int p1), .val (.int p2), .val (.int (1 : Int32)), .val (.int (1 : Int32)), .unset, .unset, .unset, .unset] []))
      refine gs (fun t => XS.bipush X0.here hx rfl (hb hby at_29)) ?_
      show Go p e below s QQ room_1.cells room_1.slots (s₁.setTop (mkF m 31 #[.val (.int p0), .val (.int p1), .val (.int p2), .val (.int (1 : Int32)), .val (.int (1 : Int32)), .unset, .unset, .unset, .unset] [(.int (56 : Int32))]))
      refine gs (fun t => XS.iloadN X0.here hx rfl (hb hby at_31) rfl) ?_
      show Go p e below s QQ room_1.cells room_1.slots (s₁.setTop (mkF m 32 #[.val (.int p0), .val (.int p1), .val (.int p2), .val (.int (1 : Int32)), .val (.int (1 : Int32)), .unset, .unset, .unset, .unset] [(.int p0), (.int (56 : Int32))]))
      refine gs (fun t => X0.ldcInt hx hown (mvT hZ (hw _ (List.mem_of_getElem? (i := 0) rfl))) (g := (mkF m 32 #[.val (.int p0), .val (.int p1), .val (.int p2), .val (.int (1 : Int32)), .val (.int (1 : Int32)), .unset, .unset, .unset, .unset] [(.int p0), (.int (56 : Int32))])) rfl (hb hby at_32) t) ?_
      show Go p e below s QQ room_1.cells room_1.slots (s₁.setTop (mkF m 34 #[.val (.int p0), .val (.int p1), .val (.int p2), .val (.int (1 : Int32)), .val (.int (1 : Int32)), .unset, .unset, .unset, .unset] [(.int (2147483647 : Int32)), (.int p0), (.int (56 : Int32))]))
      refine gs (fun t => XS.iand X0.here hx rfl (hb hby at_34) rfl) ?_
      show Go p e below s QQ room_1.cells room_1.slots (s₁.setTop (mkF m 35 #[.val (.int p0), .val (.int p1), .val (.int p2), .val (.int (1 : Int32)), .val (.int (1 : Int32)), .unset, .unset, .unset, .unset] [(.int (p0 &&& (2147483647 : Int32))), (.int (56 : Int32))]))
      refine gs (fun t => X0.ldcInt hx hown (mvT hZ (hw _ (List.mem_of_getElem? (i := 26) rfl))) (g := (mkF m 35 #[.val (.int p0), .val (.int p1), .val (.int p2), .val (.int (1 : Int32)), .val (.int (1 : Int32)), .unset, .unset, .unset, .unset] [(.int (p0 &&& (2147483647 : Int32))), (.int (56 : Int32))])) rfl (hb hby at_35) t) ?_
      show Go p e below s QQ room_1.cells room_1.slots (s₁.setTop (mkF m 37 #[.val (.int p0), .val (.int p1), .val (.int p2), .val (.int (1 : Int32)), .val (.int (1 : Int32)), .unset, .unset, .unset, .unset] [(.int (65480 : Int32)), (.int (p0 &&& (2147483647 : Int32))), (.int (56 : Int32))]))
      refine gs (fun t => iremM X0 hx (g := (mkF m 37 #[.val (.int p0), .val (.int p1), .val (.int p2), .val (.int (1 : Int32)), .val (.int (1 : Int32)), .unset, .unset, .unset, .unset] [(.int (65480 : Int32)), (.int (p0 &&& (2147483647 : Int32))), (.int (56 : Int32))])) rfl (hb hby at_37) rfl (by decide)) ?_
      show Go p e below s QQ room_1.cells room_1.slots (s₁.setTop (mkF m 38 #[.val (.int p0), .val (.int p1), .val (.int p2), .val (.int (1 : Int32)), .val (.int (1 : Int32)), .unset, .unset, .unset, .unset] [(.int ((p0 &&& (2147483647 : Int32)) % (65480 : Int32))), (.int (56 : Int32))]))
      refine gs (fun t => XS.iadd X0.here hx rfl (hb hby at_38) rfl) ?_
      show Go p e below s QQ room_1.cells room_1.slots (s₁.setTop (mkF m 39 #[.val (.int p0), .val (.int p1), .val (.int p2), .val (.int (1 : Int32)), .val (.int (1 : Int32)), .unset, .unset, .unset, .unset] [(.int ((56 : Int32) + ((p0 &&& (2147483647 : Int32)) % (65480 : Int32))))]))
      generalize hmj : ((56 : Int32) + ((p0 &&& (2147483647 : Int32)) % (65480 : Int32))) = mj
      show Go p e below s QQ room_1.cells room_1.slots (s₁.setTop (mkF m 39 #[.val (.int p0), .val (.int p1), .val (.int p2), .val (.int (1 : Int32)), .val (.int (1 : Int32)), .unset, .unset, .unset, .unset] [(.int mj)]))
      have bm := own_late p0 hmj
      refine gs (fun t => XS.istore X0.here hx rfl (hb hby at_39) rfl (l' := #[.val (.int p0), .val (.int p1), .val (.int p2), .val (.int (1 : Int32)), .val (.int (1 : Int32)), .val (.int mj), .unset, .unset, .unset]) rfl) ?_
      show Go p e below s QQ room_1.cells room_1.slots (s₁.setTop (mkF m 41 #[.val (.int p0), .val (.int p1), .val (.int p2), .val (.int (1 : Int32)), .val (.int (1 : Int32)), .val (.int mj), .unset, .unset, .unset] []))
      refine gs (fun t => XS.goto X0.here hx rfl (pc0 := 41) (pc' := 56) rfl (hb hby at_41) (by decide) (by decide)) ?_
      show Go p e below s QQ room_1.cells room_1.slots (s₁.setTop (mkF m 56 #[.val (.int p0), .val (.int p1), .val (.int p2), .val (.int (1 : Int32)), .val (.int (1 : Int32)), .val (.int mj), .unset, .unset, .unset] []))
      refine gs (fun t => XS.iload X0.here hx rfl (hb hby at_56) rfl) ?_
      show Go p e below s QQ room_1.cells room_1.slots (s₁.setTop (mkF m 58 #[.val (.int p0), .val (.int p1), .val (.int p2), .val (.int (1 : Int32)), .val (.int (1 : Int32)), .val (.int mj), .unset, .unset, .unset] [(.int (1 : Int32))]))
      refine gs (fun t => XS.ifNo X0.here hx rfl (hb hby at_58) rfl ((if0 _ _).trans (feq (by decide : ¬ ((1 : Int32) = (0 : Int32)))).1)) ?_
      show Go p e below s QQ room_1.cells room_1.slots (s₁.setTop (mkF m 61 #[.val (.int p0), .val (.int p1), .val (.int p2), .val (.int (1 : Int32)), .val (.int (1 : Int32)), .val (.int mj), .unset, .unset, .unset] []))
      refine gs (fun t => X0.ldcInt hx hown (mvT hZ (hw _ (List.mem_of_getElem? (i := 1) rfl))) (g := (mkF m 61 #[.val (.int p0), .val (.int p1), .val (.int p2), .val (.int (1 : Int32)), .val (.int (1 : Int32)), .val (.int mj), .unset, .unset, .unset] [])) rfl (hb hby at_61) t) ?_
      show Go p e below s QQ room_1.cells room_1.slots (s₁.setTop (mkF m 63 #[.val (.int p0), .val (.int p1), .val (.int p2), .val (.int (1 : Int32)), .val (.int (1 : Int32)), .val (.int mj), .unset, .unset, .unset] [(.int (65535 : Int32))]))
      refine gs (fun t => XS.istore X0.here hx rfl (hb hby at_63) rfl (l' := #[.val (.int p0), .val (.int p1), .val (.int p2), .val (.int (1 : Int32)), .val (.int (1 : Int32)), .val (.int mj), .val (.int (65535 : Int32)), .unset, .unset]) rfl) ?_
      show Go p e below s QQ room_1.cells room_1.slots (s₁.setTop (mkF m 65 #[.val (.int p0), .val (.int p1), .val (.int p2), .val (.int (1 : Int32)), .val (.int (1 : Int32)), .val (.int mj), .val (.int (65535 : Int32)), .unset, .unset] []))
      refine gs (fun t => XS.goto X0.here hx rfl (pc0 := 65) (pc' := 77) rfl (hb hby at_65) (by decide) (by decide)) ?_
      show Go p e below s QQ room_1.cells room_1.slots (s₁.setTop (mkF m 77 #[.val (.int p0), .val (.int p1), .val (.int p2), .val (.int (1 : Int32)), .val (.int (1 : Int32)), .val (.int mj), .val (.int (65535 : Int32)), .unset, .unset] []))
      obtain ⟨T16, h16, X16, e16, E16, A16, D16, -, st16⟩ := newO X0 hx hZ hown (hw _ (List.mem_of_getElem? (i := 2) rfl)) (hw _ (List.mem_of_getElem? (i := 3) rfl)) (hw _ (List.mem_of_getElem? (i := 4) rfl)) e0 (g := (mkF m 77 #[.val (.int p0), .val (.int p1), .val (.int p2), .val (.int (1 : Int32)), .val (.int (1 : Int32)), .val (.int mj), .val (.int (65535 : Int32)), .unset, .unset] [])) rfl (hb hby at_77) (by decide) (by decide)
      obtain ⟨b16, g16⟩ : ∃ z, z = h0.size := ⟨_, rfl⟩
      rw [← g16] at A16 D16 st16
      have ge_b16 : n0 ≤ b16 := by rw [g16]; exact ZZ
      refine gs st16 ?_
      show Go p e below s QQ room_1.cells room_1.slots (T16.setTop (mkF m 80 #[.val (.int p0), .val (.int p1), .val (.int p2), .val (.int (1 : Int32)), .val (.int (1 : Int32)), .val (.int mj), .val (.int (65535 : Int32)), .unset, .unset] [(.ref b16)]))
      replace ZZ := Nat.le_trans ZZ E16.1
      have Ex_b16 := A16
      have F_major_b16 : Fld Z h16 b16 "com/example/roastery/roastery/model/ClassFileVersion" "major" "I" (.int (0 : Int32)) := D16 (Or.inr (hw _ (List.mem_of_getElem? (i := 18) rfl))) (ty := .int) (by decide)
      have F_minor_b16 : Fld Z h16 b16 "com/example/roastery/roastery/model/ClassFileVersion" "minor" "I" (.int (0 : Int32)) := D16 (Or.inr (hw _ (List.mem_of_getElem? (i := 20) rfl))) (ty := .int) (by decide)
      refine gs (fun t => XS.dup X16.here hx rfl (hb hby at_80) rfl rfl) ?_
      show Go p e below s QQ room_1.cells room_1.slots (T16.setTop (mkF m 81 #[.val (.int p0), .val (.int p1), .val (.int p2), .val (.int (1 : Int32)), .val (.int (1 : Int32)), .val (.int mj), .val (.int (65535 : Int32)), .unset, .unset] [(.ref b16), (.ref b16)]))
      refine gs (fun t => XS.iload X16.here hx rfl (hb hby at_81) rfl) ?_
      show Go p e below s QQ room_1.cells room_1.slots (T16.setTop (mkF m 83 #[.val (.int p0), .val (.int p1), .val (.int p2), .val (.int (1 : Int32)), .val (.int (1 : Int32)), .val (.int mj), .val (.int (65535 : Int32)), .unset, .unset] [(.int mj), (.ref b16), (.ref b16)]))
      refine gs (fun t => XS.iload X16.here hx rfl (hb hby at_83) rfl) ?_
      show Go p e below s QQ room_1.cells room_1.slots (T16.setTop (mkF m 85 #[.val (.int p0), .val (.int p1), .val (.int p2), .val (.int (1 : Int32)), .val (.int (1 : Int32)), .val (.int mj), .val (.int (65535 : Int32)), .unset, .unset] [(.int (65535 : Int32)), (.int mj), (.ref b16), (.ref b16)]))
      have bn : (0 : Int) ≤ (65535 : Int32).toInt ∧ (65535 : Int32).toInt ≤ 65535 := by decide
      obtain ⟨_, _, ⟨T17, L17, k17, n17⟩, -, X17, ⟨Lc17, hQ17, l17, y17, z17⟩, st17⟩ := X16.specialBack hx (y := (⟨"com/example/roastery/roastery/model/ClassFileVersion", "<init>", "(II)V"⟩ : MethodName)) rfl hown (mvT hZ (hw _ (List.mem_of_getElem? (i := 5) rfl))) (mvT hZ (hw _ (List.mem_of_getElem? (i := 6) rfl))) (mvT hZ (hw _ (List.mem_of_getElem? (i := 7) rfl))) (by decide) (backOf (W := 1) (rm1 l Z a0 hw [] b16 mj (65535 : Int32) h16 n0 ZZ F_major_b16 F_minor_b16 Ex_b16 ge_b16 (by rw [own_lt]; have := own_k45; have := own_k0; have := own_kM; omega) (by rw [own_lt]; have := own_k45; have := own_k0; have := own_kM; omega) (by rw [own_lt]; have := own_k45; have := own_k0; have := own_kM; omega) (by rw [own_lt]; have := own_k45; have := own_k0; have := own_kM; omega)) hZ (hw _ (List.mem_of_getElem? (i := 7) rfl)) (hw _ (List.mem_of_getElem? (i := 4) rfl)) (by decide) (by decide)) (g := (mkF m 85 #[.val (.int p0), .val (.int p1), .val (.int p2), .val (.int (1 : Int32)), .val (.int (1 : Int32)), .val (.int mj), .val (.int (65535 : Int32)), .unset, .unset] [(.int (65535 : Int32)), (.int mj), (.ref b16), (.ref b16)])) rfl (by rw [hml]; rfl) (Steps.refl _) (a := b16) (argsL := [(.int mj), (.int (65535 : Int32))]) (rest := [(.ref b16)]) (lenOf pd_1 rfl) rfl (by show 2 * 0 + _ ≤ _; exact Nat.le_of_eq rfl) (hb hby at_85) (fun _ _ => ⟨rfl, e16, (by decide : 1 + 0 ≤ _), (by decide : 2 + 0 ≤ _)⟩)
      dsimp only [Pt.U, Pt.locs, Pt.cells, Pt.slots] at X17 l17 y17 z17 st17 hQ17
      subst l17 y17 z17
      obtain ⟨rfl, N17q, K17, Fa17, Fb17⟩ := hQ17
      replace N0 := Fr.app N0 N17q
      refine gt st17 ?_
      show Go p e below s QQ room_1.cells room_1.slots (T17.setTop (mkF m 88 #[.val (.int p0), .val (.int p1), .val (.int p2), .val (.int (1 : Int32)), .val (.int (1 : Int32)), .val (.int mj), .val (.int (65535 : Int32)), .unset, .unset] [(.ref b16)]))
      replace Ex_b16 := Ex_b16.keep K17
      replace ZZ := Nat.le_trans ZZ K17.1
      refine gs (fun t => XS.astore X17.here hx rfl (hb hby at_88) rfl rfl (l' := #[.val (.int p0), .val (.int p1), .val (.int p2), .val (.int (1 : Int32)), .val (.int (1 : Int32)), .val (.int mj), .val (.int (65535 : Int32)), .val (.ref b16), .unset]) rfl) ?_
      show Go p e below s QQ room_1.cells room_1.slots (T17.setTop (mkF m 90 #[.val (.int p0), .val (.int p1), .val (.int p2), .val (.int (1 : Int32)), .val (.int (1 : Int32)), .val (.int mj), .val (.int (65535 : Int32)), .val (.ref b16), .unset] []))
      refine gs (fun t => XS.iloadN X17.here hx rfl (hb hby at_90) rfl) ?_
      show Go p e below s QQ room_1.cells room_1.slots (T17.setTop (mkF m 91 #[.val (.int p0), .val (.int p1), .val (.int p2), .val (.int (1 : Int32)), .val (.int (1 : Int32)), .val (.int mj), .val (.int (65535 : Int32)), .val (.ref b16), .unset] [(.int (1 : Int32))]))
      refine gs (fun t => XS.ifNo X17.here hx rfl (hb hby at_91) rfl ((if0 _ _).trans (feq (by decide : ¬ ((1 : Int32) = (0 : Int32)))).1)) ?_
      show Go p e below s QQ room_1.cells room_1.slots (T17.setTop (mkF m 94 #[.val (.int p0), .val (.int p1), .val (.int p2), .val (.int (1 : Int32)), .val (.int (1 : Int32)), .val (.int mj), .val (.int (65535 : Int32)), .val (.ref b16), .unset] []))
      refine gs (fun t => XS.iload X17.here hx rfl (hb hby at_94) rfl) ?_
      show Go p e below s QQ room_1.cells room_1.slots (T17.setTop (mkF m 96 #[.val (.int p0), .val (.int p1), .val (.int p2), .val (.int (1 : Int32)), .val (.int (1 : Int32)), .val (.int mj), .val (.int (65535 : Int32)), .val (.ref b16), .unset] [(.int (1 : Int32))]))
      refine gs (fun t => XS.ifNo X17.here hx rfl (hb hby at_96) rfl ((if0 _ _).trans (feq (by decide : ¬ ((1 : Int32) = (0 : Int32)))).1)) ?_
      show Go p e below s QQ room_1.cells room_1.slots (T17.setTop (mkF m 99 #[.val (.int p0), .val (.int p1), .val (.int p2), .val (.int (1 : Int32)), .val (.int (1 : Int32)), .val (.int mj), .val (.int (65535 : Int32)), .val (.ref b16), .unset] []))
      refine gs (fun t => XS.iconst X17.here hx rfl (hb hby at_99)) ?_
      show Go p e below s QQ room_1.cells room_1.slots (T17.setTop (mkF m 100 #[.val (.int p0), .val (.int p1), .val (.int p2), .val (.int (1 : Int32)), .val (.int (1 : Int32)), .val (.int mj), .val (.int (65535 : Int32)), .val (.ref b16), .unset] [(.int (1 : Int32))]))
      refine gs (fun t => XS.goto X17.here hx rfl (pc0 := 100) (pc' := 104) rfl (hb hby at_100) (by decide) (by decide)) ?_
      show Go p e below s QQ room_1.cells room_1.slots (T17.setTop (mkF m 104 #[.val (.int p0), .val (.int p1), .val (.int p2), .val (.int (1 : Int32)), .val (.int (1 : Int32)), .val (.int mj), .val (.int (65535 : Int32)), .val (.ref b16), .unset] [(.int (1 : Int32))]))
      refine gs (fun t => XS.istore X17.here hx rfl (hb hby at_104) rfl (l' := #[.val (.int p0), .val (.int p1), .val (.int p2), .val (.int (1 : Int32)), .val (.int (1 : Int32)), .val (.int mj), .val (.int (65535 : Int32)), .val (.ref b16), .val (.int (1 : Int32))]) rfl) ?_
      show Go p e below s QQ room_1.cells room_1.slots (T17.setTop (mkF m 106 #[.val (.int p0), .val (.int p1), .val (.int p2), .val (.int (1 : Int32)), .val (.int (1 : Int32)), .val (.int mj), .val (.int (65535 : Int32)), .val (.ref b16), .val (.int (1 : Int32))] []))
      refine gs (fun t => XS.aload X17.here hx rfl (hb hby at_106) rfl rfl) ?_
      show Go p e below s QQ room_1.cells room_1.slots (T17.setTop (mkF m 108 #[.val (.int p0), .val (.int p1), .val (.int p2), .val (.int (1 : Int32)), .val (.int (1 : Int32)), .val (.int mj), .val (.int (65535 : Int32)), .val (.ref b16), .val (.int (1 : Int32))] [(.ref b16)]))
      obtain ⟨cq18, kq18, q18a, q18b, q18c⟩ := isOf hZ rfl Ex_b16
      obtain ⟨_, _, ⟨T18, L18, k18, n18⟩, -, X18, ⟨Lc18, hQ18, l18, y18, z18⟩, st18⟩ := X17.virtualBack hx (y := (⟨"com/example/roastery/roastery/model/ClassFileVersion", "isPreview", "()Z"⟩ : MethodName)) (z := (⟨"com/example/roastery/roastery/model/ClassFileVersion", "isPreview", "()Z"⟩ : MethodName)) hown (mvT hZ (hw _ (List.mem_of_getElem? (i := 21) rfl))) (mvT hZ (hw _ (List.mem_of_getElem? (i := 22) rfl))) (notFace_of_selects (args := #[]) (mvT hZ (hw _ (List.mem_of_getElem? (i := 24) rfl)))) (mvT hZ (hw _ (List.mem_of_getElem? (i := 24) rfl))) (mvT hZ (hw _ (List.mem_of_getElem? (i := 23) rfl))) (by decide) (backOf (W := 0) (rm4 l Z a0 hw [] b16 mj (65535 : Int32) T17.heap n0 ZZ Fa17 Fb17) hZ (hw _ (List.mem_of_getElem? (i := 25) rfl)) (hw _ (List.mem_of_getElem? (i := 4) rfl)) (by decide) (by decide)) q18a q18c (g := (mkF m 108 #[.val (.int p0), .val (.int p1), .val (.int p2), .val (.int (1 : Int32)), .val (.int (1 : Int32)), .val (.int mj), .val (.int (65535 : Int32)), .val (.ref b16), .val (.int (1 : Int32))] [(.ref b16)])) rfl (by rw [hml]; rfl) (Steps.refl _) (argsL := []) (rest := []) (lenOf pd_2 rfl) rfl (by show 2 * 0 + _ ≤ _; exact Nat.le_of_eq rfl) (hb hby at_108) (fun _ _ => ⟨rfl, rfl, (by decide : 1 + 0 ≤ _), (by decide : 2 + 0 ≤ _)⟩)
      dsimp only [Pt.U, Pt.locs, Pt.cells, Pt.slots] at X18 l18 y18 z18 st18 hQ18
      subst l18 y18 z18
      obtain ⟨rfl, N18q, e18⟩ := hQ18
      replace N0 := Fr.app N0 N18q
      refine gt st18 ?_
      show Go p e below s QQ room_1.cells room_1.slots (T18.setTop (mkF m 111 #[.val (.int p0), .val (.int p1), .val (.int p2), .val (.int (1 : Int32)), .val (.int (1 : Int32)), .val (.int mj), .val (.int (65535 : Int32)), .val (.ref b16), .val (.int (1 : Int32))] [(.int (own_prev mj (65535 : Int32)))]))
      refine gs (fun t => XS.iload X18.here hx rfl (hb hby at_111) rfl) ?_
      show Go p e below s QQ room_1.cells room_1.slots (T18.setTop (mkF m 113 #[.val (.int p0), .val (.int p1), .val (.int p2), .val (.int (1 : Int32)), .val (.int (1 : Int32)), .val (.int mj), .val (.int (65535 : Int32)), .val (.ref b16), .val (.int (1 : Int32))] [(.int (1 : Int32)), (.int (own_prev mj (65535 : Int32)))]))
      refine gs (fun t => XS.icmpNo X18.here hx rfl (hb hby at_113) rfl (teq (by unfold own_prev; have := own_k56; have := own_kM; exact if_pos ⟨fun q => by rw [own_lt] at q; omega, rfl⟩ : (own_prev mj (65535 : Int32)) = (1 : Int32))).2) ?_
      show Go p e below s QQ room_1.cells room_1.slots (T18.setTop (mkF m 116 #[.val (.int p0), .val (.int p1), .val (.int p2), .val (.int (1 : Int32)), .val (.int (1 : Int32)), .val (.int mj), .val (.int (65535 : Int32)), .val (.ref b16), .val (.int (1 : Int32))] []))
      refine gs (fun t => XS.iconst X18.here hx rfl (hb hby at_116)) ?_
      show Go p e below s QQ room_1.cells room_1.slots (T18.setTop (mkF m 117 #[.val (.int p0), .val (.int p1), .val (.int p2), .val (.int (1 : Int32)), .val (.int (1 : Int32)), .val (.int mj), .val (.int (65535 : Int32)), .val (.ref b16), .val (.int (1 : Int32))] [(.int (1 : Int32))]))
      refine gs (fun t => XS.goto X18.here hx rfl (pc0 := 117) (pc' := 121) rfl (hb hby at_117) (by decide) (by decide)) ?_
      show Go p e below s QQ room_1.cells room_1.slots (T18.setTop (mkF m 121 #[.val (.int p0), .val (.int p1), .val (.int p2), .val (.int (1 : Int32)), .val (.int (1 : Int32)), .val (.int mj), .val (.int (65535 : Int32)), .val (.ref b16), .val (.int (1 : Int32))] [(.int (1 : Int32))]))
      exact goB X18 hx Bd.notSynchronized Bd.returns (by simp) (w := (1 : Int32)) (by first | rfl | decide) (hb hby at_121) (by rw [← hQQ, e18]; exact ⟨rfl, N0⟩) (by decide) (by decide)
set_option maxRecDepth 65536 in
set_option maxHeartbeats 40000000 in
theorem comes_1 {Post : Tables → Env → Array Value → State → Outcome → State → Prop} (hpost : ∀ tb e args s v u, (limb_1_1.after args s (.returned v) u = true ∧ limb_1_2.after args s (.returned v) u = true ∧ True) → FrameEnd s (.returned v) u (Jvm.fieldLocs frame_1_writes args s ++ Jvm.arrayLocs frame_1_arrays args s ++ Jvm.staticLocs frame_1_statics s) 16 128 → Post tb e args s (.returned v) u) :
    ArmFor flags0 classFile x code maxLocals ret World_1 tables_1 room_1 Calls_1 rest_1 Pre_1 Post := by
  intro l hfl _ _ p e ha hc hk s m args below hf hA hF happ hP
  obtain ⟨hcalls, hrest, hpre⟩ := hP
  obtain ⟨-, -, -, hnamed, -, -, -, hat⟩ := (Spec.applies_iff hf).mp happ
  obtain ⟨hg, hn⟩ := and_e (Cond.before_iff.mp (show (Jvm.Cond.and given_1 narrow_1).before args s = true from hpre))
  obtain ⟨gc, hg0⟩ := and_e hg
  obtain ⟨w0, w1, w2, rfl⟩ : ∃ w0 w1 w2 : Value, args = #[w0, w1, w2] := by
    have hs : args.size = 3 := by simpa [Cond.value, given_1] using gc
    obtain ⟨L⟩ := args
    match L, hs with
    | [w0, w1, w2], _ => exact ⟨w0, w1, w2, rfl⟩
  obtain ⟨ga0, hg1⟩ := and_e hg0
  obtain ⟨i0, ei0⟩ := is_v ga0
  obtain rfl : w0 = (.int i0) := Option.some.inj ei0
  obtain ⟨ga1, hg2⟩ := and_e hg1
  obtain ⟨i1, ei1⟩ := is_v ga1
  obtain rfl : w1 = (.int i1) := Option.some.inj ei1
  obtain ⟨i2, ei2⟩ := is_v hg2
  obtain rfl : w2 = (.int i2) := Option.some.inj ei2
  have hw := fun d (hd : d ∈ tables_1) => atoms_spec (ws := Jvm.Cond.code x code maxLocals ret :: tables_1) hat d (List.mem_cons_of_mem _ hd)
  have hfit : Fit s := fun {y c} hc i hi => by
    obtain ⟨ha, rfl⟩ := Array.getElem?_eq_some_iff.mp hc
    have q := List.all_eq_true.mp ((Array.all_eq_true_iff_forall_mem.mp hF) _ (Array.getElem_mem ha)) i (List.mem_range.mpr hi)
    simpa [Array.getElem?_eq_getElem hi] using q
  obtain ⟨n, o, h1, h2, h3, _, L, rfl, ⟨rfl, N⟩, hq⟩ := rm0 l s _ hw tables_1 i0 i1 i2 s.heap s.heap.size (Nat.le_refl _)  p e ha hc hk s m _ below hf ((Spec.applies_iff_loose hf).mp happ).1 ⟨rfl, State.Warmed39.refl s, rfl⟩ trivial
  refine ⟨n, _, h1, h2, h3, hpost _ _ _ _ _ _ ⟨Cond.after_iff.mpr rfl, Cond.after_iff.mpr (eq_i res_at (Term.int_eval (1)) rfl), trivial⟩ ⟨hq.1, hq.2.1, (hq.2.2.sift fun y hy => Or.inr (N y hy)).mono (by decide) (by decide)⟩⟩
theorem main_1_1 : Claimed_1_1 := comes_1 fun _ _ _ _ _ _ h hF => ⟨h.1, hF⟩
theorem main_1_2 : Claimed_1_2 := comes_1 fun _ _ _ _ _ _ h hF => ⟨h.2.1, hF⟩
end Jvm.Pilot.@@N@@
namespace Jvm.Pilot.@@N@@
open Jvm Jvm.ClassFile Sem Op Lib Jvm.Free Jvm.Stand Jvm.Pilot.@@N@@.Jvm.D
/-! MADE BY PROGRAM (witnessworld.py) out of the Statement's table words and the real class files: 11 classes; the members and pool entries that the words name. The judged class is class 1, her method 1. -/
namespace start1
open Jvm.ClassFile
def u (s : String) : CpInfo := .utf8 (stringToUtf16 s)
/-- a pool by its gaps: so many unusable entries, then the entry; so many at the end -/
def gap : Nat → List CpInfo → List CpInfo
  | 0, r => r
  | n + 1, r => .unusable :: gap n r
def poolList (es : List (Nat × CpInfo)) (last : Nat) : List CpInfo := es.foldr (fun e r => gap e.1 (e.2 :: r)) (gap last [])
def pool (es : List (Nat × CpInfo)) (last : Nat) : Array CpInfo := ⟨poolList es last⟩
def fileOf (pool : Array CpInfo) (this : Nat) (attrs : Array Attribute := #[]) (ms : Array MethodInfo := #[]) (fl : Nat := 33) (sup : Nat := 0) (ifs : Array Nat := #[]) (fds : Array FieldInfo := #[]) : ClassFile where
  minorVersion := 0
  majorVersion := 65
  constantPool := pool
  accessFlags := fl
  thisClass := this
  superClass := sup
  interfaces := ifs
  fields := fds
  methods := ms
  attributes := attrs
def plain (name : String) (sup : Option ClassId) : Class where
  name := name
  kind := .ordinary
  loader := none
  accessFlags := 33
  super := sup
  interfaces := #[]
  cf := none
  fields := #[]
  methods := #[]
  instanceTypes := #[]
  staticTypes := #[]
  resolved := #[]
  callSites := []
  init := .initialized
  statics := none
  mirror := none

def pool0 : Array CpInfo := pool [(5, u "<init>"), (0, u "()V"), (1, .class_ 10), (1, u "java/lang/Object")] 113

def k0c0 : Code := { maxStack := 0, maxLocals := 1, code := object_method_1_code, exceptionTable := #[], attributes := #[] }
def k0m0 : Method := { name := "<init>", desc := "()V", sig := { parameters := [], returnType := none }, accessFlags := 1, code := some k0c0 }
/-- java/lang/Object -/
def k0 : Class := { plain "java/lang/Object" none with
  accessFlags := 33
  interfaces := #[]
  cf := some (fileOf pool0 8 #[] #[{ accessFlags := 1, nameIndex := 5, descriptorIndex := 6, attributes := #[] }] 33 0 #[] #[])
  fields := #[]
  methods := #[k0m0]
  instanceTypes := #[]
  staticTypes := #[]
  resolved := Array.replicate 124 none
  statics := none }

def pool1 : Array CpInfo := pool [(2, .class_ 4), (1, u "java/lang/Object"), (0, u "<init>"), (0, u "()V"), (0, .integer 2147483647), (0, .integer 65480), (0, .integer 65535), (0, .class_ 11), (0, u "com/example/roastery/roastery/model/ClassFileVersion"), (0, .methodref 10 13), (0, .nameAndType 5 14), (0, u "(II)V"), (0, .methodref 10 16), (0, .nameAndType 17 18), (0, u "isPreview"), (0, u "()Z"), (0, .class_ 20), (0, u "com/example/roastery/roastery/model/ClassFileVersionIsPreviewPinLaw"), (2, u "law"), (0, u "(III)Z")] 3

def k1m0 : Method := { name := "<init>", desc := "()V", sig := { parameters := [], returnType := none }, accessFlags := 1, code := none }
def k1c1 : Code := { maxStack := 4, maxLocals := 9, code := code, exceptionTable := #[], attributes := #[] }
def k1m1 : Method := { name := "law", desc := "(III)Z", sig := { parameters := [.int, .int, .int], returnType := some .boolean }, accessFlags := 9, code := some k1c1 }
/-- com/example/roastery/roastery/model/ClassFileVersionIsPreviewPinLaw -/
def k1 : Class := { plain "com/example/roastery/roastery/model/ClassFileVersionIsPreviewPinLaw" (some 0) with
  accessFlags := 49
  interfaces := #[]
  cf := some (fileOf pool1 19 #[] #[{ accessFlags := 1, nameIndex := 5, descriptorIndex := 6, attributes := #[] }, { accessFlags := 9, nameIndex := 23, descriptorIndex := 24, attributes := #[] }] 49 2 #[] #[])
  fields := #[]
  methods := #[k1m0, k1m1]
  instanceTypes := #[]
  staticTypes := #[]
  resolved := Array.replicate 28 none
  statics := none }

def pool2 : Array CpInfo := pool [(1, .methodref 2 3), (0, .class_ 4), (0, .nameAndType 5 6), (0, u "java/lang/Object"), (0, u "<init>"), (0, u "()V"), (0, .class_ 8), (0, u "java/lang/Record")] 13

def k2c0 : Code := { maxStack := 1, maxLocals := 1, code := jdk_30_method_1_code, exceptionTable := #[], attributes := #[] }
def k2m0 : Method := { name := "<init>", desc := "()V", sig := { parameters := [], returnType := none }, accessFlags := 4, code := some k2c0 }
/-- java/lang/Record -/
def k2 : Class := { plain "java/lang/Record" (some 0) with
  accessFlags := 1057
  interfaces := #[]
  cf := some (fileOf pool2 7 #[] #[{ accessFlags := 4, nameIndex := 5, descriptorIndex := 6, attributes := #[] }] 1057 2 #[] #[])
  fields := #[]
  methods := #[k2m0]
  instanceTypes := #[]
  staticTypes := #[]
  resolved := Array.replicate 22 none
  statics := none }

def pool3 : Array CpInfo := pool [(1, .class_ 2), (0, u "java/lang/Comparable"), (0, .class_ 4), (0, u "java/lang/Object")] 7

/-- java/lang/Comparable -/
def k3 : Class := { plain "java/lang/Comparable" (some 0) with
  accessFlags := 1537
  interfaces := #[]
  cf := some (fileOf pool3 1 #[] #[] 1537 3 #[] #[])
  fields := #[]
  methods := #[]
  instanceTypes := #[]
  staticTypes := #[]
  resolved := Array.replicate 12 none
  statics := none }

def pool4 : Array CpInfo := pool [(1, .methodref 2 3), (0, .class_ 4), (0, .nameAndType 5 6), (0, u "java/lang/Record"), (0, u "<init>"), (0, u "()V"), (0, .class_ 8), (0, u "com/example/roastery/roastery/model/ClassFileVersion"), (0, .integer 65535), (9, .fieldref 7 20), (0, .nameAndType 21 22), (0, u "major"), (0, u "I"), (0, .fieldref 7 24), (0, .nameAndType 25 22), (0, u "minor"), (10, u "ORDER"), (0, u "Ljava/util/Comparator;"), (32, .class_ 71), (0, u "java/lang/Comparable"), (0, u "FIRST_MAJOR"), (2, u "PREVIEW_MINOR"), (0, u "FIRST_PREVIEW_MAJOR"), (1, u "JAVA_5_MAJOR"), (3, u "(II)V"), (8, u "isPreview"), (0, u "()Z")] 51

def k4c0 : Code := { maxStack := 4, maxLocals := 3, code := prog_68_method_1_code, exceptionTable := #[], attributes := #[] }
def k4m0 : Method := { name := "<init>", desc := "(II)V", sig := { parameters := [.int, .int], returnType := none }, accessFlags := 1, code := some k4c0 }
def k4c1 : Code := { maxStack := 2, maxLocals := 1, code := prog_68_method_3_code, exceptionTable := #[], attributes := #[] }
def k4m1 : Method := { name := "isPreview", desc := "()Z", sig := { parameters := [], returnType := some .boolean }, accessFlags := 1, code := some k4c1 }
/-- com/example/roastery/roastery/model/ClassFileVersion -/
def k4 : Class := { plain "com/example/roastery/roastery/model/ClassFileVersion" (some 2) with
  accessFlags := 49
  interfaces := #[3]
  cf := some (fileOf pool4 7 #[] #[{ accessFlags := 1, nameIndex := 5, descriptorIndex := 82, attributes := #[] }, { accessFlags := 1, nameIndex := 91, descriptorIndex := 92, attributes := #[] }] 49 2 #[70] #[{ accessFlags := 18, nameIndex := 21, descriptorIndex := 22, attributes := #[] }, { accessFlags := 18, nameIndex := 25, descriptorIndex := 22, attributes := #[] }, { accessFlags := 25, nameIndex := 72, descriptorIndex := 22, attributes := #[] }, { accessFlags := 25, nameIndex := 75, descriptorIndex := 22, attributes := #[] }, { accessFlags := 26, nameIndex := 76, descriptorIndex := 22, attributes := #[] }, { accessFlags := 26, nameIndex := 78, descriptorIndex := 22, attributes := #[] }, { accessFlags := 26, nameIndex := 36, descriptorIndex := 37, attributes := #[] }])
  fields := #[{ name := "major", type := .int, accessFlags := 18, slot := 0, constantValue := 0 }, { name := "minor", type := .int, accessFlags := 18, slot := 1, constantValue := 0 }, { name := "FIRST_MAJOR", type := .int, accessFlags := 25, slot := 0, constantValue := 0 }, { name := "PREVIEW_MINOR", type := .int, accessFlags := 25, slot := 1, constantValue := 0 }, { name := "FIRST_PREVIEW_MAJOR", type := .int, accessFlags := 26, slot := 2, constantValue := 0 }, { name := "JAVA_5_MAJOR", type := .int, accessFlags := 26, slot := 3, constantValue := 0 }, { name := "ORDER", type := (.object "java/util/Comparator"), accessFlags := 26, slot := 4, constantValue := 0 }]
  methods := #[k4m0, k4m1]
  instanceTypes := #[.int, .int]
  staticTypes := #[.int, .int, .int, .int, (.object "java/util/Comparator")]
  resolved := Array.replicate 144 none
  statics := none }

def pool5 : Array CpInfo := pool [(1, u "java/lang/Cloneable"), (0, .class_ 1), (0, u "java/lang/Object"), (0, .class_ 3)] 3

/-- java/lang/Cloneable -/
def k5 : Class := { plain "java/lang/Cloneable" (some 0) with
  accessFlags := 1537
  interfaces := #[]
  cf := some (fileOf pool5 2 #[] #[] 1537 4 #[] #[])
  fields := #[]
  methods := #[]
  instanceTypes := #[]
  staticTypes := #[]
  resolved := Array.replicate 8 none
  statics := none }

def pool6 : Array CpInfo := pool [(1, u "java/io/Serializable"), (0, .class_ 1), (0, u "java/lang/Object"), (0, .class_ 3)] 3

/-- java/io/Serializable -/
def k6 : Class := { plain "java/io/Serializable" (some 0) with
  accessFlags := 1537
  interfaces := #[]
  cf := some (fileOf pool6 2 #[] #[] 1537 4 #[] #[])
  fields := #[]
  methods := #[]
  instanceTypes := #[]
  staticTypes := #[]
  resolved := Array.replicate 8 none
  statics := none }

/-- the primitive byte -/
def k7 : Class := { plain "byte" none with kind := .primitive 'B', accessFlags := 0x411 }
/-- [B -/
def k8 : Class := { plain "[B" (some 0) with kind := .array 7 .byte, interfaces := #[5, 6], accessFlags := 1041 }

/-- the primitive int -/
def k9 : Class := { plain "int" none with kind := .primitive 'I', accessFlags := 0x411 }
/-- [I -/
def k10 : Class := { plain "[I" (some 0) with kind := .array 9 .int, interfaces := #[5, 6], accessFlags := 1041 }

def heap : Heap := #[]
def classes : Array Class := #[k0, k1, k2, k3, k4, k5, k6, k7, k8, k9, k10]
def interned : List (Array UInt16 × Addr) := []
def slotsUsed : Nat := 0
def theMethod : MethodId := ⟨1, 1⟩
def args0 : Array Value := #[.int 1, .int 2, .int 3]
def aboutOver (below : List Frame) : State where
  vm := { classes := classes, interned := interned.toArray }
  heap := heap
  slotsUsed := slotsUsed
  threads := #[{ frames := .invoking theMethod args0 :: below }]
def below0 : List Frame := [.native { method := ⟨0, 0⟩, args := #[] }]
def about1 : State := aboutOver below0
def p0 : Program := .bare "" "" ""
def e0 : Env := launch0.env 0 0 0
theorem w_frames : about1.frames = Frame.invoking theMethod args0 :: below0 := rfl
set_option maxRecDepth 65536 in
theorem w_args : argsFit about1.vm theMethod args0 = true := by decide +kernel
set_option maxRecDepth 65536 in
theorem w_heap : heapFits about1 = true := by decide +kernel
set_option maxRecDepth 65536 in
theorem w_runnable : about1.curStatus? = some .runnable := by decide +kernel
set_option maxRecDepth 65536 in
theorem w_alone : about1.alone = true := by decide +kernel
set_option maxRecDepth 65536 in
theorem w_named : about1.methodNamed? x = some theMethod := by decide +kernel
set_option maxRecDepth 65536 in
theorem w_hears : about1.hears theMethod below0 = true := by decide +kernel
set_option maxRecDepth 65536 in
theorem w_ripe : about1.ripe theMethod args0 below0 = true := by decide +kernel
theorem w_running : about1.status = .running := rfl
set_option maxRecDepth 65536 in
theorem w_room : about1.hasRoom e0.platform room_1 = true :=
  launch0.hasRoom_least _ room_1 (by decide +kernel) (by decide +kernel) (by decide +kernel) (by decide +kernel) (by decide +kernel) (by decide +kernel)
theorem allAtoms_all (ts : List Jvm.Cond) (a : Array Jvm.Value) (st : Jvm.State) : (allAtoms ts).before a st = ts.all (fun c => c.before a st) := by
  induction ts with
  | nil => rfl
  | cons c t ih =>
    show (Jvm.Cond.and c (allAtoms t)).before a st = _
    rw [Jvm.Cond.before_and, ih, List.all_cons]
def words1 : List Jvm.Cond := Jvm.Cond.code x code maxLocals ret :: tables_1
/-- a 'code' word, met by the world's own term for the bytes: nothing is compared byte by byte -/
theorem code_word {y : MethodName} {bytes : ByteArray} {mx : Nat} {rt : Option FieldType} {a : Array Value} {s : State} {m : MethodId} {meth : Method} {c : Code} (h1 : s.methodNamed? y = some m) (h2 : s.vm.method? m = some meth) (h3 : meth.code = some c) (h4 : c.code = bytes)
    (h5 : (c.maxLocals == mx && c.exceptionTable.isEmpty && decide (c.maxStack ≤ mostOperands) && decide (meth.sig.returnType = rt) && !meth.locks && decide (parseMethodDescriptor y.desc = some meth.sig)) = true) : (Jvm.Cond.code y bytes mx rt).before a s = true := by
  simp only [Bool.and_eq_true, beq_iff_eq, Bool.not_eq_true', decide_eq_true_eq] at h5
  obtain ⟨⟨⟨⟨⟨g1, g2⟩, g3⟩, g4⟩, g5⟩, g6⟩ := h5
  simp [Cond.before, Cond.holds, Cond.value, h1, h2, h3, h4, g1, g2, g3, g4, g5, g6]
def isCode : Jvm.Cond → Bool
  | .code _ _ _ _ => true
  | _ => false
theorem all_split {L : List Jvm.Cond} {P : Jvm.Cond → Bool} (h1 : L.all (fun c => isCode c || P c) = true) (h2 : ∀ c ∈ L.filter isCode, P c = true) : L.all P = true := by
  refine List.all_eq_true.mpr fun c hc => ?_
  have h := List.all_eq_true.mp h1 c hc
  rcases Bool.eq_false_or_eq_true (isCode c) with hi | hi
  · exact h2 c (List.mem_filter.mpr ⟨hc, hi⟩)
  · simpa [hi] using h
set_option maxRecDepth 65536 in
theorem w_c0 : (Jvm.Cond.code x code maxLocals ret).before args0 about1 = true := code_word (m := ⟨1, 1⟩) (meth := k1m1) (c := k1c1) (by decide +kernel) rfl rfl rfl (by decide +kernel)
set_option maxRecDepth 65536 in
theorem w_c1 : (Jvm.Cond.code ({ cls := "com/example/roastery/roastery/model/ClassFileVersion", name := "<init>", desc := "(II)V" } : Jvm.MethodName) prog_68_method_1_code (3 : Nat) (Option.none : Option Jvm.ClassFile.FieldType)).before args0 about1 = true := code_word (m := ⟨4, 0⟩) (meth := k4m0) (c := k4c0) (by decide +kernel) rfl rfl rfl (by decide +kernel)
set_option maxRecDepth 65536 in
theorem w_c2 : (Jvm.Cond.code ({ cls := "java/lang/Record", name := "<init>", desc := "()V" } : Jvm.MethodName) jdk_30_method_1_code (1 : Nat) (Option.none : Option Jvm.ClassFile.FieldType)).before args0 about1 = true := code_word (m := ⟨2, 0⟩) (meth := k2m0) (c := k2c0) (by decide +kernel) rfl rfl rfl (by decide +kernel)
set_option maxRecDepth 65536 in
theorem w_c3 : (Jvm.Cond.code ({ cls := "java/lang/Object", name := "<init>", desc := "()V" } : Jvm.MethodName) object_method_1_code (1 : Nat) (Option.none : Option Jvm.ClassFile.FieldType)).before args0 about1 = true := code_word (m := ⟨0, 0⟩) (meth := k0m0) (c := k0c0) (by decide +kernel) rfl rfl rfl (by decide +kernel)
set_option maxRecDepth 65536 in
theorem w_c4 : (Jvm.Cond.code ({ cls := "com/example/roastery/roastery/model/ClassFileVersion", name := "isPreview", desc := "()Z" } : Jvm.MethodName) prog_68_method_3_code (1 : Nat) (Option.some Jvm.ClassFile.FieldType.boolean)).before args0 about1 = true := code_word (m := ⟨4, 1⟩) (meth := k4m1) (c := k4c1) (by decide +kernel) rfl rfl rfl (by decide +kernel)
def codes1 : List Jvm.Cond := [Jvm.Cond.code x code maxLocals ret, Jvm.Cond.code ({ cls := "com/example/roastery/roastery/model/ClassFileVersion", name := "<init>", desc := "(II)V" } : Jvm.MethodName) prog_68_method_1_code (3 : Nat) (Option.none : Option Jvm.ClassFile.FieldType), Jvm.Cond.code ({ cls := "java/lang/Record", name := "<init>", desc := "()V" } : Jvm.MethodName) jdk_30_method_1_code (1 : Nat) (Option.none : Option Jvm.ClassFile.FieldType), Jvm.Cond.code ({ cls := "java/lang/Object", name := "<init>", desc := "()V" } : Jvm.MethodName) object_method_1_code (1 : Nat) (Option.none : Option Jvm.ClassFile.FieldType), Jvm.Cond.code ({ cls := "com/example/roastery/roastery/model/ClassFileVersion", name := "isPreview", desc := "()Z" } : Jvm.MethodName) prog_68_method_3_code (1 : Nat) (Option.some Jvm.ClassFile.FieldType.boolean)]
set_option maxRecDepth 65536 in
theorem codes_eq : words1.filter isCode = codes1 := rfl
theorem w_codes : ∀ c ∈ words1.filter isCode, c.before args0 about1 = true := by
  rw [codes_eq]
  intro c hc
  simp only [codes1, List.mem_cons, List.not_mem_nil, or_false] at hc
  rcases hc with rfl | rfl | rfl | rfl | rfl
  · exact w_c0
  · exact w_c1
  · exact w_c2
  · exact w_c3
  · exact w_c4
set_option maxRecDepth 65536 in
theorem w_t1 : (words1.take 24).all (fun c => isCode c || c.before args0 about1) = true := by decide +kernel
set_option maxRecDepth 65536 in
theorem w_t2 : (words1.drop 24).all (fun c => isCode c || c.before args0 about1) = true := by decide +kernel
theorem w_tables : (allAtoms (Jvm.Cond.code x code maxLocals ret :: tables_1)).before args0 about1 = true := by
  rw [allAtoms_all]
  show words1.all (fun c => c.before args0 about1) = true
  refine all_split ?_ w_codes
  rw [← List.take_append_drop 24 words1, List.all_append, w_t1, w_t2]
  rfl
set_option maxRecDepth 65536 in
theorem w_case : (Jvm.Cond.and given_1 narrow_1).before args0 about1 = true := by decide +kernel
theorem w_applies : (headSpec (Jvm.Cond.code x code maxLocals ret :: tables_1) room_1).applies x e0.platform about1 = true :=
  (Spec.applies_iff w_frames).mpr ⟨w_running, w_runnable, w_alone, w_named, w_hears, w_ripe, w_room, w_tables⟩
theorem atStart : AtStart classFile x code maxLocals ret World_1 tables_1 room_1 Calls_1 rest_1 Pre_1 launch0 p0 e0 about1 theMethod args0 below0 :=
  ⟨lists_1, trivial, launch0.admits_env _ _ _, launch0.least_env, fairChoices_fair.cas, fairChoices_fair.clock, w_frames, w_args, w_heap, w_applies, trivial, trivial, w_case⟩
end start1
theorem witness_1 : WitnessClaimed_1 := ⟨start1.p0, start1.e0, start1.about1, start1.theMethod, start1.args0, start1.below0, start1.atStart⟩
end Jvm.Pilot.@@N@@
