import JvmDerived
import JvmDerived.Pilot.@@N@@Statement
import JvmDerived.Pilot.@@N@@Code
set_option linter.unusedVariables false
set_option linter.unusedSimpArgs false
namespace Jvm.RoadKit
open Sem ClassFile Op Lib Jvm.Stand Jvm.Free Jvm.LawKit
section Own
variable {p : Program} {l : Launch} {e : Env} {R : Room} {s : State} {m : MethodId} {args : Array Value} {below : List Frame} {meth : Method} {c : Code} {T : State} {locs : List Loc} {cells slots : Nat} {Z : State} {h h' : Heap} {a b : Addr} {ty : FieldType} {ws : List Addr}
/-- from the state S the run comes to an end that Q allows -/
def Go (p : Program) (e : Env) (below : List Frame) (s : State) (Q : Option Value → Heap → List Loc → Prop) (K N : Nat) (S : State) : Prop :=
  ∃ (t : State) (o : Outcome), Steps p.tables e below S t ∧ t.status = .running ∧ Ended t below o ∧ ∃ v L, o = .returned v ∧ Q v t.heap L ∧ FrameEnd s o t L K N
variable {Q : Option Value → Heap → List Loc → Prop} {K N : Nat} {S S' : State}
theorem gs (h : ∀ t, Steps p.tables e below S' t → Steps p.tables e below S t) (k : Go p e below s Q K N S') : Go p e below s Q K N S := by
  obtain ⟨t, o, a, b⟩ := k
  exact ⟨t, o, h t a, b⟩
theorem gt (h : Steps p.tables e below S S') (k : Go p e below s Q K N S') : Go p e below s Q K N S := gs (fun _ => h.trans) k
theorem goEnd (X : Stand p l e R s m args below meth c T locs cells slots) {v : Option Value} (hlocks : meth.locks = false) (hv : meth.sig.returnType = none → v = none)
    (hs : ∀ fs, (∀ (f : JFrame) (acts : List Action), f.method = m → f.locked = none → f.entered = [] → (doReturn e (T.setTop f) acts v).1 = T.setFrames fs) → Steps p.tables e below S (T.setFrames fs))
    (hQ : Q v T.heap locs) (hk : cells ≤ K) (hn : slots ≤ N) : Go p e below s Q K N S := by
  obtain ⟨fs, hr, hrun, hended, hW, hsame⟩ := X.leave (v := v) hv hlocks
  exact ⟨_, _, hs fs hr, hrun, hended, v, locs, rfl, hQ, ⟨_, rfl⟩, hW, hsame.mono hk hn⟩
theorem goV (X : Stand p l e R s m args below meth c T locs cells slots) (hx : p.tables.exec = Jvm.exec) (hlocks : meth.locks = false) (hret : meth.sig.returnType = none) {pc : Nat} {Ls : Array Slot} (hd : decode c.code pc = .ok (.return_, 1)) (hQ : Q none T.heap locs) (hk : cells ≤ K) (hn : slots ≤ N) :
    Go p e below s Q K N (T.setTop (mkF m pc Ls [])) := goEnd X hlocks (fun _ => rfl) (fun _ hr => X.returnOut hx hret hd hr) hQ hk hn
theorem goW (X : Stand p l e R s m args below meth c T locs cells slots) (hx : p.tables.exec = Jvm.exec) (hlocks : meth.locks = false) {t : FieldType} (hret : meth.sig.returnType = some t) {pc : Nat} {Ls : Array Slot} {w : Value} {i : Instr} {rest : List Value} (hn0 : narrow t w = w)
    (hi : (i = .ireturn ∧ (t = .int ∨ t = .boolean ∨ t = .byte ∨ t = .char ∨ t = .short) ∧ ∃ z, w = .int z) ∨ (i = .lreturn ∧ t = .long ∧ ∃ z, w = .long z) ∨ (i = .dreturn ∧ t = .double ∧ ∃ z, w = .double z) ∨ (i = .freturn ∧ t = .float ∧ ∃ z, w = .float z) ∨ (i = .areturn ∧ t.isReference = true ∧ w.isRef = true))
    (hd : decode c.code pc = .ok (i, 1)) (hQ : Q (some w) T.heap locs) (hk : cells ≤ K) (hn : slots ≤ N) : Go p e below s Q K N (T.setTop (mkF m pc Ls (w :: rest))) :=
  goEnd X hlocks (fun q => by rw [hret] at q; cases q) (fun _ hr => retOut X hx hret hn0 hi hd hr) hQ hk hn
theorem goI (X : Stand p l e R s m args below meth c T locs cells slots) (hx : p.tables.exec = Jvm.exec) (hlocks : meth.locks = false) (hret : meth.sig.returnType = some .int) {pc : Nat} {Ls : Array Slot} {w : Int32} {rest : List Value} (hd : decode c.code pc = .ok (.ireturn, 1)) (hQ : Q (some (.int w)) T.heap locs) (hk : cells ≤ K) (hn : slots ≤ N) :
    Go p e below s Q K N (T.setTop (mkF m pc Ls (.int w :: rest))) := goW X hx hlocks hret rfl (Or.inl ⟨rfl, Or.inl rfl, w, rfl⟩) hd hQ hk hn
theorem goJ (X : Stand p l e R s m args below meth c T locs cells slots) (hx : p.tables.exec = Jvm.exec) (hlocks : meth.locks = false) (hret : meth.sig.returnType = some .long) {pc : Nat} {Ls : Array Slot} {w : Int64} {rest : List Value} (hd : decode c.code pc = .ok (.lreturn, 1)) (hQ : Q (some (.long w)) T.heap locs) (hk : cells ≤ K) (hn : slots ≤ N) :
    Go p e below s Q K N (T.setTop (mkF m pc Ls (.long w :: rest))) := goW X hx hlocks hret rfl (Or.inr (Or.inl ⟨rfl, rfl, w, rfl⟩)) hd hQ hk hn
theorem goR (X : Stand p l e R s m args below meth c T locs cells slots) (hx : p.tables.exec = Jvm.exec) (hlocks : meth.locks = false) {t : FieldType} (hret : meth.sig.returnType = some t) (ht : t.isReference = true) {pc : Nat} {Ls : Array Slot} {w : Value} (hw : w.isRef = true) {rest : List Value} (hd : decode c.code pc = .ok (.areturn, 1)) (hQ : Q (some w) T.heap locs) (hk : cells ≤ K) (hn : slots ≤ N) :
    Go p e below s Q K N (T.setTop (mkF m pc Ls (w :: rest))) :=
  goW X hx hlocks hret (by cases t <;> simp [FieldType.isReference] at ht <;> rfl) (Or.inr (Or.inr (Or.inr (Or.inr ⟨rfl, ht, hw⟩)))) hd hQ hk hn
theorem goB (X : Stand p l e R s m args below meth c T locs cells slots) (hx : p.tables.exec = Jvm.exec) (hlocks : meth.locks = false) {t : FieldType} (hret : meth.sig.returnType = some t) (ht : t = .boolean ∨ t = .byte ∨ t = .char ∨ t = .short) {pc : Nat} {Ls : Array Slot} {z w : Int32} {rest : List Value} (hz : nar t z = w) (hd : decode c.code pc = .ok (.ireturn, 1)) (hQ : Q (some (.int w)) T.heap locs) (hk : cells ≤ K) (hn : slots ≤ N) :
    Go p e below s Q K N (T.setTop (mkF m pc Ls (.int z :: rest))) := by
  subst hz
  exact goEnd X hlocks (fun q => by rw [hret] at q; cases q) (fun _ hr => retN X hx hret ht hd hr) hQ hk hn
/-- an array of n places; the place i holds f i -/
def Arf (Z : State) (h : Heap) (a : Addr) (ty : FieldType) (n : Nat) (f : Nat → Value) : Prop := ∃ c : Cell, Arr Z h a c ty ∧ c.slots.size = n ∧ n < 2 ^ 31 ∧ ∀ i, i < n → c.slots[i]? = some (f i)
def upd (f : Nat → Value) (j : Nat) (v : Value) : Nat → Value := fun i => if i = j then v else f i
variable {n : Nat} {f g : Nat → Value} {sl : Nat} {v : Value}
theorem Arf.lt (F : Arf Z h a ty n f) : a < h.size := by obtain ⟨c, A, -⟩ := F; exact A.lt
theorem Arf.ext (F : Arf Z h a ty n f) (E : Ext h h') : Arf Z h' a ty n f := by obtain ⟨c, A, r⟩ := F; exact ⟨c, A.ext E, r⟩
theorem Arf.other (F : Arf Z h b ty n f) (W : Wr h h' a sl v) (q : b ≠ a) : Arf Z h' b ty n f := by obtain ⟨c, A, r⟩ := F; exact ⟨c, A.other W q, r⟩
theorem Arf.keep (F : Arf Z h a ty n f) (K : Keep h h' ws) (q : a ∉ ws) : Arf Z h' a ty n f := by obtain ⟨c, A, r⟩ := F; exact ⟨c, ⟨K.2.1 a c A.1 q, A.2⟩, r⟩
theorem Arf.congr (F : Arf Z h a ty n f) (q : ∀ i, i < n → f i = g i) : Arf Z h a ty n g := by
  obtain ⟨c, A, r1, r2, r3⟩ := F
  exact ⟨c, A, r1, r2, fun i hi => by rw [← q i hi]; exact r3 i hi⟩
theorem clampLt (z : Int32) : z.toNatClampNeg < 2 ^ 31 := by
  have h1 := z.toInt_lt
  have h2 : z.toNatClampNeg = z.toInt.toNat := rfl
  omega
theorem clampOf {j : Int32} (h0 : 0 ≤ j.toInt) : (j.toNatClampNeg : Int) = j.toInt := by
  have h2 : j.toNatClampNeg = j.toInt.toNat := rfl
  omega
theorem Arf.new {k : ClassId} {z : Int32} (A : Arr Z h a (newA k ty z) ty) : Arf Z h a ty z.toNatClampNeg (fun _ => defaultValue ty) := by
  refine ⟨_, A, sz_new _ _ _, clampLt z, fun i hi => ?_⟩
  simp [newA, hi]
theorem Arf.set (F : Arf Z h a ty n f) {j : Nat} (W : Wr h h' a j v) (hj : j < n) : Arf Z h' a ty n (upd f j v) := by
  obtain ⟨c, A, r1, r2, r3⟩ := F
  refine ⟨_, A.same W, by rw [sz_set]; exact r1, r2, fun i hi => ?_⟩
  by_cases q : i = j
  · subst q
    simp [Cell.setSlot, upd, r1, hi]
  · have q' : ¬ j = i := fun x => q x.symm
    simp [Cell.setSlot, upd, q, Array.getElem?_setIfInBounds_ne q', r3 i hi]
theorem inI {cl : Cell} (S : cl.slots.size = n) {j : Int32} (hj : 0 ≤ j.toInt ∧ j.toInt < n) : ¬ (j < 0 ∨ cl.slots.size ≤ j.toNatClampNeg) := by
  have q := clampOf hj.1
  rintro (h1 | h1)
  · rw [Int32.lt_iff_toInt_lt] at h1
    have : (0 : Int32).toInt = 0 := rfl
    omega
  · omega
theorem stIf (X : Stand p l e R s m args below meth c T locs cells slots) (hx : p.tables.exec = Jvm.exec) (hZ : Z.Warmed39 s.vm) (eT : T.heap = h) (F : Arf Z h a .int n f) {j x : Int32} (hj : 0 ≤ j.toInt ∧ j.toInt < n) {g : JFrame} (hg : g.method = m) {rest : List Value} (hs : g.stack = .int x :: .int j :: .ref a :: rest) (hd : decode c.code g.pc = .ok (.iastore, 1)) :
    ∃ T' h', Stand p l e R s m args below meth c T' (locs ++ [⟨a, j.toNatClampNeg⟩]) cells slots ∧ T'.heap = h' ∧ Wr h h' a j.toNatClampNeg (.int x) ∧ Arf Z h' a .int n (upd f j.toNatClampNeg (.int x)) ∧ ∀ target, Steps p.tables e below (T'.setTop { g with pc := g.pc + 1, stack := rest }) target → Steps p.tables e below (T.setTop g) target := by
  obtain ⟨cl, A, r1, r2, r3⟩ := id F
  obtain ⟨T', h', X', e', W, st⟩ := stI X hx hZ eT A (j := j) (x := x) (inI r1 hj) hg hs hd
  have q := clampOf hj.1
  exact ⟨T', h', X', e', W, F.set W (by omega), st⟩
theorem stJf (X : Stand p l e R s m args below meth c T locs cells slots) (hx : p.tables.exec = Jvm.exec) (hZ : Z.Warmed39 s.vm) (eT : T.heap = h) (F : Arf Z h a .long n f) {j : Int32} {x : Int64} (hj : 0 ≤ j.toInt ∧ j.toInt < n) {g : JFrame} (hg : g.method = m) {rest : List Value} (hs : g.stack = .long x :: .int j :: .ref a :: rest) (hd : decode c.code g.pc = .ok (.lastore, 1)) :
    ∃ T' h', Stand p l e R s m args below meth c T' (locs ++ [⟨a, j.toNatClampNeg⟩]) cells slots ∧ T'.heap = h' ∧ Wr h h' a j.toNatClampNeg (.long x) ∧ Arf Z h' a .long n (upd f j.toNatClampNeg (.long x)) ∧ ∀ target, Steps p.tables e below (T'.setTop { g with pc := g.pc + 1, stack := rest }) target → Steps p.tables e below (T.setTop g) target := by
  obtain ⟨cl, A, r1, r2, r3⟩ := id F
  obtain ⟨T', h', X', e', W, st⟩ := stJ X hx hZ eT A (j := j) (x := x) (inI r1 hj) hg hs hd
  have q := clampOf hj.1
  exact ⟨T', h', X', e', W, F.set W (by omega), st⟩
theorem stBf (X : Stand p l e R s m args below meth c T locs cells slots) (hx : p.tables.exec = Jvm.exec) (hZ : Z.Warmed39 s.vm) (eT : T.heap = h) (F : Arf Z h a .byte n f) {j x : Int32} (hj : 0 ≤ j.toInt ∧ j.toInt < n) {g : JFrame} (hg : g.method = m) {rest : List Value} (hs : g.stack = .int x :: .int j :: .ref a :: rest) (hd : decode c.code g.pc = .ok (.bastore, 1)) :
    ∃ T' h', Stand p l e R s m args below meth c T' (locs ++ [⟨a, j.toNatClampNeg⟩]) cells slots ∧ T'.heap = h' ∧ Wr h h' a j.toNatClampNeg (.int (nar .byte x)) ∧ Arf Z h' a .byte n (upd f j.toNatClampNeg (.int (nar .byte x))) ∧ ∀ target, Steps p.tables e below (T'.setTop { g with pc := g.pc + 1, stack := rest }) target → Steps p.tables e below (T.setTop g) target := by
  obtain ⟨cl, A, r1, r2, r3⟩ := id F
  obtain ⟨T', h', X', e', W, st⟩ := stB X hx hZ eT A (j := j) (x := x) (inI r1 hj) hg hs hd
  have q := clampOf hj.1
  exact ⟨T', h', X', e', W, F.set W (by omega), st⟩
theorem stZf (X : Stand p l e R s m args below meth c T locs cells slots) (hx : p.tables.exec = Jvm.exec) (hZ : Z.Warmed39 s.vm) (eT : T.heap = h) (F : Arf Z h a .boolean n f) {j x : Int32} (hj : 0 ≤ j.toInt ∧ j.toInt < n) {g : JFrame} (hg : g.method = m) {rest : List Value} (hs : g.stack = .int x :: .int j :: .ref a :: rest) (hd : decode c.code g.pc = .ok (.bastore, 1)) :
    ∃ T' h', Stand p l e R s m args below meth c T' (locs ++ [⟨a, j.toNatClampNeg⟩]) cells slots ∧ T'.heap = h' ∧ Wr h h' a j.toNatClampNeg (.int (nar .boolean x)) ∧ Arf Z h' a .boolean n (upd f j.toNatClampNeg (.int (nar .boolean x))) ∧ ∀ target, Steps p.tables e below (T'.setTop { g with pc := g.pc + 1, stack := rest }) target → Steps p.tables e below (T.setTop g) target := by
  obtain ⟨cl, A, r1, r2, r3⟩ := id F
  obtain ⟨T', h', X', e', W, st⟩ := stZ X hx hZ eT A (j := j) (x := x) (inI r1 hj) hg hs hd
  have q := clampOf hj.1
  exact ⟨T', h', X', e', W, F.set W (by omega), st⟩
theorem stCf (X : Stand p l e R s m args below meth c T locs cells slots) (hx : p.tables.exec = Jvm.exec) (hZ : Z.Warmed39 s.vm) (eT : T.heap = h) (F : Arf Z h a .char n f) {j x : Int32} (hj : 0 ≤ j.toInt ∧ j.toInt < n) {g : JFrame} (hg : g.method = m) {rest : List Value} (hs : g.stack = .int x :: .int j :: .ref a :: rest) (hd : decode c.code g.pc = .ok (.castore, 1)) :
    ∃ T' h', Stand p l e R s m args below meth c T' (locs ++ [⟨a, j.toNatClampNeg⟩]) cells slots ∧ T'.heap = h' ∧ Wr h h' a j.toNatClampNeg (.int (nar .char x)) ∧ Arf Z h' a .char n (upd f j.toNatClampNeg (.int (nar .char x))) ∧ ∀ target, Steps p.tables e below (T'.setTop { g with pc := g.pc + 1, stack := rest }) target → Steps p.tables e below (T.setTop g) target := by
  obtain ⟨cl, A, r1, r2, r3⟩ := id F
  obtain ⟨T', h', X', e', W, st⟩ := stC X hx hZ eT A (j := j) (x := x) (inI r1 hj) hg hs hd
  have q := clampOf hj.1
  exact ⟨T', h', X', e', W, F.set W (by omega), st⟩
theorem stRf (X : Stand p l e R s m args below meth c T locs cells slots) (hx : p.tables.exec = Jvm.exec) (hZ : Z.Warmed39 s.vm) (eT : T.heap = h) (F : Arf Z h a ty n f) (hty : ty.isReference = true) {j : Int32} {v : Value} (hv : Sto Z h a v) (hj : 0 ≤ j.toInt ∧ j.toInt < n) {g : JFrame} (hg : g.method = m) {rest : List Value} (hs : g.stack = v :: .int j :: .ref a :: rest) (hd : decode c.code g.pc = .ok (.aastore, 1)) :
    ∃ T' h', Stand p l e R s m args below meth c T' (locs ++ [⟨a, j.toNatClampNeg⟩]) cells slots ∧ T'.heap = h' ∧ Wr h h' a j.toNatClampNeg v ∧ Arf Z h' a ty n (upd f j.toNatClampNeg v) ∧ ∀ target, Steps p.tables e below (T'.setTop { g with pc := g.pc + 1, stack := rest }) target → Steps p.tables e below (T.setTop g) target := by
  obtain ⟨cl, A, r1, r2, r3⟩ := id F
  obtain ⟨T', h', X', e', W, st⟩ := stR X hx hZ eT A (j := j) (v := v) (inI r1 hj) hty hv hg hs hd
  have q := clampOf hj.1
  exact ⟨T', h', X', e', W, F.set W (by omega), st⟩
theorem ldIf (X : Stand p l e R s m args below meth c T locs cells slots) (hx : p.tables.exec = Jvm.exec) (hZ : Z.Warmed39 s.vm) (eT : T.heap = h) (F : Arf Z h a .int n f) {j : Int32} {v : Value} (hj : 0 ≤ j.toInt ∧ j.toInt < n) (hv : f j.toNatClampNeg = v) {g : JFrame} (hg : g.method = m) {rest : List Value} (hs : g.stack = .int j :: .ref a :: rest) (hd : decode c.code g.pc = .ok (.iaload, 1)) :
    ∀ target, Steps p.tables e below (T.setTop { g with pc := g.pc + 1, stack := v :: rest }) target → Steps p.tables e below (T.setTop g) target := by
  obtain ⟨cl, A, r1, r2, r3⟩ := F
  have q := clampOf hj.1
  exact fun t => X.iaload hx (by rw [eT]; exact A.1) (State.isArrayOf_alike hZ.alike A.2.1) A.2.2 (inI r1 hj) (by rw [← hv]; exact r3 _ (by omega)) hg hs hd t
theorem ldJf (X : Stand p l e R s m args below meth c T locs cells slots) (hx : p.tables.exec = Jvm.exec) (hZ : Z.Warmed39 s.vm) (eT : T.heap = h) (F : Arf Z h a .long n f) {j : Int32} {v : Value} (hj : 0 ≤ j.toInt ∧ j.toInt < n) (hv : f j.toNatClampNeg = v) {g : JFrame} (hg : g.method = m) {rest : List Value} (hs : g.stack = .int j :: .ref a :: rest) (hd : decode c.code g.pc = .ok (.laload, 1)) :
    ∀ target, Steps p.tables e below (T.setTop { g with pc := g.pc + 1, stack := v :: rest }) target → Steps p.tables e below (T.setTop g) target := by
  obtain ⟨cl, A, r1, r2, r3⟩ := F
  have q := clampOf hj.1
  exact fun t => X.laload hx (by rw [eT]; exact A.1) (State.isArrayOf_alike hZ.alike A.2.1) A.2.2 (inI r1 hj) (by rw [← hv]; exact r3 _ (by omega)) hg hs hd t
theorem ldCf (X : Stand p l e R s m args below meth c T locs cells slots) (hx : p.tables.exec = Jvm.exec) (hZ : Z.Warmed39 s.vm) (eT : T.heap = h) (F : Arf Z h a .char n f) {j : Int32} {v : Value} (hj : 0 ≤ j.toInt ∧ j.toInt < n) (hv : f j.toNatClampNeg = v) {g : JFrame} (hg : g.method = m) {rest : List Value} (hs : g.stack = .int j :: .ref a :: rest) (hd : decode c.code g.pc = .ok (.caload, 1)) :
    ∀ target, Steps p.tables e below (T.setTop { g with pc := g.pc + 1, stack := v :: rest }) target → Steps p.tables e below (T.setTop g) target := by
  obtain ⟨cl, A, r1, r2, r3⟩ := F
  have q := clampOf hj.1
  exact fun t => X.caload hx (by rw [eT]; exact A.1) (State.isArrayOf_alike hZ.alike A.2.1) A.2.2 (inI r1 hj) (by rw [← hv]; exact r3 _ (by omega)) hg hs hd t
theorem ldBf (X : Stand p l e R s m args below meth c T locs cells slots) (hx : p.tables.exec = Jvm.exec) (hZ : Z.Warmed39 s.vm) (eT : T.heap = h) (F : Arf Z h a .byte n f) {j : Int32} {v : Value} (hj : 0 ≤ j.toInt ∧ j.toInt < n) (hv : f j.toNatClampNeg = v) {g : JFrame} (hg : g.method = m) {rest : List Value} (hs : g.stack = .int j :: .ref a :: rest) (hd : decode c.code g.pc = .ok (.baload, 1)) :
    ∀ target, Steps p.tables e below (T.setTop { g with pc := g.pc + 1, stack := v :: rest }) target → Steps p.tables e below (T.setTop g) target := by
  obtain ⟨cl, A, r1, r2, r3⟩ := F
  have q := clampOf hj.1
  exact fun t => X.baloadBytes hx (by rw [eT]; exact A.1) (State.isArrayOf_alike hZ.alike A.2.1) A.2.2 (inI r1 hj) (by rw [← hv]; exact r3 _ (by omega)) hg hs hd t
theorem ldZf (X : Stand p l e R s m args below meth c T locs cells slots) (hx : p.tables.exec = Jvm.exec) (hZ : Z.Warmed39 s.vm) (eT : T.heap = h) (F : Arf Z h a .boolean n f) {j : Int32} {v : Value} (hj : 0 ≤ j.toInt ∧ j.toInt < n) (hv : f j.toNatClampNeg = v) {g : JFrame} (hg : g.method = m) {rest : List Value} (hs : g.stack = .int j :: .ref a :: rest) (hd : decode c.code g.pc = .ok (.baload, 1)) :
    ∀ target, Steps p.tables e below (T.setTop { g with pc := g.pc + 1, stack := v :: rest }) target → Steps p.tables e below (T.setTop g) target := by
  obtain ⟨cl, A, r1, r2, r3⟩ := F
  have q := clampOf hj.1
  exact fun t => X.baloadBooleans hx (by rw [eT]; exact A.1) (State.isArrayOf_alike hZ.alike A.2.1) A.2.2 (inI r1 hj) (by rw [← hv]; exact r3 _ (by omega)) hg hs hd t
theorem ldRf (X : Stand p l e R s m args below meth c T locs cells slots) (hx : p.tables.exec = Jvm.exec) (hZ : Z.Warmed39 s.vm) (eT : T.heap = h) (F : Arf Z h a ty n f) (hty : ty.isReference = true) {j : Int32} {v : Value} (hj : 0 ≤ j.toInt ∧ j.toInt < n) (hv : f j.toNatClampNeg = v) {g : JFrame} (hg : g.method = m) {rest : List Value} (hs : g.stack = .int j :: .ref a :: rest) (hd : decode c.code g.pc = .ok (.aaload, 1)) :
    ∀ target, Steps p.tables e below (T.setTop { g with pc := g.pc + 1, stack := v :: rest }) target → Steps p.tables e below (T.setTop g) target := by
  obtain ⟨cl, A, r1, r2, r3⟩ := F
  have q := clampOf hj.1
  exact fun t => X.aaload hx (by rw [eT]; exact A.1) (State.isArrayOf_alike hZ.alike A.2.1) hty A.2.2 (inI r1 hj) (by rw [← hv]; exact r3 _ (by omega)) hg hs hd t
theorem lenf (X : Stand p l e R s m args below meth c T locs cells slots) (hx : p.tables.exec = Jvm.exec) (hZ : Z.Warmed39 s.vm) (eT : T.heap = h) (F : Arf Z h a ty n f) {z : Int32} (hz : n.toInt32 = z) {g : JFrame} (hg : g.method = m) {rest : List Value} (hs : g.stack = .ref a :: rest) (hd : decode c.code g.pc = .ok (.arraylength, 1)) :
    ∀ target, Steps p.tables e below (T.setTop { g with pc := g.pc + 1, stack := .int z :: rest }) target → Steps p.tables e below (T.setTop g) target := by
  obtain ⟨cl, A, r1, r2, r3⟩ := F
  subst hz r1
  exact fun t => X.arraylength hx (by rw [eT]; exact A.1) (State.isArrayOf_alike hZ.alike A.2.1) hg hs hd t
theorem toClamp {z : Int32} (q : 0 ≤ z.toInt) : z.toNatClampNeg.toInt32 = z := (back32 (fun h => by rw [Int32.lt_iff_toInt_lt] at h; have : (0 : Int32).toInt = 0 := rfl; omega)).1
/-- an array that takes every object of the class C -/
def Tak (Z : State) (h : Heap) (a : Addr) (C : String) : Prop := ∃ (cell : Cell) (k kc : Class) (comp : ClassId) (t : FieldType), h[a]? = some cell ∧ Z.vm.classes[cell.cls]? = some k ∧ k.kind = .array comp t ∧ Z.vm.classes[comp]? = some kc ∧ Z.vm.findClass C = some comp
variable {C : String}
theorem Tak.ext (F : Tak Z h a C) (E : Ext h h') : Tak Z h' a C := by obtain ⟨cell, k, kc, comp, t, h1, r⟩ := F; exact ⟨cell, k, kc, comp, t, E.2 _ _ h1, r⟩
theorem Tak.wr (F : Tak Z h a C) (W : Wr h h' b sl v) : Tak Z h' a C := by
  obtain ⟨cell, k, kc, comp, t, h1, h2, r⟩ := F
  obtain ⟨c', e1, e2, -⟩ := wr_at W h1
  exact ⟨c', k, kc, comp, t, e1, by rw [e2]; exact h2, r⟩
theorem Tak.keep (F : Tak Z h a C) (K : Keep h h' ws) : Tak Z h' a C := by
  obtain ⟨cell, k, kc, comp, t, h1, h2, r⟩ := F
  obtain ⟨c', e1, e2, -⟩ := K.2.2 _ _ h1
  exact ⟨c', k, kc, comp, t, e1, by rw [e2]; exact h2, r⟩
theorem Tak.sto (F : Tak Z h a C) {y : Addr} (I : Ins Z h y C true) : Sto Z h a (.ref y) := by
  obtain ⟨cell, k, kc, comp, t, h1, h2, h3, h4, h5⟩ := F
  obtain ⟨cv, cT, g1, g2, g3⟩ := I
  cases h5.symm.trans g2
  simp only [Bool.and_eq_true, Bool.not_eq_true'] at g3
  have hv : ∃ kv, Z.vm.classes[cv.cls]? = some kv := by
    cases q : Z.vm.classes[cv.cls]? with
    | some kv => exact ⟨kv, rfl⟩
    | none =>
      by_cases e : cv.cls = comp
      · rw [e, h4] at q; cases q
      · have := g3.2
        simp [Vm.assignable, Vm.assignableAux, e, q] at this
  obtain ⟨kv, hkv⟩ := hv
  exact Or.inr ⟨cell, cv, k, kv, kc, comp, t, y, h1, h2, h3, h4, rfl, g1, g3.1, hkv, g3.2⟩
theorem Tak.of {cA : ClassId} {n : Int32} (A : Arr Z h a (newA cA ty n) ty) (O : Ovr Z cA C) : Tak Z h a C := by
  obtain ⟨k, comp, o1, o2, o3⟩ := O
  obtain ⟨kc, q, -⟩ := Vm.findClass_spec o3
  exact ⟨_, k, kc, comp, _, A.1, o1, o2, q, o3⟩
theorem Tak.ofA {cA : ClassId} {n : Int32} {ty' : FieldType} (A : Arr Z h a (newA cA ty n) ty) (O : OvrA Z cA ty' C) : Tak Z h a C := by
  obtain ⟨k, comp, o1, o2, o3⟩ := O
  obtain ⟨kc, q, -⟩ := Vm.findClass_spec o3
  exact ⟨_, k, kc, comp, _, A.1, o1, o2, q, o3⟩
theorem own_eqI {t : Term} {k : Int32} {args : Array Value} {first s : State} {o : Option Outcome} {idx : List Nat} (h : (Cond.eq t (.int k)).value args first o s idx = some true) : t.eval args first o idx s = some (.int k) := by
  simp only [Cond.value, Term.eval] at h
  cases ht : t.eval args first o idx s with
  | none => simp [ht] at h
  | some x => cases x <;> simp [ht] at h ⊢ <;> exact h
end Own
end Jvm.RoadKit
namespace Jvm.Pilot.@@N@@
open Jvm Jvm.ClassFile Sem Op Lib Jvm.Free Jvm.Stand Jvm.LawKit Jvm.RoadKit Bundle Jvm.Pilot.@@N@@.Jvm.D
theorem pd_0 : parseMethodDescriptor "(JJJJJ)V" = some ⟨[.long, .long, .long, .long, .long], none⟩ := by decide +kernel
theorem pd_1 : parseMethodDescriptor "(Lcom/example/outboxd/outboxd/relay/DrainSummary;)Lcom/example/outboxd/outboxd/relay/DrainSummary;" = some ⟨[(.object "com/example/outboxd/outboxd/relay/DrainSummary")], some (.object "com/example/outboxd/outboxd/relay/DrainSummary")⟩ := by decide +kernel
theorem pd_2 : parseMethodDescriptor "()J" = some ⟨[], some .long⟩ := by decide +kernel
theorem d1_0 : decode prog_11_method_1_code 0 = .ok (.aload_n 0, 1) := by decide +kernel
theorem d1_1 : decode prog_11_method_1_code 1 = .ok (.invokespecial 1, 3) := by decide +kernel
theorem d1_4 : decode prog_11_method_1_code 4 = .ok (.aload_n 0, 1) := by decide +kernel
theorem d1_5 : decode prog_11_method_1_code 5 = .ok (.lload_n 1, 1) := by decide +kernel
theorem d1_6 : decode prog_11_method_1_code 6 = .ok (.putfield 7, 3) := by decide +kernel
theorem d1_9 : decode prog_11_method_1_code 9 = .ok (.aload_n 0, 1) := by decide +kernel
theorem d1_10 : decode prog_11_method_1_code 10 = .ok (.lload_n 3, 1) := by decide +kernel
theorem d1_11 : decode prog_11_method_1_code 11 = .ok (.putfield 13, 3) := by decide +kernel
theorem d1_14 : decode prog_11_method_1_code 14 = .ok (.aload_n 0, 1) := by decide +kernel
theorem d1_15 : decode prog_11_method_1_code 15 = .ok (.lload 5, 2) := by decide +kernel
theorem d1_17 : decode prog_11_method_1_code 17 = .ok (.putfield 16, 3) := by decide +kernel
theorem d1_20 : decode prog_11_method_1_code 20 = .ok (.aload_n 0, 1) := by decide +kernel
theorem d1_21 : decode prog_11_method_1_code 21 = .ok (.lload 7, 2) := by decide +kernel
theorem d1_23 : decode prog_11_method_1_code 23 = .ok (.putfield 19, 3) := by decide +kernel
theorem d1_26 : decode prog_11_method_1_code 26 = .ok (.aload_n 0, 1) := by decide +kernel
theorem d1_27 : decode prog_11_method_1_code 27 = .ok (.lload 9, 2) := by decide +kernel
theorem d1_29 : decode prog_11_method_1_code 29 = .ok (.putfield 22, 3) := by decide +kernel
theorem d1_32 : decode prog_11_method_1_code 32 = .ok (.return_, 1) := by decide +kernel
theorem pn_1 : plainName "com/example/outboxd/outboxd/relay/DrainSummary" = true := by first | (simp [plainName, overriddenIn]; done) | decide +kernel
def Qrm1 (Z : State) (r0 : Addr) (p1 : Int64) (p2 : Int64) (p3 : Int64) (p4 : Int64) (p5 : Int64) (h0 : Heap) (n0 : Nat) (v : Option Value) (h : Heap) (L : List Loc) : Prop := v = none ∧ Fr n0 L ∧ Keep h0 h [r0] ∧ Fld Z h r0 "com/example/outboxd/outboxd/relay/DrainSummary" "relayed" "J" (.long p1) ∧ Fld Z h r0 "com/example/outboxd/outboxd/relay/DrainSummary" "failed" "J" (.long p2) ∧ Fld Z h r0 "com/example/outboxd/outboxd/relay/DrainSummary" "dead" "J" (.long p3) ∧ Fld Z h r0 "com/example/outboxd/outboxd/relay/DrainSummary" "givenBack" "J" (.long p4) ∧ Fld Z h r0 "com/example/outboxd/outboxd/relay/DrainSummary" "lost" "J" (.long p5)
set_option maxRecDepth 65536 in
set_option maxHeartbeats 40000000 in
theorem rm1 (l : Launch) (Z : State) (a0 : Array Value) (hw : ∀ d ∈ tables_1, d.before a0 Z = true) (ws : List Jvm.Cond) (r0 : Addr) (p1 : Int64) (p2 : Int64) (p3 : Int64) (p4 : Int64) (p5 : Int64) (h0 : Heap) (n0 : Nat) (Z0 : n0 ≤ h0.size) (F_relayed_r0 : Fld Z h0 r0 "com/example/outboxd/outboxd/relay/DrainSummary" "relayed" "J" (.long (0 : Int64))) (F_failed_r0 : Fld Z h0 r0 "com/example/outboxd/outboxd/relay/DrainSummary" "failed" "J" (.long (0 : Int64))) (F_dead_r0 : Fld Z h0 r0 "com/example/outboxd/outboxd/relay/DrainSummary" "dead" "J" (.long (0 : Int64))) (F_givenBack_r0 : Fld Z h0 r0 "com/example/outboxd/outboxd/relay/DrainSummary" "givenBack" "J" (.long (0 : Int64))) (F_lost_r0 : Fld Z h0 r0 "com/example/outboxd/outboxd/relay/DrainSummary" "lost" "J" (.long (0 : Int64))) (E_r0 : Exa Z h0 r0 "com/example/outboxd/outboxd/relay/DrainSummary") (ge_r0 : n0 ≤ r0) :
    MetFree l (⟨"com/example/outboxd/outboxd/relay/DrainSummary", "<init>", "(JJJJJ)V"⟩ : MethodName) (head1 (Jvm.Cond.code (⟨"com/example/outboxd/outboxd/relay/DrainSummary", "<init>", "(JJJJJ)V"⟩ : MethodName) prog_11_method_1_code 11 none :: ws) ({ frames := 1, cells := 0, slots := 0, locals := 12 } : Room)) (fun a U => a = #[(.ref r0), (.long p1), (.long p2), (.long p3), (.long p4), (.long p5)] ∧ Z.Warmed39 U.vm ∧ U.heap = h0) (fun _ _ _ _ _ => True) (fun _ U o U' => ∃ v L, o = .returned v ∧ Qrm1 Z r0 p1 p2 p3 p4 p5 h0 n0 v U'.heap L ∧ FrameEnd U o U' L ({ frames := 1, cells := 0, slots := 0, locals := 12 } : Room).cells ({ frames := 1, cells := 0, slots := 0, locals := 12 } : Room).slots) := by
  refine MetFree.of_bodySF (plainFor_of_name pn_1) hisR ?_
  intro p e s m args below meth c s₁ Bd hml0 hP hK
  obtain ⟨rfl, hZ, hh⟩ := hP
  have hx := Bd.exec
  have hby := Bd.bytes
  have hml : c.maxLocals = 11 := hml0
  have hown : s.vm.findClass "com/example/outboxd/outboxd/relay/DrainSummary" = some m.cls := findClass_of_methodNamed Bd.named
  have hnm := (name_of_methodNamed Bd.named Bd.method).1
  have X0 : Stand p l e ({ frames := 1, cells := 0, slots := 0, locals := 12 } : Room) s m #[(.ref r0), (.long p1), (.long p2), (.long p3), (.long p4), (.long p5)] below meth c s₁ [] 0 0 := Stand.of_body Bd
  have e0 : s₁.heap = h0 := by rw [← hh, Bd.state]; rfl
  have N0 := Fr.nil n0
  have ZZ := Z0
  have KK : Keep h0 h0 [r0] := Keep.refl h0 _
  show Go p e below s (Qrm1 Z r0 p1 p2 p3 p4 p5 h0 n0) 0 0 (s₁.setTop (entryFrame m #[(.ref r0), (.long p1), (.long p2), (.long p3), (.long p4), (.long p5)] 11))
  generalize hQQ : (Qrm1 Z r0 p1 p2 p3 p4 p5 h0 n0) = QQ
  refine gs (fun t k => castTop (g' := (mkF m 0 #[.val (.ref r0), .val (.long p1), .second, .val (.long p2), .second, .val (.long p3), .second, .val (.long p4), .second, .val (.long p5), .second] [])) (by first | (simp [entryFrame, mkF, argsToLocals, Value.category, maxLocals]; done) | rfl) k) ?_
  show Go p e below s QQ 0 0 (s₁.setTop (mkF m 0 #[.val (.ref r0), .val (.long p1), .second, .val (.long p2), .second, .val (.long p3), .second, .val (.long p4), .second, .val (.long p5), .second] []))
  refine gs (fun t => XS.aloadN X0.here hx rfl (hb hby d1_0) rfl rfl) ?_
  show Go p e below s QQ 0 0 (s₁.setTop (mkF m 1 #[.val (.ref r0), .val (.long p1), .second, .val (.long p2), .second, .val (.long p3), .second, .val (.long p4), .second, .val (.long p5), .second] [(.ref r0)]))
  obtain ⟨T1, X1, e1, st1⟩ := initO X0 hx hZ hown (hw _ (List.mem_of_getElem? (i := 9) rfl)) (hw _ (List.mem_of_getElem? (i := 10) rfl)) (hw _ (List.mem_of_getElem? (i := 11) rfl)) e0 (g := (mkF m 1 #[.val (.ref r0), .val (.long p1), .second, .val (.long p2), .second, .val (.long p3), .second, .val (.long p4), .second, .val (.long p5), .second] [(.ref r0)])) rfl (by rw [hml]; rfl) rfl (hb hby d1_1) (by decide) (W := 0) (by show 2 * 0 + _ ≤ _; exact Nat.le_of_eq rfl) (by decide)
  refine gs st1 ?_
  show Go p e below s QQ 0 0 (T1.setTop (mkF m 4 #[.val (.ref r0), .val (.long p1), .second, .val (.long p2), .second, .val (.long p3), .second, .val (.long p4), .second, .val (.long p5), .second] []))
  refine gs (fun t => XS.aloadN X1.here hx rfl (hb hby d1_4) rfl rfl) ?_
  show Go p e below s QQ 0 0 (T1.setTop (mkF m 5 #[.val (.ref r0), .val (.long p1), .second, .val (.long p2), .second, .val (.long p3), .second, .val (.long p4), .second, .val (.long p5), .second] [(.ref r0)]))
  refine gs (fun t => XS.lloadN X1.here hx rfl (hb hby d1_5) rfl) ?_
  show Go p e below s QQ 0 0 (T1.setTop (mkF m 6 #[.val (.ref r0), .val (.long p1), .second, .val (.long p2), .second, .val (.long p3), .second, .val (.long p4), .second, .val (.long p5), .second] [(.long p1), (.ref r0)]))
  obtain ⟨T2, h2, X2, e2, W2, st2⟩ := putF X1 hx hZ hown (host := "") (Or.inl (hw _ (List.mem_of_getElem? (i := 12) rfl))) Via.refl e1 F_relayed_r0 E_r0 (Or.inr ⟨(hw _ (List.mem_of_getElem? (i := 13) rfl)), rfl, hnm⟩) (hw _ (List.mem_of_getElem? (i := 4) rfl)) (ty := .long) (by decide) rfl rfl (g := (mkF m 6 #[.val (.ref r0), .val (.long p1), .second, .val (.long p2), .second, .val (.long p3), .second, .val (.long p4), .second, .val (.long p5), .second] [(.long p1), (.ref r0)])) rfl rfl (hb hby d1_6)
  replace N0 := Fr.snoc X2 N0 ge_r0
  refine gs st2 ?_
  show Go p e below s QQ 0 0 (T2.setTop (mkF m 9 #[.val (.ref r0), .val (.long p1), .second, .val (.long p2), .second, .val (.long p3), .second, .val (.long p4), .second, .val (.long p5), .second] []))
  replace F_relayed_r0 := F_relayed_r0.same W2
  replace F_failed_r0 := F_failed_r0.other W2 (Or.inr (slot_ne (Or.inr (hw _ (List.mem_of_getElem? (i := 15) rfl))) (Or.inr (hw _ (List.mem_of_getElem? (i := 13) rfl))) (by decide) (t := .long) (t' := .long) (by decide) (by decide)))
  replace F_dead_r0 := F_dead_r0.other W2 (Or.inr (slot_ne (Or.inr (hw _ (List.mem_of_getElem? (i := 17) rfl))) (Or.inr (hw _ (List.mem_of_getElem? (i := 13) rfl))) (by decide) (t := .long) (t' := .long) (by decide) (by decide)))
  replace F_givenBack_r0 := F_givenBack_r0.other W2 (Or.inr (slot_ne (Or.inr (hw _ (List.mem_of_getElem? (i := 19) rfl))) (Or.inr (hw _ (List.mem_of_getElem? (i := 13) rfl))) (by decide) (t := .long) (t' := .long) (by decide) (by decide)))
  replace F_lost_r0 := F_lost_r0.other W2 (Or.inr (slot_ne (Or.inr (hw _ (List.mem_of_getElem? (i := 21) rfl))) (Or.inr (hw _ (List.mem_of_getElem? (i := 13) rfl))) (by decide) (t := .long) (t' := .long) (by decide) (by decide)))
  replace E_r0 := E_r0.wr W2
  replace ZZ : n0 ≤ h2.size := by rw [W2.size]; exact ZZ
  replace KK := KK.wr W2 (Or.inl (by simp))
  refine gs (fun t => XS.aloadN X2.here hx rfl (hb hby d1_9) rfl rfl) ?_
  show Go p e below s QQ 0 0 (T2.setTop (mkF m 10 #[.val (.ref r0), .val (.long p1), .second, .val (.long p2), .second, .val (.long p3), .second, .val (.long p4), .second, .val (.long p5), .second] [(.ref r0)]))
  refine gs (fun t => XS.lloadN X2.here hx rfl (hb hby d1_10) rfl) ?_
  show Go p e below s QQ 0 0 (T2.setTop (mkF m 11 #[.val (.ref r0), .val (.long p1), .second, .val (.long p2), .second, .val (.long p3), .second, .val (.long p4), .second, .val (.long p5), .second] [(.long p2), (.ref r0)]))
  obtain ⟨T3, h3, X3, e3, W3, st3⟩ := putF X2 hx hZ hown (host := "") (Or.inl (hw _ (List.mem_of_getElem? (i := 14) rfl))) Via.refl e2 F_failed_r0 E_r0 (Or.inr ⟨(hw _ (List.mem_of_getElem? (i := 15) rfl)), rfl, hnm⟩) (hw _ (List.mem_of_getElem? (i := 4) rfl)) (ty := .long) (by decide) rfl rfl (g := (mkF m 11 #[.val (.ref r0), .val (.long p1), .second, .val (.long p2), .second, .val (.long p3), .second, .val (.long p4), .second, .val (.long p5), .second] [(.long p2), (.ref r0)])) rfl rfl (hb hby d1_11)
  replace N0 := Fr.snoc X3 N0 ge_r0
  refine gs st3 ?_
  show Go p e below s QQ 0 0 (T3.setTop (mkF m 14 #[.val (.ref r0), .val (.long p1), .second, .val (.long p2), .second, .val (.long p3), .second, .val (.long p4), .second, .val (.long p5), .second] []))
  replace F_relayed_r0 := F_relayed_r0.other W3 (Or.inr (slot_ne (Or.inr (hw _ (List.mem_of_getElem? (i := 13) rfl))) (Or.inr (hw _ (List.mem_of_getElem? (i := 15) rfl))) (by decide) (t := .long) (t' := .long) (by decide) (by decide)))
  replace F_failed_r0 := F_failed_r0.same W3
  replace F_dead_r0 := F_dead_r0.other W3 (Or.inr (slot_ne (Or.inr (hw _ (List.mem_of_getElem? (i := 17) rfl))) (Or.inr (hw _ (List.mem_of_getElem? (i := 15) rfl))) (by decide) (t := .long) (t' := .long) (by decide) (by decide)))
  replace F_givenBack_r0 := F_givenBack_r0.other W3 (Or.inr (slot_ne (Or.inr (hw _ (List.mem_of_getElem? (i := 19) rfl))) (Or.inr (hw _ (List.mem_of_getElem? (i := 15) rfl))) (by decide) (t := .long) (t' := .long) (by decide) (by decide)))
  replace F_lost_r0 := F_lost_r0.other W3 (Or.inr (slot_ne (Or.inr (hw _ (List.mem_of_getElem? (i := 21) rfl))) (Or.inr (hw _ (List.mem_of_getElem? (i := 15) rfl))) (by decide) (t := .long) (t' := .long) (by decide) (by decide)))
  replace E_r0 := E_r0.wr W3
  replace ZZ : n0 ≤ h3.size := by rw [W3.size]; exact ZZ
  replace KK := KK.wr W3 (Or.inl (by simp))
  refine gs (fun t => XS.aloadN X3.here hx rfl (hb hby d1_14) rfl rfl) ?_
  show Go p e below s QQ 0 0 (T3.setTop (mkF m 15 #[.val (.ref r0), .val (.long p1), .second, .val (.long p2), .second, .val (.long p3), .second, .val (.long p4), .second, .val (.long p5), .second] [(.ref r0)]))
  refine gs (fun t => XS.lload X3.here hx rfl (hb hby d1_15) rfl) ?_
  show Go p e below s QQ 0 0 (T3.setTop (mkF m 17 #[.val (.ref r0), .val (.long p1), .second, .val (.long p2), .second, .val (.long p3), .second, .val (.long p4), .second, .val (.long p5), .second] [(.long p3), (.ref r0)]))
  obtain ⟨T4, h4, X4, e4, W4, st4⟩ := putF X3 hx hZ hown (host := "") (Or.inl (hw _ (List.mem_of_getElem? (i := 16) rfl))) Via.refl e3 F_dead_r0 E_r0 (Or.inr ⟨(hw _ (List.mem_of_getElem? (i := 17) rfl)), rfl, hnm⟩) (hw _ (List.mem_of_getElem? (i := 4) rfl)) (ty := .long) (by decide) rfl rfl (g := (mkF m 17 #[.val (.ref r0), .val (.long p1), .second, .val (.long p2), .second, .val (.long p3), .second, .val (.long p4), .second, .val (.long p5), .second] [(.long p3), (.ref r0)])) rfl rfl (hb hby d1_17)
  replace N0 := Fr.snoc X4 N0 ge_r0
  refine gs st4 ?_
  show Go p e below s QQ 0 0 (T4.setTop (mkF m 20 #[.val (.ref r0), .val (.long p1), .second, .val (.long p2), .second, .val (.long p3), .second, .val (.long p4), .second, .val (.long p5), .second] []))
  replace F_relayed_r0 := F_relayed_r0.other W4 (Or.inr (slot_ne (Or.inr (hw _ (List.mem_of_getElem? (i := 13) rfl))) (Or.inr (hw _ (List.mem_of_getElem? (i := 17) rfl))) (by decide) (t := .long) (t' := .long) (by decide) (by decide)))
  replace F_failed_r0 := F_failed_r0.other W4 (Or.inr (slot_ne (Or.inr (hw _ (List.mem_of_getElem? (i := 15) rfl))) (Or.inr (hw _ (List.mem_of_getElem? (i := 17) rfl))) (by decide) (t := .long) (t' := .long) (by decide) (by decide)))
  replace F_dead_r0 := F_dead_r0.same W4
  replace F_givenBack_r0 := F_givenBack_r0.other W4 (Or.inr (slot_ne (Or.inr (hw _ (List.mem_of_getElem? (i := 19) rfl))) (Or.inr (hw _ (List.mem_of_getElem? (i := 17) rfl))) (by decide) (t := .long) (t' := .long) (by decide) (by decide)))
  replace F_lost_r0 := F_lost_r0.other W4 (Or.inr (slot_ne (Or.inr (hw _ (List.mem_of_getElem? (i := 21) rfl))) (Or.inr (hw _ (List.mem_of_getElem? (i := 17) rfl))) (by decide) (t := .long) (t' := .long) (by decide) (by decide)))
  replace E_r0 := E_r0.wr W4
  replace ZZ : n0 ≤ h4.size := by rw [W4.size]; exact ZZ
  replace KK := KK.wr W4 (Or.inl (by simp))
  refine gs (fun t => XS.aloadN X4.here hx rfl (hb hby d1_20) rfl rfl) ?_
  show Go p e below s QQ 0 0 (T4.setTop (mkF m 21 #[.val (.ref r0), .val (.long p1), .second, .val (.long p2), .second, .val (.long p3), .second, .val (.long p4), .second, .val (.long p5), .second] [(.ref r0)]))
  refine gs (fun t => XS.lload X4.here hx rfl (hb hby d1_21) rfl) ?_
  show Go p e below s QQ 0 0 (T4.setTop (mkF m 23 #[.val (.ref r0), .val (.long p1), .second, .val (.long p2), .second, .val (.long p3), .second, .val (.long p4), .second, .val (.long p5), .second] [(.long p4), (.ref r0)]))
  obtain ⟨T5, h5, X5, e5, W5, st5⟩ := putF X4 hx hZ hown (host := "") (Or.inl (hw _ (List.mem_of_getElem? (i := 18) rfl))) Via.refl e4 F_givenBack_r0 E_r0 (Or.inr ⟨(hw _ (List.mem_of_getElem? (i := 19) rfl)), rfl, hnm⟩) (hw _ (List.mem_of_getElem? (i := 4) rfl)) (ty := .long) (by decide) rfl rfl (g := (mkF m 23 #[.val (.ref r0), .val (.long p1), .second, .val (.long p2), .second, .val (.long p3), .second, .val (.long p4), .second, .val (.long p5), .second] [(.long p4), (.ref r0)])) rfl rfl (hb hby d1_23)
  replace N0 := Fr.snoc X5 N0 ge_r0
  refine gs st5 ?_
  show Go p e below s QQ 0 0 (T5.setTop (mkF m 26 #[.val (.ref r0), .val (.long p1), .second, .val (.long p2), .second, .val (.long p3), .second, .val (.long p4), .second, .val (.long p5), .second] []))
  replace F_relayed_r0 := F_relayed_r0.other W5 (Or.inr (slot_ne (Or.inr (hw _ (List.mem_of_getElem? (i := 13) rfl))) (Or.inr (hw _ (List.mem_of_getElem? (i := 19) rfl))) (by decide) (t := .long) (t' := .long) (by decide) (by decide)))
  replace F_failed_r0 := F_failed_r0.other W5 (Or.inr (slot_ne (Or.inr (hw _ (List.mem_of_getElem? (i := 15) rfl))) (Or.inr (hw _ (List.mem_of_getElem? (i := 19) rfl))) (by decide) (t := .long) (t' := .long) (by decide) (by decide)))
  replace F_dead_r0 := F_dead_r0.other W5 (Or.inr (slot_ne (Or.inr (hw _ (List.mem_of_getElem? (i := 17) rfl))) (Or.inr (hw _ (List.mem_of_getElem? (i := 19) rfl))) (by decide) (t := .long) (t' := .long) (by decide) (by decide)))
  replace F_givenBack_r0 := F_givenBack_r0.same W5
  replace F_lost_r0 := F_lost_r0.other W5 (Or.inr (slot_ne (Or.inr (hw _ (List.mem_of_getElem? (i := 21) rfl))) (Or.inr (hw _ (List.mem_of_getElem? (i := 19) rfl))) (by decide) (t := .long) (t' := .long) (by decide) (by decide)))
  replace E_r0 := E_r0.wr W5
  replace ZZ : n0 ≤ h5.size := by rw [W5.size]; exact ZZ
  replace KK := KK.wr W5 (Or.inl (by simp))
  refine gs (fun t => XS.aloadN X5.here hx rfl (hb hby d1_26) rfl rfl) ?_
  show Go p e below s QQ 0 0 (T5.setTop (mkF m 27 #[.val (.ref r0), .val (.long p1), .second, .val (.long p2), .second, .val (.long p3), .second, .val (.long p4), .second, .val (.long p5), .second] [(.ref r0)]))
  refine gs (fun t => XS.lload X5.here hx rfl (hb hby d1_27) rfl) ?_
  show Go p e below s QQ 0 0 (T5.setTop (mkF m 29 #[.val (.ref r0), .val (.long p1), .second, .val (.long p2), .second, .val (.long p3), .second, .val (.long p4), .second, .val (.long p5), .second] [(.long p5), (.ref r0)]))
  obtain ⟨T6, h6, X6, e6, W6, st6⟩ := putF X5 hx hZ hown (host := "") (Or.inl (hw _ (List.mem_of_getElem? (i := 20) rfl))) Via.refl e5 F_lost_r0 E_r0 (Or.inr ⟨(hw _ (List.mem_of_getElem? (i := 21) rfl)), rfl, hnm⟩) (hw _ (List.mem_of_getElem? (i := 4) rfl)) (ty := .long) (by decide) rfl rfl (g := (mkF m 29 #[.val (.ref r0), .val (.long p1), .second, .val (.long p2), .second, .val (.long p3), .second, .val (.long p4), .second, .val (.long p5), .second] [(.long p5), (.ref r0)])) rfl rfl (hb hby d1_29)
  replace N0 := Fr.snoc X6 N0 ge_r0
  refine gs st6 ?_
  show Go p e below s QQ 0 0 (T6.setTop (mkF m 32 #[.val (.ref r0), .val (.long p1), .second, .val (.long p2), .second, .val (.long p3), .second, .val (.long p4), .second, .val (.long p5), .second] []))
  replace F_relayed_r0 := F_relayed_r0.other W6 (Or.inr (slot_ne (Or.inr (hw _ (List.mem_of_getElem? (i := 13) rfl))) (Or.inr (hw _ (List.mem_of_getElem? (i := 21) rfl))) (by decide) (t := .long) (t' := .long) (by decide) (by decide)))
  replace F_failed_r0 := F_failed_r0.other W6 (Or.inr (slot_ne (Or.inr (hw _ (List.mem_of_getElem? (i := 15) rfl))) (Or.inr (hw _ (List.mem_of_getElem? (i := 21) rfl))) (by decide) (t := .long) (t' := .long) (by decide) (by decide)))
  replace F_dead_r0 := F_dead_r0.other W6 (Or.inr (slot_ne (Or.inr (hw _ (List.mem_of_getElem? (i := 17) rfl))) (Or.inr (hw _ (List.mem_of_getElem? (i := 21) rfl))) (by decide) (t := .long) (t' := .long) (by decide) (by decide)))
  replace F_givenBack_r0 := F_givenBack_r0.other W6 (Or.inr (slot_ne (Or.inr (hw _ (List.mem_of_getElem? (i := 19) rfl))) (Or.inr (hw _ (List.mem_of_getElem? (i := 21) rfl))) (by decide) (t := .long) (t' := .long) (by decide) (by decide)))
  replace F_lost_r0 := F_lost_r0.same W6
  replace E_r0 := E_r0.wr W6
  replace ZZ : n0 ≤ h6.size := by rw [W6.size]; exact ZZ
  replace KK := KK.wr W6 (Or.inl (by simp))
  exact goV X6 hx Bd.notSynchronized Bd.returns (hb hby d1_32) (by rw [← hQQ, e6]; exact ⟨rfl, N0, KK, F_relayed_r0, F_failed_r0, F_dead_r0, F_givenBack_r0, F_lost_r0⟩) (by decide) (by decide)
theorem d3_0 : decode prog_11_method_7_code 0 = .ok (.new 8, 3) := by decide +kernel
theorem d3_3 : decode prog_11_method_7_code 3 = .ok (.dup, 1) := by decide +kernel
theorem d3_4 : decode prog_11_method_7_code 4 = .ok (.aload_n 0, 1) := by decide +kernel
theorem d3_5 : decode prog_11_method_7_code 5 = .ok (.getfield 7, 3) := by decide +kernel
theorem d3_8 : decode prog_11_method_7_code 8 = .ok (.aload_n 1, 1) := by decide +kernel
theorem d3_9 : decode prog_11_method_7_code 9 = .ok (.getfield 7, 3) := by decide +kernel
theorem d3_12 : decode prog_11_method_7_code 12 = .ok (.ladd, 1) := by decide +kernel
theorem d3_13 : decode prog_11_method_7_code 13 = .ok (.aload_n 0, 1) := by decide +kernel
theorem d3_14 : decode prog_11_method_7_code 14 = .ok (.getfield 13, 3) := by decide +kernel
theorem d3_17 : decode prog_11_method_7_code 17 = .ok (.aload_n 1, 1) := by decide +kernel
theorem d3_18 : decode prog_11_method_7_code 18 = .ok (.getfield 13, 3) := by decide +kernel
theorem d3_21 : decode prog_11_method_7_code 21 = .ok (.ladd, 1) := by decide +kernel
theorem d3_22 : decode prog_11_method_7_code 22 = .ok (.aload_n 0, 1) := by decide +kernel
theorem d3_23 : decode prog_11_method_7_code 23 = .ok (.getfield 16, 3) := by decide +kernel
theorem d3_26 : decode prog_11_method_7_code 26 = .ok (.aload_n 1, 1) := by decide +kernel
theorem d3_27 : decode prog_11_method_7_code 27 = .ok (.getfield 16, 3) := by decide +kernel
theorem d3_30 : decode prog_11_method_7_code 30 = .ok (.ladd, 1) := by decide +kernel
theorem d3_31 : decode prog_11_method_7_code 31 = .ok (.aload_n 0, 1) := by decide +kernel
theorem d3_32 : decode prog_11_method_7_code 32 = .ok (.getfield 19, 3) := by decide +kernel
theorem d3_35 : decode prog_11_method_7_code 35 = .ok (.aload_n 1, 1) := by decide +kernel
theorem d3_36 : decode prog_11_method_7_code 36 = .ok (.getfield 19, 3) := by decide +kernel
theorem d3_39 : decode prog_11_method_7_code 39 = .ok (.ladd, 1) := by decide +kernel
theorem d3_40 : decode prog_11_method_7_code 40 = .ok (.aload_n 0, 1) := by decide +kernel
theorem d3_41 : decode prog_11_method_7_code 41 = .ok (.getfield 22, 3) := by decide +kernel
theorem d3_44 : decode prog_11_method_7_code 44 = .ok (.aload_n 1, 1) := by decide +kernel
theorem d3_45 : decode prog_11_method_7_code 45 = .ok (.getfield 22, 3) := by decide +kernel
theorem d3_48 : decode prog_11_method_7_code 48 = .ok (.ladd, 1) := by decide +kernel
theorem d3_49 : decode prog_11_method_7_code 49 = .ok (.invokespecial 25, 3) := by decide +kernel
theorem d3_52 : decode prog_11_method_7_code 52 = .ok (.areturn, 1) := by decide +kernel
theorem pn_3 : plainName "com/example/outboxd/outboxd/relay/DrainSummary" = true := by first | (simp [plainName, overriddenIn]; done) | decide +kernel
def Qrm3 (Z : State) (r0 : Addr) (r1 : Addr) (u0 : Int64) (u1 : Int64) (u2 : Int64) (u3 : Int64) (u4 : Int64) (v0 : Int64) (v1 : Int64) (v2 : Int64) (v3 : Int64) (v4 : Int64) (h0 : Heap) (n0 : Nat) (v : Option Value) (h : Heap) (L : List Loc) : Prop := ∃ b : Addr, v = some (.ref b) ∧ Fr n0 L ∧ h0.size ≤ b ∧ Keep h0 h [] ∧ Exa Z h b "com/example/outboxd/outboxd/relay/DrainSummary" ∧ Fld Z h b "com/example/outboxd/outboxd/relay/DrainSummary" "relayed" "J" (.long (u0 + v0)) ∧ Fld Z h b "com/example/outboxd/outboxd/relay/DrainSummary" "failed" "J" (.long (u1 + v1)) ∧ Fld Z h b "com/example/outboxd/outboxd/relay/DrainSummary" "dead" "J" (.long (u2 + v2)) ∧ Fld Z h b "com/example/outboxd/outboxd/relay/DrainSummary" "givenBack" "J" (.long (u3 + v3)) ∧ Fld Z h b "com/example/outboxd/outboxd/relay/DrainSummary" "lost" "J" (.long (u4 + v4))
set_option maxRecDepth 65536 in
set_option maxHeartbeats 40000000 in
theorem rm3 (l : Launch) (Z : State) (a0 : Array Value) (hw : ∀ d ∈ tables_1, d.before a0 Z = true) (ws : List Jvm.Cond) (r0 : Addr) (r1 : Addr) (u0 : Int64) (u1 : Int64) (u2 : Int64) (u3 : Int64) (u4 : Int64) (v0 : Int64) (v1 : Int64) (v2 : Int64) (v3 : Int64) (v4 : Int64) (h0 : Heap) (n0 : Nat) (Z0 : n0 ≤ h0.size) (F_relayed_r0 : Fld Z h0 r0 "com/example/outboxd/outboxd/relay/DrainSummary" "relayed" "J" (.long u0)) (F_failed_r0 : Fld Z h0 r0 "com/example/outboxd/outboxd/relay/DrainSummary" "failed" "J" (.long u1)) (F_dead_r0 : Fld Z h0 r0 "com/example/outboxd/outboxd/relay/DrainSummary" "dead" "J" (.long u2)) (F_givenBack_r0 : Fld Z h0 r0 "com/example/outboxd/outboxd/relay/DrainSummary" "givenBack" "J" (.long u3)) (F_lost_r0 : Fld Z h0 r0 "com/example/outboxd/outboxd/relay/DrainSummary" "lost" "J" (.long u4)) (F_relayed_r1 : Fld Z h0 r1 "com/example/outboxd/outboxd/relay/DrainSummary" "relayed" "J" (.long v0)) (F_failed_r1 : Fld Z h0 r1 "com/example/outboxd/outboxd/relay/DrainSummary" "failed" "J" (.long v1)) (F_dead_r1 : Fld Z h0 r1 "com/example/outboxd/outboxd/relay/DrainSummary" "dead" "J" (.long v2)) (F_givenBack_r1 : Fld Z h0 r1 "com/example/outboxd/outboxd/relay/DrainSummary" "givenBack" "J" (.long v3)) (F_lost_r1 : Fld Z h0 r1 "com/example/outboxd/outboxd/relay/DrainSummary" "lost" "J" (.long v4)) :
    MetFree l (⟨"com/example/outboxd/outboxd/relay/DrainSummary", "plus", "(Lcom/example/outboxd/outboxd/relay/DrainSummary;)Lcom/example/outboxd/outboxd/relay/DrainSummary;"⟩ : MethodName) (head1 (Jvm.Cond.code (⟨"com/example/outboxd/outboxd/relay/DrainSummary", "plus", "(Lcom/example/outboxd/outboxd/relay/DrainSummary;)Lcom/example/outboxd/outboxd/relay/DrainSummary;"⟩ : MethodName) prog_11_method_7_code 2 (some (.object "com/example/outboxd/outboxd/relay/DrainSummary")) :: ws) ({ frames := 2, cells := 1, slots := 5, locals := 35 } : Room)) (fun a U => a = #[(.ref r0), (.ref r1)] ∧ Z.Warmed39 U.vm ∧ U.heap = h0) (fun _ _ _ _ _ => True) (fun _ U o U' => ∃ v L, o = .returned v ∧ Qrm3 Z r0 r1 u0 u1 u2 u3 u4 v0 v1 v2 v3 v4 h0 n0 v U'.heap L ∧ FrameEnd U o U' L ({ frames := 2, cells := 1, slots := 5, locals := 35 } : Room).cells ({ frames := 2, cells := 1, slots := 5, locals := 35 } : Room).slots) := by
  refine MetFree.of_bodySF (plainFor_of_name pn_3) hisR ?_
  intro p e s m args below meth c s₁ Bd hml0 hP hK
  obtain ⟨rfl, hZ, hh⟩ := hP
  have hx := Bd.exec
  have hby := Bd.bytes
  have hml : c.maxLocals = 2 := hml0
  have hown : s.vm.findClass "com/example/outboxd/outboxd/relay/DrainSummary" = some m.cls := findClass_of_methodNamed Bd.named
  have hnm := (name_of_methodNamed Bd.named Bd.method).1
  have X0 : Stand p l e ({ frames := 2, cells := 1, slots := 5, locals := 35 } : Room) s m #[(.ref r0), (.ref r1)] below meth c s₁ [] 0 0 := Stand.of_body Bd
  have e0 : s₁.heap = h0 := by rw [← hh, Bd.state]; rfl
  have N0 := Fr.nil n0
  have ZZ := Z0
  have KK : Keep h0 h0 [] := Keep.refl h0 _
  show Go p e below s (Qrm3 Z r0 r1 u0 u1 u2 u3 u4 v0 v1 v2 v3 v4 h0 n0) 1 5 (s₁.setTop (entryFrame m #[(.ref r0), (.ref r1)] 2))
  generalize hQQ : (Qrm3 Z r0 r1 u0 u1 u2 u3 u4 v0 v1 v2 v3 v4 h0 n0) = QQ
  refine gs (fun t k => castTop (g' := (mkF m 0 #[.val (.ref r0), .val (.ref r1)] [])) (by first | (simp [entryFrame, mkF, argsToLocals, Value.category, maxLocals]; done) | rfl) k) ?_
  show Go p e below s QQ 1 5 (s₁.setTop (mkF m 0 #[.val (.ref r0), .val (.ref r1)] []))
  obtain ⟨T7, h7, X7, e7, E7, A7, D7, -, st7⟩ := newO X0 hx hZ hown (hw _ (List.mem_of_getElem? (i := 27) rfl)) (hw _ (List.mem_of_getElem? (i := 4) rfl)) (hw _ (List.mem_of_getElem? (i := 5) rfl)) e0 (g := (mkF m 0 #[.val (.ref r0), .val (.ref r1)] [])) rfl (hb hby d3_0) (by decide) (by decide)
  obtain ⟨b7, g7⟩ : ∃ z, z = h0.size := ⟨_, rfl⟩
  rw [← g7] at A7 D7 st7
  have ge_b7 : n0 ≤ b7 := by rw [g7]; exact ZZ
  have sz_b7 : h0.size ≤ b7 := by rw [g7]; exact KK.1
  have ne_r0_b7 : r0 ≠ b7 := by rw [g7]; exact Nat.ne_of_lt F_relayed_r0.lt
  have ne_r1_b7 : r1 ≠ b7 := by rw [g7]; exact Nat.ne_of_lt F_relayed_r1.lt
  refine gs st7 ?_
  show Go p e below s QQ 1 5 (T7.setTop (mkF m 3 #[.val (.ref r0), .val (.ref r1)] [(.ref b7)]))
  replace F_relayed_r0 := F_relayed_r0.ext E7
  replace F_failed_r0 := F_failed_r0.ext E7
  replace F_dead_r0 := F_dead_r0.ext E7
  replace F_givenBack_r0 := F_givenBack_r0.ext E7
  replace F_lost_r0 := F_lost_r0.ext E7
  replace F_relayed_r1 := F_relayed_r1.ext E7
  replace F_failed_r1 := F_failed_r1.ext E7
  replace F_dead_r1 := F_dead_r1.ext E7
  replace F_givenBack_r1 := F_givenBack_r1.ext E7
  replace F_lost_r1 := F_lost_r1.ext E7
  replace ZZ := Nat.le_trans ZZ E7.1
  replace KK := KK.ext E7
  have Ex_b7 := A7
  have F_relayed_b7 : Fld Z h7 b7 "com/example/outboxd/outboxd/relay/DrainSummary" "relayed" "J" (.long (0 : Int64)) := D7 (Or.inr (hw _ (List.mem_of_getElem? (i := 13) rfl))) (ty := .long) (by decide)
  have F_failed_b7 : Fld Z h7 b7 "com/example/outboxd/outboxd/relay/DrainSummary" "failed" "J" (.long (0 : Int64)) := D7 (Or.inr (hw _ (List.mem_of_getElem? (i := 15) rfl))) (ty := .long) (by decide)
  have F_dead_b7 : Fld Z h7 b7 "com/example/outboxd/outboxd/relay/DrainSummary" "dead" "J" (.long (0 : Int64)) := D7 (Or.inr (hw _ (List.mem_of_getElem? (i := 17) rfl))) (ty := .long) (by decide)
  have F_givenBack_b7 : Fld Z h7 b7 "com/example/outboxd/outboxd/relay/DrainSummary" "givenBack" "J" (.long (0 : Int64)) := D7 (Or.inr (hw _ (List.mem_of_getElem? (i := 19) rfl))) (ty := .long) (by decide)
  have F_lost_b7 : Fld Z h7 b7 "com/example/outboxd/outboxd/relay/DrainSummary" "lost" "J" (.long (0 : Int64)) := D7 (Or.inr (hw _ (List.mem_of_getElem? (i := 21) rfl))) (ty := .long) (by decide)
  refine gs (fun t => XS.dup X7.here hx rfl (hb hby d3_3) rfl rfl) ?_
  show Go p e below s QQ 1 5 (T7.setTop (mkF m 4 #[.val (.ref r0), .val (.ref r1)] [(.ref b7), (.ref b7)]))
  refine gs (fun t => XS.aloadN X7.here hx rfl (hb hby d3_4) rfl rfl) ?_
  show Go p e below s QQ 1 5 (T7.setTop (mkF m 5 #[.val (.ref r0), .val (.ref r1)] [(.ref r0), (.ref b7), (.ref b7)]))
  obtain ⟨T8, X8, e8, st8⟩ := getF X7 hx hZ hown (host := "") (Or.inl (hw _ (List.mem_of_getElem? (i := 12) rfl))) Via.refl e7 F_relayed_r0 (g := (mkF m 5 #[.val (.ref r0), .val (.ref r1)] [(.ref r0), (.ref b7), (.ref b7)])) rfl rfl (hb hby d3_5)
  refine gs st8 ?_
  show Go p e below s QQ 1 5 (T8.setTop (mkF m 8 #[.val (.ref r0), .val (.ref r1)] [(.long u0), (.ref b7), (.ref b7)]))
  refine gs (fun t => XS.aloadN X8.here hx rfl (hb hby d3_8) rfl rfl) ?_
  show Go p e below s QQ 1 5 (T8.setTop (mkF m 9 #[.val (.ref r0), .val (.ref r1)] [(.ref r1), (.long u0), (.ref b7), (.ref b7)]))
  obtain ⟨T9, X9, e9, st9⟩ := getF X8 hx hZ hown (host := "") (Or.inl (hw _ (List.mem_of_getElem? (i := 12) rfl))) Via.refl e8 F_relayed_r1 (g := (mkF m 9 #[.val (.ref r0), .val (.ref r1)] [(.ref r1), (.long u0), (.ref b7), (.ref b7)])) rfl rfl (hb hby d3_9)
  refine gs st9 ?_
  show Go p e below s QQ 1 5 (T9.setTop (mkF m 12 #[.val (.ref r0), .val (.ref r1)] [(.long v0), (.long u0), (.ref b7), (.ref b7)]))
  refine gs (fun t => XS.ladd X9.here hx rfl (hb hby d3_12) rfl) ?_
  show Go p e below s QQ 1 5 (T9.setTop (mkF m 13 #[.val (.ref r0), .val (.ref r1)] [(.long (u0 + v0)), (.ref b7), (.ref b7)]))
  refine gs (fun t => XS.aloadN X9.here hx rfl (hb hby d3_13) rfl rfl) ?_
  show Go p e below s QQ 1 5 (T9.setTop (mkF m 14 #[.val (.ref r0), .val (.ref r1)] [(.ref r0), (.long (u0 + v0)), (.ref b7), (.ref b7)]))
  obtain ⟨T10, X10, e10, st10⟩ := getF X9 hx hZ hown (host := "") (Or.inl (hw _ (List.mem_of_getElem? (i := 14) rfl))) Via.refl e9 F_failed_r0 (g := (mkF m 14 #[.val (.ref r0), .val (.ref r1)] [(.ref r0), (.long (u0 + v0)), (.ref b7), (.ref b7)])) rfl rfl (hb hby d3_14)
  refine gs st10 ?_
  show Go p e below s QQ 1 5 (T10.setTop (mkF m 17 #[.val (.ref r0), .val (.ref r1)] [(.long u1), (.long (u0 + v0)), (.ref b7), (.ref b7)]))
  refine gs (fun t => XS.aloadN X10.here hx rfl (hb hby d3_17) rfl rfl) ?_
  show Go p e below s QQ 1 5 (T10.setTop (mkF m 18 #[.val (.ref r0), .val (.ref r1)] [(.ref r1), (.long u1), (.long (u0 + v0)), (.ref b7), (.ref b7)]))
  obtain ⟨T11, X11, e11, st11⟩ := getF X10 hx hZ hown (host := "") (Or.inl (hw _ (List.mem_of_getElem? (i := 14) rfl))) Via.refl e10 F_failed_r1 (g := (mkF m 18 #[.val (.ref r0), .val (.ref r1)] [(.ref r1), (.long u1), (.long (u0 + v0)), (.ref b7), (.ref b7)])) rfl rfl (hb hby d3_18)
  refine gs st11 ?_
  show Go p e below s QQ 1 5 (T11.setTop (mkF m 21 #[.val (.ref r0), .val (.ref r1)] [(.long v1), (.long u1), (.long (u0 + v0)), (.ref b7), (.ref b7)]))
  refine gs (fun t => XS.ladd X11.here hx rfl (hb hby d3_21) rfl) ?_
  show Go p e below s QQ 1 5 (T11.setTop (mkF m 22 #[.val (.ref r0), .val (.ref r1)] [(.long (u1 + v1)), (.long (u0 + v0)), (.ref b7), (.ref b7)]))
  refine gs (fun t => XS.aloadN X11.here hx rfl (hb hby d3_22) rfl rfl) ?_
  show Go p e below s QQ 1 5 (T11.setTop (mkF m 23 #[.val (.ref r0), .val (.ref r1)] [(.ref r0), (.long (u1 + v1)), (.long (u0 + v0)), (.ref b7), (.ref b7)]))
  obtain ⟨T12, X12, e12, st12⟩ := getF X11 hx hZ hown (host := "") (Or.inl (hw _ (List.mem_of_getElem? (i := 16) rfl))) Via.refl e11 F_dead_r0 (g := (mkF m 23 #[.val (.ref r0), .val (.ref r1)] [(.ref r0), (.long (u1 + v1)), (.long (u0 + v0)), (.ref b7), (.ref b7)])) rfl rfl (hb hby d3_23)
  refine gs st12 ?_
  show Go p e below s QQ 1 5 (T12.setTop (mkF m 26 #[.val (.ref r0), .val (.ref r1)] [(.long u2), (.long (u1 + v1)), (.long (u0 + v0)), (.ref b7), (.ref b7)]))
  refine gs (fun t => XS.aloadN X12.here hx rfl (hb hby d3_26) rfl rfl) ?_
  show Go p e below s QQ 1 5 (T12.setTop (mkF m 27 #[.val (.ref r0), .val (.ref r1)] [(.ref r1), (.long u2), (.long (u1 + v1)), (.long (u0 + v0)), (.ref b7), (.ref b7)]))
  obtain ⟨T13, X13, e13, st13⟩ := getF X12 hx hZ hown (host := "") (Or.inl (hw _ (List.mem_of_getElem? (i := 16) rfl))) Via.refl e12 F_dead_r1 (g := (mkF m 27 #[.val (.ref r0), .val (.ref r1)] [(.ref r1), (.long u2), (.long (u1 + v1)), (.long (u0 + v0)), (.ref b7), (.ref b7)])) rfl rfl (hb hby d3_27)
  refine gs st13 ?_
  show Go p e below s QQ 1 5 (T13.setTop (mkF m 30 #[.val (.ref r0), .val (.ref r1)] [(.long v2), (.long u2), (.long (u1 + v1)), (.long (u0 + v0)), (.ref b7), (.ref b7)]))
  refine gs (fun t => XS.ladd X13.here hx rfl (hb hby d3_30) rfl) ?_
  show Go p e below s QQ 1 5 (T13.setTop (mkF m 31 #[.val (.ref r0), .val (.ref r1)] [(.long (u2 + v2)), (.long (u1 + v1)), (.long (u0 + v0)), (.ref b7), (.ref b7)]))
  refine gs (fun t => XS.aloadN X13.here hx rfl (hb hby d3_31) rfl rfl) ?_
  show Go p e below s QQ 1 5 (T13.setTop (mkF m 32 #[.val (.ref r0), .val (.ref r1)] [(.ref r0), (.long (u2 + v2)), (.long (u1 + v1)), (.long (u0 + v0)), (.ref b7), (.ref b7)]))
  obtain ⟨T14, X14, e14, st14⟩ := getF X13 hx hZ hown (host := "") (Or.inl (hw _ (List.mem_of_getElem? (i := 18) rfl))) Via.refl e13 F_givenBack_r0 (g := (mkF m 32 #[.val (.ref r0), .val (.ref r1)] [(.ref r0), (.long (u2 + v2)), (.long (u1 + v1)), (.long (u0 + v0)), (.ref b7), (.ref b7)])) rfl rfl (hb hby d3_32)
  refine gs st14 ?_
  show Go p e below s QQ 1 5 (T14.setTop (mkF m 35 #[.val (.ref r0), .val (.ref r1)] [(.long u3), (.long (u2 + v2)), (.long (u1 + v1)), (.long (u0 + v0)), (.ref b7), (.ref b7)]))
  refine gs (fun t => XS.aloadN X14.here hx rfl (hb hby d3_35) rfl rfl) ?_
  show Go p e below s QQ 1 5 (T14.setTop (mkF m 36 #[.val (.ref r0), .val (.ref r1)] [(.ref r1), (.long u3), (.long (u2 + v2)), (.long (u1 + v1)), (.long (u0 + v0)), (.ref b7), (.ref b7)]))
  obtain ⟨T15, X15, e15, st15⟩ := getF X14 hx hZ hown (host := "") (Or.inl (hw _ (List.mem_of_getElem? (i := 18) rfl))) Via.refl e14 F_givenBack_r1 (g := (mkF m 36 #[.val (.ref r0), .val (.ref r1)] [(.ref r1), (.long u3), (.long (u2 + v2)), (.long (u1 + v1)), (.long (u0 + v0)), (.ref b7), (.ref b7)])) rfl rfl (hb hby d3_36)
  refine gs st15 ?_
  show Go p e below s QQ 1 5 (T15.setTop (mkF m 39 #[.val (.ref r0), .val (.ref r1)] [(.long v3), (.long u3), (.long (u2 + v2)), (.long (u1 + v1)), (.long (u0 + v0)), (.ref b7), (.ref b7)]))
  refine gs (fun t => XS.ladd X15.here hx rfl (hb hby d3_39) rfl) ?_
  show Go p e below s QQ 1 5 (T15.setTop (mkF m 40 #[.val (.ref r0), .val (.ref r1)] [(.long (u3 + v3)), (.long (u2 + v2)), (.long (u1 + v1)), (.long (u0 + v0)), (.ref b7), (.ref b7)]))
  refine gs (fun t => XS.aloadN X15.here hx rfl (hb hby d3_40) rfl rfl) ?_
  show Go p e below s QQ 1 5 (T15.setTop (mkF m 41 #[.val (.ref r0), .val (.ref r1)] [(.ref r0), (.long (u3 + v3)), (.long (u2 + v2)), (.long (u1 + v1)), (.long (u0 + v0)), (.ref b7), (.ref b7)]))
  obtain ⟨T16, X16, e16, st16⟩ := getF X15 hx hZ hown (host := "") (Or.inl (hw _ (List.mem_of_getElem? (i := 20) rfl))) Via.refl e15 F_lost_r0 (g := (mkF m 41 #[.val (.ref r0), .val (.ref r1)] [(.ref r0), (.long (u3 + v3)), (.long (u2 + v2)), (.long (u1 + v1)), (.long (u0 + v0)), (.ref b7), (.ref b7)])) rfl rfl (hb hby d3_41)
  refine gs st16 ?_
  show Go p e below s QQ 1 5 (T16.setTop (mkF m 44 #[.val (.ref r0), .val (.ref r1)] [(.long u4), (.long (u3 + v3)), (.long (u2 + v2)), (.long (u1 + v1)), (.long (u0 + v0)), (.ref b7), (.ref b7)]))
  refine gs (fun t => XS.aloadN X16.here hx rfl (hb hby d3_44) rfl rfl) ?_
  show Go p e below s QQ 1 5 (T16.setTop (mkF m 45 #[.val (.ref r0), .val (.ref r1)] [(.ref r1), (.long u4), (.long (u3 + v3)), (.long (u2 + v2)), (.long (u1 + v1)), (.long (u0 + v0)), (.ref b7), (.ref b7)]))
  obtain ⟨T17, X17, e17, st17⟩ := getF X16 hx hZ hown (host := "") (Or.inl (hw _ (List.mem_of_getElem? (i := 20) rfl))) Via.refl e16 F_lost_r1 (g := (mkF m 45 #[.val (.ref r0), .val (.ref r1)] [(.ref r1), (.long u4), (.long (u3 + v3)), (.long (u2 + v2)), (.long (u1 + v1)), (.long (u0 + v0)), (.ref b7), (.ref b7)])) rfl rfl (hb hby d3_45)
  refine gs st17 ?_
  show Go p e below s QQ 1 5 (T17.setTop (mkF m 48 #[.val (.ref r0), .val (.ref r1)] [(.long v4), (.long u4), (.long (u3 + v3)), (.long (u2 + v2)), (.long (u1 + v1)), (.long (u0 + v0)), (.ref b7), (.ref b7)]))
  refine gs (fun t => XS.ladd X17.here hx rfl (hb hby d3_48) rfl) ?_
  show Go p e below s QQ 1 5 (T17.setTop (mkF m 49 #[.val (.ref r0), .val (.ref r1)] [(.long (u4 + v4)), (.long (u3 + v3)), (.long (u2 + v2)), (.long (u1 + v1)), (.long (u0 + v0)), (.ref b7), (.ref b7)]))
  obtain ⟨_, _, ⟨T18, L18, k18, n18⟩, -, X18, ⟨Lc18, hQ18, l18, y18, z18⟩, st18⟩ := X17.specialBack hx (y := (⟨"com/example/outboxd/outboxd/relay/DrainSummary", "<init>", "(JJJJJ)V"⟩ : MethodName)) rfl hown (mvT hZ (hw _ (List.mem_of_getElem? (i := 28) rfl))) (mvT hZ (hw _ (List.mem_of_getElem? (i := 7) rfl))) (mvT hZ (hw _ (List.mem_of_getElem? (i := 8) rfl))) (by decide) (backOf (W := 1) (rm1 l Z a0 hw [] b7 (u0 + v0) (u1 + v1) (u2 + v2) (u3 + v3) (u4 + v4) h7 n0 ZZ F_relayed_b7 F_failed_b7 F_dead_b7 F_givenBack_b7 F_lost_b7 Ex_b7 ge_b7) hZ (hw _ (List.mem_of_getElem? (i := 8) rfl)) (hw _ (List.mem_of_getElem? (i := 5) rfl)) (by decide) (by decide)) (g := (mkF m 49 #[.val (.ref r0), .val (.ref r1)] [(.long (u4 + v4)), (.long (u3 + v3)), (.long (u2 + v2)), (.long (u1 + v1)), (.long (u0 + v0)), (.ref b7), (.ref b7)])) rfl (by rw [hml]; rfl) (Steps.refl _) (a := b7) (argsL := [(.long (u0 + v0)), (.long (u1 + v1)), (.long (u2 + v2)), (.long (u3 + v3)), (.long (u4 + v4))]) (rest := [(.ref b7)]) (lenOf pd_0 rfl) rfl (by show 2 * 0 + _ ≤ _; exact Nat.le_of_eq rfl) (hb hby d3_49) (fun _ _ => ⟨rfl, e17, (by decide : 1 + 0 ≤ _), (by decide : 5 + 0 ≤ _)⟩)
  dsimp only [Pt.U, Pt.locs, Pt.cells, Pt.slots] at X18 l18 y18 z18 st18 hQ18
  subst l18 y18 z18
  obtain ⟨rfl, N18q, K18, F0_18, F1_18, F2_18, F3_18, F4_18⟩ := hQ18
  replace N0 := Fr.app N0 N18q
  refine gt st18 ?_
  show Go p e below s QQ 1 5 (T18.setTop (mkF m 52 #[.val (.ref r0), .val (.ref r1)] [(.ref b7)]))
  replace F_relayed_r0 := F_relayed_r0.keep K18 (ninS ne_r0_b7 nin0)
  replace F_failed_r0 := F_failed_r0.keep K18 (ninS ne_r0_b7 nin0)
  replace F_dead_r0 := F_dead_r0.keep K18 (ninS ne_r0_b7 nin0)
  replace F_givenBack_r0 := F_givenBack_r0.keep K18 (ninS ne_r0_b7 nin0)
  replace F_lost_r0 := F_lost_r0.keep K18 (ninS ne_r0_b7 nin0)
  replace F_relayed_r1 := F_relayed_r1.keep K18 (ninS ne_r1_b7 nin0)
  replace F_failed_r1 := F_failed_r1.keep K18 (ninS ne_r1_b7 nin0)
  replace F_dead_r1 := F_dead_r1.keep K18 (ninS ne_r1_b7 nin0)
  replace F_givenBack_r1 := F_givenBack_r1.keep K18 (ninS ne_r1_b7 nin0)
  replace F_lost_r1 := F_lost_r1.keep K18 (ninS ne_r1_b7 nin0)
  replace Ex_b7 := Ex_b7.keep K18
  replace ZZ := Nat.le_trans ZZ K18.1
  replace KK := KK.trans K18 (allS (Or.inr sz_b7) all0)
  exact goR X18 hx Bd.notSynchronized Bd.returns rfl rfl (hb hby d3_52) (by rw [← hQQ]; exact ⟨b7, rfl, N0, sz_b7, KK, Ex_b7, F0_18, F1_18, F2_18, F3_18, F4_18⟩) (by decide) (by decide)
theorem d4_0 : decode prog_11_method_2_code 0 = .ok (.aload_n 0, 1) := by decide +kernel
theorem d4_1 : decode prog_11_method_2_code 1 = .ok (.getfield 7, 3) := by decide +kernel
theorem d4_4 : decode prog_11_method_2_code 4 = .ok (.lreturn, 1) := by decide +kernel
theorem pn_4 : plainName "com/example/outboxd/outboxd/relay/DrainSummary" = true := by first | (simp [plainName, overriddenIn]; done) | decide +kernel
def Qrm4 (Z : State) (r0 : Addr) (q : Int64) (h0 : Heap) (n0 : Nat) (v : Option Value) (h : Heap) (L : List Loc) : Prop := v = some (.long q) ∧ Fr n0 L ∧ h = h0
set_option maxRecDepth 65536 in
set_option maxHeartbeats 40000000 in
theorem rm4 (l : Launch) (Z : State) (a0 : Array Value) (hw : ∀ d ∈ tables_1, d.before a0 Z = true) (ws : List Jvm.Cond) (r0 : Addr) (q : Int64) (h0 : Heap) (n0 : Nat) (Z0 : n0 ≤ h0.size) (F_relayed_r0 : Fld Z h0 r0 "com/example/outboxd/outboxd/relay/DrainSummary" "relayed" "J" (.long q)) :
    MetFree l (⟨"com/example/outboxd/outboxd/relay/DrainSummary", "relayed", "()J"⟩ : MethodName) (head1 (Jvm.Cond.code (⟨"com/example/outboxd/outboxd/relay/DrainSummary", "relayed", "()J"⟩ : MethodName) prog_11_method_2_code 1 (some .long) :: ws) ({ frames := 0, cells := 0, slots := 0, locals := 0 } : Room)) (fun a U => a = #[(.ref r0)] ∧ Z.Warmed39 U.vm ∧ U.heap = h0) (fun _ _ _ _ _ => True) (fun _ U o U' => ∃ v L, o = .returned v ∧ Qrm4 Z r0 q h0 n0 v U'.heap L ∧ FrameEnd U o U' L ({ frames := 0, cells := 0, slots := 0, locals := 0 } : Room).cells ({ frames := 0, cells := 0, slots := 0, locals := 0 } : Room).slots) := by
  refine MetFree.of_bodySF (plainFor_of_name pn_4) hisR ?_
  intro p e s m args below meth c s₁ Bd hml0 hP hK
  obtain ⟨rfl, hZ, hh⟩ := hP
  have hx := Bd.exec
  have hby := Bd.bytes
  have hml : c.maxLocals = 1 := hml0
  have hown : s.vm.findClass "com/example/outboxd/outboxd/relay/DrainSummary" = some m.cls := findClass_of_methodNamed Bd.named
  have hnm := (name_of_methodNamed Bd.named Bd.method).1
  have X0 : Stand p l e ({ frames := 0, cells := 0, slots := 0, locals := 0 } : Room) s m #[(.ref r0)] below meth c s₁ [] 0 0 := Stand.of_body Bd
  have e0 : s₁.heap = h0 := by rw [← hh, Bd.state]; rfl
  have N0 := Fr.nil n0
  have ZZ := Z0
  show Go p e below s (Qrm4 Z r0 q h0 n0) 0 0 (s₁.setTop (entryFrame m #[(.ref r0)] 1))
  generalize hQQ : (Qrm4 Z r0 q h0 n0) = QQ
  refine gs (fun t k => castTop (g' := (mkF m 0 #[.val (.ref r0)] [])) (by first | (simp [entryFrame, mkF, argsToLocals, Value.category, maxLocals]; done) | rfl) k) ?_
  show Go p e below s QQ 0 0 (s₁.setTop (mkF m 0 #[.val (.ref r0)] []))
  refine gs (fun t => XS.aloadN X0.here hx rfl (hb hby d4_0) rfl rfl) ?_
  show Go p e below s QQ 0 0 (s₁.setTop (mkF m 1 #[.val (.ref r0)] [(.ref r0)]))
  obtain ⟨T19, X19, e19, st19⟩ := getF X0 hx hZ hown (host := "") (Or.inl (hw _ (List.mem_of_getElem? (i := 12) rfl))) Via.refl e0 F_relayed_r0 (g := (mkF m 1 #[.val (.ref r0)] [(.ref r0)])) rfl rfl (hb hby d4_1)
  refine gs st19 ?_
  show Go p e below s QQ 0 0 (T19.setTop (mkF m 4 #[.val (.ref r0)] [(.long q)]))
  exact goJ X19 hx Bd.notSynchronized Bd.returns (hb hby d4_4) (by rw [← hQQ, e19]; exact ⟨rfl, N0, rfl⟩) (by decide) (by decide)
theorem d5_0 : decode prog_11_method_3_code 0 = .ok (.aload_n 0, 1) := by decide +kernel
theorem d5_1 : decode prog_11_method_3_code 1 = .ok (.getfield 13, 3) := by decide +kernel
theorem d5_4 : decode prog_11_method_3_code 4 = .ok (.lreturn, 1) := by decide +kernel
theorem pn_5 : plainName "com/example/outboxd/outboxd/relay/DrainSummary" = true := by first | (simp [plainName, overriddenIn]; done) | decide +kernel
def Qrm5 (Z : State) (r0 : Addr) (q : Int64) (h0 : Heap) (n0 : Nat) (v : Option Value) (h : Heap) (L : List Loc) : Prop := v = some (.long q) ∧ Fr n0 L ∧ h = h0
set_option maxRecDepth 65536 in
set_option maxHeartbeats 40000000 in
theorem rm5 (l : Launch) (Z : State) (a0 : Array Value) (hw : ∀ d ∈ tables_1, d.before a0 Z = true) (ws : List Jvm.Cond) (r0 : Addr) (q : Int64) (h0 : Heap) (n0 : Nat) (Z0 : n0 ≤ h0.size) (F_failed_r0 : Fld Z h0 r0 "com/example/outboxd/outboxd/relay/DrainSummary" "failed" "J" (.long q)) :
    MetFree l (⟨"com/example/outboxd/outboxd/relay/DrainSummary", "failed", "()J"⟩ : MethodName) (head1 (Jvm.Cond.code (⟨"com/example/outboxd/outboxd/relay/DrainSummary", "failed", "()J"⟩ : MethodName) prog_11_method_3_code 1 (some .long) :: ws) ({ frames := 0, cells := 0, slots := 0, locals := 0 } : Room)) (fun a U => a = #[(.ref r0)] ∧ Z.Warmed39 U.vm ∧ U.heap = h0) (fun _ _ _ _ _ => True) (fun _ U o U' => ∃ v L, o = .returned v ∧ Qrm5 Z r0 q h0 n0 v U'.heap L ∧ FrameEnd U o U' L ({ frames := 0, cells := 0, slots := 0, locals := 0 } : Room).cells ({ frames := 0, cells := 0, slots := 0, locals := 0 } : Room).slots) := by
  refine MetFree.of_bodySF (plainFor_of_name pn_5) hisR ?_
  intro p e s m args below meth c s₁ Bd hml0 hP hK
  obtain ⟨rfl, hZ, hh⟩ := hP
  have hx := Bd.exec
  have hby := Bd.bytes
  have hml : c.maxLocals = 1 := hml0
  have hown : s.vm.findClass "com/example/outboxd/outboxd/relay/DrainSummary" = some m.cls := findClass_of_methodNamed Bd.named
  have hnm := (name_of_methodNamed Bd.named Bd.method).1
  have X0 : Stand p l e ({ frames := 0, cells := 0, slots := 0, locals := 0 } : Room) s m #[(.ref r0)] below meth c s₁ [] 0 0 := Stand.of_body Bd
  have e0 : s₁.heap = h0 := by rw [← hh, Bd.state]; rfl
  have N0 := Fr.nil n0
  have ZZ := Z0
  show Go p e below s (Qrm5 Z r0 q h0 n0) 0 0 (s₁.setTop (entryFrame m #[(.ref r0)] 1))
  generalize hQQ : (Qrm5 Z r0 q h0 n0) = QQ
  refine gs (fun t k => castTop (g' := (mkF m 0 #[.val (.ref r0)] [])) (by first | (simp [entryFrame, mkF, argsToLocals, Value.category, maxLocals]; done) | rfl) k) ?_
  show Go p e below s QQ 0 0 (s₁.setTop (mkF m 0 #[.val (.ref r0)] []))
  refine gs (fun t => XS.aloadN X0.here hx rfl (hb hby d5_0) rfl rfl) ?_
  show Go p e below s QQ 0 0 (s₁.setTop (mkF m 1 #[.val (.ref r0)] [(.ref r0)]))
  obtain ⟨T20, X20, e20, st20⟩ := getF X0 hx hZ hown (host := "") (Or.inl (hw _ (List.mem_of_getElem? (i := 14) rfl))) Via.refl e0 F_failed_r0 (g := (mkF m 1 #[.val (.ref r0)] [(.ref r0)])) rfl rfl (hb hby d5_1)
  refine gs st20 ?_
  show Go p e below s QQ 0 0 (T20.setTop (mkF m 4 #[.val (.ref r0)] [(.long q)]))
  exact goJ X20 hx Bd.notSynchronized Bd.returns (hb hby d5_4) (by rw [← hQQ, e20]; exact ⟨rfl, N0, rfl⟩) (by decide) (by decide)
theorem d6_0 : decode prog_11_method_4_code 0 = .ok (.aload_n 0, 1) := by decide +kernel
theorem d6_1 : decode prog_11_method_4_code 1 = .ok (.getfield 16, 3) := by decide +kernel
theorem d6_4 : decode prog_11_method_4_code 4 = .ok (.lreturn, 1) := by decide +kernel
theorem pn_6 : plainName "com/example/outboxd/outboxd/relay/DrainSummary" = true := by first | (simp [plainName, overriddenIn]; done) | decide +kernel
def Qrm6 (Z : State) (r0 : Addr) (q : Int64) (h0 : Heap) (n0 : Nat) (v : Option Value) (h : Heap) (L : List Loc) : Prop := v = some (.long q) ∧ Fr n0 L ∧ h = h0
set_option maxRecDepth 65536 in
set_option maxHeartbeats 40000000 in
theorem rm6 (l : Launch) (Z : State) (a0 : Array Value) (hw : ∀ d ∈ tables_1, d.before a0 Z = true) (ws : List Jvm.Cond) (r0 : Addr) (q : Int64) (h0 : Heap) (n0 : Nat) (Z0 : n0 ≤ h0.size) (F_dead_r0 : Fld Z h0 r0 "com/example/outboxd/outboxd/relay/DrainSummary" "dead" "J" (.long q)) :
    MetFree l (⟨"com/example/outboxd/outboxd/relay/DrainSummary", "dead", "()J"⟩ : MethodName) (head1 (Jvm.Cond.code (⟨"com/example/outboxd/outboxd/relay/DrainSummary", "dead", "()J"⟩ : MethodName) prog_11_method_4_code 1 (some .long) :: ws) ({ frames := 0, cells := 0, slots := 0, locals := 0 } : Room)) (fun a U => a = #[(.ref r0)] ∧ Z.Warmed39 U.vm ∧ U.heap = h0) (fun _ _ _ _ _ => True) (fun _ U o U' => ∃ v L, o = .returned v ∧ Qrm6 Z r0 q h0 n0 v U'.heap L ∧ FrameEnd U o U' L ({ frames := 0, cells := 0, slots := 0, locals := 0 } : Room).cells ({ frames := 0, cells := 0, slots := 0, locals := 0 } : Room).slots) := by
  refine MetFree.of_bodySF (plainFor_of_name pn_6) hisR ?_
  intro p e s m args below meth c s₁ Bd hml0 hP hK
  obtain ⟨rfl, hZ, hh⟩ := hP
  have hx := Bd.exec
  have hby := Bd.bytes
  have hml : c.maxLocals = 1 := hml0
  have hown : s.vm.findClass "com/example/outboxd/outboxd/relay/DrainSummary" = some m.cls := findClass_of_methodNamed Bd.named
  have hnm := (name_of_methodNamed Bd.named Bd.method).1
  have X0 : Stand p l e ({ frames := 0, cells := 0, slots := 0, locals := 0 } : Room) s m #[(.ref r0)] below meth c s₁ [] 0 0 := Stand.of_body Bd
  have e0 : s₁.heap = h0 := by rw [← hh, Bd.state]; rfl
  have N0 := Fr.nil n0
  have ZZ := Z0
  show Go p e below s (Qrm6 Z r0 q h0 n0) 0 0 (s₁.setTop (entryFrame m #[(.ref r0)] 1))
  generalize hQQ : (Qrm6 Z r0 q h0 n0) = QQ
  refine gs (fun t k => castTop (g' := (mkF m 0 #[.val (.ref r0)] [])) (by first | (simp [entryFrame, mkF, argsToLocals, Value.category, maxLocals]; done) | rfl) k) ?_
  show Go p e below s QQ 0 0 (s₁.setTop (mkF m 0 #[.val (.ref r0)] []))
  refine gs (fun t => XS.aloadN X0.here hx rfl (hb hby d6_0) rfl rfl) ?_
  show Go p e below s QQ 0 0 (s₁.setTop (mkF m 1 #[.val (.ref r0)] [(.ref r0)]))
  obtain ⟨T21, X21, e21, st21⟩ := getF X0 hx hZ hown (host := "") (Or.inl (hw _ (List.mem_of_getElem? (i := 16) rfl))) Via.refl e0 F_dead_r0 (g := (mkF m 1 #[.val (.ref r0)] [(.ref r0)])) rfl rfl (hb hby d6_1)
  refine gs st21 ?_
  show Go p e below s QQ 0 0 (T21.setTop (mkF m 4 #[.val (.ref r0)] [(.long q)]))
  exact goJ X21 hx Bd.notSynchronized Bd.returns (hb hby d6_4) (by rw [← hQQ, e21]; exact ⟨rfl, N0, rfl⟩) (by decide) (by decide)
theorem d7_0 : decode prog_11_method_5_code 0 = .ok (.aload_n 0, 1) := by decide +kernel
theorem d7_1 : decode prog_11_method_5_code 1 = .ok (.getfield 19, 3) := by decide +kernel
theorem d7_4 : decode prog_11_method_5_code 4 = .ok (.lreturn, 1) := by decide +kernel
theorem pn_7 : plainName "com/example/outboxd/outboxd/relay/DrainSummary" = true := by first | (simp [plainName, overriddenIn]; done) | decide +kernel
def Qrm7 (Z : State) (r0 : Addr) (q : Int64) (h0 : Heap) (n0 : Nat) (v : Option Value) (h : Heap) (L : List Loc) : Prop := v = some (.long q) ∧ Fr n0 L ∧ h = h0
set_option maxRecDepth 65536 in
set_option maxHeartbeats 40000000 in
theorem rm7 (l : Launch) (Z : State) (a0 : Array Value) (hw : ∀ d ∈ tables_1, d.before a0 Z = true) (ws : List Jvm.Cond) (r0 : Addr) (q : Int64) (h0 : Heap) (n0 : Nat) (Z0 : n0 ≤ h0.size) (F_givenBack_r0 : Fld Z h0 r0 "com/example/outboxd/outboxd/relay/DrainSummary" "givenBack" "J" (.long q)) :
    MetFree l (⟨"com/example/outboxd/outboxd/relay/DrainSummary", "givenBack", "()J"⟩ : MethodName) (head1 (Jvm.Cond.code (⟨"com/example/outboxd/outboxd/relay/DrainSummary", "givenBack", "()J"⟩ : MethodName) prog_11_method_5_code 1 (some .long) :: ws) ({ frames := 0, cells := 0, slots := 0, locals := 0 } : Room)) (fun a U => a = #[(.ref r0)] ∧ Z.Warmed39 U.vm ∧ U.heap = h0) (fun _ _ _ _ _ => True) (fun _ U o U' => ∃ v L, o = .returned v ∧ Qrm7 Z r0 q h0 n0 v U'.heap L ∧ FrameEnd U o U' L ({ frames := 0, cells := 0, slots := 0, locals := 0 } : Room).cells ({ frames := 0, cells := 0, slots := 0, locals := 0 } : Room).slots) := by
  refine MetFree.of_bodySF (plainFor_of_name pn_7) hisR ?_
  intro p e s m args below meth c s₁ Bd hml0 hP hK
  obtain ⟨rfl, hZ, hh⟩ := hP
  have hx := Bd.exec
  have hby := Bd.bytes
  have hml : c.maxLocals = 1 := hml0
  have hown : s.vm.findClass "com/example/outboxd/outboxd/relay/DrainSummary" = some m.cls := findClass_of_methodNamed Bd.named
  have hnm := (name_of_methodNamed Bd.named Bd.method).1
  have X0 : Stand p l e ({ frames := 0, cells := 0, slots := 0, locals := 0 } : Room) s m #[(.ref r0)] below meth c s₁ [] 0 0 := Stand.of_body Bd
  have e0 : s₁.heap = h0 := by rw [← hh, Bd.state]; rfl
  have N0 := Fr.nil n0
  have ZZ := Z0
  show Go p e below s (Qrm7 Z r0 q h0 n0) 0 0 (s₁.setTop (entryFrame m #[(.ref r0)] 1))
  generalize hQQ : (Qrm7 Z r0 q h0 n0) = QQ
  refine gs (fun t k => castTop (g' := (mkF m 0 #[.val (.ref r0)] [])) (by first | (simp [entryFrame, mkF, argsToLocals, Value.category, maxLocals]; done) | rfl) k) ?_
  show Go p e below s QQ 0 0 (s₁.setTop (mkF m 0 #[.val (.ref r0)] []))
  refine gs (fun t => XS.aloadN X0.here hx rfl (hb hby d7_0) rfl rfl) ?_
  show Go p e below s QQ 0 0 (s₁.setTop (mkF m 1 #[.val (.ref r0)] [(.ref r0)]))
  obtain ⟨T22, X22, e22, st22⟩ := getF X0 hx hZ hown (host := "") (Or.inl (hw _ (List.mem_of_getElem? (i := 18) rfl))) Via.refl e0 F_givenBack_r0 (g := (mkF m 1 #[.val (.ref r0)] [(.ref r0)])) rfl rfl (hb hby d7_1)
  refine gs st22 ?_
  show Go p e below s QQ 0 0 (T22.setTop (mkF m 4 #[.val (.ref r0)] [(.long q)]))
  exact goJ X22 hx Bd.notSynchronized Bd.returns (hb hby d7_4) (by rw [← hQQ, e22]; exact ⟨rfl, N0, rfl⟩) (by decide) (by decide)
theorem d8_0 : decode prog_11_method_6_code 0 = .ok (.aload_n 0, 1) := by decide +kernel
theorem d8_1 : decode prog_11_method_6_code 1 = .ok (.getfield 22, 3) := by decide +kernel
theorem d8_4 : decode prog_11_method_6_code 4 = .ok (.lreturn, 1) := by decide +kernel
theorem pn_8 : plainName "com/example/outboxd/outboxd/relay/DrainSummary" = true := by first | (simp [plainName, overriddenIn]; done) | decide +kernel
def Qrm8 (Z : State) (r0 : Addr) (q : Int64) (h0 : Heap) (n0 : Nat) (v : Option Value) (h : Heap) (L : List Loc) : Prop := v = some (.long q) ∧ Fr n0 L ∧ h = h0
set_option maxRecDepth 65536 in
set_option maxHeartbeats 40000000 in
theorem rm8 (l : Launch) (Z : State) (a0 : Array Value) (hw : ∀ d ∈ tables_1, d.before a0 Z = true) (ws : List Jvm.Cond) (r0 : Addr) (q : Int64) (h0 : Heap) (n0 : Nat) (Z0 : n0 ≤ h0.size) (F_lost_r0 : Fld Z h0 r0 "com/example/outboxd/outboxd/relay/DrainSummary" "lost" "J" (.long q)) :
    MetFree l (⟨"com/example/outboxd/outboxd/relay/DrainSummary", "lost", "()J"⟩ : MethodName) (head1 (Jvm.Cond.code (⟨"com/example/outboxd/outboxd/relay/DrainSummary", "lost", "()J"⟩ : MethodName) prog_11_method_6_code 1 (some .long) :: ws) ({ frames := 0, cells := 0, slots := 0, locals := 0 } : Room)) (fun a U => a = #[(.ref r0)] ∧ Z.Warmed39 U.vm ∧ U.heap = h0) (fun _ _ _ _ _ => True) (fun _ U o U' => ∃ v L, o = .returned v ∧ Qrm8 Z r0 q h0 n0 v U'.heap L ∧ FrameEnd U o U' L ({ frames := 0, cells := 0, slots := 0, locals := 0 } : Room).cells ({ frames := 0, cells := 0, slots := 0, locals := 0 } : Room).slots) := by
  refine MetFree.of_bodySF (plainFor_of_name pn_8) hisR ?_
  intro p e s m args below meth c s₁ Bd hml0 hP hK
  obtain ⟨rfl, hZ, hh⟩ := hP
  have hx := Bd.exec
  have hby := Bd.bytes
  have hml : c.maxLocals = 1 := hml0
  have hown : s.vm.findClass "com/example/outboxd/outboxd/relay/DrainSummary" = some m.cls := findClass_of_methodNamed Bd.named
  have hnm := (name_of_methodNamed Bd.named Bd.method).1
  have X0 : Stand p l e ({ frames := 0, cells := 0, slots := 0, locals := 0 } : Room) s m #[(.ref r0)] below meth c s₁ [] 0 0 := Stand.of_body Bd
  have e0 : s₁.heap = h0 := by rw [← hh, Bd.state]; rfl
  have N0 := Fr.nil n0
  have ZZ := Z0
  show Go p e below s (Qrm8 Z r0 q h0 n0) 0 0 (s₁.setTop (entryFrame m #[(.ref r0)] 1))
  generalize hQQ : (Qrm8 Z r0 q h0 n0) = QQ
  refine gs (fun t k => castTop (g' := (mkF m 0 #[.val (.ref r0)] [])) (by first | (simp [entryFrame, mkF, argsToLocals, Value.category, maxLocals]; done) | rfl) k) ?_
  show Go p e below s QQ 0 0 (s₁.setTop (mkF m 0 #[.val (.ref r0)] []))
  refine gs (fun t => XS.aloadN X0.here hx rfl (hb hby d8_0) rfl rfl) ?_
  show Go p e below s QQ 0 0 (s₁.setTop (mkF m 1 #[.val (.ref r0)] [(.ref r0)]))
  obtain ⟨T23, X23, e23, st23⟩ := getF X0 hx hZ hown (host := "") (Or.inl (hw _ (List.mem_of_getElem? (i := 20) rfl))) Via.refl e0 F_lost_r0 (g := (mkF m 1 #[.val (.ref r0)] [(.ref r0)])) rfl rfl (hb hby d8_1)
  refine gs st23 ?_
  show Go p e below s QQ 0 0 (T23.setTop (mkF m 4 #[.val (.ref r0)] [(.long q)]))
  exact goJ X23 hx Bd.notSynchronized Bd.returns (hb hby d8_4) (by rw [← hQQ, e23]; exact ⟨rfl, N0, rfl⟩) (by decide) (by decide)
theorem pn_0 : plainName "com/example/outboxd/outboxd/relay/DrainSummaryPlusPinLaw" = true := by first | (simp [plainName, overriddenIn]; done) | decide +kernel
def Qrm0 (Z : State) (p0 : Int64) (p1 : Int64) (p2 : Int64) (p3 : Int64) (p4 : Int64) (p5 : Int64) (h0 : Heap) (n0 : Nat) (v : Option Value) (h : Heap) (L : List Loc) : Prop := v = some (.int 1) ∧ Fr n0 L
set_option maxRecDepth 65536 in
set_option maxHeartbeats 40000000 in
theorem rm0 (l : Launch) (Z : State) (a0 : Array Value) (hw : ∀ d ∈ tables_1, d.before a0 Z = true) (ws : List Jvm.Cond) (p0 : Int64) (p1 : Int64) (p2 : Int64) (p3 : Int64) (p4 : Int64) (p5 : Int64) (h0 : Heap) (n0 : Nat) (Z0 : n0 ≤ h0.size) :
    MetFree l x (head1 (Jvm.Cond.code x code maxLocals ret :: ws) room_1) (fun a U => a = #[(.long p0), (.long p1), (.long p2), (.long p3), (.long p4), (.long p5)] ∧ Z.Warmed39 U.vm ∧ U.heap = h0) (fun _ _ _ _ _ => True) (fun _ U o U' => ∃ v L, o = .returned v ∧ Qrm0 Z p0 p1 p2 p3 p4 p5 h0 n0 v U'.heap L ∧ FrameEnd U o U' L room_1.cells room_1.slots) := by
  refine MetFree.of_bodySF (plainFor_of_name pn_0) hisR ?_
  intro p e s m args below meth c s₁ Bd hml0 hP hK
  obtain ⟨rfl, hZ, hh⟩ := hP
  have hx := Bd.exec
  have hby := Bd.bytes
  have hml : c.maxLocals = 25 := hml0
  have hown : s.vm.findClass "com/example/outboxd/outboxd/relay/DrainSummaryPlusPinLaw" = some m.cls := findClass_of_methodNamed Bd.named
  have hnm := (name_of_methodNamed Bd.named Bd.method).1
  have X0 : Stand p l e room_1 s m #[(.long p0), (.long p1), (.long p2), (.long p3), (.long p4), (.long p5)] below meth c s₁ [] 0 0 := Stand.of_body Bd
  have e0 : s₁.heap = h0 := by rw [← hh, Bd.state]; rfl
  have N0 := Fr.nil n0
  have ZZ := Z0
  show Go p e below s (Qrm0 Z p0 p1 p2 p3 p4 p5 h0 n0) room_1.cells room_1.slots (s₁.setTop (entryFrame m #[(.long p0), (.long p1), (.long p2), (.long p3), (.long p4), (.long p5)] maxLocals))
  generalize hQQ : (Qrm0 Z p0 p1 p2 p3 p4 p5 h0 n0) = QQ
  refine gs (fun t k => castTop (g' := (mkF m 0 #[.val (.long p0), .second, .val (.long p1), .second, .val (.long p2), .second, .val (.long p3), .second, .val (.long p4), .second, .val (.long p5), .second, .unset, .unset, .unset, .unset, .unset, .unset, .unset, .unset, .unset, .unset, .unset, .unset, .unset] [])) (by first | (simp [entryFrame, mkF, argsToLocals, Value.category, maxLocals]; done) | rfl) k) ?_
  show Go p e below s QQ room_1.cells room_1.slots (s₁.setTop (mkF m 0 #[.val (.long p0), .second, .val (.long p1), .second, .val (.long p2), .second, .val (.long p3), .second, .val (.long p4), .second, .val (.long p5), .second, .unset, .unset, .unset, .unset, .unset, .unset, .unset, .unset, .unset, .unset, .unset, .unset, .unset] []))
  refine gs (fun t => XS.lload X0.here hx rfl (hb hby at_0) rfl) ?_
  show Go p e below s QQ room_1.cells room_1.slots (s₁.setTop (mkF m 2 #[.val (.long p0), .second, .val (.long p1), .second, .val (.long p2), .second, .val (.long p3), .second, .val (.long p4), .second, .val (.long p5), .second, .unset, .unset, .unset, .unset, .unset, .unset, .unset, .unset, .unset, .unset, .unset, .unset, .unset] [(.long p5)]))
  refine gs (fun t => XS.lstore X0.here hx rfl (hb hby at_2) rfl (l' := #[.val (.long p0), .second, .val (.long p1), .second, .val (.long p2), .second, .val (.long p3), .second, .val (.long p4), .second, .val (.long p5), .second, .val (.long p5), .second, .unset, .unset, .unset, .unset, .unset, .unset, .unset, .unset, .unset, .unset, .unset]) rfl) ?_
  show Go p e below s QQ room_1.cells room_1.slots (s₁.setTop (mkF m 4 #[.val (.long p0), .second, .val (.long p1), .second, .val (.long p2), .second, .val (.long p3), .second, .val (.long p4), .second, .val (.long p5), .second, .val (.long p5), .second, .unset, .unset, .unset, .unset, .unset, .unset, .unset, .unset, .unset, .unset, .unset] []))
  refine gs (fun t => XS.lload X0.here hx rfl (hb hby at_4) rfl) ?_
  show Go p e below s QQ room_1.cells room_1.slots (s₁.setTop (mkF m 6 #[.val (.long p0), .second, .val (.long p1), .second, .val (.long p2), .second, .val (.long p3), .second, .val (.long p4), .second, .val (.long p5), .second, .val (.long p5), .second, .unset, .unset, .unset, .unset, .unset, .unset, .unset, .unset, .unset, .unset, .unset] [(.long p5)]))
  refine gs (fun t => XS.lconst X0.here hx rfl (hb hby at_6)) ?_
  show Go p e below s QQ room_1.cells room_1.slots (s₁.setTop (mkF m 7 #[.val (.long p0), .second, .val (.long p1), .second, .val (.long p2), .second, .val (.long p3), .second, .val (.long p4), .second, .val (.long p5), .second, .val (.long p5), .second, .unset, .unset, .unset, .unset, .unset, .unset, .unset, .unset, .unset, .unset, .unset] [(.long (1 : Int64)), (.long p5)]))
  refine gs (fun t => XS.lxor X0.here hx rfl (hb hby at_7) rfl) ?_
  show Go p e below s QQ room_1.cells room_1.slots (s₁.setTop (mkF m 8 #[.val (.long p0), .second, .val (.long p1), .second, .val (.long p2), .second, .val (.long p3), .second, .val (.long p4), .second, .val (.long p5), .second, .val (.long p5), .second, .unset, .unset, .unset, .unset, .unset, .unset, .unset, .unset, .unset, .unset, .unset] [(.long (p5 ^^^ (1 : Int64)))]))
  refine gs (fun t => XS.lstore X0.here hx rfl (hb hby at_8) rfl (l' := #[.val (.long p0), .second, .val (.long p1), .second, .val (.long p2), .second, .val (.long p3), .second, .val (.long p4), .second, .val (.long p5), .second, .val (.long p5), .second, .val (.long (p5 ^^^ (1 : Int64))), .second, .unset, .unset, .unset, .unset, .unset, .unset, .unset, .unset, .unset]) rfl) ?_
  show Go p e below s QQ room_1.cells room_1.slots (s₁.setTop (mkF m 10 #[.val (.long p0), .second, .val (.long p1), .second, .val (.long p2), .second, .val (.long p3), .second, .val (.long p4), .second, .val (.long p5), .second, .val (.long p5), .second, .val (.long (p5 ^^^ (1 : Int64))), .second, .unset, .unset, .unset, .unset, .unset, .unset, .unset, .unset, .unset] []))
  refine gs (fun t => XS.lload X0.here hx rfl (hb hby at_10) rfl) ?_
  show Go p e below s QQ room_1.cells room_1.slots (s₁.setTop (mkF m 12 #[.val (.long p0), .second, .val (.long p1), .second, .val (.long p2), .second, .val (.long p3), .second, .val (.long p4), .second, .val (.long p5), .second, .val (.long p5), .second, .val (.long (p5 ^^^ (1 : Int64))), .second, .unset, .unset, .unset, .unset, .unset, .unset, .unset, .unset, .unset] [(.long p5)]))
  refine gs (fun t => X0.ldc2Long hx hown (mvT hZ (hw _ (List.mem_of_getElem? (i := 0) rfl))) (g := (mkF m 12 #[.val (.long p0), .second, .val (.long p1), .second, .val (.long p2), .second, .val (.long p3), .second, .val (.long p4), .second, .val (.long p5), .second, .val (.long p5), .second, .val (.long (p5 ^^^ (1 : Int64))), .second, .unset, .unset, .unset, .unset, .unset, .unset, .unset, .unset, .unset] [(.long p5)])) rfl (hb hby at_12) t) ?_
  show Go p e below s QQ room_1.cells room_1.slots (s₁.setTop (mkF m 15 #[.val (.long p0), .second, .val (.long p1), .second, .val (.long p2), .second, .val (.long p3), .second, .val (.long p4), .second, .val (.long p5), .second, .val (.long p5), .second, .val (.long (p5 ^^^ (1 : Int64))), .second, .unset, .unset, .unset, .unset, .unset, .unset, .unset, .unset, .unset] [(.long (2 : Int64)), (.long p5)]))
  refine gs (fun t => XS.lxor X0.here hx rfl (hb hby at_15) rfl) ?_
  show Go p e below s QQ room_1.cells room_1.slots (s₁.setTop (mkF m 16 #[.val (.long p0), .second, .val (.long p1), .second, .val (.long p2), .second, .val (.long p3), .second, .val (.long p4), .second, .val (.long p5), .second, .val (.long p5), .second, .val (.long (p5 ^^^ (1 : Int64))), .second, .unset, .unset, .unset, .unset, .unset, .unset, .unset, .unset, .unset] [(.long (p5 ^^^ (2 : Int64)))]))
  refine gs (fun t => XS.lstore X0.here hx rfl (hb hby at_16) rfl (l' := #[.val (.long p0), .second, .val (.long p1), .second, .val (.long p2), .second, .val (.long p3), .second, .val (.long p4), .second, .val (.long p5), .second, .val (.long p5), .second, .val (.long (p5 ^^^ (1 : Int64))), .second, .val (.long (p5 ^^^ (2 : Int64))), .second, .unset, .unset, .unset, .unset, .unset, .unset, .unset]) rfl) ?_
  show Go p e below s QQ room_1.cells room_1.slots (s₁.setTop (mkF m 18 #[.val (.long p0), .second, .val (.long p1), .second, .val (.long p2), .second, .val (.long p3), .second, .val (.long p4), .second, .val (.long p5), .second, .val (.long p5), .second, .val (.long (p5 ^^^ (1 : Int64))), .second, .val (.long (p5 ^^^ (2 : Int64))), .second, .unset, .unset, .unset, .unset, .unset, .unset, .unset] []))
  refine gs (fun t => XS.lload X0.here hx rfl (hb hby at_18) rfl) ?_
  show Go p e below s QQ room_1.cells room_1.slots (s₁.setTop (mkF m 20 #[.val (.long p0), .second, .val (.long p1), .second, .val (.long p2), .second, .val (.long p3), .second, .val (.long p4), .second, .val (.long p5), .second, .val (.long p5), .second, .val (.long (p5 ^^^ (1 : Int64))), .second, .val (.long (p5 ^^^ (2 : Int64))), .second, .unset, .unset, .unset, .unset, .unset, .unset, .unset] [(.long p5)]))
  refine gs (fun t => X0.ldc2Long hx hown (mvT hZ (hw _ (List.mem_of_getElem? (i := 1) rfl))) (g := (mkF m 20 #[.val (.long p0), .second, .val (.long p1), .second, .val (.long p2), .second, .val (.long p3), .second, .val (.long p4), .second, .val (.long p5), .second, .val (.long p5), .second, .val (.long (p5 ^^^ (1 : Int64))), .second, .val (.long (p5 ^^^ (2 : Int64))), .second, .unset, .unset, .unset, .unset, .unset, .unset, .unset] [(.long p5)])) rfl (hb hby at_20) t) ?_
  show Go p e below s QQ room_1.cells room_1.slots (s₁.setTop (mkF m 23 #[.val (.long p0), .second, .val (.long p1), .second, .val (.long p2), .second, .val (.long p3), .second, .val (.long p4), .second, .val (.long p5), .second, .val (.long p5), .second, .val (.long (p5 ^^^ (1 : Int64))), .second, .val (.long (p5 ^^^ (2 : Int64))), .second, .unset, .unset, .unset, .unset, .unset, .unset, .unset] [(.long (3 : Int64)), (.long p5)]))
  refine gs (fun t => XS.lxor X0.here hx rfl (hb hby at_23) rfl) ?_
  show Go p e below s QQ room_1.cells room_1.slots (s₁.setTop (mkF m 24 #[.val (.long p0), .second, .val (.long p1), .second, .val (.long p2), .second, .val (.long p3), .second, .val (.long p4), .second, .val (.long p5), .second, .val (.long p5), .second, .val (.long (p5 ^^^ (1 : Int64))), .second, .val (.long (p5 ^^^ (2 : Int64))), .second, .unset, .unset, .unset, .unset, .unset, .unset, .unset] [(.long (p5 ^^^ (3 : Int64)))]))
  refine gs (fun t => XS.lstore X0.here hx rfl (hb hby at_24) rfl (l' := #[.val (.long p0), .second, .val (.long p1), .second, .val (.long p2), .second, .val (.long p3), .second, .val (.long p4), .second, .val (.long p5), .second, .val (.long p5), .second, .val (.long (p5 ^^^ (1 : Int64))), .second, .val (.long (p5 ^^^ (2 : Int64))), .second, .val (.long (p5 ^^^ (3 : Int64))), .second, .unset, .unset, .unset, .unset, .unset]) rfl) ?_
  show Go p e below s QQ room_1.cells room_1.slots (s₁.setTop (mkF m 26 #[.val (.long p0), .second, .val (.long p1), .second, .val (.long p2), .second, .val (.long p3), .second, .val (.long p4), .second, .val (.long p5), .second, .val (.long p5), .second, .val (.long (p5 ^^^ (1 : Int64))), .second, .val (.long (p5 ^^^ (2 : Int64))), .second, .val (.long (p5 ^^^ (3 : Int64))), .second, .unset, .unset, .unset, .unset, .unset] []))
  refine gs (fun t => XS.lload X0.here hx rfl (hb hby at_26) rfl) ?_
  show Go p e below s QQ room_1.cells room_1.slots (s₁.setTop (mkF m 28 #[.val (.long p0), .second, .val (.long p1), .second, .val (.long p2), .second, .val (.long p3), .second, .val (.long p4), .second, .val (.long p5), .second, .val (.long p5), .second, .val (.long (p5 ^^^ (1 : Int64))), .second, .val (.long (p5 ^^^ (2 : Int64))), .second, .val (.long (p5 ^^^ (3 : Int64))), .second, .unset, .unset, .unset, .unset, .unset] [(.long p5)]))
  refine gs (fun t => X0.ldc2Long hx hown (mvT hZ (hw _ (List.mem_of_getElem? (i := 2) rfl))) (g := (mkF m 28 #[.val (.long p0), .second, .val (.long p1), .second, .val (.long p2), .second, .val (.long p3), .second, .val (.long p4), .second, .val (.long p5), .second, .val (.long p5), .second, .val (.long (p5 ^^^ (1 : Int64))), .second, .val (.long (p5 ^^^ (2 : Int64))), .second, .val (.long (p5 ^^^ (3 : Int64))), .second, .unset, .unset, .unset, .unset, .unset] [(.long p5)])) rfl (hb hby at_28) t) ?_
  show Go p e below s QQ room_1.cells room_1.slots (s₁.setTop (mkF m 31 #[.val (.long p0), .second, .val (.long p1), .second, .val (.long p2), .second, .val (.long p3), .second, .val (.long p4), .second, .val (.long p5), .second, .val (.long p5), .second, .val (.long (p5 ^^^ (1 : Int64))), .second, .val (.long (p5 ^^^ (2 : Int64))), .second, .val (.long (p5 ^^^ (3 : Int64))), .second, .unset, .unset, .unset, .unset, .unset] [(.long (4 : Int64)), (.long p5)]))
  refine gs (fun t => XS.lxor X0.here hx rfl (hb hby at_31) rfl) ?_
  show Go p e below s QQ room_1.cells room_1.slots (s₁.setTop (mkF m 32 #[.val (.long p0), .second, .val (.long p1), .second, .val (.long p2), .second, .val (.long p3), .second, .val (.long p4), .second, .val (.long p5), .second, .val (.long p5), .second, .val (.long (p5 ^^^ (1 : Int64))), .second, .val (.long (p5 ^^^ (2 : Int64))), .second, .val (.long (p5 ^^^ (3 : Int64))), .second, .unset, .unset, .unset, .unset, .unset] [(.long (p5 ^^^ (4 : Int64)))]))
  refine gs (fun t => XS.lstore X0.here hx rfl (hb hby at_32) rfl (l' := #[.val (.long p0), .second, .val (.long p1), .second, .val (.long p2), .second, .val (.long p3), .second, .val (.long p4), .second, .val (.long p5), .second, .val (.long p5), .second, .val (.long (p5 ^^^ (1 : Int64))), .second, .val (.long (p5 ^^^ (2 : Int64))), .second, .val (.long (p5 ^^^ (3 : Int64))), .second, .val (.long (p5 ^^^ (4 : Int64))), .second, .unset, .unset, .unset]) rfl) ?_
  show Go p e below s QQ room_1.cells room_1.slots (s₁.setTop (mkF m 34 #[.val (.long p0), .second, .val (.long p1), .second, .val (.long p2), .second, .val (.long p3), .second, .val (.long p4), .second, .val (.long p5), .second, .val (.long p5), .second, .val (.long (p5 ^^^ (1 : Int64))), .second, .val (.long (p5 ^^^ (2 : Int64))), .second, .val (.long (p5 ^^^ (3 : Int64))), .second, .val (.long (p5 ^^^ (4 : Int64))), .second, .unset, .unset, .unset] []))
  obtain ⟨T24, h24, X24, e24, E24, A24, D24, -, st24⟩ := newO X0 hx hZ hown (hw _ (List.mem_of_getElem? (i := 3) rfl)) (hw _ (List.mem_of_getElem? (i := 4) rfl)) (hw _ (List.mem_of_getElem? (i := 5) rfl)) e0 (g := (mkF m 34 #[.val (.long p0), .second, .val (.long p1), .second, .val (.long p2), .second, .val (.long p3), .second, .val (.long p4), .second, .val (.long p5), .second, .val (.long p5), .second, .val (.long (p5 ^^^ (1 : Int64))), .second, .val (.long (p5 ^^^ (2 : Int64))), .second, .val (.long (p5 ^^^ (3 : Int64))), .second, .val (.long (p5 ^^^ (4 : Int64))), .second, .unset, .unset, .unset] [])) rfl (hb hby at_34) (by decide) (by decide)
  obtain ⟨b24, g24⟩ : ∃ z, z = h0.size := ⟨_, rfl⟩
  rw [← g24] at A24 D24 st24
  have ge_b24 : n0 ≤ b24 := by rw [g24]; exact ZZ
  refine gs st24 ?_
  show Go p e below s QQ room_1.cells room_1.slots (T24.setTop (mkF m 37 #[.val (.long p0), .second, .val (.long p1), .second, .val (.long p2), .second, .val (.long p3), .second, .val (.long p4), .second, .val (.long p5), .second, .val (.long p5), .second, .val (.long (p5 ^^^ (1 : Int64))), .second, .val (.long (p5 ^^^ (2 : Int64))), .second, .val (.long (p5 ^^^ (3 : Int64))), .second, .val (.long (p5 ^^^ (4 : Int64))), .second, .unset, .unset, .unset] [(.ref b24)]))
  replace ZZ := Nat.le_trans ZZ E24.1
  have Ex_b24 := A24
  have F_relayed_b24 : Fld Z h24 b24 "com/example/outboxd/outboxd/relay/DrainSummary" "relayed" "J" (.long (0 : Int64)) := D24 (Or.inr (hw _ (List.mem_of_getElem? (i := 13) rfl))) (ty := .long) (by decide)
  have F_failed_b24 : Fld Z h24 b24 "com/example/outboxd/outboxd/relay/DrainSummary" "failed" "J" (.long (0 : Int64)) := D24 (Or.inr (hw _ (List.mem_of_getElem? (i := 15) rfl))) (ty := .long) (by decide)
  have F_dead_b24 : Fld Z h24 b24 "com/example/outboxd/outboxd/relay/DrainSummary" "dead" "J" (.long (0 : Int64)) := D24 (Or.inr (hw _ (List.mem_of_getElem? (i := 17) rfl))) (ty := .long) (by decide)
  have F_givenBack_b24 : Fld Z h24 b24 "com/example/outboxd/outboxd/relay/DrainSummary" "givenBack" "J" (.long (0 : Int64)) := D24 (Or.inr (hw _ (List.mem_of_getElem? (i := 19) rfl))) (ty := .long) (by decide)
  have F_lost_b24 : Fld Z h24 b24 "com/example/outboxd/outboxd/relay/DrainSummary" "lost" "J" (.long (0 : Int64)) := D24 (Or.inr (hw _ (List.mem_of_getElem? (i := 21) rfl))) (ty := .long) (by decide)
  refine gs (fun t => XS.dup X24.here hx rfl (hb hby at_37) rfl rfl) ?_
  show Go p e below s QQ room_1.cells room_1.slots (T24.setTop (mkF m 38 #[.val (.long p0), .second, .val (.long p1), .second, .val (.long p2), .second, .val (.long p3), .second, .val (.long p4), .second, .val (.long p5), .second, .val (.long p5), .second, .val (.long (p5 ^^^ (1 : Int64))), .second, .val (.long (p5 ^^^ (2 : Int64))), .second, .val (.long (p5 ^^^ (3 : Int64))), .second, .val (.long (p5 ^^^ (4 : Int64))), .second, .unset, .unset, .unset] [(.ref b24), (.ref b24)]))
  refine gs (fun t => XS.lloadN X24.here hx rfl (hb hby at_38) rfl) ?_
  show Go p e below s QQ room_1.cells room_1.slots (T24.setTop (mkF m 39 #[.val (.long p0), .second, .val (.long p1), .second, .val (.long p2), .second, .val (.long p3), .second, .val (.long p4), .second, .val (.long p5), .second, .val (.long p5), .second, .val (.long (p5 ^^^ (1 : Int64))), .second, .val (.long (p5 ^^^ (2 : Int64))), .second, .val (.long (p5 ^^^ (3 : Int64))), .second, .val (.long (p5 ^^^ (4 : Int64))), .second, .unset, .unset, .unset] [(.long p0), (.ref b24), (.ref b24)]))
  refine gs (fun t => XS.lloadN X24.here hx rfl (hb hby at_39) rfl) ?_
  show Go p e below s QQ room_1.cells room_1.slots (T24.setTop (mkF m 40 #[.val (.long p0), .second, .val (.long p1), .second, .val (.long p2), .second, .val (.long p3), .second, .val (.long p4), .second, .val (.long p5), .second, .val (.long p5), .second, .val (.long (p5 ^^^ (1 : Int64))), .second, .val (.long (p5 ^^^ (2 : Int64))), .second, .val (.long (p5 ^^^ (3 : Int64))), .second, .val (.long (p5 ^^^ (4 : Int64))), .second, .unset, .unset, .unset] [(.long p1), (.long p0), (.ref b24), (.ref b24)]))
  refine gs (fun t => XS.lload X24.here hx rfl (hb hby at_40) rfl) ?_
  show Go p e below s QQ room_1.cells room_1.slots (T24.setTop (mkF m 42 #[.val (.long p0), .second, .val (.long p1), .second, .val (.long p2), .second, .val (.long p3), .second, .val (.long p4), .second, .val (.long p5), .second, .val (.long p5), .second, .val (.long (p5 ^^^ (1 : Int64))), .second, .val (.long (p5 ^^^ (2 : Int64))), .second, .val (.long (p5 ^^^ (3 : Int64))), .second, .val (.long (p5 ^^^ (4 : Int64))), .second, .unset, .unset, .unset] [(.long p2), (.long p1), (.long p0), (.ref b24), (.ref b24)]))
  refine gs (fun t => XS.lload X24.here hx rfl (hb hby at_42) rfl) ?_
  show Go p e below s QQ room_1.cells room_1.slots (T24.setTop (mkF m 44 #[.val (.long p0), .second, .val (.long p1), .second, .val (.long p2), .second, .val (.long p3), .second, .val (.long p4), .second, .val (.long p5), .second, .val (.long p5), .second, .val (.long (p5 ^^^ (1 : Int64))), .second, .val (.long (p5 ^^^ (2 : Int64))), .second, .val (.long (p5 ^^^ (3 : Int64))), .second, .val (.long (p5 ^^^ (4 : Int64))), .second, .unset, .unset, .unset] [(.long p3), (.long p2), (.long p1), (.long p0), (.ref b24), (.ref b24)]))
  refine gs (fun t => XS.lload X24.here hx rfl (hb hby at_44) rfl) ?_
  show Go p e below s QQ room_1.cells room_1.slots (T24.setTop (mkF m 46 #[.val (.long p0), .second, .val (.long p1), .second, .val (.long p2), .second, .val (.long p3), .second, .val (.long p4), .second, .val (.long p5), .second, .val (.long p5), .second, .val (.long (p5 ^^^ (1 : Int64))), .second, .val (.long (p5 ^^^ (2 : Int64))), .second, .val (.long (p5 ^^^ (3 : Int64))), .second, .val (.long (p5 ^^^ (4 : Int64))), .second, .unset, .unset, .unset] [(.long p4), (.long p3), (.long p2), (.long p1), (.long p0), (.ref b24), (.ref b24)]))
  obtain ⟨_, _, ⟨T25, L25, k25, n25⟩, -, X25, ⟨Lc25, hQ25, l25, y25, z25⟩, st25⟩ := X24.specialBack hx (y := (⟨"com/example/outboxd/outboxd/relay/DrainSummary", "<init>", "(JJJJJ)V"⟩ : MethodName)) rfl hown (mvT hZ (hw _ (List.mem_of_getElem? (i := 6) rfl))) (mvT hZ (hw _ (List.mem_of_getElem? (i := 7) rfl))) (mvT hZ (hw _ (List.mem_of_getElem? (i := 8) rfl))) (by decide) (backOf (W := 1) (rm1 l Z a0 hw [] b24 p0 p1 p2 p3 p4 h24 n0 ZZ F_relayed_b24 F_failed_b24 F_dead_b24 F_givenBack_b24 F_lost_b24 Ex_b24 ge_b24) hZ (hw _ (List.mem_of_getElem? (i := 8) rfl)) (hw _ (List.mem_of_getElem? (i := 5) rfl)) (by decide) (by decide)) (g := (mkF m 46 #[.val (.long p0), .second, .val (.long p1), .second, .val (.long p2), .second, .val (.long p3), .second, .val (.long p4), .second, .val (.long p5), .second, .val (.long p5), .second, .val (.long (p5 ^^^ (1 : Int64))), .second, .val (.long (p5 ^^^ (2 : Int64))), .second, .val (.long (p5 ^^^ (3 : Int64))), .second, .val (.long (p5 ^^^ (4 : Int64))), .second, .unset, .unset, .unset] [(.long p4), (.long p3), (.long p2), (.long p1), (.long p0), (.ref b24), (.ref b24)])) rfl (by rw [hml]; rfl) (Steps.refl _) (a := b24) (argsL := [(.long p0), (.long p1), (.long p2), (.long p3), (.long p4)]) (rest := [(.ref b24)]) (lenOf pd_0 rfl) rfl (by show 2 * 0 + _ ≤ _; exact Nat.le_of_eq rfl) (hb hby at_46) (fun _ _ => ⟨rfl, e24, (by decide : 1 + 0 ≤ _), (by decide : 5 + 0 ≤ _)⟩)
  dsimp only [Pt.U, Pt.locs, Pt.cells, Pt.slots] at X25 l25 y25 z25 st25 hQ25
  subst l25 y25 z25
  obtain ⟨rfl, N25q, K25, F0_25, F1_25, F2_25, F3_25, F4_25⟩ := hQ25
  replace N0 := Fr.app N0 N25q
  refine gt st25 ?_
  show Go p e below s QQ room_1.cells room_1.slots (T25.setTop (mkF m 49 #[.val (.long p0), .second, .val (.long p1), .second, .val (.long p2), .second, .val (.long p3), .second, .val (.long p4), .second, .val (.long p5), .second, .val (.long p5), .second, .val (.long (p5 ^^^ (1 : Int64))), .second, .val (.long (p5 ^^^ (2 : Int64))), .second, .val (.long (p5 ^^^ (3 : Int64))), .second, .val (.long (p5 ^^^ (4 : Int64))), .second, .unset, .unset, .unset] [(.ref b24)]))
  replace Ex_b24 := Ex_b24.keep K25
  replace ZZ := Nat.le_trans ZZ K25.1
  refine gs (fun t => XS.astore X25.here hx rfl (hb hby at_49) rfl rfl (l' := #[.val (.long p0), .second, .val (.long p1), .second, .val (.long p2), .second, .val (.long p3), .second, .val (.long p4), .second, .val (.long p5), .second, .val (.long p5), .second, .val (.long (p5 ^^^ (1 : Int64))), .second, .val (.long (p5 ^^^ (2 : Int64))), .second, .val (.long (p5 ^^^ (3 : Int64))), .second, .val (.long (p5 ^^^ (4 : Int64))), .second, .val (.ref b24), .unset, .unset]) rfl) ?_
  show Go p e below s QQ room_1.cells room_1.slots (T25.setTop (mkF m 51 #[.val (.long p0), .second, .val (.long p1), .second, .val (.long p2), .second, .val (.long p3), .second, .val (.long p4), .second, .val (.long p5), .second, .val (.long p5), .second, .val (.long (p5 ^^^ (1 : Int64))), .second, .val (.long (p5 ^^^ (2 : Int64))), .second, .val (.long (p5 ^^^ (3 : Int64))), .second, .val (.long (p5 ^^^ (4 : Int64))), .second, .val (.ref b24), .unset, .unset] []))
  obtain ⟨T26, h26, X26, e26, E26, A26, D26, -, st26⟩ := newO X25 hx hZ hown (hw _ (List.mem_of_getElem? (i := 3) rfl)) (hw _ (List.mem_of_getElem? (i := 4) rfl)) (hw _ (List.mem_of_getElem? (i := 5) rfl)) rfl (g := (mkF m 51 #[.val (.long p0), .second, .val (.long p1), .second, .val (.long p2), .second, .val (.long p3), .second, .val (.long p4), .second, .val (.long p5), .second, .val (.long p5), .second, .val (.long (p5 ^^^ (1 : Int64))), .second, .val (.long (p5 ^^^ (2 : Int64))), .second, .val (.long (p5 ^^^ (3 : Int64))), .second, .val (.long (p5 ^^^ (4 : Int64))), .second, .val (.ref b24), .unset, .unset] [])) rfl (hb hby at_51) (by decide) (by decide)
  obtain ⟨b26, g26⟩ : ∃ z, z = T25.heap.size := ⟨_, rfl⟩
  rw [← g26] at A26 D26 st26
  have ge_b26 : n0 ≤ b26 := by rw [g26]; exact ZZ
  have ne_b24_b26 : b24 ≠ b26 := by rw [g26]; exact Nat.ne_of_lt Ex_b24.lt
  refine gs st26 ?_
  show Go p e below s QQ room_1.cells room_1.slots (T26.setTop (mkF m 54 #[.val (.long p0), .second, .val (.long p1), .second, .val (.long p2), .second, .val (.long p3), .second, .val (.long p4), .second, .val (.long p5), .second, .val (.long p5), .second, .val (.long (p5 ^^^ (1 : Int64))), .second, .val (.long (p5 ^^^ (2 : Int64))), .second, .val (.long (p5 ^^^ (3 : Int64))), .second, .val (.long (p5 ^^^ (4 : Int64))), .second, .val (.ref b24), .unset, .unset] [(.ref b26)]))
  replace Ex_b24 := Ex_b24.ext E26
  replace F0_25 := F0_25.ext E26
  replace F1_25 := F1_25.ext E26
  replace F2_25 := F2_25.ext E26
  replace F3_25 := F3_25.ext E26
  replace F4_25 := F4_25.ext E26
  replace ZZ := Nat.le_trans ZZ E26.1
  have Ex_b26 := A26
  have F_relayed_b26 : Fld Z h26 b26 "com/example/outboxd/outboxd/relay/DrainSummary" "relayed" "J" (.long (0 : Int64)) := D26 (Or.inr (hw _ (List.mem_of_getElem? (i := 13) rfl))) (ty := .long) (by decide)
  have F_failed_b26 : Fld Z h26 b26 "com/example/outboxd/outboxd/relay/DrainSummary" "failed" "J" (.long (0 : Int64)) := D26 (Or.inr (hw _ (List.mem_of_getElem? (i := 15) rfl))) (ty := .long) (by decide)
  have F_dead_b26 : Fld Z h26 b26 "com/example/outboxd/outboxd/relay/DrainSummary" "dead" "J" (.long (0 : Int64)) := D26 (Or.inr (hw _ (List.mem_of_getElem? (i := 17) rfl))) (ty := .long) (by decide)
  have F_givenBack_b26 : Fld Z h26 b26 "com/example/outboxd/outboxd/relay/DrainSummary" "givenBack" "J" (.long (0 : Int64)) := D26 (Or.inr (hw _ (List.mem_of_getElem? (i := 19) rfl))) (ty := .long) (by decide)
  have F_lost_b26 : Fld Z h26 b26 "com/example/outboxd/outboxd/relay/DrainSummary" "lost" "J" (.long (0 : Int64)) := D26 (Or.inr (hw _ (List.mem_of_getElem? (i := 21) rfl))) (ty := .long) (by decide)
  refine gs (fun t => XS.dup X26.here hx rfl (hb hby at_54) rfl rfl) ?_
  show Go p e below s QQ room_1.cells room_1.slots (T26.setTop (mkF m 55 #[.val (.long p0), .second, .val (.long p1), .second, .val (.long p2), .second, .val (.long p3), .second, .val (.long p4), .second, .val (.long p5), .second, .val (.long p5), .second, .val (.long (p5 ^^^ (1 : Int64))), .second, .val (.long (p5 ^^^ (2 : Int64))), .second, .val (.long (p5 ^^^ (3 : Int64))), .second, .val (.long (p5 ^^^ (4 : Int64))), .second, .val (.ref b24), .unset, .unset] [(.ref b26), (.ref b26)]))
  refine gs (fun t => XS.lload X26.here hx rfl (hb hby at_55) rfl) ?_
  show Go p e below s QQ room_1.cells room_1.slots (T26.setTop (mkF m 57 #[.val (.long p0), .second, .val (.long p1), .second, .val (.long p2), .second, .val (.long p3), .second, .val (.long p4), .second, .val (.long p5), .second, .val (.long p5), .second, .val (.long (p5 ^^^ (1 : Int64))), .second, .val (.long (p5 ^^^ (2 : Int64))), .second, .val (.long (p5 ^^^ (3 : Int64))), .second, .val (.long (p5 ^^^ (4 : Int64))), .second, .val (.ref b24), .unset, .unset] [(.long p5), (.ref b26), (.ref b26)]))
  refine gs (fun t => XS.lload X26.here hx rfl (hb hby at_57) rfl) ?_
  show Go p e below s QQ room_1.cells room_1.slots (T26.setTop (mkF m 59 #[.val (.long p0), .second, .val (.long p1), .second, .val (.long p2), .second, .val (.long p3), .second, .val (.long p4), .second, .val (.long p5), .second, .val (.long p5), .second, .val (.long (p5 ^^^ (1 : Int64))), .second, .val (.long (p5 ^^^ (2 : Int64))), .second, .val (.long (p5 ^^^ (3 : Int64))), .second, .val (.long (p5 ^^^ (4 : Int64))), .second, .val (.ref b24), .unset, .unset] [(.long (p5 ^^^ (1 : Int64))), (.long p5), (.ref b26), (.ref b26)]))
  refine gs (fun t => XS.lload X26.here hx rfl (hb hby at_59) rfl) ?_
  show Go p e below s QQ room_1.cells room_1.slots (T26.setTop (mkF m 61 #[.val (.long p0), .second, .val (.long p1), .second, .val (.long p2), .second, .val (.long p3), .second, .val (.long p4), .second, .val (.long p5), .second, .val (.long p5), .second, .val (.long (p5 ^^^ (1 : Int64))), .second, .val (.long (p5 ^^^ (2 : Int64))), .second, .val (.long (p5 ^^^ (3 : Int64))), .second, .val (.long (p5 ^^^ (4 : Int64))), .second, .val (.ref b24), .unset, .unset] [(.long (p5 ^^^ (2 : Int64))), (.long (p5 ^^^ (1 : Int64))), (.long p5), (.ref b26), (.ref b26)]))
  refine gs (fun t => XS.lload X26.here hx rfl (hb hby at_61) rfl) ?_
  show Go p e below s QQ room_1.cells room_1.slots (T26.setTop (mkF m 63 #[.val (.long p0), .second, .val (.long p1), .second, .val (.long p2), .second, .val (.long p3), .second, .val (.long p4), .second, .val (.long p5), .second, .val (.long p5), .second, .val (.long (p5 ^^^ (1 : Int64))), .second, .val (.long (p5 ^^^ (2 : Int64))), .second, .val (.long (p5 ^^^ (3 : Int64))), .second, .val (.long (p5 ^^^ (4 : Int64))), .second, .val (.ref b24), .unset, .unset] [(.long (p5 ^^^ (3 : Int64))), (.long (p5 ^^^ (2 : Int64))), (.long (p5 ^^^ (1 : Int64))), (.long p5), (.ref b26), (.ref b26)]))
  refine gs (fun t => XS.lload X26.here hx rfl (hb hby at_63) rfl) ?_
  show Go p e below s QQ room_1.cells room_1.slots (T26.setTop (mkF m 65 #[.val (.long p0), .second, .val (.long p1), .second, .val (.long p2), .second, .val (.long p3), .second, .val (.long p4), .second, .val (.long p5), .second, .val (.long p5), .second, .val (.long (p5 ^^^ (1 : Int64))), .second, .val (.long (p5 ^^^ (2 : Int64))), .second, .val (.long (p5 ^^^ (3 : Int64))), .second, .val (.long (p5 ^^^ (4 : Int64))), .second, .val (.ref b24), .unset, .unset] [(.long (p5 ^^^ (4 : Int64))), (.long (p5 ^^^ (3 : Int64))), (.long (p5 ^^^ (2 : Int64))), (.long (p5 ^^^ (1 : Int64))), (.long p5), (.ref b26), (.ref b26)]))
  obtain ⟨_, _, ⟨T27, L27, k27, n27⟩, -, X27, ⟨Lc27, hQ27, l27, y27, z27⟩, st27⟩ := X26.specialBack hx (y := (⟨"com/example/outboxd/outboxd/relay/DrainSummary", "<init>", "(JJJJJ)V"⟩ : MethodName)) rfl hown (mvT hZ (hw _ (List.mem_of_getElem? (i := 6) rfl))) (mvT hZ (hw _ (List.mem_of_getElem? (i := 7) rfl))) (mvT hZ (hw _ (List.mem_of_getElem? (i := 8) rfl))) (by decide) (backOf (W := 1) (rm1 l Z a0 hw [] b26 p5 (p5 ^^^ (1 : Int64)) (p5 ^^^ (2 : Int64)) (p5 ^^^ (3 : Int64)) (p5 ^^^ (4 : Int64)) h26 n0 ZZ F_relayed_b26 F_failed_b26 F_dead_b26 F_givenBack_b26 F_lost_b26 Ex_b26 ge_b26) hZ (hw _ (List.mem_of_getElem? (i := 8) rfl)) (hw _ (List.mem_of_getElem? (i := 5) rfl)) (by decide) (by decide)) (g := (mkF m 65 #[.val (.long p0), .second, .val (.long p1), .second, .val (.long p2), .second, .val (.long p3), .second, .val (.long p4), .second, .val (.long p5), .second, .val (.long p5), .second, .val (.long (p5 ^^^ (1 : Int64))), .second, .val (.long (p5 ^^^ (2 : Int64))), .second, .val (.long (p5 ^^^ (3 : Int64))), .second, .val (.long (p5 ^^^ (4 : Int64))), .second, .val (.ref b24), .unset, .unset] [(.long (p5 ^^^ (4 : Int64))), (.long (p5 ^^^ (3 : Int64))), (.long (p5 ^^^ (2 : Int64))), (.long (p5 ^^^ (1 : Int64))), (.long p5), (.ref b26), (.ref b26)])) rfl (by rw [hml]; rfl) (Steps.refl _) (a := b26) (argsL := [(.long p5), (.long (p5 ^^^ (1 : Int64))), (.long (p5 ^^^ (2 : Int64))), (.long (p5 ^^^ (3 : Int64))), (.long (p5 ^^^ (4 : Int64)))]) (rest := [(.ref b26)]) (lenOf pd_0 rfl) rfl (by show 2 * 0 + _ ≤ _; exact Nat.le_of_eq rfl) (hb hby at_65) (fun _ _ => ⟨rfl, e26, (by decide : 2 + 0 ≤ _), (by decide : 10 + 0 ≤ _)⟩)
  dsimp only [Pt.U, Pt.locs, Pt.cells, Pt.slots] at X27 l27 y27 z27 st27 hQ27
  subst l27 y27 z27
  obtain ⟨rfl, N27q, K27, F0_27, F1_27, F2_27, F3_27, F4_27⟩ := hQ27
  replace N0 := Fr.app N0 N27q
  refine gt st27 ?_
  show Go p e below s QQ room_1.cells room_1.slots (T27.setTop (mkF m 68 #[.val (.long p0), .second, .val (.long p1), .second, .val (.long p2), .second, .val (.long p3), .second, .val (.long p4), .second, .val (.long p5), .second, .val (.long p5), .second, .val (.long (p5 ^^^ (1 : Int64))), .second, .val (.long (p5 ^^^ (2 : Int64))), .second, .val (.long (p5 ^^^ (3 : Int64))), .second, .val (.long (p5 ^^^ (4 : Int64))), .second, .val (.ref b24), .unset, .unset] [(.ref b26)]))
  replace Ex_b24 := Ex_b24.keep K27
  replace F0_25 := F0_25.keep K27 (ninS ne_b24_b26 nin0)
  replace F1_25 := F1_25.keep K27 (ninS ne_b24_b26 nin0)
  replace F2_25 := F2_25.keep K27 (ninS ne_b24_b26 nin0)
  replace F3_25 := F3_25.keep K27 (ninS ne_b24_b26 nin0)
  replace F4_25 := F4_25.keep K27 (ninS ne_b24_b26 nin0)
  replace Ex_b26 := Ex_b26.keep K27
  replace ZZ := Nat.le_trans ZZ K27.1
  refine gs (fun t => XS.astore X27.here hx rfl (hb hby at_68) rfl rfl (l' := #[.val (.long p0), .second, .val (.long p1), .second, .val (.long p2), .second, .val (.long p3), .second, .val (.long p4), .second, .val (.long p5), .second, .val (.long p5), .second, .val (.long (p5 ^^^ (1 : Int64))), .second, .val (.long (p5 ^^^ (2 : Int64))), .second, .val (.long (p5 ^^^ (3 : Int64))), .second, .val (.long (p5 ^^^ (4 : Int64))), .second, .val (.ref b24), .val (.ref b26), .unset]) rfl) ?_
  show Go p e below s QQ room_1.cells room_1.slots (T27.setTop (mkF m 70 #[.val (.long p0), .second, .val (.long p1), .second, .val (.long p2), .second, .val (.long p3), .second, .val (.long p4), .second, .val (.long p5), .second, .val (.long p5), .second, .val (.long (p5 ^^^ (1 : Int64))), .second, .val (.long (p5 ^^^ (2 : Int64))), .second, .val (.long (p5 ^^^ (3 : Int64))), .second, .val (.long (p5 ^^^ (4 : Int64))), .second, .val (.ref b24), .val (.ref b26), .unset] []))
  refine gs (fun t => XS.aload X27.here hx rfl (hb hby at_70) rfl rfl) ?_
  show Go p e below s QQ room_1.cells room_1.slots (T27.setTop (mkF m 72 #[.val (.long p0), .second, .val (.long p1), .second, .val (.long p2), .second, .val (.long p3), .second, .val (.long p4), .second, .val (.long p5), .second, .val (.long p5), .second, .val (.long (p5 ^^^ (1 : Int64))), .second, .val (.long (p5 ^^^ (2 : Int64))), .second, .val (.long (p5 ^^^ (3 : Int64))), .second, .val (.long (p5 ^^^ (4 : Int64))), .second, .val (.ref b24), .val (.ref b26), .unset] [(.ref b24)]))
  refine gs (fun t => XS.aload X27.here hx rfl (hb hby at_72) rfl rfl) ?_
  show Go p e below s QQ room_1.cells room_1.slots (T27.setTop (mkF m 74 #[.val (.long p0), .second, .val (.long p1), .second, .val (.long p2), .second, .val (.long p3), .second, .val (.long p4), .second, .val (.long p5), .second, .val (.long p5), .second, .val (.long (p5 ^^^ (1 : Int64))), .second, .val (.long (p5 ^^^ (2 : Int64))), .second, .val (.long (p5 ^^^ (3 : Int64))), .second, .val (.long (p5 ^^^ (4 : Int64))), .second, .val (.ref b24), .val (.ref b26), .unset] [(.ref b26), (.ref b24)]))
  obtain ⟨cq28, kq28, q28a, q28b, q28c⟩ := isOf hZ rfl Ex_b24
  obtain ⟨_, _, ⟨T28, L28, k28, n28⟩, -, X28, ⟨Lc28, hQ28, l28, y28, z28⟩, st28⟩ := X27.virtualBack hx (y := (⟨"com/example/outboxd/outboxd/relay/DrainSummary", "plus", "(Lcom/example/outboxd/outboxd/relay/DrainSummary;)Lcom/example/outboxd/outboxd/relay/DrainSummary;"⟩ : MethodName)) (z := (⟨"com/example/outboxd/outboxd/relay/DrainSummary", "plus", "(Lcom/example/outboxd/outboxd/relay/DrainSummary;)Lcom/example/outboxd/outboxd/relay/DrainSummary;"⟩ : MethodName)) hown (mvT hZ (hw _ (List.mem_of_getElem? (i := 22) rfl))) (mvT hZ (hw _ (List.mem_of_getElem? (i := 23) rfl))) (notFace_of_selects (args := #[]) (mvT hZ (hw _ (List.mem_of_getElem? (i := 25) rfl)))) (mvT hZ (hw _ (List.mem_of_getElem? (i := 25) rfl))) (mvT hZ (hw _ (List.mem_of_getElem? (i := 24) rfl))) (by decide) (backOf (W := 0) (rm3 l Z a0 hw [] b24 b26 p0 p1 p2 p3 p4 p5 (p5 ^^^ (1 : Int64)) (p5 ^^^ (2 : Int64)) (p5 ^^^ (3 : Int64)) (p5 ^^^ (4 : Int64)) T27.heap n0 ZZ F0_25 F1_25 F2_25 F3_25 F4_25 F0_27 F1_27 F2_27 F3_27 F4_27) hZ (hw _ (List.mem_of_getElem? (i := 26) rfl)) (hw _ (List.mem_of_getElem? (i := 5) rfl)) (by decide) (by decide)) q28a q28c (g := (mkF m 74 #[.val (.long p0), .second, .val (.long p1), .second, .val (.long p2), .second, .val (.long p3), .second, .val (.long p4), .second, .val (.long p5), .second, .val (.long p5), .second, .val (.long (p5 ^^^ (1 : Int64))), .second, .val (.long (p5 ^^^ (2 : Int64))), .second, .val (.long (p5 ^^^ (3 : Int64))), .second, .val (.long (p5 ^^^ (4 : Int64))), .second, .val (.ref b24), .val (.ref b26), .unset] [(.ref b26), (.ref b24)])) rfl (by rw [hml]; rfl) (Steps.refl _) (argsL := [(.ref b26)]) (rest := []) (lenOf pd_1 rfl) rfl (by show 2 * 0 + _ ≤ _; exact Nat.le_of_eq rfl) (hb hby at_74) (fun _ _ => ⟨rfl, rfl, (by decide : 2 + 1 ≤ _), (by decide : 10 + 5 ≤ _)⟩)
  dsimp only [Pt.U, Pt.locs, Pt.cells, Pt.slots] at X28 l28 y28 z28 st28 hQ28
  subst l28 y28 z28
  obtain ⟨b28, rfl, N28q, gb28, K28, Ex28, F0_28, F1_28, F2_28, F3_28, F4_28⟩ := hQ28
  replace N0 := Fr.app N0 N28q
  refine gt st28 ?_
  show Go p e below s QQ room_1.cells room_1.slots (T28.setTop (mkF m 77 #[.val (.long p0), .second, .val (.long p1), .second, .val (.long p2), .second, .val (.long p3), .second, .val (.long p4), .second, .val (.long p5), .second, .val (.long p5), .second, .val (.long (p5 ^^^ (1 : Int64))), .second, .val (.long (p5 ^^^ (2 : Int64))), .second, .val (.long (p5 ^^^ (3 : Int64))), .second, .val (.long (p5 ^^^ (4 : Int64))), .second, .val (.ref b24), .val (.ref b26), .unset] [(.ref b28)]))
  replace Ex_b24 := Ex_b24.keep K28
  replace F0_25 := F0_25.keep K28 nin0
  replace F1_25 := F1_25.keep K28 nin0
  replace F2_25 := F2_25.keep K28 nin0
  replace F3_25 := F3_25.keep K28 nin0
  replace F4_25 := F4_25.keep K28 nin0
  replace Ex_b26 := Ex_b26.keep K28
  replace F0_27 := F0_27.keep K28 nin0
  replace F1_27 := F1_27.keep K28 nin0
  replace F2_27 := F2_27.keep K28 nin0
  replace F3_27 := F3_27.keep K28 nin0
  replace F4_27 := F4_27.keep K28 nin0
  replace ZZ := Nat.le_trans ZZ K28.1
  refine gs (fun t => XS.astore X28.here hx rfl (hb hby at_77) rfl rfl (l' := #[.val (.long p0), .second, .val (.long p1), .second, .val (.long p2), .second, .val (.long p3), .second, .val (.long p4), .second, .val (.long p5), .second, .val (.long p5), .second, .val (.long (p5 ^^^ (1 : Int64))), .second, .val (.long (p5 ^^^ (2 : Int64))), .second, .val (.long (p5 ^^^ (3 : Int64))), .second, .val (.long (p5 ^^^ (4 : Int64))), .second, .val (.ref b24), .val (.ref b26), .val (.ref b28)]) rfl) ?_
  show Go p e below s QQ room_1.cells room_1.slots (T28.setTop (mkF m 79 #[.val (.long p0), .second, .val (.long p1), .second, .val (.long p2), .second, .val (.long p3), .second, .val (.long p4), .second, .val (.long p5), .second, .val (.long p5), .second, .val (.long (p5 ^^^ (1 : Int64))), .second, .val (.long (p5 ^^^ (2 : Int64))), .second, .val (.long (p5 ^^^ (3 : Int64))), .second, .val (.long (p5 ^^^ (4 : Int64))), .second, .val (.ref b24), .val (.ref b26), .val (.ref b28)] []))
  refine gs (fun t => XS.aload X28.here hx rfl (hb hby at_79) rfl rfl) ?_
  show Go p e below s QQ room_1.cells room_1.slots (T28.setTop (mkF m 81 #[.val (.long p0), .second, .val (.long p1), .second, .val (.long p2), .second, .val (.long p3), .second, .val (.long p4), .second, .val (.long p5), .second, .val (.long p5), .second, .val (.long (p5 ^^^ (1 : Int64))), .second, .val (.long (p5 ^^^ (2 : Int64))), .second, .val (.long (p5 ^^^ (3 : Int64))), .second, .val (.long (p5 ^^^ (4 : Int64))), .second, .val (.ref b24), .val (.ref b26), .val (.ref b28)] [(.ref b28)]))
  refine gs (fun t => XS.ifnonnullYes X28.here hx rfl (pc0 := 81) (pc' := 86) rfl (hb hby at_81) rfl (by decide) (by decide)) ?_
  show Go p e below s QQ room_1.cells room_1.slots (T28.setTop (mkF m 86 #[.val (.long p0), .second, .val (.long p1), .second, .val (.long p2), .second, .val (.long p3), .second, .val (.long p4), .second, .val (.long p5), .second, .val (.long p5), .second, .val (.long (p5 ^^^ (1 : Int64))), .second, .val (.long (p5 ^^^ (2 : Int64))), .second, .val (.long (p5 ^^^ (3 : Int64))), .second, .val (.long (p5 ^^^ (4 : Int64))), .second, .val (.ref b24), .val (.ref b26), .val (.ref b28)] []))
  refine gs (fun t => XS.aload X28.here hx rfl (hb hby at_86) rfl rfl) ?_
  show Go p e below s QQ room_1.cells room_1.slots (T28.setTop (mkF m 88 #[.val (.long p0), .second, .val (.long p1), .second, .val (.long p2), .second, .val (.long p3), .second, .val (.long p4), .second, .val (.long p5), .second, .val (.long p5), .second, .val (.long (p5 ^^^ (1 : Int64))), .second, .val (.long (p5 ^^^ (2 : Int64))), .second, .val (.long (p5 ^^^ (3 : Int64))), .second, .val (.long (p5 ^^^ (4 : Int64))), .second, .val (.ref b24), .val (.ref b26), .val (.ref b28)] [(.ref b28)]))
  obtain ⟨cq29, kq29, q29a, q29b, q29c⟩ := isOf hZ rfl Ex28
  obtain ⟨_, _, ⟨T29, L29, k29, n29⟩, -, X29, ⟨Lc29, hQ29, l29, y29, z29⟩, st29⟩ := X28.virtualBack hx (y := (⟨"com/example/outboxd/outboxd/relay/DrainSummary", "relayed", "()J"⟩ : MethodName)) (z := (⟨"com/example/outboxd/outboxd/relay/DrainSummary", "relayed", "()J"⟩ : MethodName)) hown (mvT hZ (hw _ (List.mem_of_getElem? (i := 29) rfl))) (mvT hZ (hw _ (List.mem_of_getElem? (i := 30) rfl))) (notFace_of_selects (args := #[]) (mvT hZ (hw _ (List.mem_of_getElem? (i := 32) rfl)))) (mvT hZ (hw _ (List.mem_of_getElem? (i := 32) rfl))) (mvT hZ (hw _ (List.mem_of_getElem? (i := 31) rfl))) (by decide) (backOf (W := 0) (rm4 l Z a0 hw [] b28 (p0 + p5) T28.heap n0 ZZ F0_28) hZ (hw _ (List.mem_of_getElem? (i := 33) rfl)) (hw _ (List.mem_of_getElem? (i := 5) rfl)) (by decide) (by decide)) q29a q29c (g := (mkF m 88 #[.val (.long p0), .second, .val (.long p1), .second, .val (.long p2), .second, .val (.long p3), .second, .val (.long p4), .second, .val (.long p5), .second, .val (.long p5), .second, .val (.long (p5 ^^^ (1 : Int64))), .second, .val (.long (p5 ^^^ (2 : Int64))), .second, .val (.long (p5 ^^^ (3 : Int64))), .second, .val (.long (p5 ^^^ (4 : Int64))), .second, .val (.ref b24), .val (.ref b26), .val (.ref b28)] [(.ref b28)])) rfl (by rw [hml]; rfl) (Steps.refl _) (argsL := []) (rest := []) (lenOf pd_2 rfl) rfl (by show 2 * 0 + _ ≤ _; exact Nat.le_of_eq rfl) (hb hby at_88) (fun _ _ => ⟨rfl, rfl, (by decide : 3 + 0 ≤ _), (by decide : 15 + 0 ≤ _)⟩)
  dsimp only [Pt.U, Pt.locs, Pt.cells, Pt.slots] at X29 l29 y29 z29 st29 hQ29
  subst l29 y29 z29
  obtain ⟨rfl, N29q, e29⟩ := hQ29
  replace N0 := Fr.app N0 N29q
  refine gt st29 ?_
  show Go p e below s QQ room_1.cells room_1.slots (T29.setTop (mkF m 91 #[.val (.long p0), .second, .val (.long p1), .second, .val (.long p2), .second, .val (.long p3), .second, .val (.long p4), .second, .val (.long p5), .second, .val (.long p5), .second, .val (.long (p5 ^^^ (1 : Int64))), .second, .val (.long (p5 ^^^ (2 : Int64))), .second, .val (.long (p5 ^^^ (3 : Int64))), .second, .val (.long (p5 ^^^ (4 : Int64))), .second, .val (.ref b24), .val (.ref b26), .val (.ref b28)] [(.long (p0 + p5))]))
  refine gs (fun t => XS.lloadN X29.here hx rfl (hb hby at_91) rfl) ?_
  show Go p e below s QQ room_1.cells room_1.slots (T29.setTop (mkF m 92 #[.val (.long p0), .second, .val (.long p1), .second, .val (.long p2), .second, .val (.long p3), .second, .val (.long p4), .second, .val (.long p5), .second, .val (.long p5), .second, .val (.long (p5 ^^^ (1 : Int64))), .second, .val (.long (p5 ^^^ (2 : Int64))), .second, .val (.long (p5 ^^^ (3 : Int64))), .second, .val (.long (p5 ^^^ (4 : Int64))), .second, .val (.ref b24), .val (.ref b26), .val (.ref b28)] [(.long p0), (.long (p0 + p5))]))
  refine gs (fun t => XS.lload X29.here hx rfl (hb hby at_92) rfl) ?_
  show Go p e below s QQ room_1.cells room_1.slots (T29.setTop (mkF m 94 #[.val (.long p0), .second, .val (.long p1), .second, .val (.long p2), .second, .val (.long p3), .second, .val (.long p4), .second, .val (.long p5), .second, .val (.long p5), .second, .val (.long (p5 ^^^ (1 : Int64))), .second, .val (.long (p5 ^^^ (2 : Int64))), .second, .val (.long (p5 ^^^ (3 : Int64))), .second, .val (.long (p5 ^^^ (4 : Int64))), .second, .val (.ref b24), .val (.ref b26), .val (.ref b28)] [(.long p5), (.long p0), (.long (p0 + p5))]))
  refine gs (fun t => XS.ladd X29.here hx rfl (hb hby at_94) rfl) ?_
  show Go p e below s QQ room_1.cells room_1.slots (T29.setTop (mkF m 95 #[.val (.long p0), .second, .val (.long p1), .second, .val (.long p2), .second, .val (.long p3), .second, .val (.long p4), .second, .val (.long p5), .second, .val (.long p5), .second, .val (.long (p5 ^^^ (1 : Int64))), .second, .val (.long (p5 ^^^ (2 : Int64))), .second, .val (.long (p5 ^^^ (3 : Int64))), .second, .val (.long (p5 ^^^ (4 : Int64))), .second, .val (.ref b24), .val (.ref b26), .val (.ref b28)] [(.long (p0 + p5)), (.long (p0 + p5))]))
  refine gs (fun t => XS.lcmp X29.here hx rfl (hb hby at_95) rfl) ?_
  show Go p e below s QQ room_1.cells room_1.slots (T29.setTop (mkF m 96 #[.val (.long p0), .second, .val (.long p1), .second, .val (.long p2), .second, .val (.long p3), .second, .val (.long p4), .second, .val (.long p5), .second, .val (.long p5), .second, .val (.long (p5 ^^^ (1 : Int64))), .second, .val (.long (p5 ^^^ (2 : Int64))), .second, .val (.long (p5 ^^^ (3 : Int64))), .second, .val (.long (p5 ^^^ (4 : Int64))), .second, .val (.ref b24), .val (.ref b26), .val (.ref b28)] [(.int (lcmpW (p0 + p5) (p0 + p5)))]))
  refine gs (fun t => XS.ifNo X29.here hx rfl (hb hby at_96) rfl ((if0 _ _).trans (teq ((lw_eq _ _).mpr rfl : (lcmpW (p0 + p5) (p0 + p5)) = (0 : Int32))).2)) ?_
  show Go p e below s QQ room_1.cells room_1.slots (T29.setTop (mkF m 99 #[.val (.long p0), .second, .val (.long p1), .second, .val (.long p2), .second, .val (.long p3), .second, .val (.long p4), .second, .val (.long p5), .second, .val (.long p5), .second, .val (.long (p5 ^^^ (1 : Int64))), .second, .val (.long (p5 ^^^ (2 : Int64))), .second, .val (.long (p5 ^^^ (3 : Int64))), .second, .val (.long (p5 ^^^ (4 : Int64))), .second, .val (.ref b24), .val (.ref b26), .val (.ref b28)] []))
  refine gs (fun t => XS.aload X29.here hx rfl (hb hby at_99) rfl rfl) ?_
  show Go p e below s QQ room_1.cells room_1.slots (T29.setTop (mkF m 101 #[.val (.long p0), .second, .val (.long p1), .second, .val (.long p2), .second, .val (.long p3), .second, .val (.long p4), .second, .val (.long p5), .second, .val (.long p5), .second, .val (.long (p5 ^^^ (1 : Int64))), .second, .val (.long (p5 ^^^ (2 : Int64))), .second, .val (.long (p5 ^^^ (3 : Int64))), .second, .val (.long (p5 ^^^ (4 : Int64))), .second, .val (.ref b24), .val (.ref b26), .val (.ref b28)] [(.ref b28)]))
  obtain ⟨cq30, kq30, q30a, q30b, q30c⟩ := isOf hZ e29 Ex28
  obtain ⟨_, _, ⟨T30, L30, k30, n30⟩, -, X30, ⟨Lc30, hQ30, l30, y30, z30⟩, st30⟩ := X29.virtualBack hx (y := (⟨"com/example/outboxd/outboxd/relay/DrainSummary", "failed", "()J"⟩ : MethodName)) (z := (⟨"com/example/outboxd/outboxd/relay/DrainSummary", "failed", "()J"⟩ : MethodName)) hown (mvT hZ (hw _ (List.mem_of_getElem? (i := 34) rfl))) (mvT hZ (hw _ (List.mem_of_getElem? (i := 35) rfl))) (notFace_of_selects (args := #[]) (mvT hZ (hw _ (List.mem_of_getElem? (i := 37) rfl)))) (mvT hZ (hw _ (List.mem_of_getElem? (i := 37) rfl))) (mvT hZ (hw _ (List.mem_of_getElem? (i := 36) rfl))) (by decide) (backOf (W := 0) (rm5 l Z a0 hw [] b28 (p1 + (p5 ^^^ (1 : Int64))) T28.heap n0 ZZ F1_28) hZ (hw _ (List.mem_of_getElem? (i := 38) rfl)) (hw _ (List.mem_of_getElem? (i := 5) rfl)) (by decide) (by decide)) q30a q30c (g := (mkF m 101 #[.val (.long p0), .second, .val (.long p1), .second, .val (.long p2), .second, .val (.long p3), .second, .val (.long p4), .second, .val (.long p5), .second, .val (.long p5), .second, .val (.long (p5 ^^^ (1 : Int64))), .second, .val (.long (p5 ^^^ (2 : Int64))), .second, .val (.long (p5 ^^^ (3 : Int64))), .second, .val (.long (p5 ^^^ (4 : Int64))), .second, .val (.ref b24), .val (.ref b26), .val (.ref b28)] [(.ref b28)])) rfl (by rw [hml]; rfl) (Steps.refl _) (argsL := []) (rest := []) (lenOf pd_2 rfl) rfl (by show 2 * 0 + _ ≤ _; exact Nat.le_of_eq rfl) (hb hby at_101) (fun _ _ => ⟨rfl, e29, (by decide : 3 + 0 ≤ _), (by decide : 15 + 0 ≤ _)⟩)
  dsimp only [Pt.U, Pt.locs, Pt.cells, Pt.slots] at X30 l30 y30 z30 st30 hQ30
  subst l30 y30 z30
  obtain ⟨rfl, N30q, e30⟩ := hQ30
  replace N0 := Fr.app N0 N30q
  refine gt st30 ?_
  show Go p e below s QQ room_1.cells room_1.slots (T30.setTop (mkF m 104 #[.val (.long p0), .second, .val (.long p1), .second, .val (.long p2), .second, .val (.long p3), .second, .val (.long p4), .second, .val (.long p5), .second, .val (.long p5), .second, .val (.long (p5 ^^^ (1 : Int64))), .second, .val (.long (p5 ^^^ (2 : Int64))), .second, .val (.long (p5 ^^^ (3 : Int64))), .second, .val (.long (p5 ^^^ (4 : Int64))), .second, .val (.ref b24), .val (.ref b26), .val (.ref b28)] [(.long (p1 + (p5 ^^^ (1 : Int64))))]))
  refine gs (fun t => XS.lloadN X30.here hx rfl (hb hby at_104) rfl) ?_
  show Go p e below s QQ room_1.cells room_1.slots (T30.setTop (mkF m 105 #[.val (.long p0), .second, .val (.long p1), .second, .val (.long p2), .second, .val (.long p3), .second, .val (.long p4), .second, .val (.long p5), .second, .val (.long p5), .second, .val (.long (p5 ^^^ (1 : Int64))), .second, .val (.long (p5 ^^^ (2 : Int64))), .second, .val (.long (p5 ^^^ (3 : Int64))), .second, .val (.long (p5 ^^^ (4 : Int64))), .second, .val (.ref b24), .val (.ref b26), .val (.ref b28)] [(.long p1), (.long (p1 + (p5 ^^^ (1 : Int64))))]))
  refine gs (fun t => XS.lload X30.here hx rfl (hb hby at_105) rfl) ?_
  show Go p e below s QQ room_1.cells room_1.slots (T30.setTop (mkF m 107 #[.val (.long p0), .second, .val (.long p1), .second, .val (.long p2), .second, .val (.long p3), .second, .val (.long p4), .second, .val (.long p5), .second, .val (.long p5), .second, .val (.long (p5 ^^^ (1 : Int64))), .second, .val (.long (p5 ^^^ (2 : Int64))), .second, .val (.long (p5 ^^^ (3 : Int64))), .second, .val (.long (p5 ^^^ (4 : Int64))), .second, .val (.ref b24), .val (.ref b26), .val (.ref b28)] [(.long (p5 ^^^ (1 : Int64))), (.long p1), (.long (p1 + (p5 ^^^ (1 : Int64))))]))
  refine gs (fun t => XS.ladd X30.here hx rfl (hb hby at_107) rfl) ?_
  show Go p e below s QQ room_1.cells room_1.slots (T30.setTop (mkF m 108 #[.val (.long p0), .second, .val (.long p1), .second, .val (.long p2), .second, .val (.long p3), .second, .val (.long p4), .second, .val (.long p5), .second, .val (.long p5), .second, .val (.long (p5 ^^^ (1 : Int64))), .second, .val (.long (p5 ^^^ (2 : Int64))), .second, .val (.long (p5 ^^^ (3 : Int64))), .second, .val (.long (p5 ^^^ (4 : Int64))), .second, .val (.ref b24), .val (.ref b26), .val (.ref b28)] [(.long (p1 + (p5 ^^^ (1 : Int64)))), (.long (p1 + (p5 ^^^ (1 : Int64))))]))
  refine gs (fun t => XS.lcmp X30.here hx rfl (hb hby at_108) rfl) ?_
  show Go p e below s QQ room_1.cells room_1.slots (T30.setTop (mkF m 109 #[.val (.long p0), .second, .val (.long p1), .second, .val (.long p2), .second, .val (.long p3), .second, .val (.long p4), .second, .val (.long p5), .second, .val (.long p5), .second, .val (.long (p5 ^^^ (1 : Int64))), .second, .val (.long (p5 ^^^ (2 : Int64))), .second, .val (.long (p5 ^^^ (3 : Int64))), .second, .val (.long (p5 ^^^ (4 : Int64))), .second, .val (.ref b24), .val (.ref b26), .val (.ref b28)] [(.int (lcmpW (p1 + (p5 ^^^ (1 : Int64))) (p1 + (p5 ^^^ (1 : Int64)))))]))
  refine gs (fun t => XS.ifNo X30.here hx rfl (hb hby at_109) rfl ((if0 _ _).trans (teq ((lw_eq _ _).mpr rfl : (lcmpW (p1 + (p5 ^^^ (1 : Int64))) (p1 + (p5 ^^^ (1 : Int64)))) = (0 : Int32))).2)) ?_
  show Go p e below s QQ room_1.cells room_1.slots (T30.setTop (mkF m 112 #[.val (.long p0), .second, .val (.long p1), .second, .val (.long p2), .second, .val (.long p3), .second, .val (.long p4), .second, .val (.long p5), .second, .val (.long p5), .second, .val (.long (p5 ^^^ (1 : Int64))), .second, .val (.long (p5 ^^^ (2 : Int64))), .second, .val (.long (p5 ^^^ (3 : Int64))), .second, .val (.long (p5 ^^^ (4 : Int64))), .second, .val (.ref b24), .val (.ref b26), .val (.ref b28)] []))
  refine gs (fun t => XS.aload X30.here hx rfl (hb hby at_112) rfl rfl) ?_
  show Go p e below s QQ room_1.cells room_1.slots (T30.setTop (mkF m 114 #[.val (.long p0), .second, .val (.long p1), .second, .val (.long p2), .second, .val (.long p3), .second, .val (.long p4), .second, .val (.long p5), .second, .val (.long p5), .second, .val (.long (p5 ^^^ (1 : Int64))), .second, .val (.long (p5 ^^^ (2 : Int64))), .second, .val (.long (p5 ^^^ (3 : Int64))), .second, .val (.long (p5 ^^^ (4 : Int64))), .second, .val (.ref b24), .val (.ref b26), .val (.ref b28)] [(.ref b28)]))
  obtain ⟨cq31, kq31, q31a, q31b, q31c⟩ := isOf hZ e30 Ex28
  obtain ⟨_, _, ⟨T31, L31, k31, n31⟩, -, X31, ⟨Lc31, hQ31, l31, y31, z31⟩, st31⟩ := X30.virtualBack hx (y := (⟨"com/example/outboxd/outboxd/relay/DrainSummary", "dead", "()J"⟩ : MethodName)) (z := (⟨"com/example/outboxd/outboxd/relay/DrainSummary", "dead", "()J"⟩ : MethodName)) hown (mvT hZ (hw _ (List.mem_of_getElem? (i := 39) rfl))) (mvT hZ (hw _ (List.mem_of_getElem? (i := 40) rfl))) (notFace_of_selects (args := #[]) (mvT hZ (hw _ (List.mem_of_getElem? (i := 42) rfl)))) (mvT hZ (hw _ (List.mem_of_getElem? (i := 42) rfl))) (mvT hZ (hw _ (List.mem_of_getElem? (i := 41) rfl))) (by decide) (backOf (W := 0) (rm6 l Z a0 hw [] b28 (p2 + (p5 ^^^ (2 : Int64))) T28.heap n0 ZZ F2_28) hZ (hw _ (List.mem_of_getElem? (i := 43) rfl)) (hw _ (List.mem_of_getElem? (i := 5) rfl)) (by decide) (by decide)) q31a q31c (g := (mkF m 114 #[.val (.long p0), .second, .val (.long p1), .second, .val (.long p2), .second, .val (.long p3), .second, .val (.long p4), .second, .val (.long p5), .second, .val (.long p5), .second, .val (.long (p5 ^^^ (1 : Int64))), .second, .val (.long (p5 ^^^ (2 : Int64))), .second, .val (.long (p5 ^^^ (3 : Int64))), .second, .val (.long (p5 ^^^ (4 : Int64))), .second, .val (.ref b24), .val (.ref b26), .val (.ref b28)] [(.ref b28)])) rfl (by rw [hml]; rfl) (Steps.refl _) (argsL := []) (rest := []) (lenOf pd_2 rfl) rfl (by show 2 * 0 + _ ≤ _; exact Nat.le_of_eq rfl) (hb hby at_114) (fun _ _ => ⟨rfl, e30, (by decide : 3 + 0 ≤ _), (by decide : 15 + 0 ≤ _)⟩)
  dsimp only [Pt.U, Pt.locs, Pt.cells, Pt.slots] at X31 l31 y31 z31 st31 hQ31
  subst l31 y31 z31
  obtain ⟨rfl, N31q, e31⟩ := hQ31
  replace N0 := Fr.app N0 N31q
  refine gt st31 ?_
  show Go p e below s QQ room_1.cells room_1.slots (T31.setTop (mkF m 117 #[.val (.long p0), .second, .val (.long p1), .second, .val (.long p2), .second, .val (.long p3), .second, .val (.long p4), .second, .val (.long p5), .second, .val (.long p5), .second, .val (.long (p5 ^^^ (1 : Int64))), .second, .val (.long (p5 ^^^ (2 : Int64))), .second, .val (.long (p5 ^^^ (3 : Int64))), .second, .val (.long (p5 ^^^ (4 : Int64))), .second, .val (.ref b24), .val (.ref b26), .val (.ref b28)] [(.long (p2 + (p5 ^^^ (2 : Int64))))]))
  refine gs (fun t => XS.lload X31.here hx rfl (hb hby at_117) rfl) ?_
  show Go p e below s QQ room_1.cells room_1.slots (T31.setTop (mkF m 119 #[.val (.long p0), .second, .val (.long p1), .second, .val (.long p2), .second, .val (.long p3), .second, .val (.long p4), .second, .val (.long p5), .second, .val (.long p5), .second, .val (.long (p5 ^^^ (1 : Int64))), .second, .val (.long (p5 ^^^ (2 : Int64))), .second, .val (.long (p5 ^^^ (3 : Int64))), .second, .val (.long (p5 ^^^ (4 : Int64))), .second, .val (.ref b24), .val (.ref b26), .val (.ref b28)] [(.long p2), (.long (p2 + (p5 ^^^ (2 : Int64))))]))
  refine gs (fun t => XS.lload X31.here hx rfl (hb hby at_119) rfl) ?_
  show Go p e below s QQ room_1.cells room_1.slots (T31.setTop (mkF m 121 #[.val (.long p0), .second, .val (.long p1), .second, .val (.long p2), .second, .val (.long p3), .second, .val (.long p4), .second, .val (.long p5), .second, .val (.long p5), .second, .val (.long (p5 ^^^ (1 : Int64))), .second, .val (.long (p5 ^^^ (2 : Int64))), .second, .val (.long (p5 ^^^ (3 : Int64))), .second, .val (.long (p5 ^^^ (4 : Int64))), .second, .val (.ref b24), .val (.ref b26), .val (.ref b28)] [(.long (p5 ^^^ (2 : Int64))), (.long p2), (.long (p2 + (p5 ^^^ (2 : Int64))))]))
  refine gs (fun t => XS.ladd X31.here hx rfl (hb hby at_121) rfl) ?_
  show Go p e below s QQ room_1.cells room_1.slots (T31.setTop (mkF m 122 #[.val (.long p0), .second, .val (.long p1), .second, .val (.long p2), .second, .val (.long p3), .second, .val (.long p4), .second, .val (.long p5), .second, .val (.long p5), .second, .val (.long (p5 ^^^ (1 : Int64))), .second, .val (.long (p5 ^^^ (2 : Int64))), .second, .val (.long (p5 ^^^ (3 : Int64))), .second, .val (.long (p5 ^^^ (4 : Int64))), .second, .val (.ref b24), .val (.ref b26), .val (.ref b28)] [(.long (p2 + (p5 ^^^ (2 : Int64)))), (.long (p2 + (p5 ^^^ (2 : Int64))))]))
  refine gs (fun t => XS.lcmp X31.here hx rfl (hb hby at_122) rfl) ?_
  show Go p e below s QQ room_1.cells room_1.slots (T31.setTop (mkF m 123 #[.val (.long p0), .second, .val (.long p1), .second, .val (.long p2), .second, .val (.long p3), .second, .val (.long p4), .second, .val (.long p5), .second, .val (.long p5), .second, .val (.long (p5 ^^^ (1 : Int64))), .second, .val (.long (p5 ^^^ (2 : Int64))), .second, .val (.long (p5 ^^^ (3 : Int64))), .second, .val (.long (p5 ^^^ (4 : Int64))), .second, .val (.ref b24), .val (.ref b26), .val (.ref b28)] [(.int (lcmpW (p2 + (p5 ^^^ (2 : Int64))) (p2 + (p5 ^^^ (2 : Int64)))))]))
  refine gs (fun t => XS.ifNo X31.here hx rfl (hb hby at_123) rfl ((if0 _ _).trans (teq ((lw_eq _ _).mpr rfl : (lcmpW (p2 + (p5 ^^^ (2 : Int64))) (p2 + (p5 ^^^ (2 : Int64)))) = (0 : Int32))).2)) ?_
  show Go p e below s QQ room_1.cells room_1.slots (T31.setTop (mkF m 126 #[.val (.long p0), .second, .val (.long p1), .second, .val (.long p2), .second, .val (.long p3), .second, .val (.long p4), .second, .val (.long p5), .second, .val (.long p5), .second, .val (.long (p5 ^^^ (1 : Int64))), .second, .val (.long (p5 ^^^ (2 : Int64))), .second, .val (.long (p5 ^^^ (3 : Int64))), .second, .val (.long (p5 ^^^ (4 : Int64))), .second, .val (.ref b24), .val (.ref b26), .val (.ref b28)] []))
  refine gs (fun t => XS.aload X31.here hx rfl (hb hby at_126) rfl rfl) ?_
  show Go p e below s QQ room_1.cells room_1.slots (T31.setTop (mkF m 128 #[.val (.long p0), .second, .val (.long p1), .second, .val (.long p2), .second, .val (.long p3), .second, .val (.long p4), .second, .val (.long p5), .second, .val (.long p5), .second, .val (.long (p5 ^^^ (1 : Int64))), .second, .val (.long (p5 ^^^ (2 : Int64))), .second, .val (.long (p5 ^^^ (3 : Int64))), .second, .val (.long (p5 ^^^ (4 : Int64))), .second, .val (.ref b24), .val (.ref b26), .val (.ref b28)] [(.ref b28)]))
  obtain ⟨cq32, kq32, q32a, q32b, q32c⟩ := isOf hZ e31 Ex28
  obtain ⟨_, _, ⟨T32, L32, k32, n32⟩, -, X32, ⟨Lc32, hQ32, l32, y32, z32⟩, st32⟩ := X31.virtualBack hx (y := (⟨"com/example/outboxd/outboxd/relay/DrainSummary", "givenBack", "()J"⟩ : MethodName)) (z := (⟨"com/example/outboxd/outboxd/relay/DrainSummary", "givenBack", "()J"⟩ : MethodName)) hown (mvT hZ (hw _ (List.mem_of_getElem? (i := 44) rfl))) (mvT hZ (hw _ (List.mem_of_getElem? (i := 45) rfl))) (notFace_of_selects (args := #[]) (mvT hZ (hw _ (List.mem_of_getElem? (i := 47) rfl)))) (mvT hZ (hw _ (List.mem_of_getElem? (i := 47) rfl))) (mvT hZ (hw _ (List.mem_of_getElem? (i := 46) rfl))) (by decide) (backOf (W := 0) (rm7 l Z a0 hw [] b28 (p3 + (p5 ^^^ (3 : Int64))) T28.heap n0 ZZ F3_28) hZ (hw _ (List.mem_of_getElem? (i := 48) rfl)) (hw _ (List.mem_of_getElem? (i := 5) rfl)) (by decide) (by decide)) q32a q32c (g := (mkF m 128 #[.val (.long p0), .second, .val (.long p1), .second, .val (.long p2), .second, .val (.long p3), .second, .val (.long p4), .second, .val (.long p5), .second, .val (.long p5), .second, .val (.long (p5 ^^^ (1 : Int64))), .second, .val (.long (p5 ^^^ (2 : Int64))), .second, .val (.long (p5 ^^^ (3 : Int64))), .second, .val (.long (p5 ^^^ (4 : Int64))), .second, .val (.ref b24), .val (.ref b26), .val (.ref b28)] [(.ref b28)])) rfl (by rw [hml]; rfl) (Steps.refl _) (argsL := []) (rest := []) (lenOf pd_2 rfl) rfl (by show 2 * 0 + _ ≤ _; exact Nat.le_of_eq rfl) (hb hby at_128) (fun _ _ => ⟨rfl, e31, (by decide : 3 + 0 ≤ _), (by decide : 15 + 0 ≤ _)⟩)
  dsimp only [Pt.U, Pt.locs, Pt.cells, Pt.slots] at X32 l32 y32 z32 st32 hQ32
  subst l32 y32 z32
  obtain ⟨rfl, N32q, e32⟩ := hQ32
  replace N0 := Fr.app N0 N32q
  refine gt st32 ?_
  show Go p e below s QQ room_1.cells room_1.slots (T32.setTop (mkF m 131 #[.val (.long p0), .second, .val (.long p1), .second, .val (.long p2), .second, .val (.long p3), .second, .val (.long p4), .second, .val (.long p5), .second, .val (.long p5), .second, .val (.long (p5 ^^^ (1 : Int64))), .second, .val (.long (p5 ^^^ (2 : Int64))), .second, .val (.long (p5 ^^^ (3 : Int64))), .second, .val (.long (p5 ^^^ (4 : Int64))), .second, .val (.ref b24), .val (.ref b26), .val (.ref b28)] [(.long (p3 + (p5 ^^^ (3 : Int64))))]))
  refine gs (fun t => XS.lload X32.here hx rfl (hb hby at_131) rfl) ?_
  show Go p e below s QQ room_1.cells room_1.slots (T32.setTop (mkF m 133 #[.val (.long p0), .second, .val (.long p1), .second, .val (.long p2), .second, .val (.long p3), .second, .val (.long p4), .second, .val (.long p5), .second, .val (.long p5), .second, .val (.long (p5 ^^^ (1 : Int64))), .second, .val (.long (p5 ^^^ (2 : Int64))), .second, .val (.long (p5 ^^^ (3 : Int64))), .second, .val (.long (p5 ^^^ (4 : Int64))), .second, .val (.ref b24), .val (.ref b26), .val (.ref b28)] [(.long p3), (.long (p3 + (p5 ^^^ (3 : Int64))))]))
  refine gs (fun t => XS.lload X32.here hx rfl (hb hby at_133) rfl) ?_
  show Go p e below s QQ room_1.cells room_1.slots (T32.setTop (mkF m 135 #[.val (.long p0), .second, .val (.long p1), .second, .val (.long p2), .second, .val (.long p3), .second, .val (.long p4), .second, .val (.long p5), .second, .val (.long p5), .second, .val (.long (p5 ^^^ (1 : Int64))), .second, .val (.long (p5 ^^^ (2 : Int64))), .second, .val (.long (p5 ^^^ (3 : Int64))), .second, .val (.long (p5 ^^^ (4 : Int64))), .second, .val (.ref b24), .val (.ref b26), .val (.ref b28)] [(.long (p5 ^^^ (3 : Int64))), (.long p3), (.long (p3 + (p5 ^^^ (3 : Int64))))]))
  refine gs (fun t => XS.ladd X32.here hx rfl (hb hby at_135) rfl) ?_
  show Go p e below s QQ room_1.cells room_1.slots (T32.setTop (mkF m 136 #[.val (.long p0), .second, .val (.long p1), .second, .val (.long p2), .second, .val (.long p3), .second, .val (.long p4), .second, .val (.long p5), .second, .val (.long p5), .second, .val (.long (p5 ^^^ (1 : Int64))), .second, .val (.long (p5 ^^^ (2 : Int64))), .second, .val (.long (p5 ^^^ (3 : Int64))), .second, .val (.long (p5 ^^^ (4 : Int64))), .second, .val (.ref b24), .val (.ref b26), .val (.ref b28)] [(.long (p3 + (p5 ^^^ (3 : Int64)))), (.long (p3 + (p5 ^^^ (3 : Int64))))]))
  refine gs (fun t => XS.lcmp X32.here hx rfl (hb hby at_136) rfl) ?_
  show Go p e below s QQ room_1.cells room_1.slots (T32.setTop (mkF m 137 #[.val (.long p0), .second, .val (.long p1), .second, .val (.long p2), .second, .val (.long p3), .second, .val (.long p4), .second, .val (.long p5), .second, .val (.long p5), .second, .val (.long (p5 ^^^ (1 : Int64))), .second, .val (.long (p5 ^^^ (2 : Int64))), .second, .val (.long (p5 ^^^ (3 : Int64))), .second, .val (.long (p5 ^^^ (4 : Int64))), .second, .val (.ref b24), .val (.ref b26), .val (.ref b28)] [(.int (lcmpW (p3 + (p5 ^^^ (3 : Int64))) (p3 + (p5 ^^^ (3 : Int64)))))]))
  refine gs (fun t => XS.ifNo X32.here hx rfl (hb hby at_137) rfl ((if0 _ _).trans (teq ((lw_eq _ _).mpr rfl : (lcmpW (p3 + (p5 ^^^ (3 : Int64))) (p3 + (p5 ^^^ (3 : Int64)))) = (0 : Int32))).2)) ?_
  show Go p e below s QQ room_1.cells room_1.slots (T32.setTop (mkF m 140 #[.val (.long p0), .second, .val (.long p1), .second, .val (.long p2), .second, .val (.long p3), .second, .val (.long p4), .second, .val (.long p5), .second, .val (.long p5), .second, .val (.long (p5 ^^^ (1 : Int64))), .second, .val (.long (p5 ^^^ (2 : Int64))), .second, .val (.long (p5 ^^^ (3 : Int64))), .second, .val (.long (p5 ^^^ (4 : Int64))), .second, .val (.ref b24), .val (.ref b26), .val (.ref b28)] []))
  refine gs (fun t => XS.aload X32.here hx rfl (hb hby at_140) rfl rfl) ?_
  show Go p e below s QQ room_1.cells room_1.slots (T32.setTop (mkF m 142 #[.val (.long p0), .second, .val (.long p1), .second, .val (.long p2), .second, .val (.long p3), .second, .val (.long p4), .second, .val (.long p5), .second, .val (.long p5), .second, .val (.long (p5 ^^^ (1 : Int64))), .second, .val (.long (p5 ^^^ (2 : Int64))), .second, .val (.long (p5 ^^^ (3 : Int64))), .second, .val (.long (p5 ^^^ (4 : Int64))), .second, .val (.ref b24), .val (.ref b26), .val (.ref b28)] [(.ref b28)]))
  obtain ⟨cq33, kq33, q33a, q33b, q33c⟩ := isOf hZ e32 Ex28
  obtain ⟨_, _, ⟨T33, L33, k33, n33⟩, -, X33, ⟨Lc33, hQ33, l33, y33, z33⟩, st33⟩ := X32.virtualBack hx (y := (⟨"com/example/outboxd/outboxd/relay/DrainSummary", "lost", "()J"⟩ : MethodName)) (z := (⟨"com/example/outboxd/outboxd/relay/DrainSummary", "lost", "()J"⟩ : MethodName)) hown (mvT hZ (hw _ (List.mem_of_getElem? (i := 49) rfl))) (mvT hZ (hw _ (List.mem_of_getElem? (i := 50) rfl))) (notFace_of_selects (args := #[]) (mvT hZ (hw _ (List.mem_of_getElem? (i := 52) rfl)))) (mvT hZ (hw _ (List.mem_of_getElem? (i := 52) rfl))) (mvT hZ (hw _ (List.mem_of_getElem? (i := 51) rfl))) (by decide) (backOf (W := 0) (rm8 l Z a0 hw [] b28 (p4 + (p5 ^^^ (4 : Int64))) T28.heap n0 ZZ F4_28) hZ (hw _ (List.mem_of_getElem? (i := 53) rfl)) (hw _ (List.mem_of_getElem? (i := 5) rfl)) (by decide) (by decide)) q33a q33c (g := (mkF m 142 #[.val (.long p0), .second, .val (.long p1), .second, .val (.long p2), .second, .val (.long p3), .second, .val (.long p4), .second, .val (.long p5), .second, .val (.long p5), .second, .val (.long (p5 ^^^ (1 : Int64))), .second, .val (.long (p5 ^^^ (2 : Int64))), .second, .val (.long (p5 ^^^ (3 : Int64))), .second, .val (.long (p5 ^^^ (4 : Int64))), .second, .val (.ref b24), .val (.ref b26), .val (.ref b28)] [(.ref b28)])) rfl (by rw [hml]; rfl) (Steps.refl _) (argsL := []) (rest := []) (lenOf pd_2 rfl) rfl (by show 2 * 0 + _ ≤ _; exact Nat.le_of_eq rfl) (hb hby at_142) (fun _ _ => ⟨rfl, e32, (by decide : 3 + 0 ≤ _), (by decide : 15 + 0 ≤ _)⟩)
  dsimp only [Pt.U, Pt.locs, Pt.cells, Pt.slots] at X33 l33 y33 z33 st33 hQ33
  subst l33 y33 z33
  obtain ⟨rfl, N33q, e33⟩ := hQ33
  replace N0 := Fr.app N0 N33q
  refine gt st33 ?_
  show Go p e below s QQ room_1.cells room_1.slots (T33.setTop (mkF m 145 #[.val (.long p0), .second, .val (.long p1), .second, .val (.long p2), .second, .val (.long p3), .second, .val (.long p4), .second, .val (.long p5), .second, .val (.long p5), .second, .val (.long (p5 ^^^ (1 : Int64))), .second, .val (.long (p5 ^^^ (2 : Int64))), .second, .val (.long (p5 ^^^ (3 : Int64))), .second, .val (.long (p5 ^^^ (4 : Int64))), .second, .val (.ref b24), .val (.ref b26), .val (.ref b28)] [(.long (p4 + (p5 ^^^ (4 : Int64))))]))
  refine gs (fun t => XS.lload X33.here hx rfl (hb hby at_145) rfl) ?_
  show Go p e below s QQ room_1.cells room_1.slots (T33.setTop (mkF m 147 #[.val (.long p0), .second, .val (.long p1), .second, .val (.long p2), .second, .val (.long p3), .second, .val (.long p4), .second, .val (.long p5), .second, .val (.long p5), .second, .val (.long (p5 ^^^ (1 : Int64))), .second, .val (.long (p5 ^^^ (2 : Int64))), .second, .val (.long (p5 ^^^ (3 : Int64))), .second, .val (.long (p5 ^^^ (4 : Int64))), .second, .val (.ref b24), .val (.ref b26), .val (.ref b28)] [(.long p4), (.long (p4 + (p5 ^^^ (4 : Int64))))]))
  refine gs (fun t => XS.lload X33.here hx rfl (hb hby at_147) rfl) ?_
  show Go p e below s QQ room_1.cells room_1.slots (T33.setTop (mkF m 149 #[.val (.long p0), .second, .val (.long p1), .second, .val (.long p2), .second, .val (.long p3), .second, .val (.long p4), .second, .val (.long p5), .second, .val (.long p5), .second, .val (.long (p5 ^^^ (1 : Int64))), .second, .val (.long (p5 ^^^ (2 : Int64))), .second, .val (.long (p5 ^^^ (3 : Int64))), .second, .val (.long (p5 ^^^ (4 : Int64))), .second, .val (.ref b24), .val (.ref b26), .val (.ref b28)] [(.long (p5 ^^^ (4 : Int64))), (.long p4), (.long (p4 + (p5 ^^^ (4 : Int64))))]))
  refine gs (fun t => XS.ladd X33.here hx rfl (hb hby at_149) rfl) ?_
  show Go p e below s QQ room_1.cells room_1.slots (T33.setTop (mkF m 150 #[.val (.long p0), .second, .val (.long p1), .second, .val (.long p2), .second, .val (.long p3), .second, .val (.long p4), .second, .val (.long p5), .second, .val (.long p5), .second, .val (.long (p5 ^^^ (1 : Int64))), .second, .val (.long (p5 ^^^ (2 : Int64))), .second, .val (.long (p5 ^^^ (3 : Int64))), .second, .val (.long (p5 ^^^ (4 : Int64))), .second, .val (.ref b24), .val (.ref b26), .val (.ref b28)] [(.long (p4 + (p5 ^^^ (4 : Int64)))), (.long (p4 + (p5 ^^^ (4 : Int64))))]))
  refine gs (fun t => XS.lcmp X33.here hx rfl (hb hby at_150) rfl) ?_
  show Go p e below s QQ room_1.cells room_1.slots (T33.setTop (mkF m 151 #[.val (.long p0), .second, .val (.long p1), .second, .val (.long p2), .second, .val (.long p3), .second, .val (.long p4), .second, .val (.long p5), .second, .val (.long p5), .second, .val (.long (p5 ^^^ (1 : Int64))), .second, .val (.long (p5 ^^^ (2 : Int64))), .second, .val (.long (p5 ^^^ (3 : Int64))), .second, .val (.long (p5 ^^^ (4 : Int64))), .second, .val (.ref b24), .val (.ref b26), .val (.ref b28)] [(.int (lcmpW (p4 + (p5 ^^^ (4 : Int64))) (p4 + (p5 ^^^ (4 : Int64)))))]))
  refine gs (fun t => XS.ifNo X33.here hx rfl (hb hby at_151) rfl ((if0 _ _).trans (teq ((lw_eq _ _).mpr rfl : (lcmpW (p4 + (p5 ^^^ (4 : Int64))) (p4 + (p5 ^^^ (4 : Int64)))) = (0 : Int32))).2)) ?_
  show Go p e below s QQ room_1.cells room_1.slots (T33.setTop (mkF m 154 #[.val (.long p0), .second, .val (.long p1), .second, .val (.long p2), .second, .val (.long p3), .second, .val (.long p4), .second, .val (.long p5), .second, .val (.long p5), .second, .val (.long (p5 ^^^ (1 : Int64))), .second, .val (.long (p5 ^^^ (2 : Int64))), .second, .val (.long (p5 ^^^ (3 : Int64))), .second, .val (.long (p5 ^^^ (4 : Int64))), .second, .val (.ref b24), .val (.ref b26), .val (.ref b28)] []))
  refine gs (fun t => XS.iconst X33.here hx rfl (hb hby at_154)) ?_
  show Go p e below s QQ room_1.cells room_1.slots (T33.setTop (mkF m 155 #[.val (.long p0), .second, .val (.long p1), .second, .val (.long p2), .second, .val (.long p3), .second, .val (.long p4), .second, .val (.long p5), .second, .val (.long p5), .second, .val (.long (p5 ^^^ (1 : Int64))), .second, .val (.long (p5 ^^^ (2 : Int64))), .second, .val (.long (p5 ^^^ (3 : Int64))), .second, .val (.long (p5 ^^^ (4 : Int64))), .second, .val (.ref b24), .val (.ref b26), .val (.ref b28)] [(.int (1 : Int32))]))
  refine gs (fun t => XS.goto X33.here hx rfl (pc0 := 155) (pc' := 159) rfl (hb hby at_155) (by decide) (by decide)) ?_
  show Go p e below s QQ room_1.cells room_1.slots (T33.setTop (mkF m 159 #[.val (.long p0), .second, .val (.long p1), .second, .val (.long p2), .second, .val (.long p3), .second, .val (.long p4), .second, .val (.long p5), .second, .val (.long p5), .second, .val (.long (p5 ^^^ (1 : Int64))), .second, .val (.long (p5 ^^^ (2 : Int64))), .second, .val (.long (p5 ^^^ (3 : Int64))), .second, .val (.long (p5 ^^^ (4 : Int64))), .second, .val (.ref b24), .val (.ref b26), .val (.ref b28)] [(.int (1 : Int32))]))
  exact goB X33 hx Bd.notSynchronized Bd.returns (by simp) (w := (1 : Int32)) (by first | rfl | decide) (hb hby at_159) (by rw [← hQQ, e33]; exact ⟨rfl, N0⟩) (by decide) (by decide)
set_option maxRecDepth 65536 in
set_option maxHeartbeats 40000000 in
theorem comes_1 {Post : Tables → Env → Array Value → State → Outcome → State → Prop} (hpost : ∀ tb e args s v u, (limb_1_1.after args s (.returned v) u = true ∧ limb_1_2.after args s (.returned v) u = true ∧ True) → FrameEnd s (.returned v) u (Jvm.fieldLocs frame_1_writes args s ++ Jvm.arrayLocs frame_1_arrays args s ++ Jvm.staticLocs frame_1_statics s) 16 128 → Post tb e args s (.returned v) u) :
    ArmFor flags0 classFile x code maxLocals ret World_1 tables_1 room_1 Calls_1 rest_1 Pre_1 Post := by
  intro l hfl _ _ p e ha hc hk s m args below hf hA hF happ hP
  obtain ⟨hcalls, hrest, hpre⟩ := hP
  obtain ⟨-, -, -, hnamed, -, -, -, hat⟩ := (Spec.applies_iff hf).mp happ
  obtain ⟨hg, hn⟩ := and_e (Cond.before_iff.mp (show (Jvm.Cond.and given_1 narrow_1).before args s = true from hpre))
  obtain ⟨gc, hg0⟩ := and_e hg
  obtain ⟨w0, w1, w2, w3, w4, w5, rfl⟩ : ∃ w0 w1 w2 w3 w4 w5 : Value, args = #[w0, w1, w2, w3, w4, w5] := by
    have hs : args.size = 6 := by simpa [Cond.value, given_1] using gc
    obtain ⟨L⟩ := args
    match L, hs with
    | [w0, w1, w2, w3, w4, w5], _ => exact ⟨w0, w1, w2, w3, w4, w5, rfl⟩
  obtain ⟨ga0, hg1⟩ := and_e hg0
  obtain ⟨i0, ei0⟩ := isL_v ga0
  obtain rfl : w0 = (.long i0) := Option.some.inj ei0
  obtain ⟨ga1, hg2⟩ := and_e hg1
  obtain ⟨i1, ei1⟩ := isL_v ga1
  obtain rfl : w1 = (.long i1) := Option.some.inj ei1
  obtain ⟨ga2, hg3⟩ := and_e hg2
  obtain ⟨i2, ei2⟩ := isL_v ga2
  obtain rfl : w2 = (.long i2) := Option.some.inj ei2
  obtain ⟨ga3, hg4⟩ := and_e hg3
  obtain ⟨i3, ei3⟩ := isL_v ga3
  obtain rfl : w3 = (.long i3) := Option.some.inj ei3
  obtain ⟨ga4, hg5⟩ := and_e hg4
  obtain ⟨i4, ei4⟩ := isL_v ga4
  obtain rfl : w4 = (.long i4) := Option.some.inj ei4
  obtain ⟨i5, ei5⟩ := isL_v hg5
  obtain rfl : w5 = (.long i5) := Option.some.inj ei5
  have hw := fun d (hd : d ∈ tables_1) => atoms_spec (ws := Jvm.Cond.code x code maxLocals ret :: tables_1) hat d (List.mem_cons_of_mem _ hd)
  have hfit : Fit s := fun {y c} hc i hi => by
    obtain ⟨ha, rfl⟩ := Array.getElem?_eq_some_iff.mp hc
    have q := List.all_eq_true.mp ((Array.all_eq_true_iff_forall_mem.mp hF) _ (Array.getElem_mem ha)) i (List.mem_range.mpr hi)
    simpa [Array.getElem?_eq_getElem hi] using q
  obtain ⟨n, o, h1, h2, h3, _, L, rfl, ⟨rfl, N⟩, hq⟩ := rm0 l s _ hw tables_1 i0 i1 i2 i3 i4 i5 s.heap s.heap.size (Nat.le_refl _)  p e ha hc hk s m _ below hf ((Spec.applies_iff_loose hf).mp happ).1 ⟨rfl, State.Warmed39.refl s, rfl⟩ trivial
  refine ⟨n, _, h1, h2, h3, hpost _ _ _ _ _ _ ⟨Cond.after_iff.mpr rfl, Cond.after_iff.mpr (eq_i res_at (Term.int_eval (1)) rfl), trivial⟩ ⟨hq.1, hq.2.1, (hq.2.2.sift fun y hy => Or.inr (N y hy)).mono (by decide) (by decide)⟩⟩
theorem main_1_1 : Claimed_1_1 := comes_1 fun _ _ _ _ _ _ h hF => ⟨h.1, hF⟩
theorem main_1_2 : Claimed_1_2 := comes_1 fun _ _ _ _ _ _ h hF => ⟨h.2.1, hF⟩
end Jvm.Pilot.@@N@@
namespace Jvm.Pilot.@@N@@
open Jvm Jvm.ClassFile Sem Op Lib Jvm.Free Jvm.Stand Jvm.Pilot.@@N@@.Jvm.D
/-! MADE BY PROGRAM (witnessworld.py) out of the Statement's table words and the real class files: 9 classes; the members and pool entries that the words name. The judged class is class 1, her method 1. -/
namespace start1
open Jvm.ClassFile
def u (s : String) : CpInfo := .utf8 (stringToUtf16 s)
/-- a pool by its gaps: so many unusable entries, then the entry; so many at the end -/
def gap : Nat → List CpInfo → List CpInfo
  | 0, r => r
  | n + 1, r => .unusable :: gap n r
def poolList (es : List (Nat × CpInfo)) (last : Nat) : List CpInfo := es.foldr (fun e r => gap e.1 (e.2 :: r)) (gap last [])
def pool (es : List (Nat × CpInfo)) (last : Nat) : Array CpInfo := ⟨poolList es last⟩
def fileOf (pool : Array CpInfo) (this : Nat) (attrs : Array Attribute := #[]) (ms : Array MethodInfo := #[]) (fl : Nat := 33) (sup : Nat := 0) (ifs : Array Nat := #[]) (fds : Array FieldInfo := #[]) : ClassFile where
  minorVersion := 0
  majorVersion := 65
  constantPool := pool
  accessFlags := fl
  thisClass := this
  superClass := sup
  interfaces := ifs
  fields := fds
  methods := ms
  attributes := attrs
def plain (name : String) (sup : Option ClassId) : Class where
  name := name
  kind := .ordinary
  loader := none
  accessFlags := 33
  super := sup
  interfaces := #[]
  cf := none
  fields := #[]
  methods := #[]
  instanceTypes := #[]
  staticTypes := #[]
  resolved := #[]
  callSites := []
  init := .initialized
  statics := none
  mirror := none

def pool0 : Array CpInfo := pool [(5, u "<init>"), (0, u "()V"), (1, .class_ 10), (1, u "java/lang/Object")] 113

def k0c0 : Code := { maxStack := 0, maxLocals := 1, code := object_method_1_code, exceptionTable := #[], attributes := #[] }
def k0m0 : Method := { name := "<init>", desc := "()V", sig := { parameters := [], returnType := none }, accessFlags := 1, code := some k0c0 }
/-- java/lang/Object -/
def k0 : Class := { plain "java/lang/Object" none with
  accessFlags := 33
  interfaces := #[]
  cf := some (fileOf pool0 8 #[] #[{ accessFlags := 1, nameIndex := 5, descriptorIndex := 6, attributes := #[] }] 33 0 #[] #[])
  fields := #[]
  methods := #[k0m0]
  instanceTypes := #[]
  staticTypes := #[]
  resolved := Array.replicate 124 none
  statics := none }

def pool1 : Array CpInfo := pool [(2, .class_ 4), (1, u "java/lang/Object"), (0, u "<init>"), (0, u "()V"), (0, .long 2), (1, .long 3), (1, .long 4), (1, .class_ 14), (0, u "com/example/outboxd/outboxd/relay/DrainSummary"), (0, .methodref 13 16), (0, .nameAndType 5 17), (0, u "(JJJJJ)V"), (0, .methodref 13 19), (0, .nameAndType 20 21), (0, u "plus"), (0, u "(Lcom/example/outboxd/outboxd/relay/DrainSummary;)Lcom/example/outboxd/outboxd/relay/DrainSummary;"), (0, .methodref 13 23), (0, .nameAndType 24 25), (0, u "relayed"), (0, u "()J"), (0, .methodref 13 27), (0, .nameAndType 28 25), (0, u "failed"), (0, .methodref 13 30), (0, .nameAndType 31 25), (0, u "dead"), (0, .methodref 13 33), (0, .nameAndType 34 25), (0, u "givenBack"), (0, .methodref 13 36), (0, .nameAndType 37 25), (0, u "lost"), (0, .class_ 39), (0, u "com/example/outboxd/outboxd/relay/DrainSummaryPlusPinLaw"), (2, u "law"), (0, u "(JJJJJJ)Z")] 3

def k1m0 : Method := { name := "<init>", desc := "()V", sig := { parameters := [], returnType := none }, accessFlags := 1, code := none }
def k1c1 : Code := { maxStack := 12, maxLocals := 25, code := code, exceptionTable := #[], attributes := #[] }
def k1m1 : Method := { name := "law", desc := "(JJJJJJ)Z", sig := { parameters := [.long, .long, .long, .long, .long, .long], returnType := some .boolean }, accessFlags := 9, code := some k1c1 }
/-- com/example/outboxd/outboxd/relay/DrainSummaryPlusPinLaw -/
def k1 : Class := { plain "com/example/outboxd/outboxd/relay/DrainSummaryPlusPinLaw" (some 0) with
  accessFlags := 49
  interfaces := #[]
  cf := some (fileOf pool1 38 #[] #[{ accessFlags := 1, nameIndex := 5, descriptorIndex := 6, attributes := #[] }, { accessFlags := 9, nameIndex := 42, descriptorIndex := 43, attributes := #[] }] 49 2 #[] #[])
  fields := #[]
  methods := #[k1m0, k1m1]
  instanceTypes := #[]
  staticTypes := #[]
  resolved := Array.replicate 47 none
  statics := none }

def pool2 : Array CpInfo := pool [(1, .methodref 2 3), (0, .class_ 4), (0, .nameAndType 5 6), (0, u "java/lang/Object"), (0, u "<init>"), (0, u "()V"), (0, .fieldref 8 9), (0, .class_ 10), (0, .nameAndType 11 12), (0, u "com/example/outboxd/outboxd/relay/DrainSummary"), (0, u "relayed"), (0, u "J"), (0, .fieldref 8 14), (0, .nameAndType 15 12), (0, u "failed"), (0, .fieldref 8 17), (0, .nameAndType 18 12), (0, u "dead"), (0, .fieldref 8 20), (0, .nameAndType 21 12), (0, u "givenBack"), (0, .fieldref 8 23), (0, .nameAndType 24 12), (0, u "lost"), (0, .methodref 8 26), (0, .nameAndType 5 27), (0, u "(JJJJJ)V"), (2, u "()J"), (0, u "plus"), (0, u "(Lcom/example/outboxd/outboxd/relay/DrainSummary;)Lcom/example/outboxd/outboxd/relay/DrainSummary;")] 2

def k2c0 : Code := { maxStack := 3, maxLocals := 11, code := prog_11_method_1_code, exceptionTable := #[], attributes := #[] }
def k2m0 : Method := { name := "<init>", desc := "(JJJJJ)V", sig := { parameters := [.long, .long, .long, .long, .long], returnType := none }, accessFlags := 1, code := some k2c0 }
def k2c1 : Code := { maxStack := 2, maxLocals := 1, code := prog_11_method_2_code, exceptionTable := #[], attributes := #[] }
def k2m1 : Method := { name := "relayed", desc := "()J", sig := { parameters := [], returnType := some .long }, accessFlags := 1, code := some k2c1 }
def k2c2 : Code := { maxStack := 2, maxLocals := 1, code := prog_11_method_3_code, exceptionTable := #[], attributes := #[] }
def k2m2 : Method := { name := "failed", desc := "()J", sig := { parameters := [], returnType := some .long }, accessFlags := 1, code := some k2c2 }
def k2c3 : Code := { maxStack := 2, maxLocals := 1, code := prog_11_method_4_code, exceptionTable := #[], attributes := #[] }
def k2m3 : Method := { name := "dead", desc := "()J", sig := { parameters := [], returnType := some .long }, accessFlags := 1, code := some k2c3 }
def k2c4 : Code := { maxStack := 2, maxLocals := 1, code := prog_11_method_5_code, exceptionTable := #[], attributes := #[] }
def k2m4 : Method := { name := "givenBack", desc := "()J", sig := { parameters := [], returnType := some .long }, accessFlags := 1, code := some k2c4 }
def k2c5 : Code := { maxStack := 2, maxLocals := 1, code := prog_11_method_6_code, exceptionTable := #[], attributes := #[] }
def k2m5 : Method := { name := "lost", desc := "()J", sig := { parameters := [], returnType := some .long }, accessFlags := 1, code := some k2c5 }
def k2c6 : Code := { maxStack := 14, maxLocals := 2, code := prog_11_method_7_code, exceptionTable := #[], attributes := #[] }
def k2m6 : Method := { name := "plus", desc := "(Lcom/example/outboxd/outboxd/relay/DrainSummary;)Lcom/example/outboxd/outboxd/relay/DrainSummary;", sig := { parameters := [(.object "com/example/outboxd/outboxd/relay/DrainSummary")], returnType := some (.object "com/example/outboxd/outboxd/relay/DrainSummary") }, accessFlags := 1, code := some k2c6 }
/-- com/example/outboxd/outboxd/relay/DrainSummary -/
def k2 : Class := { plain "com/example/outboxd/outboxd/relay/DrainSummary" (some 0) with
  accessFlags := 33
  interfaces := #[]
  cf := some (fileOf pool2 8 #[] #[{ accessFlags := 1, nameIndex := 5, descriptorIndex := 27, attributes := #[] }, { accessFlags := 1, nameIndex := 11, descriptorIndex := 30, attributes := #[] }, { accessFlags := 1, nameIndex := 15, descriptorIndex := 30, attributes := #[] }, { accessFlags := 1, nameIndex := 18, descriptorIndex := 30, attributes := #[] }, { accessFlags := 1, nameIndex := 21, descriptorIndex := 30, attributes := #[] }, { accessFlags := 1, nameIndex := 24, descriptorIndex := 30, attributes := #[] }, { accessFlags := 1, nameIndex := 31, descriptorIndex := 32, attributes := #[] }] 33 2 #[] #[{ accessFlags := 18, nameIndex := 11, descriptorIndex := 12, attributes := #[] }, { accessFlags := 18, nameIndex := 15, descriptorIndex := 12, attributes := #[] }, { accessFlags := 18, nameIndex := 18, descriptorIndex := 12, attributes := #[] }, { accessFlags := 18, nameIndex := 21, descriptorIndex := 12, attributes := #[] }, { accessFlags := 18, nameIndex := 24, descriptorIndex := 12, attributes := #[] }])
  fields := #[{ name := "relayed", type := .long, accessFlags := 18, slot := 0, constantValue := 0 }, { name := "failed", type := .long, accessFlags := 18, slot := 1, constantValue := 0 }, { name := "dead", type := .long, accessFlags := 18, slot := 2, constantValue := 0 }, { name := "givenBack", type := .long, accessFlags := 18, slot := 3, constantValue := 0 }, { name := "lost", type := .long, accessFlags := 18, slot := 4, constantValue := 0 }]
  methods := #[k2m0, k2m1, k2m2, k2m3, k2m4, k2m5, k2m6]
  instanceTypes := #[.long, .long, .long, .long, .long]
  staticTypes := #[]
  resolved := Array.replicate 35 none
  statics := none }

def pool3 : Array CpInfo := pool [(1, u "java/lang/Cloneable"), (0, .class_ 1), (0, u "java/lang/Object"), (0, .class_ 3)] 3

/-- java/lang/Cloneable -/
def k3 : Class := { plain "java/lang/Cloneable" (some 0) with
  accessFlags := 1537
  interfaces := #[]
  cf := some (fileOf pool3 2 #[] #[] 1537 4 #[] #[])
  fields := #[]
  methods := #[]
  instanceTypes := #[]
  staticTypes := #[]
  resolved := Array.replicate 8 none
  statics := none }

def pool4 : Array CpInfo := pool [(1, u "java/io/Serializable"), (0, .class_ 1), (0, u "java/lang/Object"), (0, .class_ 3)] 3

/-- java/io/Serializable -/
def k4 : Class := { plain "java/io/Serializable" (some 0) with
  accessFlags := 1537
  interfaces := #[]
  cf := some (fileOf pool4 2 #[] #[] 1537 4 #[] #[])
  fields := #[]
  methods := #[]
  instanceTypes := #[]
  staticTypes := #[]
  resolved := Array.replicate 8 none
  statics := none }

/-- the primitive byte -/
def k5 : Class := { plain "byte" none with kind := .primitive 'B', accessFlags := 0x411 }
/-- [B -/
def k6 : Class := { plain "[B" (some 0) with kind := .array 5 .byte, interfaces := #[3, 4], accessFlags := 1041 }

/-- the primitive int -/
def k7 : Class := { plain "int" none with kind := .primitive 'I', accessFlags := 0x411 }
/-- [I -/
def k8 : Class := { plain "[I" (some 0) with kind := .array 7 .int, interfaces := #[3, 4], accessFlags := 1041 }

def heap : Heap := #[]
def classes : Array Class := #[k0, k1, k2, k3, k4, k5, k6, k7, k8]
def interned : List (Array UInt16 × Addr) := []
def slotsUsed : Nat := 0
def theMethod : MethodId := ⟨1, 1⟩
def args0 : Array Value := #[.long 1, .long 2, .long 3, .long 4, .long 5, .long 6]
def aboutOver (below : List Frame) : State where
  vm := { classes := classes, interned := interned.toArray }
  heap := heap
  slotsUsed := slotsUsed
  threads := #[{ frames := .invoking theMethod args0 :: below }]
def below0 : List Frame := [.native { method := ⟨0, 0⟩, args := #[] }]
def about1 : State := aboutOver below0
def p0 : Program := .bare "" "" ""
def e0 : Env := launch0.env 0 0 0
theorem w_frames : about1.frames = Frame.invoking theMethod args0 :: below0 := rfl
set_option maxRecDepth 65536 in
theorem w_args : argsFit about1.vm theMethod args0 = true := by decide +kernel
set_option maxRecDepth 65536 in
theorem w_heap : heapFits about1 = true := by decide +kernel
set_option maxRecDepth 65536 in
theorem w_runnable : about1.curStatus? = some .runnable := by decide +kernel
set_option maxRecDepth 65536 in
theorem w_alone : about1.alone = true := by decide +kernel
set_option maxRecDepth 65536 in
theorem w_named : about1.methodNamed? x = some theMethod := by decide +kernel
set_option maxRecDepth 65536 in
theorem w_hears : about1.hears theMethod below0 = true := by decide +kernel
set_option maxRecDepth 65536 in
theorem w_ripe : about1.ripe theMethod args0 below0 = true := by decide +kernel
theorem w_running : about1.status = .running := rfl
set_option maxRecDepth 65536 in
theorem w_room : about1.hasRoom e0.platform room_1 = true :=
  launch0.hasRoom_least _ room_1 (by decide +kernel) (by decide +kernel) (by decide +kernel) (by decide +kernel) (by decide +kernel) (by decide +kernel)
theorem allAtoms_all (ts : List Jvm.Cond) (a : Array Jvm.Value) (st : Jvm.State) : (allAtoms ts).before a st = ts.all (fun c => c.before a st) := by
  induction ts with
  | nil => rfl
  | cons c t ih =>
    show (Jvm.Cond.and c (allAtoms t)).before a st = _
    rw [Jvm.Cond.before_and, ih, List.all_cons]
def words1 : List Jvm.Cond := Jvm.Cond.code x code maxLocals ret :: tables_1
/-- a 'code' word, met by the world's own term for the bytes: nothing is compared byte by byte -/
theorem code_word {y : MethodName} {bytes : ByteArray} {mx : Nat} {rt : Option FieldType} {a : Array Value} {s : State} {m : MethodId} {meth : Method} {c : Code} (h1 : s.methodNamed? y = some m) (h2 : s.vm.method? m = some meth) (h3 : meth.code = some c) (h4 : c.code = bytes)
    (h5 : (c.maxLocals == mx && c.exceptionTable.isEmpty && decide (c.maxStack ≤ mostOperands) && decide (meth.sig.returnType = rt) && !meth.locks && decide (parseMethodDescriptor y.desc = some meth.sig)) = true) : (Jvm.Cond.code y bytes mx rt).before a s = true := by
  simp only [Bool.and_eq_true, beq_iff_eq, Bool.not_eq_true', decide_eq_true_eq] at h5
  obtain ⟨⟨⟨⟨⟨g1, g2⟩, g3⟩, g4⟩, g5⟩, g6⟩ := h5
  simp [Cond.before, Cond.holds, Cond.value, h1, h2, h3, h4, g1, g2, g3, g4, g5, g6]
def isCode : Jvm.Cond → Bool
  | .code _ _ _ _ => true
  | _ => false
theorem all_split {L : List Jvm.Cond} {P : Jvm.Cond → Bool} (h1 : L.all (fun c => isCode c || P c) = true) (h2 : ∀ c ∈ L.filter isCode, P c = true) : L.all P = true := by
  refine List.all_eq_true.mpr fun c hc => ?_
  have h := List.all_eq_true.mp h1 c hc
  rcases Bool.eq_false_or_eq_true (isCode c) with hi | hi
  · exact h2 c (List.mem_filter.mpr ⟨hc, hi⟩)
  · simpa [hi] using h
set_option maxRecDepth 65536 in
theorem w_c0 : (Jvm.Cond.code x code maxLocals ret).before args0 about1 = true := code_word (m := ⟨1, 1⟩) (meth := k1m1) (c := k1c1) (by decide +kernel) rfl rfl rfl (by decide +kernel)
set_option maxRecDepth 65536 in
theorem w_c1 : (Jvm.Cond.code ({ cls := "com/example/outboxd/outboxd/relay/DrainSummary", name := "<init>", desc := "(JJJJJ)V" } : Jvm.MethodName) prog_11_method_1_code (11 : Nat) (Option.none : Option Jvm.ClassFile.FieldType)).before args0 about1 = true := code_word (m := ⟨2, 0⟩) (meth := k2m0) (c := k2c0) (by decide +kernel) rfl rfl rfl (by decide +kernel)
set_option maxRecDepth 65536 in
theorem w_c2 : (Jvm.Cond.code ({ cls := "java/lang/Object", name := "<init>", desc := "()V" } : Jvm.MethodName) object_method_1_code (1 : Nat) (Option.none : Option Jvm.ClassFile.FieldType)).before args0 about1 = true := code_word (m := ⟨0, 0⟩) (meth := k0m0) (c := k0c0) (by decide +kernel) rfl rfl rfl (by decide +kernel)
set_option maxRecDepth 65536 in
theorem w_c3 : (Jvm.Cond.code ({ cls := "com/example/outboxd/outboxd/relay/DrainSummary", name := "plus", desc := "(Lcom/example/outboxd/outboxd/relay/DrainSummary;)Lcom/example/outboxd/outboxd/relay/DrainSummary;" } : Jvm.MethodName) prog_11_method_7_code (2 : Nat) (Option.some (Jvm.ClassFile.FieldType.object "com/example/outboxd/outboxd/relay/DrainSummary"))).before args0 about1 = true := code_word (m := ⟨2, 6⟩) (meth := k2m6) (c := k2c6) (by decide +kernel) rfl rfl rfl (by decide +kernel)
set_option maxRecDepth 65536 in
theorem w_c4 : (Jvm.Cond.code ({ cls := "com/example/outboxd/outboxd/relay/DrainSummary", name := "relayed", desc := "()J" } : Jvm.MethodName) prog_11_method_2_code (1 : Nat) (Option.some Jvm.ClassFile.FieldType.long)).before args0 about1 = true := code_word (m := ⟨2, 1⟩) (meth := k2m1) (c := k2c1) (by decide +kernel) rfl rfl rfl (by decide +kernel)
set_option maxRecDepth 65536 in
theorem w_c5 : (Jvm.Cond.code ({ cls := "com/example/outboxd/outboxd/relay/DrainSummary", name := "failed", desc := "()J" } : Jvm.MethodName) prog_11_method_3_code (1 : Nat) (Option.some Jvm.ClassFile.FieldType.long)).before args0 about1 = true := code_word (m := ⟨2, 2⟩) (meth := k2m2) (c := k2c2) (by decide +kernel) rfl rfl rfl (by decide +kernel)
set_option maxRecDepth 65536 in
theorem w_c6 : (Jvm.Cond.code ({ cls := "com/example/outboxd/outboxd/relay/DrainSummary", name := "dead", desc := "()J" } : Jvm.MethodName) prog_11_method_4_code (1 : Nat) (Option.some Jvm.ClassFile.FieldType.long)).before args0 about1 = true := code_word (m := ⟨2, 3⟩) (meth := k2m3) (c := k2c3) (by decide +kernel) rfl rfl rfl (by decide +kernel)
set_option maxRecDepth 65536 in
theorem w_c7 : (Jvm.Cond.code ({ cls := "com/example/outboxd/outboxd/relay/DrainSummary", name := "givenBack", desc := "()J" } : Jvm.MethodName) prog_11_method_5_code (1 : Nat) (Option.some Jvm.ClassFile.FieldType.long)).before args0 about1 = true := code_word (m := ⟨2, 4⟩) (meth := k2m4) (c := k2c4) (by decide +kernel) rfl rfl rfl (by decide +kernel)
set_option maxRecDepth 65536 in
theorem w_c8 : (Jvm.Cond.code ({ cls := "com/example/outboxd/outboxd/relay/DrainSummary", name := "lost", desc := "()J" } : Jvm.MethodName) prog_11_method_6_code (1 : Nat) (Option.some Jvm.ClassFile.FieldType.long)).before args0 about1 = true := code_word (m := ⟨2, 5⟩) (meth := k2m5) (c := k2c5) (by decide +kernel) rfl rfl rfl (by decide +kernel)
def codes1 : List Jvm.Cond := [Jvm.Cond.code x code maxLocals ret, Jvm.Cond.code ({ cls := "com/example/outboxd/outboxd/relay/DrainSummary", name := "<init>", desc := "(JJJJJ)V" } : Jvm.MethodName) prog_11_method_1_code (11 : Nat) (Option.none : Option Jvm.ClassFile.FieldType), Jvm.Cond.code ({ cls := "java/lang/Object", name := "<init>", desc := "()V" } : Jvm.MethodName) object_method_1_code (1 : Nat) (Option.none : Option Jvm.ClassFile.FieldType), Jvm.Cond.code ({ cls := "com/example/outboxd/outboxd/relay/DrainSummary", name := "plus", desc := "(Lcom/example/outboxd/outboxd/relay/DrainSummary;)Lcom/example/outboxd/outboxd/relay/DrainSummary;" } : Jvm.MethodName) prog_11_method_7_code (2 : Nat) (Option.some (Jvm.ClassFile.FieldType.object "com/example/outboxd/outboxd/relay/DrainSummary")), Jvm.Cond.code ({ cls := "com/example/outboxd/outboxd/relay/DrainSummary", name := "relayed", desc := "()J" } : Jvm.MethodName) prog_11_method_2_code (1 : Nat) (Option.some Jvm.ClassFile.FieldType.long), Jvm.Cond.code ({ cls := "com/example/outboxd/outboxd/relay/DrainSummary", name := "failed", desc := "()J" } : Jvm.MethodName) prog_11_method_3_code (1 : Nat) (Option.some Jvm.ClassFile.FieldType.long), Jvm.Cond.code ({ cls := "com/example/outboxd/outboxd/relay/DrainSummary", name := "dead", desc := "()J" } : Jvm.MethodName) prog_11_method_4_code (1 : Nat) (Option.some Jvm.ClassFile.FieldType.long), Jvm.Cond.code ({ cls := "com/example/outboxd/outboxd/relay/DrainSummary", name := "givenBack", desc := "()J" } : Jvm.MethodName) prog_11_method_5_code (1 : Nat) (Option.some Jvm.ClassFile.FieldType.long), Jvm.Cond.code ({ cls := "com/example/outboxd/outboxd/relay/DrainSummary", name := "lost", desc := "()J" } : Jvm.MethodName) prog_11_method_6_code (1 : Nat) (Option.some Jvm.ClassFile.FieldType.long)]
set_option maxRecDepth 65536 in
theorem codes_eq : words1.filter isCode = codes1 := rfl
theorem w_codes : ∀ c ∈ words1.filter isCode, c.before args0 about1 = true := by
  rw [codes_eq]
  intro c hc
  simp only [codes1, List.mem_cons, List.not_mem_nil, or_false] at hc
  rcases hc with rfl | rfl | rfl | rfl | rfl | rfl | rfl | rfl | rfl
  · exact w_c0
  · exact w_c1
  · exact w_c2
  · exact w_c3
  · exact w_c4
  · exact w_c5
  · exact w_c6
  · exact w_c7
  · exact w_c8
set_option maxRecDepth 65536 in
theorem w_t1 : (words1.take 24).all (fun c => isCode c || c.before args0 about1) = true := by decide +kernel
set_option maxRecDepth 65536 in
theorem w_t2 : ((words1.drop 24).take 24).all (fun c => isCode c || c.before args0 about1) = true := by decide +kernel
set_option maxRecDepth 65536 in
theorem w_t3 : ((words1.drop 24).drop 24).all (fun c => isCode c || c.before args0 about1) = true := by decide +kernel
theorem w_tables : (allAtoms (Jvm.Cond.code x code maxLocals ret :: tables_1)).before args0 about1 = true := by
  rw [allAtoms_all]
  show words1.all (fun c => c.before args0 about1) = true
  refine all_split ?_ w_codes
  rw [← List.take_append_drop 24 words1, List.all_append, w_t1, ← List.take_append_drop 24 (words1.drop 24), List.all_append, w_t2, w_t3]
  rfl
set_option maxRecDepth 65536 in
theorem w_case : (Jvm.Cond.and given_1 narrow_1).before args0 about1 = true := by decide +kernel
theorem w_applies : (headSpec (Jvm.Cond.code x code maxLocals ret :: tables_1) room_1).applies x e0.platform about1 = true :=
  (Spec.applies_iff w_frames).mpr ⟨w_running, w_runnable, w_alone, w_named, w_hears, w_ripe, w_room, w_tables⟩
theorem atStart : AtStart classFile x code maxLocals ret World_1 tables_1 room_1 Calls_1 rest_1 Pre_1 launch0 p0 e0 about1 theMethod args0 below0 :=
  ⟨lists_1, trivial, launch0.admits_env _ _ _, launch0.least_env, fairChoices_fair.cas, fairChoices_fair.clock, w_frames, w_args, w_heap, w_applies, trivial, trivial, w_case⟩
end start1
theorem witness_1 : WitnessClaimed_1 := ⟨start1.p0, start1.e0, start1.about1, start1.theMethod, start1.args0, start1.below0, start1.atStart⟩
end Jvm.Pilot.@@N@@
