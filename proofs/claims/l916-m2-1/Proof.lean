import JvmDerived
import JvmDerived.Pilot.@@N@@Statement
import JvmDerived.Pilot.@@N@@Code
set_option linter.unusedVariables false
set_option linter.unusedSimpArgs false
namespace Jvm.RoadKit
open Sem ClassFile Op Lib Jvm.Stand Jvm.Free Jvm.LawKit
section Own
variable {p : Program} {l : Launch} {e : Env} {R : Room} {s : State} {m : MethodId} {args : Array Value} {below : List Frame} {meth : Method} {c : Code} {T : State} {locs : List Loc} {cells slots : Nat} {Z : State} {h h' : Heap} {a b : Addr} {ty : FieldType} {ws : List Addr}
/-- from the state S the run comes to an end that Q allows -/
def Go (p : Program) (e : Env) (below : List Frame) (s : State) (Q : Option Value → Heap → List Loc → Prop) (K N : Nat) (S : State) : Prop :=
  ∃ (t : State) (o : Outcome), Steps p.tables e below S t ∧ t.status = .running ∧ Ended t below o ∧ ∃ v L, o = .returned v ∧ Q v t.heap L ∧ FrameEnd s o t L K N
variable {Q : Option Value → Heap → List Loc → Prop} {K N : Nat} {S S' : State}
theorem gs (h : ∀ t, Steps p.tables e below S' t → Steps p.tables e below S t) (k : Go p e below s Q K N S') : Go p e below s Q K N S := by
  obtain ⟨t, o, a, b⟩ := k
  exact ⟨t, o, h t a, b⟩
theorem gt (h : Steps p.tables e below S S') (k : Go p e below s Q K N S') : Go p e below s Q K N S := gs (fun _ => h.trans) k
theorem goEnd (X : Stand p l e R s m args below meth c T locs cells slots) {v : Option Value} (hlocks : meth.locks = false) (hv : meth.sig.returnType = none → v = none)
    (hs : ∀ fs, (∀ (f : JFrame) (acts : List Action), f.method = m → f.locked = none → f.entered = [] → (doReturn e (T.setTop f) acts v).1 = T.setFrames fs) → Steps p.tables e below S (T.setFrames fs))
    (hQ : Q v T.heap locs) (hk : cells ≤ K) (hn : slots ≤ N) : Go p e below s Q K N S := by
  obtain ⟨fs, hr, hrun, hended, hW, hsame⟩ := X.leave (v := v) hv hlocks
  exact ⟨_, _, hs fs hr, hrun, hended, v, locs, rfl, hQ, ⟨_, rfl⟩, hW, hsame.mono hk hn⟩
theorem goV (X : Stand p l e R s m args below meth c T locs cells slots) (hx : p.tables.exec = Jvm.exec) (hlocks : meth.locks = false) (hret : meth.sig.returnType = none) {pc : Nat} {Ls : Array Slot} (hd : decode c.code pc = .ok (.return_, 1)) (hQ : Q none T.heap locs) (hk : cells ≤ K) (hn : slots ≤ N) :
    Go p e below s Q K N (T.setTop (mkF m pc Ls [])) := goEnd X hlocks (fun _ => rfl) (fun _ hr => X.returnOut hx hret hd hr) hQ hk hn
theorem goW (X : Stand p l e R s m args below meth c T locs cells slots) (hx : p.tables.exec = Jvm.exec) (hlocks : meth.locks = false) {t : FieldType} (hret : meth.sig.returnType = some t) {pc : Nat} {Ls : Array Slot} {w : Value} {i : Instr} {rest : List Value} (hn0 : narrow t w = w)
    (hi : (i = .ireturn ∧ (t = .int ∨ t = .boolean ∨ t = .byte ∨ t = .char ∨ t = .short) ∧ ∃ z, w = .int z) ∨ (i = .lreturn ∧ t = .long ∧ ∃ z, w = .long z) ∨ (i = .dreturn ∧ t = .double ∧ ∃ z, w = .double z) ∨ (i = .freturn ∧ t = .float ∧ ∃ z, w = .float z) ∨ (i = .areturn ∧ t.isReference = true ∧ w.isRef = true))
    (hd : decode c.code pc = .ok (i, 1)) (hQ : Q (some w) T.heap locs) (hk : cells ≤ K) (hn : slots ≤ N) : Go p e below s Q K N (T.setTop (mkF m pc Ls (w :: rest))) :=
  goEnd X hlocks (fun q => by rw [hret] at q; cases q) (fun _ hr => retOut X hx hret hn0 hi hd hr) hQ hk hn
theorem goI (X : Stand p l e R s m args below meth c T locs cells slots) (hx : p.tables.exec = Jvm.exec) (hlocks : meth.locks = false) (hret : meth.sig.returnType = some .int) {pc : Nat} {Ls : Array Slot} {w : Int32} {rest : List Value} (hd : decode c.code pc = .ok (.ireturn, 1)) (hQ : Q (some (.int w)) T.heap locs) (hk : cells ≤ K) (hn : slots ≤ N) :
    Go p e below s Q K N (T.setTop (mkF m pc Ls (.int w :: rest))) := goW X hx hlocks hret rfl (Or.inl ⟨rfl, Or.inl rfl, w, rfl⟩) hd hQ hk hn
theorem goJ (X : Stand p l e R s m args below meth c T locs cells slots) (hx : p.tables.exec = Jvm.exec) (hlocks : meth.locks = false) (hret : meth.sig.returnType = some .long) {pc : Nat} {Ls : Array Slot} {w : Int64} {rest : List Value} (hd : decode c.code pc = .ok (.lreturn, 1)) (hQ : Q (some (.long w)) T.heap locs) (hk : cells ≤ K) (hn : slots ≤ N) :
    Go p e below s Q K N (T.setTop (mkF m pc Ls (.long w :: rest))) := goW X hx hlocks hret rfl (Or.inr (Or.inl ⟨rfl, rfl, w, rfl⟩)) hd hQ hk hn
theorem goR (X : Stand p l e R s m args below meth c T locs cells slots) (hx : p.tables.exec = Jvm.exec) (hlocks : meth.locks = false) {t : FieldType} (hret : meth.sig.returnType = some t) (ht : t.isReference = true) {pc : Nat} {Ls : Array Slot} {w : Value} (hw : w.isRef = true) {rest : List Value} (hd : decode c.code pc = .ok (.areturn, 1)) (hQ : Q (some w) T.heap locs) (hk : cells ≤ K) (hn : slots ≤ N) :
    Go p e below s Q K N (T.setTop (mkF m pc Ls (w :: rest))) :=
  goW X hx hlocks hret (by cases t <;> simp [FieldType.isReference] at ht <;> rfl) (Or.inr (Or.inr (Or.inr (Or.inr ⟨rfl, ht, hw⟩)))) hd hQ hk hn
theorem goB (X : Stand p l e R s m args below meth c T locs cells slots) (hx : p.tables.exec = Jvm.exec) (hlocks : meth.locks = false) {t : FieldType} (hret : meth.sig.returnType = some t) (ht : t = .boolean ∨ t = .byte ∨ t = .char ∨ t = .short) {pc : Nat} {Ls : Array Slot} {z w : Int32} {rest : List Value} (hz : nar t z = w) (hd : decode c.code pc = .ok (.ireturn, 1)) (hQ : Q (some (.int w)) T.heap locs) (hk : cells ≤ K) (hn : slots ≤ N) :
    Go p e below s Q K N (T.setTop (mkF m pc Ls (.int z :: rest))) := by
  subst hz
  exact goEnd X hlocks (fun q => by rw [hret] at q; cases q) (fun _ hr => retN X hx hret ht hd hr) hQ hk hn
/-- an array of n places; the place i holds f i -/
def Arf (Z : State) (h : Heap) (a : Addr) (ty : FieldType) (n : Nat) (f : Nat → Value) : Prop := ∃ c : Cell, Arr Z h a c ty ∧ c.slots.size = n ∧ n < 2 ^ 31 ∧ ∀ i, i < n → c.slots[i]? = some (f i)
def upd (f : Nat → Value) (j : Nat) (v : Value) : Nat → Value := fun i => if i = j then v else f i
variable {n : Nat} {f g : Nat → Value} {sl : Nat} {v : Value}
theorem Arf.lt (F : Arf Z h a ty n f) : a < h.size := by obtain ⟨c, A, -⟩ := F; exact A.lt
theorem Arf.ext (F : Arf Z h a ty n f) (E : Ext h h') : Arf Z h' a ty n f := by obtain ⟨c, A, r⟩ := F; exact ⟨c, A.ext E, r⟩
theorem Arf.other (F : Arf Z h b ty n f) (W : Wr h h' a sl v) (q : b ≠ a) : Arf Z h' b ty n f := by obtain ⟨c, A, r⟩ := F; exact ⟨c, A.other W q, r⟩
theorem Arf.keep (F : Arf Z h a ty n f) (K : Keep h h' ws) (q : a ∉ ws) : Arf Z h' a ty n f := by obtain ⟨c, A, r⟩ := F; exact ⟨c, ⟨K.2.1 a c A.1 q, A.2⟩, r⟩
theorem Arf.congr (F : Arf Z h a ty n f) (q : ∀ i, i < n → f i = g i) : Arf Z h a ty n g := by
  obtain ⟨c, A, r1, r2, r3⟩ := F
  exact ⟨c, A, r1, r2, fun i hi => by rw [← q i hi]; exact r3 i hi⟩
theorem clampLt (z : Int32) : z.toNatClampNeg < 2 ^ 31 := by
  have h1 := z.toInt_lt
  have h2 : z.toNatClampNeg = z.toInt.toNat := rfl
  omega
theorem clampOf {j : Int32} (h0 : 0 ≤ j.toInt) : (j.toNatClampNeg : Int) = j.toInt := by
  have h2 : j.toNatClampNeg = j.toInt.toNat := rfl
  omega
theorem Arf.new {k : ClassId} {z : Int32} (A : Arr Z h a (newA k ty z) ty) : Arf Z h a ty z.toNatClampNeg (fun _ => defaultValue ty) := by
  refine ⟨_, A, sz_new _ _ _, clampLt z, fun i hi => ?_⟩
  simp [newA, hi]
theorem Arf.set (F : Arf Z h a ty n f) {j : Nat} (W : Wr h h' a j v) (hj : j < n) : Arf Z h' a ty n (upd f j v) := by
  obtain ⟨c, A, r1, r2, r3⟩ := F
  refine ⟨_, A.same W, by rw [sz_set]; exact r1, r2, fun i hi => ?_⟩
  by_cases q : i = j
  · subst q
    simp [Cell.setSlot, upd, r1, hi]
  · have q' : ¬ j = i := fun x => q x.symm
    simp [Cell.setSlot, upd, q, Array.getElem?_setIfInBounds_ne q', r3 i hi]
theorem inI {cl : Cell} (S : cl.slots.size = n) {j : Int32} (hj : 0 ≤ j.toInt ∧ j.toInt < n) : ¬ (j < 0 ∨ cl.slots.size ≤ j.toNatClampNeg) := by
  have q := clampOf hj.1
  rintro (h1 | h1)
  · rw [Int32.lt_iff_toInt_lt] at h1
    have : (0 : Int32).toInt = 0 := rfl
    omega
  · omega
theorem stIf (X : Stand p l e R s m args below meth c T locs cells slots) (hx : p.tables.exec = Jvm.exec) (hZ : Z.Warmed39 s.vm) (eT : T.heap = h) (F : Arf Z h a .int n f) {j x : Int32} (hj : 0 ≤ j.toInt ∧ j.toInt < n) {g : JFrame} (hg : g.method = m) {rest : List Value} (hs : g.stack = .int x :: .int j :: .ref a :: rest) (hd : decode c.code g.pc = .ok (.iastore, 1)) :
    ∃ T' h', Stand p l e R s m args below meth c T' (locs ++ [⟨a, j.toNatClampNeg⟩]) cells slots ∧ T'.heap = h' ∧ Wr h h' a j.toNatClampNeg (.int x) ∧ Arf Z h' a .int n (upd f j.toNatClampNeg (.int x)) ∧ ∀ target, Steps p.tables e below (T'.setTop { g with pc := g.pc + 1, stack := rest }) target → Steps p.tables e below (T.setTop g) target := by
  obtain ⟨cl, A, r1, r2, r3⟩ := id F
  obtain ⟨T', h', X', e', W, st⟩ := stI X hx hZ eT A (j := j) (x := x) (inI r1 hj) hg hs hd
  have q := clampOf hj.1
  exact ⟨T', h', X', e', W, F.set W (by omega), st⟩
theorem stJf (X : Stand p l e R s m args below meth c T locs cells slots) (hx : p.tables.exec = Jvm.exec) (hZ : Z.Warmed39 s.vm) (eT : T.heap = h) (F : Arf Z h a .long n f) {j : Int32} {x : Int64} (hj : 0 ≤ j.toInt ∧ j.toInt < n) {g : JFrame} (hg : g.method = m) {rest : List Value} (hs : g.stack = .long x :: .int j :: .ref a :: rest) (hd : decode c.code g.pc = .ok (.lastore, 1)) :
    ∃ T' h', Stand p l e R s m args below meth c T' (locs ++ [⟨a, j.toNatClampNeg⟩]) cells slots ∧ T'.heap = h' ∧ Wr h h' a j.toNatClampNeg (.long x) ∧ Arf Z h' a .long n (upd f j.toNatClampNeg (.long x)) ∧ ∀ target, Steps p.tables e below (T'.setTop { g with pc := g.pc + 1, stack := rest }) target → Steps p.tables e below (T.setTop g) target := by
  obtain ⟨cl, A, r1, r2, r3⟩ := id F
  obtain ⟨T', h', X', e', W, st⟩ := stJ X hx hZ eT A (j := j) (x := x) (inI r1 hj) hg hs hd
  have q := clampOf hj.1
  exact ⟨T', h', X', e', W, F.set W (by omega), st⟩
theorem stBf (X : Stand p l e R s m args below meth c T locs cells slots) (hx : p.tables.exec = Jvm.exec) (hZ : Z.Warmed39 s.vm) (eT : T.heap = h) (F : Arf Z h a .byte n f) {j x : Int32} (hj : 0 ≤ j.toInt ∧ j.toInt < n) {g : JFrame} (hg : g.method = m) {rest : List Value} (hs : g.stack = .int x :: .int j :: .ref a :: rest) (hd : decode c.code g.pc = .ok (.bastore, 1)) :
    ∃ T' h', Stand p l e R s m args below meth c T' (locs ++ [⟨a, j.toNatClampNeg⟩]) cells slots ∧ T'.heap = h' ∧ Wr h h' a j.toNatClampNeg (.int (nar .byte x)) ∧ Arf Z h' a .byte n (upd f j.toNatClampNeg (.int (nar .byte x))) ∧ ∀ target, Steps p.tables e below (T'.setTop { g with pc := g.pc + 1, stack := rest }) target → Steps p.tables e below (T.setTop g) target := by
  obtain ⟨cl, A, r1, r2, r3⟩ := id F
  obtain ⟨T', h', X', e', W, st⟩ := stB X hx hZ eT A (j := j) (x := x) (inI r1 hj) hg hs hd
  have q := clampOf hj.1
  exact ⟨T', h', X', e', W, F.set W (by omega), st⟩
theorem stZf (X : Stand p l e R s m args below meth c T locs cells slots) (hx : p.tables.exec = Jvm.exec) (hZ : Z.Warmed39 s.vm) (eT : T.heap = h) (F : Arf Z h a .boolean n f) {j x : Int32} (hj : 0 ≤ j.toInt ∧ j.toInt < n) {g : JFrame} (hg : g.method = m) {rest : List Value} (hs : g.stack = .int x :: .int j :: .ref a :: rest) (hd : decode c.code g.pc = .ok (.bastore, 1)) :
    ∃ T' h', Stand p l e R s m args below meth c T' (locs ++ [⟨a, j.toNatClampNeg⟩]) cells slots ∧ T'.heap = h' ∧ Wr h h' a j.toNatClampNeg (.int (nar .boolean x)) ∧ Arf Z h' a .boolean n (upd f j.toNatClampNeg (.int (nar .boolean x))) ∧ ∀ target, Steps p.tables e below (T'.setTop { g with pc := g.pc + 1, stack := rest }) target → Steps p.tables e below (T.setTop g) target := by
  obtain ⟨cl, A, r1, r2, r3⟩ := id F
  obtain ⟨T', h', X', e', W, st⟩ := stZ X hx hZ eT A (j := j) (x := x) (inI r1 hj) hg hs hd
  have q := clampOf hj.1
  exact ⟨T', h', X', e', W, F.set W (by omega), st⟩
theorem stCf (X : Stand p l e R s m args below meth c T locs cells slots) (hx : p.tables.exec = Jvm.exec) (hZ : Z.Warmed39 s.vm) (eT : T.heap = h) (F : Arf Z h a .char n f) {j x : Int32} (hj : 0 ≤ j.toInt ∧ j.toInt < n) {g : JFrame} (hg : g.method = m) {rest : List Value} (hs : g.stack = .int x :: .int j :: .ref a :: rest) (hd : decode c.code g.pc = .ok (.castore, 1)) :
    ∃ T' h', Stand p l e R s m args below meth c T' (locs ++ [⟨a, j.toNatClampNeg⟩]) cells slots ∧ T'.heap = h' ∧ Wr h h' a j.toNatClampNeg (.int (nar .char x)) ∧ Arf Z h' a .char n (upd f j.toNatClampNeg (.int (nar .char x))) ∧ ∀ target, Steps p.tables e below (T'.setTop { g with pc := g.pc + 1, stack := rest }) target → Steps p.tables e below (T.setTop g) target := by
  obtain ⟨cl, A, r1, r2, r3⟩ := id F
  obtain ⟨T', h', X', e', W, st⟩ := stC X hx hZ eT A (j := j) (x := x) (inI r1 hj) hg hs hd
  have q := clampOf hj.1
  exact ⟨T', h', X', e', W, F.set W (by omega), st⟩
theorem stRf (X : Stand p l e R s m args below meth c T locs cells slots) (hx : p.tables.exec = Jvm.exec) (hZ : Z.Warmed39 s.vm) (eT : T.heap = h) (F : Arf Z h a ty n f) (hty : ty.isReference = true) {j : Int32} {v : Value} (hv : Sto Z h a v) (hj : 0 ≤ j.toInt ∧ j.toInt < n) {g : JFrame} (hg : g.method = m) {rest : List Value} (hs : g.stack = v :: .int j :: .ref a :: rest) (hd : decode c.code g.pc = .ok (.aastore, 1)) :
    ∃ T' h', Stand p l e R s m args below meth c T' (locs ++ [⟨a, j.toNatClampNeg⟩]) cells slots ∧ T'.heap = h' ∧ Wr h h' a j.toNatClampNeg v ∧ Arf Z h' a ty n (upd f j.toNatClampNeg v) ∧ ∀ target, Steps p.tables e below (T'.setTop { g with pc := g.pc + 1, stack := rest }) target → Steps p.tables e below (T.setTop g) target := by
  obtain ⟨cl, A, r1, r2, r3⟩ := id F
  obtain ⟨T', h', X', e', W, st⟩ := stR X hx hZ eT A (j := j) (v := v) (inI r1 hj) hty hv hg hs hd
  have q := clampOf hj.1
  exact ⟨T', h', X', e', W, F.set W (by omega), st⟩
theorem ldIf (X : Stand p l e R s m args below meth c T locs cells slots) (hx : p.tables.exec = Jvm.exec) (hZ : Z.Warmed39 s.vm) (eT : T.heap = h) (F : Arf Z h a .int n f) {j : Int32} {v : Value} (hj : 0 ≤ j.toInt ∧ j.toInt < n) (hv : f j.toNatClampNeg = v) {g : JFrame} (hg : g.method = m) {rest : List Value} (hs : g.stack = .int j :: .ref a :: rest) (hd : decode c.code g.pc = .ok (.iaload, 1)) :
    ∀ target, Steps p.tables e below (T.setTop { g with pc := g.pc + 1, stack := v :: rest }) target → Steps p.tables e below (T.setTop g) target := by
  obtain ⟨cl, A, r1, r2, r3⟩ := F
  have q := clampOf hj.1
  exact fun t => X.iaload hx (by rw [eT]; exact A.1) (State.isArrayOf_alike hZ.alike A.2.1) A.2.2 (inI r1 hj) (by rw [← hv]; exact r3 _ (by omega)) hg hs hd t
theorem ldJf (X : Stand p l e R s m args below meth c T locs cells slots) (hx : p.tables.exec = Jvm.exec) (hZ : Z.Warmed39 s.vm) (eT : T.heap = h) (F : Arf Z h a .long n f) {j : Int32} {v : Value} (hj : 0 ≤ j.toInt ∧ j.toInt < n) (hv : f j.toNatClampNeg = v) {g : JFrame} (hg : g.method = m) {rest : List Value} (hs : g.stack = .int j :: .ref a :: rest) (hd : decode c.code g.pc = .ok (.laload, 1)) :
    ∀ target, Steps p.tables e below (T.setTop { g with pc := g.pc + 1, stack := v :: rest }) target → Steps p.tables e below (T.setTop g) target := by
  obtain ⟨cl, A, r1, r2, r3⟩ := F
  have q := clampOf hj.1
  exact fun t => X.laload hx (by rw [eT]; exact A.1) (State.isArrayOf_alike hZ.alike A.2.1) A.2.2 (inI r1 hj) (by rw [← hv]; exact r3 _ (by omega)) hg hs hd t
theorem ldCf (X : Stand p l e R s m args below meth c T locs cells slots) (hx : p.tables.exec = Jvm.exec) (hZ : Z.Warmed39 s.vm) (eT : T.heap = h) (F : Arf Z h a .char n f) {j : Int32} {v : Value} (hj : 0 ≤ j.toInt ∧ j.toInt < n) (hv : f j.toNatClampNeg = v) {g : JFrame} (hg : g.method = m) {rest : List Value} (hs : g.stack = .int j :: .ref a :: rest) (hd : decode c.code g.pc = .ok (.caload, 1)) :
    ∀ target, Steps p.tables e below (T.setTop { g with pc := g.pc + 1, stack := v :: rest }) target → Steps p.tables e below (T.setTop g) target := by
  obtain ⟨cl, A, r1, r2, r3⟩ := F
  have q := clampOf hj.1
  exact fun t => X.caload hx (by rw [eT]; exact A.1) (State.isArrayOf_alike hZ.alike A.2.1) A.2.2 (inI r1 hj) (by rw [← hv]; exact r3 _ (by omega)) hg hs hd t
theorem ldBf (X : Stand p l e R s m args below meth c T locs cells slots) (hx : p.tables.exec = Jvm.exec) (hZ : Z.Warmed39 s.vm) (eT : T.heap = h) (F : Arf Z h a .byte n f) {j : Int32} {v : Value} (hj : 0 ≤ j.toInt ∧ j.toInt < n) (hv : f j.toNatClampNeg = v) {g : JFrame} (hg : g.method = m) {rest : List Value} (hs : g.stack = .int j :: .ref a :: rest) (hd : decode c.code g.pc = .ok (.baload, 1)) :
    ∀ target, Steps p.tables e below (T.setTop { g with pc := g.pc + 1, stack := v :: rest }) target → Steps p.tables e below (T.setTop g) target := by
  obtain ⟨cl, A, r1, r2, r3⟩ := F
  have q := clampOf hj.1
  exact fun t => X.baloadBytes hx (by rw [eT]; exact A.1) (State.isArrayOf_alike hZ.alike A.2.1) A.2.2 (inI r1 hj) (by rw [← hv]; exact r3 _ (by omega)) hg hs hd t
theorem ldZf (X : Stand p l e R s m args below meth c T locs cells slots) (hx : p.tables.exec = Jvm.exec) (hZ : Z.Warmed39 s.vm) (eT : T.heap = h) (F : Arf Z h a .boolean n f) {j : Int32} {v : Value} (hj : 0 ≤ j.toInt ∧ j.toInt < n) (hv : f j.toNatClampNeg = v) {g : JFrame} (hg : g.method = m) {rest : List Value} (hs : g.stack = .int j :: .ref a :: rest) (hd : decode c.code g.pc = .ok (.baload, 1)) :
    ∀ target, Steps p.tables e below (T.setTop { g with pc := g.pc + 1, stack := v :: rest }) target → Steps p.tables e below (T.setTop g) target := by
  obtain ⟨cl, A, r1, r2, r3⟩ := F
  have q := clampOf hj.1
  exact fun t => X.baloadBooleans hx (by rw [eT]; exact A.1) (State.isArrayOf_alike hZ.alike A.2.1) A.2.2 (inI r1 hj) (by rw [← hv]; exact r3 _ (by omega)) hg hs hd t
theorem ldRf (X : Stand p l e R s m args below meth c T locs cells slots) (hx : p.tables.exec = Jvm.exec) (hZ : Z.Warmed39 s.vm) (eT : T.heap = h) (F : Arf Z h a ty n f) (hty : ty.isReference = true) {j : Int32} {v : Value} (hj : 0 ≤ j.toInt ∧ j.toInt < n) (hv : f j.toNatClampNeg = v) {g : JFrame} (hg : g.method = m) {rest : List Value} (hs : g.stack = .int j :: .ref a :: rest) (hd : decode c.code g.pc = .ok (.aaload, 1)) :
    ∀ target, Steps p.tables e below (T.setTop { g with pc := g.pc + 1, stack := v :: rest }) target → Steps p.tables e below (T.setTop g) target := by
  obtain ⟨cl, A, r1, r2, r3⟩ := F
  have q := clampOf hj.1
  exact fun t => X.aaload hx (by rw [eT]; exact A.1) (State.isArrayOf_alike hZ.alike A.2.1) hty A.2.2 (inI r1 hj) (by rw [← hv]; exact r3 _ (by omega)) hg hs hd t
theorem lenf (X : Stand p l e R s m args below meth c T locs cells slots) (hx : p.tables.exec = Jvm.exec) (hZ : Z.Warmed39 s.vm) (eT : T.heap = h) (F : Arf Z h a ty n f) {z : Int32} (hz : n.toInt32 = z) {g : JFrame} (hg : g.method = m) {rest : List Value} (hs : g.stack = .ref a :: rest) (hd : decode c.code g.pc = .ok (.arraylength, 1)) :
    ∀ target, Steps p.tables e below (T.setTop { g with pc := g.pc + 1, stack := .int z :: rest }) target → Steps p.tables e below (T.setTop g) target := by
  obtain ⟨cl, A, r1, r2, r3⟩ := F
  subst hz r1
  exact fun t => X.arraylength hx (by rw [eT]; exact A.1) (State.isArrayOf_alike hZ.alike A.2.1) hg hs hd t
theorem toClamp {z : Int32} (q : 0 ≤ z.toInt) : z.toNatClampNeg.toInt32 = z := (back32 (fun h => by rw [Int32.lt_iff_toInt_lt] at h; have : (0 : Int32).toInt = 0 := rfl; omega)).1
/-- an array that takes every object of the class C -/
def Tak (Z : State) (h : Heap) (a : Addr) (C : String) : Prop := ∃ (cell : Cell) (k kc : Class) (comp : ClassId) (t : FieldType), h[a]? = some cell ∧ Z.vm.classes[cell.cls]? = some k ∧ k.kind = .array comp t ∧ Z.vm.classes[comp]? = some kc ∧ Z.vm.findClass C = some comp
variable {C : String}
theorem Tak.ext (F : Tak Z h a C) (E : Ext h h') : Tak Z h' a C := by obtain ⟨cell, k, kc, comp, t, h1, r⟩ := F; exact ⟨cell, k, kc, comp, t, E.2 _ _ h1, r⟩
theorem Tak.wr (F : Tak Z h a C) (W : Wr h h' b sl v) : Tak Z h' a C := by
  obtain ⟨cell, k, kc, comp, t, h1, h2, r⟩ := F
  obtain ⟨c', e1, e2, -⟩ := wr_at W h1
  exact ⟨c', k, kc, comp, t, e1, by rw [e2]; exact h2, r⟩
theorem Tak.keep (F : Tak Z h a C) (K : Keep h h' ws) : Tak Z h' a C := by
  obtain ⟨cell, k, kc, comp, t, h1, h2, r⟩ := F
  obtain ⟨c', e1, e2, -⟩ := K.2.2 _ _ h1
  exact ⟨c', k, kc, comp, t, e1, by rw [e2]; exact h2, r⟩
theorem Tak.sto (F : Tak Z h a C) {y : Addr} (I : Ins Z h y C true) : Sto Z h a (.ref y) := by
  obtain ⟨cell, k, kc, comp, t, h1, h2, h3, h4, h5⟩ := F
  obtain ⟨cv, cT, g1, g2, g3⟩ := I
  cases h5.symm.trans g2
  simp only [Bool.and_eq_true, Bool.not_eq_true'] at g3
  have hv : ∃ kv, Z.vm.classes[cv.cls]? = some kv := by
    cases q : Z.vm.classes[cv.cls]? with
    | some kv => exact ⟨kv, rfl⟩
    | none =>
      by_cases e : cv.cls = comp
      · rw [e, h4] at q; cases q
      · have := g3.2
        simp [Vm.assignable, Vm.assignableAux, e, q] at this
  obtain ⟨kv, hkv⟩ := hv
  exact Or.inr ⟨cell, cv, k, kv, kc, comp, t, y, h1, h2, h3, h4, rfl, g1, g3.1, hkv, g3.2⟩
theorem Tak.of {cA : ClassId} {n : Int32} (A : Arr Z h a (newA cA ty n) ty) (O : Ovr Z cA C) : Tak Z h a C := by
  obtain ⟨k, comp, o1, o2, o3⟩ := O
  obtain ⟨kc, q, -⟩ := Vm.findClass_spec o3
  exact ⟨_, k, kc, comp, _, A.1, o1, o2, q, o3⟩
theorem Tak.ofA {cA : ClassId} {n : Int32} {ty' : FieldType} (A : Arr Z h a (newA cA ty n) ty) (O : OvrA Z cA ty' C) : Tak Z h a C := by
  obtain ⟨k, comp, o1, o2, o3⟩ := O
  obtain ⟨kc, q, -⟩ := Vm.findClass_spec o3
  exact ⟨_, k, kc, comp, _, A.1, o1, o2, q, o3⟩
theorem own_eqI {t : Term} {k : Int32} {args : Array Value} {first s : State} {o : Option Outcome} {idx : List Nat} (h : (Cond.eq t (.int k)).value args first o s idx = some true) : t.eval args first o idx s = some (.int k) := by
  simp only [Cond.value, Term.eval] at h
  cases ht : t.eval args first o idx s with
  | none => simp [ht] at h
  | some x => cases x <;> simp [ht] at h ⊢ <;> exact h
end Own
end Jvm.RoadKit
namespace Jvm.Pilot.@@N@@
open Jvm Jvm.ClassFile Sem Op Lib Jvm.Free Jvm.Stand Jvm.LawKit Jvm.RoadKit Bundle Jvm.Pilot.@@N@@.Jvm.D
theorem pd_0 : parseMethodDescriptor "(JZ)Lcom/example/tuplewise/tuplewise/Status;" = some ⟨[.long, .boolean], some (.object "com/example/tuplewise/tuplewise/Status")⟩ := by decide +kernel
def own_of (c : Int32) (i : Int32) (a b d : Addr) : Addr := if 0 < c then a else if i = 0 then d else b
theorem d1_0 : decode prog_19_method_4_code 0 = .ok (.lload_n 0, 1) := by decide +kernel
theorem d1_1 : decode prog_19_method_4_code 1 = .ok (.lconst 0, 1) := by decide +kernel
theorem d1_2 : decode prog_19_method_4_code 2 = .ok (.lcmp, 1) := by decide +kernel
theorem d1_3 : decode prog_19_method_4_code 3 = .ok (.ifCond .le 10, 3) := by decide +kernel
theorem d1_6 : decode prog_19_method_4_code 6 = .ok (.getstatic 3, 3) := by decide +kernel
theorem d1_9 : decode prog_19_method_4_code 9 = .ok (.astore_n 3, 1) := by decide +kernel
theorem d1_10 : decode prog_19_method_4_code 10 = .ok (.goto 18, 3) := by decide +kernel
theorem d1_13 : decode prog_19_method_4_code 13 = .ok (.iload_n 2, 1) := by decide +kernel
theorem d1_14 : decode prog_19_method_4_code 14 = .ok (.ifCond .eq 10, 3) := by decide +kernel
theorem d1_17 : decode prog_19_method_4_code 17 = .ok (.getstatic 7, 3) := by decide +kernel
theorem d1_20 : decode prog_19_method_4_code 20 = .ok (.astore_n 3, 1) := by decide +kernel
theorem d1_21 : decode prog_19_method_4_code 21 = .ok (.goto 7, 3) := by decide +kernel
theorem d1_24 : decode prog_19_method_4_code 24 = .ok (.getstatic 10, 3) := by decide +kernel
theorem d1_27 : decode prog_19_method_4_code 27 = .ok (.astore_n 3, 1) := by decide +kernel
theorem d1_28 : decode prog_19_method_4_code 28 = .ok (.aload_n 3, 1) := by decide +kernel
theorem d1_29 : decode prog_19_method_4_code 29 = .ok (.areturn, 1) := by decide +kernel
theorem pn_1 : plainName "com/example/tuplewise/tuplewise/Status" = true := by first | (simp [plainName, overriddenIn]; done) | decide +kernel
def Qrm1 (Z : State) (p0 : Int64) (p1 : Int32) (x_SATISFIABLE : Addr) (x_UNSATISFIABLE : Addr) (x_UNKNOWN : Addr) (h0 : Heap) (n0 : Nat) (v : Option Value) (h : Heap) (L : List Loc) : Prop := v = some (.ref (own_of (lcmpW p0 (0 : Int64)) p1 x_SATISFIABLE x_UNSATISFIABLE x_UNKNOWN)) ∧ Fr n0 L ∧ h = h0
set_option maxRecDepth 65536 in
set_option maxHeartbeats 40000000 in
theorem rm1 (l : Launch) (Z : State) (a0 : Array Value) (hw : ∀ d ∈ tables_1, d.before a0 Z = true) (ws : List Jvm.Cond) (p0 : Int64) (p1 : Int32) (x_SATISFIABLE : Addr) (x_UNSATISFIABLE : Addr) (x_UNKNOWN : Addr) (h0 : Heap) (n0 : Nat) (Z0 : n0 ≤ h0.size) (OLD : Old Z n0 h0) (S_x_SATISFIABLE : Sta Z Z.heap "com/example/tuplewise/tuplewise/Status" "SATISFIABLE" "Lcom/example/tuplewise/tuplewise/Status;" (.ref x_SATISFIABLE)) (S_x_UNSATISFIABLE : Sta Z Z.heap "com/example/tuplewise/tuplewise/Status" "UNSATISFIABLE" "Lcom/example/tuplewise/tuplewise/Status;" (.ref x_UNSATISFIABLE)) (S_x_UNKNOWN : Sta Z Z.heap "com/example/tuplewise/tuplewise/Status" "UNKNOWN" "Lcom/example/tuplewise/tuplewise/Status;" (.ref x_UNKNOWN)) :
    MetFree l (⟨"com/example/tuplewise/tuplewise/Status", "of", "(JZ)Lcom/example/tuplewise/tuplewise/Status;"⟩ : MethodName) (head1 (Jvm.Cond.code (⟨"com/example/tuplewise/tuplewise/Status", "of", "(JZ)Lcom/example/tuplewise/tuplewise/Status;"⟩ : MethodName) prog_19_method_4_code 4 (some (.object "com/example/tuplewise/tuplewise/Status")) :: ws) ({ frames := 0, cells := 0, slots := 0, locals := 0 } : Room)) (fun a U => a = #[(.long p0), (.int p1)] ∧ Z.Warmed39 U.vm ∧ U.heap = h0) (fun _ _ _ _ _ => True) (fun _ U o U' => ∃ v L, o = .returned v ∧ Qrm1 Z p0 p1 x_SATISFIABLE x_UNSATISFIABLE x_UNKNOWN h0 n0 v U'.heap L ∧ FrameEnd U o U' L ({ frames := 0, cells := 0, slots := 0, locals := 0 } : Room).cells ({ frames := 0, cells := 0, slots := 0, locals := 0 } : Room).slots) := by
  refine MetFree.of_bodySF (plainFor_of_name pn_1) hisR ?_
  intro p e s m args below meth c s₁ Bd hml0 hP hK
  obtain ⟨rfl, hZ, hh⟩ := hP
  have hx := Bd.exec
  have hby := Bd.bytes
  have hml : c.maxLocals = 4 := hml0
  have hown : s.vm.findClass "com/example/tuplewise/tuplewise/Status" = some m.cls := findClass_of_methodNamed Bd.named
  have hnm := (name_of_methodNamed Bd.named Bd.method).1
  have X0 : Stand p l e ({ frames := 0, cells := 0, slots := 0, locals := 0 } : Room) s m #[(.long p0), (.int p1)] below meth c s₁ [] 0 0 := Stand.of_body Bd
  have e0 : s₁.heap = h0 := by rw [← hh, Bd.state]; rfl
  have N0 := Fr.nil n0
  have ZZ := Z0
  show Go p e below s (Qrm1 Z p0 p1 x_SATISFIABLE x_UNSATISFIABLE x_UNKNOWN h0 n0) 0 0 (s₁.setTop (entryFrame m #[(.long p0), (.int p1)] 4))
  generalize hQQ : (Qrm1 Z p0 p1 x_SATISFIABLE x_UNSATISFIABLE x_UNKNOWN h0 n0) = QQ
  refine gs (fun t k => castTop (g' := (mkF m 0 #[.val (.long p0), .second, .val (.int p1), .unset] [])) (by first | (simp [entryFrame, mkF, argsToLocals, Value.category, maxLocals]; done) | rfl) k) ?_
  show Go p e below s QQ 0 0 (s₁.setTop (mkF m 0 #[.val (.long p0), .second, .val (.int p1), .unset] []))
  refine gs (fun t => XS.lloadN X0.here hx rfl (hb hby d1_0) rfl) ?_
  show Go p e below s QQ 0 0 (s₁.setTop (mkF m 1 #[.val (.long p0), .second, .val (.int p1), .unset] [(.long p0)]))
  refine gs (fun t => XS.lconst X0.here hx rfl (hb hby d1_1)) ?_
  show Go p e below s QQ 0 0 (s₁.setTop (mkF m 2 #[.val (.long p0), .second, .val (.int p1), .unset] [(.long (0 : Int64)), (.long p0)]))
  refine gs (fun t => XS.lcmp X0.here hx rfl (hb hby d1_2) rfl) ?_
  show Go p e below s QQ 0 0 (s₁.setTop (mkF m 3 #[.val (.long p0), .second, .val (.int p1), .unset] [(.int (lcmpW p0 (0 : Int64)))]))
  by_cases hc : (0 : Int32) < (lcmpW p0 (0 : Int64))
  · skip
    refine gs (fun t => XS.ifNo X0.here hx rfl (hb hby d1_3) rfl ((if0 _ _).trans (tlt hc).2.2.2)) ?_
    show Go p e below s QQ 0 0 (s₁.setTop (mkF m 6 #[.val (.long p0), .second, .val (.int p1), .unset] []))
    obtain ⟨T1, X1, e1, st1⟩ := getS2 X0 hx hZ hown (host := "") (Or.inl (hw _ (List.mem_of_getElem? (i := 4) rfl))) Via.refl e0 (S_x_SATISFIABLE.ext OLD.2) (g := (mkF m 6 #[.val (.long p0), .second, .val (.int p1), .unset] [])) rfl (hb hby d1_6)
    refine gs st1 ?_
    show Go p e below s QQ 0 0 (T1.setTop (mkF m 9 #[.val (.long p0), .second, .val (.int p1), .unset] [(.ref x_SATISFIABLE)]))
    refine gs (fun t => XS.astoreN X1.here hx rfl (hb hby d1_9) rfl rfl (l' := #[.val (.long p0), .second, .val (.int p1), .val (.ref x_SATISFIABLE)]) rfl) ?_
    show Go p e below s QQ 0 0 (T1.setTop (mkF m 10 #[.val (.long p0), .second, .val (.int p1), .val (.ref x_SATISFIABLE)] []))
    refine gs (fun t => XS.goto X1.here hx rfl (pc0 := 10) (pc' := 28) rfl (hb hby d1_10) (by decide) (by decide)) ?_
    show Go p e below s QQ 0 0 (T1.setTop (mkF m 28 #[.val (.long p0), .second, .val (.int p1), .val (.ref x_SATISFIABLE)] []))
    refine gs (fun t => XS.aloadN X1.here hx rfl (hb hby d1_28) rfl rfl) ?_
    show Go p e below s QQ 0 0 (T1.setTop (mkF m 29 #[.val (.long p0), .second, .val (.int p1), .val (.ref x_SATISFIABLE)] [(.ref x_SATISFIABLE)]))
    exact goR X1 hx Bd.notSynchronized Bd.returns rfl rfl (hb hby d1_29) (by rw [← hQQ, e1]; exact ⟨by simp only [own_of, hc, if_true], N0, rfl⟩) (by decide) (by decide)
  · skip
    refine gs (fun t => XS.ifYes X0.here hx rfl (pc0 := 3) (pc' := 13) rfl (hb hby d1_3) rfl ((if0 _ _).trans (flt hc).2.2.2) (by decide) (by decide)) ?_
    show Go p e below s QQ 0 0 (s₁.setTop (mkF m 13 #[.val (.long p0), .second, .val (.int p1), .unset] []))
    refine gs (fun t => XS.iloadN X0.here hx rfl (hb hby d1_13) rfl) ?_
    show Go p e below s QQ 0 0 (s₁.setTop (mkF m 14 #[.val (.long p0), .second, .val (.int p1), .unset] [(.int p1)]))
    by_cases hd : p1 = (0 : Int32)
    · skip
      refine gs (fun t => XS.ifYes X0.here hx rfl (pc0 := 14) (pc' := 24) rfl (hb hby d1_14) rfl ((if0 _ _).trans (teq hd).1) (by decide) (by decide)) ?_
      show Go p e below s QQ 0 0 (s₁.setTop (mkF m 24 #[.val (.long p0), .second, .val (.int p1), .unset] []))
      obtain ⟨T2, X2, e2, st2⟩ := getS2 X0 hx hZ hown (host := "") (Or.inl (hw _ (List.mem_of_getElem? (i := 11) rfl))) Via.refl e0 (S_x_UNKNOWN.ext OLD.2) (g := (mkF m 24 #[.val (.long p0), .second, .val (.int p1), .unset] [])) rfl (hb hby d1_24)
      refine gs st2 ?_
      show Go p e below s QQ 0 0 (T2.setTop (mkF m 27 #[.val (.long p0), .second, .val (.int p1), .unset] [(.ref x_UNKNOWN)]))
      refine gs (fun t => XS.astoreN X2.here hx rfl (hb hby d1_27) rfl rfl (l' := #[.val (.long p0), .second, .val (.int p1), .val (.ref x_UNKNOWN)]) rfl) ?_
      show Go p e below s QQ 0 0 (T2.setTop (mkF m 28 #[.val (.long p0), .second, .val (.int p1), .val (.ref x_UNKNOWN)] []))
      refine gs (fun t => XS.aloadN X2.here hx rfl (hb hby d1_28) rfl rfl) ?_
      show Go p e below s QQ 0 0 (T2.setTop (mkF m 29 #[.val (.long p0), .second, .val (.int p1), .val (.ref x_UNKNOWN)] [(.ref x_UNKNOWN)]))
      exact goR X2 hx Bd.notSynchronized Bd.returns rfl rfl (hb hby d1_29) (by rw [← hQQ, e2]; exact ⟨by simp only [own_of, hc, hd, if_true, if_false], N0, rfl⟩) (by decide) (by decide)
    · skip
      refine gs (fun t => XS.ifNo X0.here hx rfl (hb hby d1_14) rfl ((if0 _ _).trans (feq hd).1)) ?_
      show Go p e below s QQ 0 0 (s₁.setTop (mkF m 17 #[.val (.long p0), .second, .val (.int p1), .unset] []))
      obtain ⟨T3, X3, e3, st3⟩ := getS2 X0 hx hZ hown (host := "") (Or.inl (hw _ (List.mem_of_getElem? (i := 12) rfl))) Via.refl e0 (S_x_UNSATISFIABLE.ext OLD.2) (g := (mkF m 17 #[.val (.long p0), .second, .val (.int p1), .unset] [])) rfl (hb hby d1_17)
      refine gs st3 ?_
      show Go p e below s QQ 0 0 (T3.setTop (mkF m 20 #[.val (.long p0), .second, .val (.int p1), .unset] [(.ref x_UNSATISFIABLE)]))
      refine gs (fun t => XS.astoreN X3.here hx rfl (hb hby d1_20) rfl rfl (l' := #[.val (.long p0), .second, .val (.int p1), .val (.ref x_UNSATISFIABLE)]) rfl) ?_
      show Go p e below s QQ 0 0 (T3.setTop (mkF m 21 #[.val (.long p0), .second, .val (.int p1), .val (.ref x_UNSATISFIABLE)] []))
      refine gs (fun t => XS.goto X3.here hx rfl (pc0 := 21) (pc' := 28) rfl (hb hby d1_21) (by decide) (by decide)) ?_
      show Go p e below s QQ 0 0 (T3.setTop (mkF m 28 #[.val (.long p0), .second, .val (.int p1), .val (.ref x_UNSATISFIABLE)] []))
      refine gs (fun t => XS.aloadN X3.here hx rfl (hb hby d1_28) rfl rfl) ?_
      show Go p e below s QQ 0 0 (T3.setTop (mkF m 29 #[.val (.long p0), .second, .val (.int p1), .val (.ref x_UNSATISFIABLE)] [(.ref x_UNSATISFIABLE)]))
      exact goR X3 hx Bd.notSynchronized Bd.returns rfl rfl (hb hby d1_29) (by rw [← hQQ, e3]; exact ⟨by simp only [own_of, hc, hd, if_true, if_false], N0, rfl⟩) (by decide) (by decide)
theorem pn_0 : plainName "com/example/tuplewise/tuplewise/StatusOfPinLaw" = true := by first | (simp [plainName, overriddenIn]; done) | decide +kernel
def Qrm0 (Z : State) (p0 : Int64) (p1 : Int32) (x_SATISFIABLE : Addr) (x_UNSATISFIABLE : Addr) (x_UNKNOWN : Addr) (h0 : Heap) (n0 : Nat) (v : Option Value) (h : Heap) (L : List Loc) : Prop := v = some (.int 1) ∧ Fr n0 L
set_option maxRecDepth 65536 in
set_option maxHeartbeats 40000000 in
theorem rm0 (l : Launch) (Z : State) (a0 : Array Value) (hw : ∀ d ∈ tables_1, d.before a0 Z = true) (ws : List Jvm.Cond) (p0 : Int64) (p1 : Int32) (x_SATISFIABLE : Addr) (x_UNSATISFIABLE : Addr) (x_UNKNOWN : Addr) (h0 : Heap) (n0 : Nat) (Z0 : n0 ≤ h0.size) (OLD : Old Z n0 h0) (S_x_SATISFIABLE : Sta Z Z.heap "com/example/tuplewise/tuplewise/Status" "SATISFIABLE" "Lcom/example/tuplewise/tuplewise/Status;" (.ref x_SATISFIABLE)) (E_x_SATISFIABLE : Exa Z Z.heap x_SATISFIABLE "com/example/tuplewise/tuplewise/Status") (S_x_UNSATISFIABLE : Sta Z Z.heap "com/example/tuplewise/tuplewise/Status" "UNSATISFIABLE" "Lcom/example/tuplewise/tuplewise/Status;" (.ref x_UNSATISFIABLE)) (E_x_UNSATISFIABLE : Exa Z Z.heap x_UNSATISFIABLE "com/example/tuplewise/tuplewise/Status") (F_x_SATISFIABLE_ordinal : Fld Z Z.heap x_SATISFIABLE "java/lang/Enum" "ordinal" "I" (.int (0 : Int32))) (F_x_UNSATISFIABLE_ordinal : Fld Z Z.heap x_UNSATISFIABLE "java/lang/Enum" "ordinal" "I" (.int (1 : Int32))) (S_x_UNKNOWN : Sta Z Z.heap "com/example/tuplewise/tuplewise/Status" "UNKNOWN" "Lcom/example/tuplewise/tuplewise/Status;" (.ref x_UNKNOWN)) (E_x_UNKNOWN : Exa Z Z.heap x_UNKNOWN "com/example/tuplewise/tuplewise/Status") (F_x_UNKNOWN_ordinal : Fld Z Z.heap x_UNKNOWN "java/lang/Enum" "ordinal" "I" (.int (2 : Int32))) :
    MetFree l x (head1 (Jvm.Cond.code x code maxLocals ret :: ws) room_1) (fun a U => a = #[(.long p0), (.int p1)] ∧ Z.Warmed39 U.vm ∧ U.heap = h0) (fun _ _ _ _ _ => True) (fun _ U o U' => ∃ v L, o = .returned v ∧ Qrm0 Z p0 p1 x_SATISFIABLE x_UNSATISFIABLE x_UNKNOWN h0 n0 v U'.heap L ∧ FrameEnd U o U' L room_1.cells room_1.slots) := by
  refine MetFree.of_bodySF (plainFor_of_name pn_0) hisR ?_
  intro p e s m args below meth c s₁ Bd hml0 hP hK
  obtain ⟨rfl, hZ, hh⟩ := hP
  have hx := Bd.exec
  have hby := Bd.bytes
  have hml : c.maxLocals = 9 := hml0
  have hown : s.vm.findClass "com/example/tuplewise/tuplewise/StatusOfPinLaw" = some m.cls := findClass_of_methodNamed Bd.named
  have hnm := (name_of_methodNamed Bd.named Bd.method).1
  have X0 : Stand p l e room_1 s m #[(.long p0), (.int p1)] below meth c s₁ [] 0 0 := Stand.of_body Bd
  have e0 : s₁.heap = h0 := by rw [← hh, Bd.state]; rfl
  have N0 := Fr.nil n0
  have ZZ := Z0
  show Go p e below s (Qrm0 Z p0 p1 x_SATISFIABLE x_UNSATISFIABLE x_UNKNOWN h0 n0) room_1.cells room_1.slots (s₁.setTop (entryFrame m #[(.long p0), (.int p1)] maxLocals))
  generalize hQQ : (Qrm0 Z p0 p1 x_SATISFIABLE x_UNSATISFIABLE x_UNKNOWN h0 n0) = QQ
  refine gs (fun t k => castTop (g' := (mkF m 0 #[.val (.long p0), .second, .val (.int p1), .unset, .unset, .unset, .unset, .unset, .unset] [])) (by first | (simp [entryFrame, mkF, argsToLocals, Value.category, maxLocals]; done) | rfl) k) ?_
  show Go p e below s QQ room_1.cells room_1.slots (s₁.setTop (mkF m 0 #[.val (.long p0), .second, .val (.int p1), .unset, .unset, .unset, .unset, .unset, .unset] []))
  have ne_x_SATISFIABLE_x_UNSATISFIABLE : x_SATISFIABLE ≠ x_UNSATISFIABLE := Fld.ne F_x_SATISFIABLE_ordinal F_x_UNSATISFIABLE_ordinal (by decide)
  have ne_x_SATISFIABLE_x_UNKNOWN : x_SATISFIABLE ≠ x_UNKNOWN := Fld.ne F_x_SATISFIABLE_ordinal F_x_UNKNOWN_ordinal (by decide)
  have ne_x_UNSATISFIABLE_x_UNKNOWN : x_UNSATISFIABLE ≠ x_UNKNOWN := Fld.ne F_x_UNSATISFIABLE_ordinal F_x_UNKNOWN_ordinal (by decide)
  refine gs (fun t => XS.iloadN X0.here hx rfl (hb hby at_0) rfl) ?_
  show Go p e below s QQ room_1.cells room_1.slots (s₁.setTop (mkF m 1 #[.val (.long p0), .second, .val (.int p1), .unset, .unset, .unset, .unset, .unset, .unset] [(.int p1)]))
  refine gs (fun t => XS.iconst X0.here hx rfl (hb hby at_1)) ?_
  show Go p e below s QQ room_1.cells room_1.slots (s₁.setTop (mkF m 2 #[.val (.long p0), .second, .val (.int p1), .unset, .unset, .unset, .unset, .unset, .unset] [(.int (1 : Int32)), (.int p1)]))
  refine gs (fun t => XS.iand X0.here hx rfl (hb hby at_2) rfl) ?_
  show Go p e below s QQ room_1.cells room_1.slots (s₁.setTop (mkF m 3 #[.val (.long p0), .second, .val (.int p1), .unset, .unset, .unset, .unset, .unset, .unset] [(.int (p1 &&& (1 : Int32)))]))
  by_cases hf : (p1 &&& (1 : Int32)) = (0 : Int32)
  · skip
    refine gs (fun t => XS.ifYes X0.here hx rfl (pc0 := 3) (pc' := 10) rfl (hb hby at_3) rfl ((if0 _ _).trans (teq hf).1) (by decide) (by decide)) ?_
    show Go p e below s QQ room_1.cells room_1.slots (s₁.setTop (mkF m 10 #[.val (.long p0), .second, .val (.int p1), .unset, .unset, .unset, .unset, .unset, .unset] []))
    refine gs (fun t => XS.iconst X0.here hx rfl (hb hby at_10)) ?_
    show Go p e below s QQ room_1.cells room_1.slots (s₁.setTop (mkF m 11 #[.val (.long p0), .second, .val (.int p1), .unset, .unset, .unset, .unset, .unset, .unset] [(.int (0 : Int32))]))
    refine gs (fun t => XS.istoreN X0.here hx rfl (hb hby at_11) rfl (l' := #[.val (.long p0), .second, .val (.int p1), .val (.int (0 : Int32)), .unset, .unset, .unset, .unset, .unset]) rfl) ?_
    show Go p e below s QQ room_1.cells room_1.slots (s₁.setTop (mkF m 12 #[.val (.long p0), .second, .val (.int p1), .val (.int (0 : Int32)), .unset, .unset, .unset, .unset, .unset] []))
    refine gs (fun t => XS.lloadN X0.here hx rfl (hb hby at_12) rfl) ?_
    show Go p e below s QQ room_1.cells room_1.slots (s₁.setTop (mkF m 13 #[.val (.long p0), .second, .val (.int p1), .val (.int (0 : Int32)), .unset, .unset, .unset, .unset, .unset] [(.long p0)]))
    refine gs (fun t => XS.iloadN X0.here hx rfl (hb hby at_13) rfl) ?_
    show Go p e below s QQ room_1.cells room_1.slots (s₁.setTop (mkF m 14 #[.val (.long p0), .second, .val (.int p1), .val (.int (0 : Int32)), .unset, .unset, .unset, .unset, .unset] [(.int (0 : Int32)), (.long p0)]))
    obtain ⟨_, _, ⟨T4, L4, k4, n4⟩, -, X4, ⟨Lc4, hQ4, l4, y4, z4⟩, st4⟩ := Jvm.LawKit.callS X0 hx (y := (⟨"com/example/tuplewise/tuplewise/Status", "of", "(JZ)Lcom/example/tuplewise/tuplewise/Status;"⟩ : MethodName)) hown (mvT hZ (hw _ (List.mem_of_getElem? (i := 0) rfl))) (mvT hZ (hw _ (List.mem_of_getElem? (i := 1) rfl))) (mvT hZ (hw _ (List.mem_of_getElem? (i := 2) rfl))) (mvT hZ (hw _ (List.mem_of_getElem? (i := 3) rfl))) (by decide) (backOf (W := 0) (rm1 l Z a0 hw [] p0 (0 : Int32) x_SATISFIABLE x_UNSATISFIABLE x_UNKNOWN h0 n0 ZZ OLD S_x_SATISFIABLE S_x_UNSATISFIABLE S_x_UNKNOWN) hZ (hw _ (List.mem_of_getElem? (i := 3) rfl)) (hw _ (List.mem_of_getElem? (i := 2) rfl)) (by decide) (by decide)) (g := (mkF m 14 #[.val (.long p0), .second, .val (.int p1), .val (.int (0 : Int32)), .unset, .unset, .unset, .unset, .unset] [(.int (0 : Int32)), (.long p0)])) rfl (by rw [hml]; rfl) (argsL := [(.long p0), (.int (0 : Int32))]) (rest := []) (lenOf pd_0 rfl) rfl (by show 2 * 0 + _ ≤ _; exact Nat.le_of_eq rfl) (hb hby at_14) (fun _ _ => ⟨rfl, e0, (by decide : 0 + 0 ≤ _), (by decide : 0 + 0 ≤ _)⟩)
    dsimp only [Pt.U, Pt.locs, Pt.cells, Pt.slots] at X4 l4 y4 z4 st4 hQ4
    subst l4 y4 z4
    obtain ⟨rfl, N4q, e4⟩ := hQ4
    replace N0 := Fr.app N0 N4q
    refine gs st4 ?_
    show Go p e below s QQ room_1.cells room_1.slots (T4.setTop (mkF m 17 #[.val (.long p0), .second, .val (.int p1), .val (.int (0 : Int32)), .unset, .unset, .unset, .unset, .unset] [(.ref (own_of (lcmpW p0 (0 : Int64)) (0 : Int32) x_SATISFIABLE x_UNSATISFIABLE x_UNKNOWN))]))
    by_cases hc : (0 : Int32) < (lcmpW p0 (0 : Int64))
    · skip
      rw [show own_of (lcmpW p0 (0 : Int64)) (0 : Int32) x_SATISFIABLE x_UNSATISFIABLE x_UNKNOWN = x_SATISFIABLE from by simp only [own_of, hc, if_true, if_false]]
      show Go p e below s QQ room_1.cells room_1.slots (T4.setTop (mkF m 17 #[.val (.long p0), .second, .val (.int p1), .val (.int (0 : Int32)), .unset, .unset, .unset, .unset, .unset] [(.ref x_SATISFIABLE)]))
      refine gs (fun t => XS.astore X4.here hx rfl (hb hby at_17) rfl rfl (l' := #[.val (.long p0), .second, .val (.int p1), .val (.int (0 : Int32)), .val (.ref x_SATISFIABLE), .unset, .unset, .unset, .unset]) rfl) ?_
      show Go p e below s QQ room_1.cells room_1.slots (T4.setTop (mkF m 19 #[.val (.long p0), .second, .val (.int p1), .val (.int (0 : Int32)), .val (.ref x_SATISFIABLE), .unset, .unset, .unset, .unset] []))
      refine gs (fun t => XS.lloadN X4.here hx rfl (hb hby at_19) rfl) ?_
      show Go p e below s QQ room_1.cells room_1.slots (T4.setTop (mkF m 20 #[.val (.long p0), .second, .val (.int p1), .val (.int (0 : Int32)), .val (.ref x_SATISFIABLE), .unset, .unset, .unset, .unset] [(.long p0)]))
      refine gs (fun t => XS.lconst X4.here hx rfl (hb hby at_20)) ?_
      show Go p e below s QQ room_1.cells room_1.slots (T4.setTop (mkF m 21 #[.val (.long p0), .second, .val (.int p1), .val (.int (0 : Int32)), .val (.ref x_SATISFIABLE), .unset, .unset, .unset, .unset] [(.long (0 : Int64)), (.long p0)]))
      refine gs (fun t => XS.lcmp X4.here hx rfl (hb hby at_21) rfl) ?_
      show Go p e below s QQ room_1.cells room_1.slots (T4.setTop (mkF m 22 #[.val (.long p0), .second, .val (.int p1), .val (.int (0 : Int32)), .val (.ref x_SATISFIABLE), .unset, .unset, .unset, .unset] [(.int (lcmpW p0 (0 : Int64)))]))
      refine gs (fun t => XS.ifNo X4.here hx rfl (hb hby at_22) rfl ((if0 _ _).trans (tlt (hc : (0 : Int32) < (lcmpW p0 (0 : Int64)))).2.2.2)) ?_
      show Go p e below s QQ room_1.cells room_1.slots (T4.setTop (mkF m 25 #[.val (.long p0), .second, .val (.int p1), .val (.int (0 : Int32)), .val (.ref x_SATISFIABLE), .unset, .unset, .unset, .unset] []))
      refine gs (fun t => XS.iconst X4.here hx rfl (hb hby at_25)) ?_
      show Go p e below s QQ room_1.cells room_1.slots (T4.setTop (mkF m 26 #[.val (.long p0), .second, .val (.int p1), .val (.int (0 : Int32)), .val (.ref x_SATISFIABLE), .unset, .unset, .unset, .unset] [(.int (1 : Int32))]))
      refine gs (fun t => XS.goto X4.here hx rfl (pc0 := 26) (pc' := 30) rfl (hb hby at_26) (by decide) (by decide)) ?_
      show Go p e below s QQ room_1.cells room_1.slots (T4.setTop (mkF m 30 #[.val (.long p0), .second, .val (.int p1), .val (.int (0 : Int32)), .val (.ref x_SATISFIABLE), .unset, .unset, .unset, .unset] [(.int (1 : Int32))]))
      refine gs (fun t => XS.istore X4.here hx rfl (hb hby at_30) rfl (l' := #[.val (.long p0), .second, .val (.int p1), .val (.int (0 : Int32)), .val (.ref x_SATISFIABLE), .val (.int (1 : Int32)), .unset, .unset, .unset]) rfl) ?_
      show Go p e below s QQ room_1.cells room_1.slots (T4.setTop (mkF m 32 #[.val (.long p0), .second, .val (.int p1), .val (.int (0 : Int32)), .val (.ref x_SATISFIABLE), .val (.int (1 : Int32)), .unset, .unset, .unset] []))
      refine gs (fun t => XS.aload X4.here hx rfl (hb hby at_32) rfl rfl) ?_
      show Go p e below s QQ room_1.cells room_1.slots (T4.setTop (mkF m 34 #[.val (.long p0), .second, .val (.int p1), .val (.int (0 : Int32)), .val (.ref x_SATISFIABLE), .val (.int (1 : Int32)), .unset, .unset, .unset] [(.ref x_SATISFIABLE)]))
      obtain ⟨T5, X5, e5, st5⟩ := getS2 X4 hx hZ hown (host := "") (Or.inl (hw _ (List.mem_of_getElem? (i := 6) rfl))) Via.refl e4 (S_x_SATISFIABLE.ext OLD.2) (g := (mkF m 34 #[.val (.long p0), .second, .val (.int p1), .val (.int (0 : Int32)), .val (.ref x_SATISFIABLE), .val (.int (1 : Int32)), .unset, .unset, .unset] [(.ref x_SATISFIABLE)])) rfl (hb hby at_34)
      refine gs st5 ?_
      show Go p e below s QQ room_1.cells room_1.slots (T5.setTop (mkF m 37 #[.val (.long p0), .second, .val (.int p1), .val (.int (0 : Int32)), .val (.ref x_SATISFIABLE), .val (.int (1 : Int32)), .unset, .unset, .unset] [(.ref x_SATISFIABLE), (.ref x_SATISFIABLE)]))
      refine gs (fun t => Jvm.RoadKit.acmp (g := (mkF m 37 #[.val (.long p0), .second, .val (.int p1), .val (.int (0 : Int32)), .val (.ref x_SATISFIABLE), .val (.int (1 : Int32)), .unset, .unset, .unset] [(.ref x_SATISFIABLE), (.ref x_SATISFIABLE)])) X5 hx rfl rfl rfl (pc0 := 37) (pc' := 40) (same := true) rfl (hb hby at_37) rfl (decide_eq_true rfl) (by decide) (by decide)) ?_
      show Go p e below s QQ room_1.cells room_1.slots (T5.setTop (mkF m 40 #[.val (.long p0), .second, .val (.int p1), .val (.int (0 : Int32)), .val (.ref x_SATISFIABLE), .val (.int (1 : Int32)), .unset, .unset, .unset] []))
      refine gs (fun t => XS.iconst X5.here hx rfl (hb hby at_40)) ?_
      show Go p e below s QQ room_1.cells room_1.slots (T5.setTop (mkF m 41 #[.val (.long p0), .second, .val (.int p1), .val (.int (0 : Int32)), .val (.ref x_SATISFIABLE), .val (.int (1 : Int32)), .unset, .unset, .unset] [(.int (1 : Int32))]))
      refine gs (fun t => XS.goto X5.here hx rfl (pc0 := 41) (pc' := 45) rfl (hb hby at_41) (by decide) (by decide)) ?_
      show Go p e below s QQ room_1.cells room_1.slots (T5.setTop (mkF m 45 #[.val (.long p0), .second, .val (.int p1), .val (.int (0 : Int32)), .val (.ref x_SATISFIABLE), .val (.int (1 : Int32)), .unset, .unset, .unset] [(.int (1 : Int32))]))
      refine gs (fun t => XS.iload X5.here hx rfl (hb hby at_45) rfl) ?_
      show Go p e below s QQ room_1.cells room_1.slots (T5.setTop (mkF m 47 #[.val (.long p0), .second, .val (.int p1), .val (.int (0 : Int32)), .val (.ref x_SATISFIABLE), .val (.int (1 : Int32)), .unset, .unset, .unset] [(.int (1 : Int32)), (.int (1 : Int32))]))
      refine gs (fun t => XS.icmpNo X5.here hx rfl (hb hby at_47) rfl (teq (by decide : (1 : Int32) = (1 : Int32))).2) ?_
      show Go p e below s QQ room_1.cells room_1.slots (T5.setTop (mkF m 50 #[.val (.long p0), .second, .val (.int p1), .val (.int (0 : Int32)), .val (.ref x_SATISFIABLE), .val (.int (1 : Int32)), .unset, .unset, .unset] []))
      refine gs (fun t => XS.iconst X5.here hx rfl (hb hby at_50)) ?_
      show Go p e below s QQ room_1.cells room_1.slots (T5.setTop (mkF m 51 #[.val (.long p0), .second, .val (.int p1), .val (.int (0 : Int32)), .val (.ref x_SATISFIABLE), .val (.int (1 : Int32)), .unset, .unset, .unset] [(.int (1 : Int32))]))
      refine gs (fun t => XS.goto X5.here hx rfl (pc0 := 51) (pc' := 55) rfl (hb hby at_51) (by decide) (by decide)) ?_
      show Go p e below s QQ room_1.cells room_1.slots (T5.setTop (mkF m 55 #[.val (.long p0), .second, .val (.int p1), .val (.int (0 : Int32)), .val (.ref x_SATISFIABLE), .val (.int (1 : Int32)), .unset, .unset, .unset] [(.int (1 : Int32))]))
      refine gs (fun t => XS.istore X5.here hx rfl (hb hby at_55) rfl (l' := #[.val (.long p0), .second, .val (.int p1), .val (.int (0 : Int32)), .val (.ref x_SATISFIABLE), .val (.int (1 : Int32)), .val (.int (1 : Int32)), .unset, .unset]) rfl) ?_
      show Go p e below s QQ room_1.cells room_1.slots (T5.setTop (mkF m 57 #[.val (.long p0), .second, .val (.int p1), .val (.int (0 : Int32)), .val (.ref x_SATISFIABLE), .val (.int (1 : Int32)), .val (.int (1 : Int32)), .unset, .unset] []))
      refine gs (fun t => XS.aload X5.here hx rfl (hb hby at_57) rfl rfl) ?_
      show Go p e below s QQ room_1.cells room_1.slots (T5.setTop (mkF m 59 #[.val (.long p0), .second, .val (.int p1), .val (.int (0 : Int32)), .val (.ref x_SATISFIABLE), .val (.int (1 : Int32)), .val (.int (1 : Int32)), .unset, .unset] [(.ref x_SATISFIABLE)]))
      obtain ⟨T6, X6, e6, st6⟩ := getS2 X5 hx hZ hown (host := "") (Or.inl (hw _ (List.mem_of_getElem? (i := 7) rfl))) Via.refl e5 (S_x_UNSATISFIABLE.ext OLD.2) (g := (mkF m 59 #[.val (.long p0), .second, .val (.int p1), .val (.int (0 : Int32)), .val (.ref x_SATISFIABLE), .val (.int (1 : Int32)), .val (.int (1 : Int32)), .unset, .unset] [(.ref x_SATISFIABLE)])) rfl (hb hby at_59)
      refine gs st6 ?_
      show Go p e below s QQ room_1.cells room_1.slots (T6.setTop (mkF m 62 #[.val (.long p0), .second, .val (.int p1), .val (.int (0 : Int32)), .val (.ref x_SATISFIABLE), .val (.int (1 : Int32)), .val (.int (1 : Int32)), .unset, .unset] [(.ref x_UNSATISFIABLE), (.ref x_SATISFIABLE)]))
      refine gs (fun t => Jvm.RoadKit.acmp (g := (mkF m 62 #[.val (.long p0), .second, .val (.int p1), .val (.int (0 : Int32)), .val (.ref x_SATISFIABLE), .val (.int (1 : Int32)), .val (.int (1 : Int32)), .unset, .unset] [(.ref x_UNSATISFIABLE), (.ref x_SATISFIABLE)])) X6 hx rfl rfl rfl (pc0 := 62) (pc' := 69) (same := false) rfl (hb hby at_62) rfl (decide_eq_false (fun q => ne_x_SATISFIABLE_x_UNSATISFIABLE (Value.ref.inj q))) (by decide) (by decide)) ?_
      show Go p e below s QQ room_1.cells room_1.slots (T6.setTop (mkF m 69 #[.val (.long p0), .second, .val (.int p1), .val (.int (0 : Int32)), .val (.ref x_SATISFIABLE), .val (.int (1 : Int32)), .val (.int (1 : Int32)), .unset, .unset] []))
      refine gs (fun t => XS.iconst X6.here hx rfl (hb hby at_69)) ?_
      show Go p e below s QQ room_1.cells room_1.slots (T6.setTop (mkF m 70 #[.val (.long p0), .second, .val (.int p1), .val (.int (0 : Int32)), .val (.ref x_SATISFIABLE), .val (.int (1 : Int32)), .val (.int (1 : Int32)), .unset, .unset] [(.int (0 : Int32))]))
      refine gs (fun t => XS.iload X6.here hx rfl (hb hby at_70) rfl) ?_
      show Go p e below s QQ room_1.cells room_1.slots (T6.setTop (mkF m 72 #[.val (.long p0), .second, .val (.int p1), .val (.int (0 : Int32)), .val (.ref x_SATISFIABLE), .val (.int (1 : Int32)), .val (.int (1 : Int32)), .unset, .unset] [(.int (1 : Int32)), (.int (0 : Int32))]))
      refine gs (fun t => XS.ifYes X6.here hx rfl (pc0 := 72) (pc' := 83) rfl (hb hby at_72) rfl ((if0 _ _).trans (feq (by decide : ¬ ((1 : Int32) = (0 : Int32)))).2) (by decide) (by decide)) ?_
      show Go p e below s QQ room_1.cells room_1.slots (T6.setTop (mkF m 83 #[.val (.long p0), .second, .val (.int p1), .val (.int (0 : Int32)), .val (.ref x_SATISFIABLE), .val (.int (1 : Int32)), .val (.int (1 : Int32)), .unset, .unset] [(.int (0 : Int32))]))
      refine gs (fun t => XS.iconst X6.here hx rfl (hb hby at_83)) ?_
      show Go p e below s QQ room_1.cells room_1.slots (T6.setTop (mkF m 84 #[.val (.long p0), .second, .val (.int p1), .val (.int (0 : Int32)), .val (.ref x_SATISFIABLE), .val (.int (1 : Int32)), .val (.int (1 : Int32)), .unset, .unset] [(.int (0 : Int32)), (.int (0 : Int32))]))
      refine gs (fun t => XS.icmpNo X6.here hx rfl (hb hby at_84) rfl (teq (by decide : (0 : Int32) = (0 : Int32))).2) ?_
      show Go p e below s QQ room_1.cells room_1.slots (T6.setTop (mkF m 87 #[.val (.long p0), .second, .val (.int p1), .val (.int (0 : Int32)), .val (.ref x_SATISFIABLE), .val (.int (1 : Int32)), .val (.int (1 : Int32)), .unset, .unset] []))
      refine gs (fun t => XS.iconst X6.here hx rfl (hb hby at_87)) ?_
      show Go p e below s QQ room_1.cells room_1.slots (T6.setTop (mkF m 88 #[.val (.long p0), .second, .val (.int p1), .val (.int (0 : Int32)), .val (.ref x_SATISFIABLE), .val (.int (1 : Int32)), .val (.int (1 : Int32)), .unset, .unset] [(.int (1 : Int32))]))
      refine gs (fun t => XS.goto X6.here hx rfl (pc0 := 88) (pc' := 92) rfl (hb hby at_88) (by decide) (by decide)) ?_
      show Go p e below s QQ room_1.cells room_1.slots (T6.setTop (mkF m 92 #[.val (.long p0), .second, .val (.int p1), .val (.int (0 : Int32)), .val (.ref x_SATISFIABLE), .val (.int (1 : Int32)), .val (.int (1 : Int32)), .unset, .unset] [(.int (1 : Int32))]))
      refine gs (fun t => XS.istore X6.here hx rfl (hb hby at_92) rfl (l' := #[.val (.long p0), .second, .val (.int p1), .val (.int (0 : Int32)), .val (.ref x_SATISFIABLE), .val (.int (1 : Int32)), .val (.int (1 : Int32)), .val (.int (1 : Int32)), .unset]) rfl) ?_
      show Go p e below s QQ room_1.cells room_1.slots (T6.setTop (mkF m 94 #[.val (.long p0), .second, .val (.int p1), .val (.int (0 : Int32)), .val (.ref x_SATISFIABLE), .val (.int (1 : Int32)), .val (.int (1 : Int32)), .val (.int (1 : Int32)), .unset] []))
      refine gs (fun t => XS.aload X6.here hx rfl (hb hby at_94) rfl rfl) ?_
      show Go p e below s QQ room_1.cells room_1.slots (T6.setTop (mkF m 96 #[.val (.long p0), .second, .val (.int p1), .val (.int (0 : Int32)), .val (.ref x_SATISFIABLE), .val (.int (1 : Int32)), .val (.int (1 : Int32)), .val (.int (1 : Int32)), .unset] [(.ref x_SATISFIABLE)]))
      obtain ⟨T7, X7, e7, st7⟩ := getS2 X6 hx hZ hown (host := "") (Or.inl (hw _ (List.mem_of_getElem? (i := 9) rfl))) Via.refl e6 (S_x_UNKNOWN.ext OLD.2) (g := (mkF m 96 #[.val (.long p0), .second, .val (.int p1), .val (.int (0 : Int32)), .val (.ref x_SATISFIABLE), .val (.int (1 : Int32)), .val (.int (1 : Int32)), .val (.int (1 : Int32)), .unset] [(.ref x_SATISFIABLE)])) rfl (hb hby at_96)
      refine gs st7 ?_
      show Go p e below s QQ room_1.cells room_1.slots (T7.setTop (mkF m 99 #[.val (.long p0), .second, .val (.int p1), .val (.int (0 : Int32)), .val (.ref x_SATISFIABLE), .val (.int (1 : Int32)), .val (.int (1 : Int32)), .val (.int (1 : Int32)), .unset] [(.ref x_UNKNOWN), (.ref x_SATISFIABLE)]))
      refine gs (fun t => Jvm.RoadKit.acmp (g := (mkF m 99 #[.val (.long p0), .second, .val (.int p1), .val (.int (0 : Int32)), .val (.ref x_SATISFIABLE), .val (.int (1 : Int32)), .val (.int (1 : Int32)), .val (.int (1 : Int32)), .unset] [(.ref x_UNKNOWN), (.ref x_SATISFIABLE)])) X7 hx rfl rfl rfl (pc0 := 99) (pc' := 106) (same := false) rfl (hb hby at_99) rfl (decide_eq_false (fun q => ne_x_SATISFIABLE_x_UNKNOWN (Value.ref.inj q))) (by decide) (by decide)) ?_
      show Go p e below s QQ room_1.cells room_1.slots (T7.setTop (mkF m 106 #[.val (.long p0), .second, .val (.int p1), .val (.int (0 : Int32)), .val (.ref x_SATISFIABLE), .val (.int (1 : Int32)), .val (.int (1 : Int32)), .val (.int (1 : Int32)), .unset] []))
      refine gs (fun t => XS.iconst X7.here hx rfl (hb hby at_106)) ?_
      show Go p e below s QQ room_1.cells room_1.slots (T7.setTop (mkF m 107 #[.val (.long p0), .second, .val (.int p1), .val (.int (0 : Int32)), .val (.ref x_SATISFIABLE), .val (.int (1 : Int32)), .val (.int (1 : Int32)), .val (.int (1 : Int32)), .unset] [(.int (0 : Int32))]))
      refine gs (fun t => XS.iload X7.here hx rfl (hb hby at_107) rfl) ?_
      show Go p e below s QQ room_1.cells room_1.slots (T7.setTop (mkF m 109 #[.val (.long p0), .second, .val (.int p1), .val (.int (0 : Int32)), .val (.ref x_SATISFIABLE), .val (.int (1 : Int32)), .val (.int (1 : Int32)), .val (.int (1 : Int32)), .unset] [(.int (1 : Int32)), (.int (0 : Int32))]))
      refine gs (fun t => XS.ifYes X7.here hx rfl (pc0 := 109) (pc' := 120) rfl (hb hby at_109) rfl ((if0 _ _).trans (feq (by decide : ¬ ((1 : Int32) = (0 : Int32)))).2) (by decide) (by decide)) ?_
      show Go p e below s QQ room_1.cells room_1.slots (T7.setTop (mkF m 120 #[.val (.long p0), .second, .val (.int p1), .val (.int (0 : Int32)), .val (.ref x_SATISFIABLE), .val (.int (1 : Int32)), .val (.int (1 : Int32)), .val (.int (1 : Int32)), .unset] [(.int (0 : Int32))]))
      refine gs (fun t => XS.iconst X7.here hx rfl (hb hby at_120)) ?_
      show Go p e below s QQ room_1.cells room_1.slots (T7.setTop (mkF m 121 #[.val (.long p0), .second, .val (.int p1), .val (.int (0 : Int32)), .val (.ref x_SATISFIABLE), .val (.int (1 : Int32)), .val (.int (1 : Int32)), .val (.int (1 : Int32)), .unset] [(.int (0 : Int32)), (.int (0 : Int32))]))
      refine gs (fun t => XS.icmpNo X7.here hx rfl (hb hby at_121) rfl (teq (by decide : (0 : Int32) = (0 : Int32))).2) ?_
      show Go p e below s QQ room_1.cells room_1.slots (T7.setTop (mkF m 124 #[.val (.long p0), .second, .val (.int p1), .val (.int (0 : Int32)), .val (.ref x_SATISFIABLE), .val (.int (1 : Int32)), .val (.int (1 : Int32)), .val (.int (1 : Int32)), .unset] []))
      refine gs (fun t => XS.iconst X7.here hx rfl (hb hby at_124)) ?_
      show Go p e below s QQ room_1.cells room_1.slots (T7.setTop (mkF m 125 #[.val (.long p0), .second, .val (.int p1), .val (.int (0 : Int32)), .val (.ref x_SATISFIABLE), .val (.int (1 : Int32)), .val (.int (1 : Int32)), .val (.int (1 : Int32)), .unset] [(.int (1 : Int32))]))
      refine gs (fun t => XS.goto X7.here hx rfl (pc0 := 125) (pc' := 129) rfl (hb hby at_125) (by decide) (by decide)) ?_
      show Go p e below s QQ room_1.cells room_1.slots (T7.setTop (mkF m 129 #[.val (.long p0), .second, .val (.int p1), .val (.int (0 : Int32)), .val (.ref x_SATISFIABLE), .val (.int (1 : Int32)), .val (.int (1 : Int32)), .val (.int (1 : Int32)), .unset] [(.int (1 : Int32))]))
      refine gs (fun t => XS.istore X7.here hx rfl (hb hby at_129) rfl (l' := #[.val (.long p0), .second, .val (.int p1), .val (.int (0 : Int32)), .val (.ref x_SATISFIABLE), .val (.int (1 : Int32)), .val (.int (1 : Int32)), .val (.int (1 : Int32)), .val (.int (1 : Int32))]) rfl) ?_
      show Go p e below s QQ room_1.cells room_1.slots (T7.setTop (mkF m 131 #[.val (.long p0), .second, .val (.int p1), .val (.int (0 : Int32)), .val (.ref x_SATISFIABLE), .val (.int (1 : Int32)), .val (.int (1 : Int32)), .val (.int (1 : Int32)), .val (.int (1 : Int32))] []))
      refine gs (fun t => XS.iload X7.here hx rfl (hb hby at_131) rfl) ?_
      show Go p e below s QQ room_1.cells room_1.slots (T7.setTop (mkF m 133 #[.val (.long p0), .second, .val (.int p1), .val (.int (0 : Int32)), .val (.ref x_SATISFIABLE), .val (.int (1 : Int32)), .val (.int (1 : Int32)), .val (.int (1 : Int32)), .val (.int (1 : Int32))] [(.int (1 : Int32))]))
      refine gs (fun t => XS.ifNo X7.here hx rfl (hb hby at_133) rfl ((if0 _ _).trans (feq (by decide : ¬ ((1 : Int32) = (0 : Int32)))).1)) ?_
      show Go p e below s QQ room_1.cells room_1.slots (T7.setTop (mkF m 136 #[.val (.long p0), .second, .val (.int p1), .val (.int (0 : Int32)), .val (.ref x_SATISFIABLE), .val (.int (1 : Int32)), .val (.int (1 : Int32)), .val (.int (1 : Int32)), .val (.int (1 : Int32))] []))
      refine gs (fun t => XS.iload X7.here hx rfl (hb hby at_136) rfl) ?_
      show Go p e below s QQ room_1.cells room_1.slots (T7.setTop (mkF m 138 #[.val (.long p0), .second, .val (.int p1), .val (.int (0 : Int32)), .val (.ref x_SATISFIABLE), .val (.int (1 : Int32)), .val (.int (1 : Int32)), .val (.int (1 : Int32)), .val (.int (1 : Int32))] [(.int (1 : Int32))]))
      refine gs (fun t => XS.ifNo X7.here hx rfl (hb hby at_138) rfl ((if0 _ _).trans (feq (by decide : ¬ ((1 : Int32) = (0 : Int32)))).1)) ?_
      show Go p e below s QQ room_1.cells room_1.slots (T7.setTop (mkF m 141 #[.val (.long p0), .second, .val (.int p1), .val (.int (0 : Int32)), .val (.ref x_SATISFIABLE), .val (.int (1 : Int32)), .val (.int (1 : Int32)), .val (.int (1 : Int32)), .val (.int (1 : Int32))] []))
      refine gs (fun t => XS.iload X7.here hx rfl (hb hby at_141) rfl) ?_
      show Go p e below s QQ room_1.cells room_1.slots (T7.setTop (mkF m 143 #[.val (.long p0), .second, .val (.int p1), .val (.int (0 : Int32)), .val (.ref x_SATISFIABLE), .val (.int (1 : Int32)), .val (.int (1 : Int32)), .val (.int (1 : Int32)), .val (.int (1 : Int32))] [(.int (1 : Int32))]))
      refine gs (fun t => XS.ifNo X7.here hx rfl (hb hby at_143) rfl ((if0 _ _).trans (feq (by decide : ¬ ((1 : Int32) = (0 : Int32)))).1)) ?_
      show Go p e below s QQ room_1.cells room_1.slots (T7.setTop (mkF m 146 #[.val (.long p0), .second, .val (.int p1), .val (.int (0 : Int32)), .val (.ref x_SATISFIABLE), .val (.int (1 : Int32)), .val (.int (1 : Int32)), .val (.int (1 : Int32)), .val (.int (1 : Int32))] []))
      refine gs (fun t => XS.iconst X7.here hx rfl (hb hby at_146)) ?_
      show Go p e below s QQ room_1.cells room_1.slots (T7.setTop (mkF m 147 #[.val (.long p0), .second, .val (.int p1), .val (.int (0 : Int32)), .val (.ref x_SATISFIABLE), .val (.int (1 : Int32)), .val (.int (1 : Int32)), .val (.int (1 : Int32)), .val (.int (1 : Int32))] [(.int (1 : Int32))]))
      refine gs (fun t => XS.goto X7.here hx rfl (pc0 := 147) (pc' := 151) rfl (hb hby at_147) (by decide) (by decide)) ?_
      show Go p e below s QQ room_1.cells room_1.slots (T7.setTop (mkF m 151 #[.val (.long p0), .second, .val (.int p1), .val (.int (0 : Int32)), .val (.ref x_SATISFIABLE), .val (.int (1 : Int32)), .val (.int (1 : Int32)), .val (.int (1 : Int32)), .val (.int (1 : Int32))] [(.int (1 : Int32))]))
      exact goB X7 hx Bd.notSynchronized Bd.returns (by simp) (w := (1 : Int32)) (by first | rfl | decide) (hb hby at_151) (by rw [← hQQ, e7]; exact ⟨rfl, N0⟩) (by decide) (by decide)
    · skip
      rw [show own_of (lcmpW p0 (0 : Int64)) (0 : Int32) x_SATISFIABLE x_UNSATISFIABLE x_UNKNOWN = x_UNKNOWN from by simp only [own_of, hc, if_true, if_false]]
      show Go p e below s QQ room_1.cells room_1.slots (T4.setTop (mkF m 17 #[.val (.long p0), .second, .val (.int p1), .val (.int (0 : Int32)), .unset, .unset, .unset, .unset, .unset] [(.ref x_UNKNOWN)]))
      refine gs (fun t => XS.astore X4.here hx rfl (hb hby at_17) rfl rfl (l' := #[.val (.long p0), .second, .val (.int p1), .val (.int (0 : Int32)), .val (.ref x_UNKNOWN), .unset, .unset, .unset, .unset]) rfl) ?_
      show Go p e below s QQ room_1.cells room_1.slots (T4.setTop (mkF m 19 #[.val (.long p0), .second, .val (.int p1), .val (.int (0 : Int32)), .val (.ref x_UNKNOWN), .unset, .unset, .unset, .unset] []))
      refine gs (fun t => XS.lloadN X4.here hx rfl (hb hby at_19) rfl) ?_
      show Go p e below s QQ room_1.cells room_1.slots (T4.setTop (mkF m 20 #[.val (.long p0), .second, .val (.int p1), .val (.int (0 : Int32)), .val (.ref x_UNKNOWN), .unset, .unset, .unset, .unset] [(.long p0)]))
      refine gs (fun t => XS.lconst X4.here hx rfl (hb hby at_20)) ?_
      show Go p e below s QQ room_1.cells room_1.slots (T4.setTop (mkF m 21 #[.val (.long p0), .second, .val (.int p1), .val (.int (0 : Int32)), .val (.ref x_UNKNOWN), .unset, .unset, .unset, .unset] [(.long (0 : Int64)), (.long p0)]))
      refine gs (fun t => XS.lcmp X4.here hx rfl (hb hby at_21) rfl) ?_
      show Go p e below s QQ room_1.cells room_1.slots (T4.setTop (mkF m 22 #[.val (.long p0), .second, .val (.int p1), .val (.int (0 : Int32)), .val (.ref x_UNKNOWN), .unset, .unset, .unset, .unset] [(.int (lcmpW p0 (0 : Int64)))]))
      refine gs (fun t => XS.ifYes X4.here hx rfl (pc0 := 22) (pc' := 29) rfl (hb hby at_22) rfl ((if0 _ _).trans (flt (hc : ¬ ((0 : Int32) < (lcmpW p0 (0 : Int64))))).2.2.2) (by decide) (by decide)) ?_
      show Go p e below s QQ room_1.cells room_1.slots (T4.setTop (mkF m 29 #[.val (.long p0), .second, .val (.int p1), .val (.int (0 : Int32)), .val (.ref x_UNKNOWN), .unset, .unset, .unset, .unset] []))
      refine gs (fun t => XS.iconst X4.here hx rfl (hb hby at_29)) ?_
      show Go p e below s QQ room_1.cells room_1.slots (T4.setTop (mkF m 30 #[.val (.long p0), .second, .val (.int p1), .val (.int (0 : Int32)), .val (.ref x_UNKNOWN), .unset, .unset, .unset, .unset] [(.int (0 : Int32))]))
      refine gs (fun t => XS.istore X4.here hx rfl (hb hby at_30) rfl (l' := #[.val (.long p0), .second, .val (.int p1), .val (.int (0 : Int32)), .val (.ref x_UNKNOWN), .val (.int (0 : Int32)), .unset, .unset, .unset]) rfl) ?_
      show Go p e below s QQ room_1.cells room_1.slots (T4.setTop (mkF m 32 #[.val (.long p0), .second, .val (.int p1), .val (.int (0 : Int32)), .val (.ref x_UNKNOWN), .val (.int (0 : Int32)), .unset, .unset, .unset] []))
      refine gs (fun t => XS.aload X4.here hx rfl (hb hby at_32) rfl rfl) ?_
      show Go p e below s QQ room_1.cells room_1.slots (T4.setTop (mkF m 34 #[.val (.long p0), .second, .val (.int p1), .val (.int (0 : Int32)), .val (.ref x_UNKNOWN), .val (.int (0 : Int32)), .unset, .unset, .unset] [(.ref x_UNKNOWN)]))
      obtain ⟨T8, X8, e8, st8⟩ := getS2 X4 hx hZ hown (host := "") (Or.inl (hw _ (List.mem_of_getElem? (i := 6) rfl))) Via.refl e4 (S_x_SATISFIABLE.ext OLD.2) (g := (mkF m 34 #[.val (.long p0), .second, .val (.int p1), .val (.int (0 : Int32)), .val (.ref x_UNKNOWN), .val (.int (0 : Int32)), .unset, .unset, .unset] [(.ref x_UNKNOWN)])) rfl (hb hby at_34)
      refine gs st8 ?_
      show Go p e below s QQ room_1.cells room_1.slots (T8.setTop (mkF m 37 #[.val (.long p0), .second, .val (.int p1), .val (.int (0 : Int32)), .val (.ref x_UNKNOWN), .val (.int (0 : Int32)), .unset, .unset, .unset] [(.ref x_SATISFIABLE), (.ref x_UNKNOWN)]))
      refine gs (fun t => Jvm.RoadKit.acmp (g := (mkF m 37 #[.val (.long p0), .second, .val (.int p1), .val (.int (0 : Int32)), .val (.ref x_UNKNOWN), .val (.int (0 : Int32)), .unset, .unset, .unset] [(.ref x_SATISFIABLE), (.ref x_UNKNOWN)])) X8 hx rfl rfl rfl (pc0 := 37) (pc' := 44) (same := false) rfl (hb hby at_37) rfl (decide_eq_false (fun q => (Ne.symm ne_x_SATISFIABLE_x_UNKNOWN) (Value.ref.inj q))) (by decide) (by decide)) ?_
      show Go p e below s QQ room_1.cells room_1.slots (T8.setTop (mkF m 44 #[.val (.long p0), .second, .val (.int p1), .val (.int (0 : Int32)), .val (.ref x_UNKNOWN), .val (.int (0 : Int32)), .unset, .unset, .unset] []))
      refine gs (fun t => XS.iconst X8.here hx rfl (hb hby at_44)) ?_
      show Go p e below s QQ room_1.cells room_1.slots (T8.setTop (mkF m 45 #[.val (.long p0), .second, .val (.int p1), .val (.int (0 : Int32)), .val (.ref x_UNKNOWN), .val (.int (0 : Int32)), .unset, .unset, .unset] [(.int (0 : Int32))]))
      refine gs (fun t => XS.iload X8.here hx rfl (hb hby at_45) rfl) ?_
      show Go p e below s QQ room_1.cells room_1.slots (T8.setTop (mkF m 47 #[.val (.long p0), .second, .val (.int p1), .val (.int (0 : Int32)), .val (.ref x_UNKNOWN), .val (.int (0 : Int32)), .unset, .unset, .unset] [(.int (0 : Int32)), (.int (0 : Int32))]))
      refine gs (fun t => XS.icmpNo X8.here hx rfl (hb hby at_47) rfl (teq (by decide : (0 : Int32) = (0 : Int32))).2) ?_
      show Go p e below s QQ room_1.cells room_1.slots (T8.setTop (mkF m 50 #[.val (.long p0), .second, .val (.int p1), .val (.int (0 : Int32)), .val (.ref x_UNKNOWN), .val (.int (0 : Int32)), .unset, .unset, .unset] []))
      refine gs (fun t => XS.iconst X8.here hx rfl (hb hby at_50)) ?_
      show Go p e below s QQ room_1.cells room_1.slots (T8.setTop (mkF m 51 #[.val (.long p0), .second, .val (.int p1), .val (.int (0 : Int32)), .val (.ref x_UNKNOWN), .val (.int (0 : Int32)), .unset, .unset, .unset] [(.int (1 : Int32))]))
      refine gs (fun t => XS.goto X8.here hx rfl (pc0 := 51) (pc' := 55) rfl (hb hby at_51) (by decide) (by decide)) ?_
      show Go p e below s QQ room_1.cells room_1.slots (T8.setTop (mkF m 55 #[.val (.long p0), .second, .val (.int p1), .val (.int (0 : Int32)), .val (.ref x_UNKNOWN), .val (.int (0 : Int32)), .unset, .unset, .unset] [(.int (1 : Int32))]))
      refine gs (fun t => XS.istore X8.here hx rfl (hb hby at_55) rfl (l' := #[.val (.long p0), .second, .val (.int p1), .val (.int (0 : Int32)), .val (.ref x_UNKNOWN), .val (.int (0 : Int32)), .val (.int (1 : Int32)), .unset, .unset]) rfl) ?_
      show Go p e below s QQ room_1.cells room_1.slots (T8.setTop (mkF m 57 #[.val (.long p0), .second, .val (.int p1), .val (.int (0 : Int32)), .val (.ref x_UNKNOWN), .val (.int (0 : Int32)), .val (.int (1 : Int32)), .unset, .unset] []))
      refine gs (fun t => XS.aload X8.here hx rfl (hb hby at_57) rfl rfl) ?_
      show Go p e below s QQ room_1.cells room_1.slots (T8.setTop (mkF m 59 #[.val (.long p0), .second, .val (.int p1), .val (.int (0 : Int32)), .val (.ref x_UNKNOWN), .val (.int (0 : Int32)), .val (.int (1 : Int32)), .unset, .unset] [(.ref x_UNKNOWN)]))
      obtain ⟨T9, X9, e9, st9⟩ := getS2 X8 hx hZ hown (host := "") (Or.inl (hw _ (List.mem_of_getElem? (i := 7) rfl))) Via.refl e8 (S_x_UNSATISFIABLE.ext OLD.2) (g := (mkF m 59 #[.val (.long p0), .second, .val (.int p1), .val (.int (0 : Int32)), .val (.ref x_UNKNOWN), .val (.int (0 : Int32)), .val (.int (1 : Int32)), .unset, .unset] [(.ref x_UNKNOWN)])) rfl (hb hby at_59)
      refine gs st9 ?_
      show Go p e below s QQ room_1.cells room_1.slots (T9.setTop (mkF m 62 #[.val (.long p0), .second, .val (.int p1), .val (.int (0 : Int32)), .val (.ref x_UNKNOWN), .val (.int (0 : Int32)), .val (.int (1 : Int32)), .unset, .unset] [(.ref x_UNSATISFIABLE), (.ref x_UNKNOWN)]))
      refine gs (fun t => Jvm.RoadKit.acmp (g := (mkF m 62 #[.val (.long p0), .second, .val (.int p1), .val (.int (0 : Int32)), .val (.ref x_UNKNOWN), .val (.int (0 : Int32)), .val (.int (1 : Int32)), .unset, .unset] [(.ref x_UNSATISFIABLE), (.ref x_UNKNOWN)])) X9 hx rfl rfl rfl (pc0 := 62) (pc' := 69) (same := false) rfl (hb hby at_62) rfl (decide_eq_false (fun q => (Ne.symm ne_x_UNSATISFIABLE_x_UNKNOWN) (Value.ref.inj q))) (by decide) (by decide)) ?_
      show Go p e below s QQ room_1.cells room_1.slots (T9.setTop (mkF m 69 #[.val (.long p0), .second, .val (.int p1), .val (.int (0 : Int32)), .val (.ref x_UNKNOWN), .val (.int (0 : Int32)), .val (.int (1 : Int32)), .unset, .unset] []))
      refine gs (fun t => XS.iconst X9.here hx rfl (hb hby at_69)) ?_
      show Go p e below s QQ room_1.cells room_1.slots (T9.setTop (mkF m 70 #[.val (.long p0), .second, .val (.int p1), .val (.int (0 : Int32)), .val (.ref x_UNKNOWN), .val (.int (0 : Int32)), .val (.int (1 : Int32)), .unset, .unset] [(.int (0 : Int32))]))
      refine gs (fun t => XS.iload X9.here hx rfl (hb hby at_70) rfl) ?_
      show Go p e below s QQ room_1.cells room_1.slots (T9.setTop (mkF m 72 #[.val (.long p0), .second, .val (.int p1), .val (.int (0 : Int32)), .val (.ref x_UNKNOWN), .val (.int (0 : Int32)), .val (.int (1 : Int32)), .unset, .unset] [(.int (0 : Int32)), (.int (0 : Int32))]))
      refine gs (fun t => XS.ifNo X9.here hx rfl (hb hby at_72) rfl ((if0 _ _).trans (teq (by decide : (0 : Int32) = (0 : Int32))).2)) ?_
      show Go p e below s QQ room_1.cells room_1.slots (T9.setTop (mkF m 75 #[.val (.long p0), .second, .val (.int p1), .val (.int (0 : Int32)), .val (.ref x_UNKNOWN), .val (.int (0 : Int32)), .val (.int (1 : Int32)), .unset, .unset] [(.int (0 : Int32))]))
      refine gs (fun t => XS.iloadN X9.here hx rfl (hb hby at_75) rfl) ?_
      show Go p e below s QQ room_1.cells room_1.slots (T9.setTop (mkF m 76 #[.val (.long p0), .second, .val (.int p1), .val (.int (0 : Int32)), .val (.ref x_UNKNOWN), .val (.int (0 : Int32)), .val (.int (1 : Int32)), .unset, .unset] [(.int (0 : Int32)), (.int (0 : Int32))]))
      refine gs (fun t => XS.ifYes X9.here hx rfl (pc0 := 76) (pc' := 83) rfl (hb hby at_76) rfl ((if0 _ _).trans (teq (by decide : (0 : Int32) = (0 : Int32))).1) (by decide) (by decide)) ?_
      show Go p e below s QQ room_1.cells room_1.slots (T9.setTop (mkF m 83 #[.val (.long p0), .second, .val (.int p1), .val (.int (0 : Int32)), .val (.ref x_UNKNOWN), .val (.int (0 : Int32)), .val (.int (1 : Int32)), .unset, .unset] [(.int (0 : Int32))]))
      refine gs (fun t => XS.iconst X9.here hx rfl (hb hby at_83)) ?_
      show Go p e below s QQ room_1.cells room_1.slots (T9.setTop (mkF m 84 #[.val (.long p0), .second, .val (.int p1), .val (.int (0 : Int32)), .val (.ref x_UNKNOWN), .val (.int (0 : Int32)), .val (.int (1 : Int32)), .unset, .unset] [(.int (0 : Int32)), (.int (0 : Int32))]))
      refine gs (fun t => XS.icmpNo X9.here hx rfl (hb hby at_84) rfl (teq (by decide : (0 : Int32) = (0 : Int32))).2) ?_
      show Go p e below s QQ room_1.cells room_1.slots (T9.setTop (mkF m 87 #[.val (.long p0), .second, .val (.int p1), .val (.int (0 : Int32)), .val (.ref x_UNKNOWN), .val (.int (0 : Int32)), .val (.int (1 : Int32)), .unset, .unset] []))
      refine gs (fun t => XS.iconst X9.here hx rfl (hb hby at_87)) ?_
      show Go p e below s QQ room_1.cells room_1.slots (T9.setTop (mkF m 88 #[.val (.long p0), .second, .val (.int p1), .val (.int (0 : Int32)), .val (.ref x_UNKNOWN), .val (.int (0 : Int32)), .val (.int (1 : Int32)), .unset, .unset] [(.int (1 : Int32))]))
      refine gs (fun t => XS.goto X9.here hx rfl (pc0 := 88) (pc' := 92) rfl (hb hby at_88) (by decide) (by decide)) ?_
      show Go p e below s QQ room_1.cells room_1.slots (T9.setTop (mkF m 92 #[.val (.long p0), .second, .val (.int p1), .val (.int (0 : Int32)), .val (.ref x_UNKNOWN), .val (.int (0 : Int32)), .val (.int (1 : Int32)), .unset, .unset] [(.int (1 : Int32))]))
      refine gs (fun t => XS.istore X9.here hx rfl (hb hby at_92) rfl (l' := #[.val (.long p0), .second, .val (.int p1), .val (.int (0 : Int32)), .val (.ref x_UNKNOWN), .val (.int (0 : Int32)), .val (.int (1 : Int32)), .val (.int (1 : Int32)), .unset]) rfl) ?_
      show Go p e below s QQ room_1.cells room_1.slots (T9.setTop (mkF m 94 #[.val (.long p0), .second, .val (.int p1), .val (.int (0 : Int32)), .val (.ref x_UNKNOWN), .val (.int (0 : Int32)), .val (.int (1 : Int32)), .val (.int (1 : Int32)), .unset] []))
      refine gs (fun t => XS.aload X9.here hx rfl (hb hby at_94) rfl rfl) ?_
      show Go p e below s QQ room_1.cells room_1.slots (T9.setTop (mkF m 96 #[.val (.long p0), .second, .val (.int p1), .val (.int (0 : Int32)), .val (.ref x_UNKNOWN), .val (.int (0 : Int32)), .val (.int (1 : Int32)), .val (.int (1 : Int32)), .unset] [(.ref x_UNKNOWN)]))
      obtain ⟨T10, X10, e10, st10⟩ := getS2 X9 hx hZ hown (host := "") (Or.inl (hw _ (List.mem_of_getElem? (i := 9) rfl))) Via.refl e9 (S_x_UNKNOWN.ext OLD.2) (g := (mkF m 96 #[.val (.long p0), .second, .val (.int p1), .val (.int (0 : Int32)), .val (.ref x_UNKNOWN), .val (.int (0 : Int32)), .val (.int (1 : Int32)), .val (.int (1 : Int32)), .unset] [(.ref x_UNKNOWN)])) rfl (hb hby at_96)
      refine gs st10 ?_
      show Go p e below s QQ room_1.cells room_1.slots (T10.setTop (mkF m 99 #[.val (.long p0), .second, .val (.int p1), .val (.int (0 : Int32)), .val (.ref x_UNKNOWN), .val (.int (0 : Int32)), .val (.int (1 : Int32)), .val (.int (1 : Int32)), .unset] [(.ref x_UNKNOWN), (.ref x_UNKNOWN)]))
      refine gs (fun t => Jvm.RoadKit.acmp (g := (mkF m 99 #[.val (.long p0), .second, .val (.int p1), .val (.int (0 : Int32)), .val (.ref x_UNKNOWN), .val (.int (0 : Int32)), .val (.int (1 : Int32)), .val (.int (1 : Int32)), .unset] [(.ref x_UNKNOWN), (.ref x_UNKNOWN)])) X10 hx rfl rfl rfl (pc0 := 99) (pc' := 102) (same := true) rfl (hb hby at_99) rfl (decide_eq_true rfl) (by decide) (by decide)) ?_
      show Go p e below s QQ room_1.cells room_1.slots (T10.setTop (mkF m 102 #[.val (.long p0), .second, .val (.int p1), .val (.int (0 : Int32)), .val (.ref x_UNKNOWN), .val (.int (0 : Int32)), .val (.int (1 : Int32)), .val (.int (1 : Int32)), .unset] []))
      refine gs (fun t => XS.iconst X10.here hx rfl (hb hby at_102)) ?_
      show Go p e below s QQ room_1.cells room_1.slots (T10.setTop (mkF m 103 #[.val (.long p0), .second, .val (.int p1), .val (.int (0 : Int32)), .val (.ref x_UNKNOWN), .val (.int (0 : Int32)), .val (.int (1 : Int32)), .val (.int (1 : Int32)), .unset] [(.int (1 : Int32))]))
      refine gs (fun t => XS.goto X10.here hx rfl (pc0 := 103) (pc' := 107) rfl (hb hby at_103) (by decide) (by decide)) ?_
      show Go p e below s QQ room_1.cells room_1.slots (T10.setTop (mkF m 107 #[.val (.long p0), .second, .val (.int p1), .val (.int (0 : Int32)), .val (.ref x_UNKNOWN), .val (.int (0 : Int32)), .val (.int (1 : Int32)), .val (.int (1 : Int32)), .unset] [(.int (1 : Int32))]))
      refine gs (fun t => XS.iload X10.here hx rfl (hb hby at_107) rfl) ?_
      show Go p e below s QQ room_1.cells room_1.slots (T10.setTop (mkF m 109 #[.val (.long p0), .second, .val (.int p1), .val (.int (0 : Int32)), .val (.ref x_UNKNOWN), .val (.int (0 : Int32)), .val (.int (1 : Int32)), .val (.int (1 : Int32)), .unset] [(.int (0 : Int32)), (.int (1 : Int32))]))
      refine gs (fun t => XS.ifNo X10.here hx rfl (hb hby at_109) rfl ((if0 _ _).trans (teq (by decide : (0 : Int32) = (0 : Int32))).2)) ?_
      show Go p e below s QQ room_1.cells room_1.slots (T10.setTop (mkF m 112 #[.val (.long p0), .second, .val (.int p1), .val (.int (0 : Int32)), .val (.ref x_UNKNOWN), .val (.int (0 : Int32)), .val (.int (1 : Int32)), .val (.int (1 : Int32)), .unset] [(.int (1 : Int32))]))
      refine gs (fun t => XS.iloadN X10.here hx rfl (hb hby at_112) rfl) ?_
      show Go p e below s QQ room_1.cells room_1.slots (T10.setTop (mkF m 113 #[.val (.long p0), .second, .val (.int p1), .val (.int (0 : Int32)), .val (.ref x_UNKNOWN), .val (.int (0 : Int32)), .val (.int (1 : Int32)), .val (.int (1 : Int32)), .unset] [(.int (0 : Int32)), (.int (1 : Int32))]))
      refine gs (fun t => XS.ifNo X10.here hx rfl (hb hby at_113) rfl ((if0 _ _).trans (teq (by decide : (0 : Int32) = (0 : Int32))).2)) ?_
      show Go p e below s QQ room_1.cells room_1.slots (T10.setTop (mkF m 116 #[.val (.long p0), .second, .val (.int p1), .val (.int (0 : Int32)), .val (.ref x_UNKNOWN), .val (.int (0 : Int32)), .val (.int (1 : Int32)), .val (.int (1 : Int32)), .unset] [(.int (1 : Int32))]))
      refine gs (fun t => XS.iconst X10.here hx rfl (hb hby at_116)) ?_
      show Go p e below s QQ room_1.cells room_1.slots (T10.setTop (mkF m 117 #[.val (.long p0), .second, .val (.int p1), .val (.int (0 : Int32)), .val (.ref x_UNKNOWN), .val (.int (0 : Int32)), .val (.int (1 : Int32)), .val (.int (1 : Int32)), .unset] [(.int (1 : Int32)), (.int (1 : Int32))]))
      refine gs (fun t => XS.goto X10.here hx rfl (pc0 := 117) (pc' := 121) rfl (hb hby at_117) (by decide) (by decide)) ?_
      show Go p e below s QQ room_1.cells room_1.slots (T10.setTop (mkF m 121 #[.val (.long p0), .second, .val (.int p1), .val (.int (0 : Int32)), .val (.ref x_UNKNOWN), .val (.int (0 : Int32)), .val (.int (1 : Int32)), .val (.int (1 : Int32)), .unset] [(.int (1 : Int32)), (.int (1 : Int32))]))
      refine gs (fun t => XS.icmpNo X10.here hx rfl (hb hby at_121) rfl (teq (by decide : (1 : Int32) = (1 : Int32))).2) ?_
      show Go p e below s QQ room_1.cells room_1.slots (T10.setTop (mkF m 124 #[.val (.long p0), .second, .val (.int p1), .val (.int (0 : Int32)), .val (.ref x_UNKNOWN), .val (.int (0 : Int32)), .val (.int (1 : Int32)), .val (.int (1 : Int32)), .unset] []))
      refine gs (fun t => XS.iconst X10.here hx rfl (hb hby at_124)) ?_
      show Go p e below s QQ room_1.cells room_1.slots (T10.setTop (mkF m 125 #[.val (.long p0), .second, .val (.int p1), .val (.int (0 : Int32)), .val (.ref x_UNKNOWN), .val (.int (0 : Int32)), .val (.int (1 : Int32)), .val (.int (1 : Int32)), .unset] [(.int (1 : Int32))]))
      refine gs (fun t => XS.goto X10.here hx rfl (pc0 := 125) (pc' := 129) rfl (hb hby at_125) (by decide) (by decide)) ?_
      show Go p e below s QQ room_1.cells room_1.slots (T10.setTop (mkF m 129 #[.val (.long p0), .second, .val (.int p1), .val (.int (0 : Int32)), .val (.ref x_UNKNOWN), .val (.int (0 : Int32)), .val (.int (1 : Int32)), .val (.int (1 : Int32)), .unset] [(.int (1 : Int32))]))
      refine gs (fun t => XS.istore X10.here hx rfl (hb hby at_129) rfl (l' := #[.val (.long p0), .second, .val (.int p1), .val (.int (0 : Int32)), .val (.ref x_UNKNOWN), .val (.int (0 : Int32)), .val (.int (1 : Int32)), .val (.int (1 : Int32)), .val (.int (1 : Int32))]) rfl) ?_
      show Go p e below s QQ room_1.cells room_1.slots (T10.setTop (mkF m 131 #[.val (.long p0), .second, .val (.int p1), .val (.int (0 : Int32)), .val (.ref x_UNKNOWN), .val (.int (0 : Int32)), .val (.int (1 : Int32)), .val (.int (1 : Int32)), .val (.int (1 : Int32))] []))
      refine gs (fun t => XS.iload X10.here hx rfl (hb hby at_131) rfl) ?_
      show Go p e below s QQ room_1.cells room_1.slots (T10.setTop (mkF m 133 #[.val (.long p0), .second, .val (.int p1), .val (.int (0 : Int32)), .val (.ref x_UNKNOWN), .val (.int (0 : Int32)), .val (.int (1 : Int32)), .val (.int (1 : Int32)), .val (.int (1 : Int32))] [(.int (1 : Int32))]))
      refine gs (fun t => XS.ifNo X10.here hx rfl (hb hby at_133) rfl ((if0 _ _).trans (feq (by decide : ¬ ((1 : Int32) = (0 : Int32)))).1)) ?_
      show Go p e below s QQ room_1.cells room_1.slots (T10.setTop (mkF m 136 #[.val (.long p0), .second, .val (.int p1), .val (.int (0 : Int32)), .val (.ref x_UNKNOWN), .val (.int (0 : Int32)), .val (.int (1 : Int32)), .val (.int (1 : Int32)), .val (.int (1 : Int32))] []))
      refine gs (fun t => XS.iload X10.here hx rfl (hb hby at_136) rfl) ?_
      show Go p e below s QQ room_1.cells room_1.slots (T10.setTop (mkF m 138 #[.val (.long p0), .second, .val (.int p1), .val (.int (0 : Int32)), .val (.ref x_UNKNOWN), .val (.int (0 : Int32)), .val (.int (1 : Int32)), .val (.int (1 : Int32)), .val (.int (1 : Int32))] [(.int (1 : Int32))]))
      refine gs (fun t => XS.ifNo X10.here hx rfl (hb hby at_138) rfl ((if0 _ _).trans (feq (by decide : ¬ ((1 : Int32) = (0 : Int32)))).1)) ?_
      show Go p e below s QQ room_1.cells room_1.slots (T10.setTop (mkF m 141 #[.val (.long p0), .second, .val (.int p1), .val (.int (0 : Int32)), .val (.ref x_UNKNOWN), .val (.int (0 : Int32)), .val (.int (1 : Int32)), .val (.int (1 : Int32)), .val (.int (1 : Int32))] []))
      refine gs (fun t => XS.iload X10.here hx rfl (hb hby at_141) rfl) ?_
      show Go p e below s QQ room_1.cells room_1.slots (T10.setTop (mkF m 143 #[.val (.long p0), .second, .val (.int p1), .val (.int (0 : Int32)), .val (.ref x_UNKNOWN), .val (.int (0 : Int32)), .val (.int (1 : Int32)), .val (.int (1 : Int32)), .val (.int (1 : Int32))] [(.int (1 : Int32))]))
      refine gs (fun t => XS.ifNo X10.here hx rfl (hb hby at_143) rfl ((if0 _ _).trans (feq (by decide : ¬ ((1 : Int32) = (0 : Int32)))).1)) ?_
      show Go p e below s QQ room_1.cells room_1.slots (T10.setTop (mkF m 146 #[.val (.long p0), .second, .val (.int p1), .val (.int (0 : Int32)), .val (.ref x_UNKNOWN), .val (.int (0 : Int32)), .val (.int (1 : Int32)), .val (.int (1 : Int32)), .val (.int (1 : Int32))] []))
      refine gs (fun t => XS.iconst X10.here hx rfl (hb hby at_146)) ?_
      show Go p e below s QQ room_1.cells room_1.slots (T10.setTop (mkF m 147 #[.val (.long p0), .second, .val (.int p1), .val (.int (0 : Int32)), .val (.ref x_UNKNOWN), .val (.int (0 : Int32)), .val (.int (1 : Int32)), .val (.int (1 : Int32)), .val (.int (1 : Int32))] [(.int (1 : Int32))]))
      refine gs (fun t => XS.goto X10.here hx rfl (pc0 := 147) (pc' := 151) rfl (hb hby at_147) (by decide) (by decide)) ?_
      show Go p e below s QQ room_1.cells room_1.slots (T10.setTop (mkF m 151 #[.val (.long p0), .second, .val (.int p1), .val (.int (0 : Int32)), .val (.ref x_UNKNOWN), .val (.int (0 : Int32)), .val (.int (1 : Int32)), .val (.int (1 : Int32)), .val (.int (1 : Int32))] [(.int (1 : Int32))]))
      exact goB X10 hx Bd.notSynchronized Bd.returns (by simp) (w := (1 : Int32)) (by first | rfl | decide) (hb hby at_151) (by rw [← hQQ, e10]; exact ⟨rfl, N0⟩) (by decide) (by decide)
  · skip
    refine gs (fun t => XS.ifNo X0.here hx rfl (hb hby at_3) rfl ((if0 _ _).trans (feq hf).1)) ?_
    show Go p e below s QQ room_1.cells room_1.slots (s₁.setTop (mkF m 6 #[.val (.long p0), .second, .val (.int p1), .unset, .unset, .unset, .unset, .unset, .unset] []))
    refine gs (fun t => XS.iconst X0.here hx rfl (hb hby at_6)) ?_
    show Go p e below s QQ room_1.cells room_1.slots (s₁.setTop (mkF m 7 #[.val (.long p0), .second, .val (.int p1), .unset, .unset, .unset, .unset, .unset, .unset] [(.int (1 : Int32))]))
    refine gs (fun t => XS.goto X0.here hx rfl (pc0 := 7) (pc' := 11) rfl (hb hby at_7) (by decide) (by decide)) ?_
    show Go p e below s QQ room_1.cells room_1.slots (s₁.setTop (mkF m 11 #[.val (.long p0), .second, .val (.int p1), .unset, .unset, .unset, .unset, .unset, .unset] [(.int (1 : Int32))]))
    refine gs (fun t => XS.istoreN X0.here hx rfl (hb hby at_11) rfl (l' := #[.val (.long p0), .second, .val (.int p1), .val (.int (1 : Int32)), .unset, .unset, .unset, .unset, .unset]) rfl) ?_
    show Go p e below s QQ room_1.cells room_1.slots (s₁.setTop (mkF m 12 #[.val (.long p0), .second, .val (.int p1), .val (.int (1 : Int32)), .unset, .unset, .unset, .unset, .unset] []))
    refine gs (fun t => XS.lloadN X0.here hx rfl (hb hby at_12) rfl) ?_
    show Go p e below s QQ room_1.cells room_1.slots (s₁.setTop (mkF m 13 #[.val (.long p0), .second, .val (.int p1), .val (.int (1 : Int32)), .unset, .unset, .unset, .unset, .unset] [(.long p0)]))
    refine gs (fun t => XS.iloadN X0.here hx rfl (hb hby at_13) rfl) ?_
    show Go p e below s QQ room_1.cells room_1.slots (s₁.setTop (mkF m 14 #[.val (.long p0), .second, .val (.int p1), .val (.int (1 : Int32)), .unset, .unset, .unset, .unset, .unset] [(.int (1 : Int32)), (.long p0)]))
    obtain ⟨_, _, ⟨T11, L11, k11, n11⟩, -, X11, ⟨Lc11, hQ11, l11, y11, z11⟩, st11⟩ := Jvm.LawKit.callS X0 hx (y := (⟨"com/example/tuplewise/tuplewise/Status", "of", "(JZ)Lcom/example/tuplewise/tuplewise/Status;"⟩ : MethodName)) hown (mvT hZ (hw _ (List.mem_of_getElem? (i := 0) rfl))) (mvT hZ (hw _ (List.mem_of_getElem? (i := 1) rfl))) (mvT hZ (hw _ (List.mem_of_getElem? (i := 2) rfl))) (mvT hZ (hw _ (List.mem_of_getElem? (i := 3) rfl))) (by decide) (backOf (W := 0) (rm1 l Z a0 hw [] p0 (1 : Int32) x_SATISFIABLE x_UNSATISFIABLE x_UNKNOWN h0 n0 ZZ OLD S_x_SATISFIABLE S_x_UNSATISFIABLE S_x_UNKNOWN) hZ (hw _ (List.mem_of_getElem? (i := 3) rfl)) (hw _ (List.mem_of_getElem? (i := 2) rfl)) (by decide) (by decide)) (g := (mkF m 14 #[.val (.long p0), .second, .val (.int p1), .val (.int (1 : Int32)), .unset, .unset, .unset, .unset, .unset] [(.int (1 : Int32)), (.long p0)])) rfl (by rw [hml]; rfl) (argsL := [(.long p0), (.int (1 : Int32))]) (rest := []) (lenOf pd_0 rfl) rfl (by show 2 * 0 + _ ≤ _; exact Nat.le_of_eq rfl) (hb hby at_14) (fun _ _ => ⟨rfl, e0, (by decide : 0 + 0 ≤ _), (by decide : 0 + 0 ≤ _)⟩)
    dsimp only [Pt.U, Pt.locs, Pt.cells, Pt.slots] at X11 l11 y11 z11 st11 hQ11
    subst l11 y11 z11
    obtain ⟨rfl, N11q, e11⟩ := hQ11
    replace N0 := Fr.app N0 N11q
    refine gs st11 ?_
    show Go p e below s QQ room_1.cells room_1.slots (T11.setTop (mkF m 17 #[.val (.long p0), .second, .val (.int p1), .val (.int (1 : Int32)), .unset, .unset, .unset, .unset, .unset] [(.ref (own_of (lcmpW p0 (0 : Int64)) (1 : Int32) x_SATISFIABLE x_UNSATISFIABLE x_UNKNOWN))]))
    by_cases hc : (0 : Int32) < (lcmpW p0 (0 : Int64))
    · skip
      rw [show own_of (lcmpW p0 (0 : Int64)) (1 : Int32) x_SATISFIABLE x_UNSATISFIABLE x_UNKNOWN = x_SATISFIABLE from by simp only [own_of, hc, if_true, if_false]]
      show Go p e below s QQ room_1.cells room_1.slots (T11.setTop (mkF m 17 #[.val (.long p0), .second, .val (.int p1), .val (.int (1 : Int32)), .unset, .unset, .unset, .unset, .unset] [(.ref x_SATISFIABLE)]))
      refine gs (fun t => XS.astore X11.here hx rfl (hb hby at_17) rfl rfl (l' := #[.val (.long p0), .second, .val (.int p1), .val (.int (1 : Int32)), .val (.ref x_SATISFIABLE), .unset, .unset, .unset, .unset]) rfl) ?_
      show Go p e below s QQ room_1.cells room_1.slots (T11.setTop (mkF m 19 #[.val (.long p0), .second, .val (.int p1), .val (.int (1 : Int32)), .val (.ref x_SATISFIABLE), .unset, .unset, .unset, .unset] []))
      refine gs (fun t => XS.lloadN X11.here hx rfl (hb hby at_19) rfl) ?_
      show Go p e below s QQ room_1.cells room_1.slots (T11.setTop (mkF m 20 #[.val (.long p0), .second, .val (.int p1), .val (.int (1 : Int32)), .val (.ref x_SATISFIABLE), .unset, .unset, .unset, .unset] [(.long p0)]))
      refine gs (fun t => XS.lconst X11.here hx rfl (hb hby at_20)) ?_
      show Go p e below s QQ room_1.cells room_1.slots (T11.setTop (mkF m 21 #[.val (.long p0), .second, .val (.int p1), .val (.int (1 : Int32)), .val (.ref x_SATISFIABLE), .unset, .unset, .unset, .unset] [(.long (0 : Int64)), (.long p0)]))
      refine gs (fun t => XS.lcmp X11.here hx rfl (hb hby at_21) rfl) ?_
      show Go p e below s QQ room_1.cells room_1.slots (T11.setTop (mkF m 22 #[.val (.long p0), .second, .val (.int p1), .val (.int (1 : Int32)), .val (.ref x_SATISFIABLE), .unset, .unset, .unset, .unset] [(.int (lcmpW p0 (0 : Int64)))]))
      refine gs (fun t => XS.ifNo X11.here hx rfl (hb hby at_22) rfl ((if0 _ _).trans (tlt (hc : (0 : Int32) < (lcmpW p0 (0 : Int64)))).2.2.2)) ?_
      show Go p e below s QQ room_1.cells room_1.slots (T11.setTop (mkF m 25 #[.val (.long p0), .second, .val (.int p1), .val (.int (1 : Int32)), .val (.ref x_SATISFIABLE), .unset, .unset, .unset, .unset] []))
      refine gs (fun t => XS.iconst X11.here hx rfl (hb hby at_25)) ?_
      show Go p e below s QQ room_1.cells room_1.slots (T11.setTop (mkF m 26 #[.val (.long p0), .second, .val (.int p1), .val (.int (1 : Int32)), .val (.ref x_SATISFIABLE), .unset, .unset, .unset, .unset] [(.int (1 : Int32))]))
      refine gs (fun t => XS.goto X11.here hx rfl (pc0 := 26) (pc' := 30) rfl (hb hby at_26) (by decide) (by decide)) ?_
      show Go p e below s QQ room_1.cells room_1.slots (T11.setTop (mkF m 30 #[.val (.long p0), .second, .val (.int p1), .val (.int (1 : Int32)), .val (.ref x_SATISFIABLE), .unset, .unset, .unset, .unset] [(.int (1 : Int32))]))
      refine gs (fun t => XS.istore X11.here hx rfl (hb hby at_30) rfl (l' := #[.val (.long p0), .second, .val (.int p1), .val (.int (1 : Int32)), .val (.ref x_SATISFIABLE), .val (.int (1 : Int32)), .unset, .unset, .unset]) rfl) ?_
      show Go p e below s QQ room_1.cells room_1.slots (T11.setTop (mkF m 32 #[.val (.long p0), .second, .val (.int p1), .val (.int (1 : Int32)), .val (.ref x_SATISFIABLE), .val (.int (1 : Int32)), .unset, .unset, .unset] []))
      refine gs (fun t => XS.aload X11.here hx rfl (hb hby at_32) rfl rfl) ?_
      show Go p e below s QQ room_1.cells room_1.slots (T11.setTop (mkF m 34 #[.val (.long p0), .second, .val (.int p1), .val (.int (1 : Int32)), .val (.ref x_SATISFIABLE), .val (.int (1 : Int32)), .unset, .unset, .unset] [(.ref x_SATISFIABLE)]))
      obtain ⟨T12, X12, e12, st12⟩ := getS2 X11 hx hZ hown (host := "") (Or.inl (hw _ (List.mem_of_getElem? (i := 6) rfl))) Via.refl e11 (S_x_SATISFIABLE.ext OLD.2) (g := (mkF m 34 #[.val (.long p0), .second, .val (.int p1), .val (.int (1 : Int32)), .val (.ref x_SATISFIABLE), .val (.int (1 : Int32)), .unset, .unset, .unset] [(.ref x_SATISFIABLE)])) rfl (hb hby at_34)
      refine gs st12 ?_
      show Go p e below s QQ room_1.cells room_1.slots (T12.setTop (mkF m 37 #[.val (.long p0), .second, .val (.int p1), .val (.int (1 : Int32)), .val (.ref x_SATISFIABLE), .val (.int (1 : Int32)), .unset, .unset, .unset] [(.ref x_SATISFIABLE), (.ref x_SATISFIABLE)]))
      refine gs (fun t => Jvm.RoadKit.acmp (g := (mkF m 37 #[.val (.long p0), .second, .val (.int p1), .val (.int (1 : Int32)), .val (.ref x_SATISFIABLE), .val (.int (1 : Int32)), .unset, .unset, .unset] [(.ref x_SATISFIABLE), (.ref x_SATISFIABLE)])) X12 hx rfl rfl rfl (pc0 := 37) (pc' := 40) (same := true) rfl (hb hby at_37) rfl (decide_eq_true rfl) (by decide) (by decide)) ?_
      show Go p e below s QQ room_1.cells room_1.slots (T12.setTop (mkF m 40 #[.val (.long p0), .second, .val (.int p1), .val (.int (1 : Int32)), .val (.ref x_SATISFIABLE), .val (.int (1 : Int32)), .unset, .unset, .unset] []))
      refine gs (fun t => XS.iconst X12.here hx rfl (hb hby at_40)) ?_
      show Go p e below s QQ room_1.cells room_1.slots (T12.setTop (mkF m 41 #[.val (.long p0), .second, .val (.int p1), .val (.int (1 : Int32)), .val (.ref x_SATISFIABLE), .val (.int (1 : Int32)), .unset, .unset, .unset] [(.int (1 : Int32))]))
      refine gs (fun t => XS.goto X12.here hx rfl (pc0 := 41) (pc' := 45) rfl (hb hby at_41) (by decide) (by decide)) ?_
      show Go p e below s QQ room_1.cells room_1.slots (T12.setTop (mkF m 45 #[.val (.long p0), .second, .val (.int p1), .val (.int (1 : Int32)), .val (.ref x_SATISFIABLE), .val (.int (1 : Int32)), .unset, .unset, .unset] [(.int (1 : Int32))]))
      refine gs (fun t => XS.iload X12.here hx rfl (hb hby at_45) rfl) ?_
      show Go p e below s QQ room_1.cells room_1.slots (T12.setTop (mkF m 47 #[.val (.long p0), .second, .val (.int p1), .val (.int (1 : Int32)), .val (.ref x_SATISFIABLE), .val (.int (1 : Int32)), .unset, .unset, .unset] [(.int (1 : Int32)), (.int (1 : Int32))]))
      refine gs (fun t => XS.icmpNo X12.here hx rfl (hb hby at_47) rfl (teq (by decide : (1 : Int32) = (1 : Int32))).2) ?_
      show Go p e below s QQ room_1.cells room_1.slots (T12.setTop (mkF m 50 #[.val (.long p0), .second, .val (.int p1), .val (.int (1 : Int32)), .val (.ref x_SATISFIABLE), .val (.int (1 : Int32)), .unset, .unset, .unset] []))
      refine gs (fun t => XS.iconst X12.here hx rfl (hb hby at_50)) ?_
      show Go p e below s QQ room_1.cells room_1.slots (T12.setTop (mkF m 51 #[.val (.long p0), .second, .val (.int p1), .val (.int (1 : Int32)), .val (.ref x_SATISFIABLE), .val (.int (1 : Int32)), .unset, .unset, .unset] [(.int (1 : Int32))]))
      refine gs (fun t => XS.goto X12.here hx rfl (pc0 := 51) (pc' := 55) rfl (hb hby at_51) (by decide) (by decide)) ?_
      show Go p e below s QQ room_1.cells room_1.slots (T12.setTop (mkF m 55 #[.val (.long p0), .second, .val (.int p1), .val (.int (1 : Int32)), .val (.ref x_SATISFIABLE), .val (.int (1 : Int32)), .unset, .unset, .unset] [(.int (1 : Int32))]))
      refine gs (fun t => XS.istore X12.here hx rfl (hb hby at_55) rfl (l' := #[.val (.long p0), .second, .val (.int p1), .val (.int (1 : Int32)), .val (.ref x_SATISFIABLE), .val (.int (1 : Int32)), .val (.int (1 : Int32)), .unset, .unset]) rfl) ?_
      show Go p e below s QQ room_1.cells room_1.slots (T12.setTop (mkF m 57 #[.val (.long p0), .second, .val (.int p1), .val (.int (1 : Int32)), .val (.ref x_SATISFIABLE), .val (.int (1 : Int32)), .val (.int (1 : Int32)), .unset, .unset] []))
      refine gs (fun t => XS.aload X12.here hx rfl (hb hby at_57) rfl rfl) ?_
      show Go p e below s QQ room_1.cells room_1.slots (T12.setTop (mkF m 59 #[.val (.long p0), .second, .val (.int p1), .val (.int (1 : Int32)), .val (.ref x_SATISFIABLE), .val (.int (1 : Int32)), .val (.int (1 : Int32)), .unset, .unset] [(.ref x_SATISFIABLE)]))
      obtain ⟨T13, X13, e13, st13⟩ := getS2 X12 hx hZ hown (host := "") (Or.inl (hw _ (List.mem_of_getElem? (i := 7) rfl))) Via.refl e12 (S_x_UNSATISFIABLE.ext OLD.2) (g := (mkF m 59 #[.val (.long p0), .second, .val (.int p1), .val (.int (1 : Int32)), .val (.ref x_SATISFIABLE), .val (.int (1 : Int32)), .val (.int (1 : Int32)), .unset, .unset] [(.ref x_SATISFIABLE)])) rfl (hb hby at_59)
      refine gs st13 ?_
      show Go p e below s QQ room_1.cells room_1.slots (T13.setTop (mkF m 62 #[.val (.long p0), .second, .val (.int p1), .val (.int (1 : Int32)), .val (.ref x_SATISFIABLE), .val (.int (1 : Int32)), .val (.int (1 : Int32)), .unset, .unset] [(.ref x_UNSATISFIABLE), (.ref x_SATISFIABLE)]))
      refine gs (fun t => Jvm.RoadKit.acmp (g := (mkF m 62 #[.val (.long p0), .second, .val (.int p1), .val (.int (1 : Int32)), .val (.ref x_SATISFIABLE), .val (.int (1 : Int32)), .val (.int (1 : Int32)), .unset, .unset] [(.ref x_UNSATISFIABLE), (.ref x_SATISFIABLE)])) X13 hx rfl rfl rfl (pc0 := 62) (pc' := 69) (same := false) rfl (hb hby at_62) rfl (decide_eq_false (fun q => ne_x_SATISFIABLE_x_UNSATISFIABLE (Value.ref.inj q))) (by decide) (by decide)) ?_
      show Go p e below s QQ room_1.cells room_1.slots (T13.setTop (mkF m 69 #[.val (.long p0), .second, .val (.int p1), .val (.int (1 : Int32)), .val (.ref x_SATISFIABLE), .val (.int (1 : Int32)), .val (.int (1 : Int32)), .unset, .unset] []))
      refine gs (fun t => XS.iconst X13.here hx rfl (hb hby at_69)) ?_
      show Go p e below s QQ room_1.cells room_1.slots (T13.setTop (mkF m 70 #[.val (.long p0), .second, .val (.int p1), .val (.int (1 : Int32)), .val (.ref x_SATISFIABLE), .val (.int (1 : Int32)), .val (.int (1 : Int32)), .unset, .unset] [(.int (0 : Int32))]))
      refine gs (fun t => XS.iload X13.here hx rfl (hb hby at_70) rfl) ?_
      show Go p e below s QQ room_1.cells room_1.slots (T13.setTop (mkF m 72 #[.val (.long p0), .second, .val (.int p1), .val (.int (1 : Int32)), .val (.ref x_SATISFIABLE), .val (.int (1 : Int32)), .val (.int (1 : Int32)), .unset, .unset] [(.int (1 : Int32)), (.int (0 : Int32))]))
      refine gs (fun t => XS.ifYes X13.here hx rfl (pc0 := 72) (pc' := 83) rfl (hb hby at_72) rfl ((if0 _ _).trans (feq (by decide : ¬ ((1 : Int32) = (0 : Int32)))).2) (by decide) (by decide)) ?_
      show Go p e below s QQ room_1.cells room_1.slots (T13.setTop (mkF m 83 #[.val (.long p0), .second, .val (.int p1), .val (.int (1 : Int32)), .val (.ref x_SATISFIABLE), .val (.int (1 : Int32)), .val (.int (1 : Int32)), .unset, .unset] [(.int (0 : Int32))]))
      refine gs (fun t => XS.iconst X13.here hx rfl (hb hby at_83)) ?_
      show Go p e below s QQ room_1.cells room_1.slots (T13.setTop (mkF m 84 #[.val (.long p0), .second, .val (.int p1), .val (.int (1 : Int32)), .val (.ref x_SATISFIABLE), .val (.int (1 : Int32)), .val (.int (1 : Int32)), .unset, .unset] [(.int (0 : Int32)), (.int (0 : Int32))]))
      refine gs (fun t => XS.icmpNo X13.here hx rfl (hb hby at_84) rfl (teq (by decide : (0 : Int32) = (0 : Int32))).2) ?_
      show Go p e below s QQ room_1.cells room_1.slots (T13.setTop (mkF m 87 #[.val (.long p0), .second, .val (.int p1), .val (.int (1 : Int32)), .val (.ref x_SATISFIABLE), .val (.int (1 : Int32)), .val (.int (1 : Int32)), .unset, .unset] []))
      refine gs (fun t => XS.iconst X13.here hx rfl (hb hby at_87)) ?_
      show Go p e below s QQ room_1.cells room_1.slots (T13.setTop (mkF m 88 #[.val (.long p0), .second, .val (.int p1), .val (.int (1 : Int32)), .val (.ref x_SATISFIABLE), .val (.int (1 : Int32)), .val (.int (1 : Int32)), .unset, .unset] [(.int (1 : Int32))]))
      refine gs (fun t => XS.goto X13.here hx rfl (pc0 := 88) (pc' := 92) rfl (hb hby at_88) (by decide) (by decide)) ?_
      show Go p e below s QQ room_1.cells room_1.slots (T13.setTop (mkF m 92 #[.val (.long p0), .second, .val (.int p1), .val (.int (1 : Int32)), .val (.ref x_SATISFIABLE), .val (.int (1 : Int32)), .val (.int (1 : Int32)), .unset, .unset] [(.int (1 : Int32))]))
      refine gs (fun t => XS.istore X13.here hx rfl (hb hby at_92) rfl (l' := #[.val (.long p0), .second, .val (.int p1), .val (.int (1 : Int32)), .val (.ref x_SATISFIABLE), .val (.int (1 : Int32)), .val (.int (1 : Int32)), .val (.int (1 : Int32)), .unset]) rfl) ?_
      show Go p e below s QQ room_1.cells room_1.slots (T13.setTop (mkF m 94 #[.val (.long p0), .second, .val (.int p1), .val (.int (1 : Int32)), .val (.ref x_SATISFIABLE), .val (.int (1 : Int32)), .val (.int (1 : Int32)), .val (.int (1 : Int32)), .unset] []))
      refine gs (fun t => XS.aload X13.here hx rfl (hb hby at_94) rfl rfl) ?_
      show Go p e below s QQ room_1.cells room_1.slots (T13.setTop (mkF m 96 #[.val (.long p0), .second, .val (.int p1), .val (.int (1 : Int32)), .val (.ref x_SATISFIABLE), .val (.int (1 : Int32)), .val (.int (1 : Int32)), .val (.int (1 : Int32)), .unset] [(.ref x_SATISFIABLE)]))
      obtain ⟨T14, X14, e14, st14⟩ := getS2 X13 hx hZ hown (host := "") (Or.inl (hw _ (List.mem_of_getElem? (i := 9) rfl))) Via.refl e13 (S_x_UNKNOWN.ext OLD.2) (g := (mkF m 96 #[.val (.long p0), .second, .val (.int p1), .val (.int (1 : Int32)), .val (.ref x_SATISFIABLE), .val (.int (1 : Int32)), .val (.int (1 : Int32)), .val (.int (1 : Int32)), .unset] [(.ref x_SATISFIABLE)])) rfl (hb hby at_96)
      refine gs st14 ?_
      show Go p e below s QQ room_1.cells room_1.slots (T14.setTop (mkF m 99 #[.val (.long p0), .second, .val (.int p1), .val (.int (1 : Int32)), .val (.ref x_SATISFIABLE), .val (.int (1 : Int32)), .val (.int (1 : Int32)), .val (.int (1 : Int32)), .unset] [(.ref x_UNKNOWN), (.ref x_SATISFIABLE)]))
      refine gs (fun t => Jvm.RoadKit.acmp (g := (mkF m 99 #[.val (.long p0), .second, .val (.int p1), .val (.int (1 : Int32)), .val (.ref x_SATISFIABLE), .val (.int (1 : Int32)), .val (.int (1 : Int32)), .val (.int (1 : Int32)), .unset] [(.ref x_UNKNOWN), (.ref x_SATISFIABLE)])) X14 hx rfl rfl rfl (pc0 := 99) (pc' := 106) (same := false) rfl (hb hby at_99) rfl (decide_eq_false (fun q => ne_x_SATISFIABLE_x_UNKNOWN (Value.ref.inj q))) (by decide) (by decide)) ?_
      show Go p e below s QQ room_1.cells room_1.slots (T14.setTop (mkF m 106 #[.val (.long p0), .second, .val (.int p1), .val (.int (1 : Int32)), .val (.ref x_SATISFIABLE), .val (.int (1 : Int32)), .val (.int (1 : Int32)), .val (.int (1 : Int32)), .unset] []))
      refine gs (fun t => XS.iconst X14.here hx rfl (hb hby at_106)) ?_
      show Go p e below s QQ room_1.cells room_1.slots (T14.setTop (mkF m 107 #[.val (.long p0), .second, .val (.int p1), .val (.int (1 : Int32)), .val (.ref x_SATISFIABLE), .val (.int (1 : Int32)), .val (.int (1 : Int32)), .val (.int (1 : Int32)), .unset] [(.int (0 : Int32))]))
      refine gs (fun t => XS.iload X14.here hx rfl (hb hby at_107) rfl) ?_
      show Go p e below s QQ room_1.cells room_1.slots (T14.setTop (mkF m 109 #[.val (.long p0), .second, .val (.int p1), .val (.int (1 : Int32)), .val (.ref x_SATISFIABLE), .val (.int (1 : Int32)), .val (.int (1 : Int32)), .val (.int (1 : Int32)), .unset] [(.int (1 : Int32)), (.int (0 : Int32))]))
      refine gs (fun t => XS.ifYes X14.here hx rfl (pc0 := 109) (pc' := 120) rfl (hb hby at_109) rfl ((if0 _ _).trans (feq (by decide : ¬ ((1 : Int32) = (0 : Int32)))).2) (by decide) (by decide)) ?_
      show Go p e below s QQ room_1.cells room_1.slots (T14.setTop (mkF m 120 #[.val (.long p0), .second, .val (.int p1), .val (.int (1 : Int32)), .val (.ref x_SATISFIABLE), .val (.int (1 : Int32)), .val (.int (1 : Int32)), .val (.int (1 : Int32)), .unset] [(.int (0 : Int32))]))
      refine gs (fun t => XS.iconst X14.here hx rfl (hb hby at_120)) ?_
      show Go p e below s QQ room_1.cells room_1.slots (T14.setTop (mkF m 121 #[.val (.long p0), .second, .val (.int p1), .val (.int (1 : Int32)), .val (.ref x_SATISFIABLE), .val (.int (1 : Int32)), .val (.int (1 : Int32)), .val (.int (1 : Int32)), .unset] [(.int (0 : Int32)), (.int (0 : Int32))]))
      refine gs (fun t => XS.icmpNo X14.here hx rfl (hb hby at_121) rfl (teq (by decide : (0 : Int32) = (0 : Int32))).2) ?_
      show Go p e below s QQ room_1.cells room_1.slots (T14.setTop (mkF m 124 #[.val (.long p0), .second, .val (.int p1), .val (.int (1 : Int32)), .val (.ref x_SATISFIABLE), .val (.int (1 : Int32)), .val (.int (1 : Int32)), .val (.int (1 : Int32)), .unset] []))
      refine gs (fun t => XS.iconst X14.here hx rfl (hb hby at_124)) ?_
      show Go p e below s QQ room_1.cells room_1.slots (T14.setTop (mkF m 125 #[.val (.long p0), .second, .val (.int p1), .val (.int (1 : Int32)), .val (.ref x_SATISFIABLE), .val (.int (1 : Int32)), .val (.int (1 : Int32)), .val (.int (1 : Int32)), .unset] [(.int (1 : Int32))]))
      refine gs (fun t => XS.goto X14.here hx rfl (pc0 := 125) (pc' := 129) rfl (hb hby at_125) (by decide) (by decide)) ?_
      show Go p e below s QQ room_1.cells room_1.slots (T14.setTop (mkF m 129 #[.val (.long p0), .second, .val (.int p1), .val (.int (1 : Int32)), .val (.ref x_SATISFIABLE), .val (.int (1 : Int32)), .val (.int (1 : Int32)), .val (.int (1 : Int32)), .unset] [(.int (1 : Int32))]))
      refine gs (fun t => XS.istore X14.here hx rfl (hb hby at_129) rfl (l' := #[.val (.long p0), .second, .val (.int p1), .val (.int (1 : Int32)), .val (.ref x_SATISFIABLE), .val (.int (1 : Int32)), .val (.int (1 : Int32)), .val (.int (1 : Int32)), .val (.int (1 : Int32))]) rfl) ?_
      show Go p e below s QQ room_1.cells room_1.slots (T14.setTop (mkF m 131 #[.val (.long p0), .second, .val (.int p1), .val (.int (1 : Int32)), .val (.ref x_SATISFIABLE), .val (.int (1 : Int32)), .val (.int (1 : Int32)), .val (.int (1 : Int32)), .val (.int (1 : Int32))] []))
      refine gs (fun t => XS.iload X14.here hx rfl (hb hby at_131) rfl) ?_
      show Go p e below s QQ room_1.cells room_1.slots (T14.setTop (mkF m 133 #[.val (.long p0), .second, .val (.int p1), .val (.int (1 : Int32)), .val (.ref x_SATISFIABLE), .val (.int (1 : Int32)), .val (.int (1 : Int32)), .val (.int (1 : Int32)), .val (.int (1 : Int32))] [(.int (1 : Int32))]))
      refine gs (fun t => XS.ifNo X14.here hx rfl (hb hby at_133) rfl ((if0 _ _).trans (feq (by decide : ¬ ((1 : Int32) = (0 : Int32)))).1)) ?_
      show Go p e below s QQ room_1.cells room_1.slots (T14.setTop (mkF m 136 #[.val (.long p0), .second, .val (.int p1), .val (.int (1 : Int32)), .val (.ref x_SATISFIABLE), .val (.int (1 : Int32)), .val (.int (1 : Int32)), .val (.int (1 : Int32)), .val (.int (1 : Int32))] []))
      refine gs (fun t => XS.iload X14.here hx rfl (hb hby at_136) rfl) ?_
      show Go p e below s QQ room_1.cells room_1.slots (T14.setTop (mkF m 138 #[.val (.long p0), .second, .val (.int p1), .val (.int (1 : Int32)), .val (.ref x_SATISFIABLE), .val (.int (1 : Int32)), .val (.int (1 : Int32)), .val (.int (1 : Int32)), .val (.int (1 : Int32))] [(.int (1 : Int32))]))
      refine gs (fun t => XS.ifNo X14.here hx rfl (hb hby at_138) rfl ((if0 _ _).trans (feq (by decide : ¬ ((1 : Int32) = (0 : Int32)))).1)) ?_
      show Go p e below s QQ room_1.cells room_1.slots (T14.setTop (mkF m 141 #[.val (.long p0), .second, .val (.int p1), .val (.int (1 : Int32)), .val (.ref x_SATISFIABLE), .val (.int (1 : Int32)), .val (.int (1 : Int32)), .val (.int (1 : Int32)), .val (.int (1 : Int32))] []))
      refine gs (fun t => XS.iload X14.here hx rfl (hb hby at_141) rfl) ?_
      show Go p e below s QQ room_1.cells room_1.slots (T14.setTop (mkF m 143 #[.val (.long p0), .second, .val (.int p1), .val (.int (1 : Int32)), .val (.ref x_SATISFIABLE), .val (.int (1 : Int32)), .val (.int (1 : Int32)), .val (.int (1 : Int32)), .val (.int (1 : Int32))] [(.int (1 : Int32))]))
      refine gs (fun t => XS.ifNo X14.here hx rfl (hb hby at_143) rfl ((if0 _ _).trans (feq (by decide : ¬ ((1 : Int32) = (0 : Int32)))).1)) ?_
      show Go p e below s QQ room_1.cells room_1.slots (T14.setTop (mkF m 146 #[.val (.long p0), .second, .val (.int p1), .val (.int (1 : Int32)), .val (.ref x_SATISFIABLE), .val (.int (1 : Int32)), .val (.int (1 : Int32)), .val (.int (1 : Int32)), .val (.int (1 : Int32))] []))
      refine gs (fun t => XS.iconst X14.here hx rfl (hb hby at_146)) ?_
      show Go p e below s QQ room_1.cells room_1.slots (T14.setTop (mkF m 147 #[.val (.long p0), .second, .val (.int p1), .val (.int (1 : Int32)), .val (.ref x_SATISFIABLE), .val (.int (1 : Int32)), .val (.int (1 : Int32)), .val (.int (1 : Int32)), .val (.int (1 : Int32))] [(.int (1 : Int32))]))
      refine gs (fun t => XS.goto X14.here hx rfl (pc0 := 147) (pc' := 151) rfl (hb hby at_147) (by decide) (by decide)) ?_
      show Go p e below s QQ room_1.cells room_1.slots (T14.setTop (mkF m 151 #[.val (.long p0), .second, .val (.int p1), .val (.int (1 : Int32)), .val (.ref x_SATISFIABLE), .val (.int (1 : Int32)), .val (.int (1 : Int32)), .val (.int (1 : Int32)), .val (.int (1 : Int32))] [(.int (1 : Int32))]))
      exact goB X14 hx Bd.notSynchronized Bd.returns (by simp) (w := (1 : Int32)) (by first | rfl | decide) (hb hby at_151) (by rw [← hQQ, e14]; exact ⟨rfl, N0⟩) (by decide) (by decide)
    · skip
      rw [show own_of (lcmpW p0 (0 : Int64)) (1 : Int32) x_SATISFIABLE x_UNSATISFIABLE x_UNKNOWN = x_UNSATISFIABLE from by simp only [own_of, hc, if_true, if_false]; rfl]
      show Go p e below s QQ room_1.cells room_1.slots (T11.setTop (mkF m 17 #[.val (.long p0), .second, .val (.int p1), .val (.int (1 : Int32)), .unset, .unset, .unset, .unset, .unset] [(.ref x_UNSATISFIABLE)]))
      refine gs (fun t => XS.astore X11.here hx rfl (hb hby at_17) rfl rfl (l' := #[.val (.long p0), .second, .val (.int p1), .val (.int (1 : Int32)), .val (.ref x_UNSATISFIABLE), .unset, .unset, .unset, .unset]) rfl) ?_
      show Go p e below s QQ room_1.cells room_1.slots (T11.setTop (mkF m 19 #[.val (.long p0), .second, .val (.int p1), .val (.int (1 : Int32)), .val (.ref x_UNSATISFIABLE), .unset, .unset, .unset, .unset] []))
      refine gs (fun t => XS.lloadN X11.here hx rfl (hb hby at_19) rfl) ?_
      show Go p e below s QQ room_1.cells room_1.slots (T11.setTop (mkF m 20 #[.val (.long p0), .second, .val (.int p1), .val (.int (1 : Int32)), .val (.ref x_UNSATISFIABLE), .unset, .unset, .unset, .unset] [(.long p0)]))
      refine gs (fun t => XS.lconst X11.here hx rfl (hb hby at_20)) ?_
      show Go p e below s QQ room_1.cells room_1.slots (T11.setTop (mkF m 21 #[.val (.long p0), .second, .val (.int p1), .val (.int (1 : Int32)), .val (.ref x_UNSATISFIABLE), .unset, .unset, .unset, .unset] [(.long (0 : Int64)), (.long p0)]))
      refine gs (fun t => XS.lcmp X11.here hx rfl (hb hby at_21) rfl) ?_
      show Go p e below s QQ room_1.cells room_1.slots (T11.setTop (mkF m 22 #[.val (.long p0), .second, .val (.int p1), .val (.int (1 : Int32)), .val (.ref x_UNSATISFIABLE), .unset, .unset, .unset, .unset] [(.int (lcmpW p0 (0 : Int64)))]))
      refine gs (fun t => XS.ifYes X11.here hx rfl (pc0 := 22) (pc' := 29) rfl (hb hby at_22) rfl ((if0 _ _).trans (flt (hc : ¬ ((0 : Int32) < (lcmpW p0 (0 : Int64))))).2.2.2) (by decide) (by decide)) ?_
      show Go p e below s QQ room_1.cells room_1.slots (T11.setTop (mkF m 29 #[.val (.long p0), .second, .val (.int p1), .val (.int (1 : Int32)), .val (.ref x_UNSATISFIABLE), .unset, .unset, .unset, .unset] []))
      refine gs (fun t => XS.iconst X11.here hx rfl (hb hby at_29)) ?_
      show Go p e below s QQ room_1.cells room_1.slots (T11.setTop (mkF m 30 #[.val (.long p0), .second, .val (.int p1), .val (.int (1 : Int32)), .val (.ref x_UNSATISFIABLE), .unset, .unset, .unset, .unset] [(.int (0 : Int32))]))
      refine gs (fun t => XS.istore X11.here hx rfl (hb hby at_30) rfl (l' := #[.val (.long p0), .second, .val (.int p1), .val (.int (1 : Int32)), .val (.ref x_UNSATISFIABLE), .val (.int (0 : Int32)), .unset, .unset, .unset]) rfl) ?_
      show Go p e below s QQ room_1.cells room_1.slots (T11.setTop (mkF m 32 #[.val (.long p0), .second, .val (.int p1), .val (.int (1 : Int32)), .val (.ref x_UNSATISFIABLE), .val (.int (0 : Int32)), .unset, .unset, .unset] []))
      refine gs (fun t => XS.aload X11.here hx rfl (hb hby at_32) rfl rfl) ?_
      show Go p e below s QQ room_1.cells room_1.slots (T11.setTop (mkF m 34 #[.val (.long p0), .second, .val (.int p1), .val (.int (1 : Int32)), .val (.ref x_UNSATISFIABLE), .val (.int (0 : Int32)), .unset, .unset, .unset] [(.ref x_UNSATISFIABLE)]))
      obtain ⟨T15, X15, e15, st15⟩ := getS2 X11 hx hZ hown (host := "") (Or.inl (hw _ (List.mem_of_getElem? (i := 6) rfl))) Via.refl e11 (S_x_SATISFIABLE.ext OLD.2) (g := (mkF m 34 #[.val (.long p0), .second, .val (.int p1), .val (.int (1 : Int32)), .val (.ref x_UNSATISFIABLE), .val (.int (0 : Int32)), .unset, .unset, .unset] [(.ref x_UNSATISFIABLE)])) rfl (hb hby at_34)
      refine gs st15 ?_
      show Go p e below s QQ room_1.cells room_1.slots (T15.setTop (mkF m 37 #[.val (.long p0), .second, .val (.int p1), .val (.int (1 : Int32)), .val (.ref x_UNSATISFIABLE), .val (.int (0 : Int32)), .unset, .unset, .unset] [(.ref x_SATISFIABLE), (.ref x_UNSATISFIABLE)]))
      refine gs (fun t => Jvm.RoadKit.acmp (g := (mkF m 37 #[.val (.long p0), .second, .val (.int p1), .val (.int (1 : Int32)), .val (.ref x_UNSATISFIABLE), .val (.int (0 : Int32)), .unset, .unset, .unset] [(.ref x_SATISFIABLE), (.ref x_UNSATISFIABLE)])) X15 hx rfl rfl rfl (pc0 := 37) (pc' := 44) (same := false) rfl (hb hby at_37) rfl (decide_eq_false (fun q => (Ne.symm ne_x_SATISFIABLE_x_UNSATISFIABLE) (Value.ref.inj q))) (by decide) (by decide)) ?_
      show Go p e below s QQ room_1.cells room_1.slots (T15.setTop (mkF m 44 #[.val (.long p0), .second, .val (.int p1), .val (.int (1 : Int32)), .val (.ref x_UNSATISFIABLE), .val (.int (0 : Int32)), .unset, .unset, .unset] []))
      refine gs (fun t => XS.iconst X15.here hx rfl (hb hby at_44)) ?_
      show Go p e below s QQ room_1.cells room_1.slots (T15.setTop (mkF m 45 #[.val (.long p0), .second, .val (.int p1), .val (.int (1 : Int32)), .val (.ref x_UNSATISFIABLE), .val (.int (0 : Int32)), .unset, .unset, .unset] [(.int (0 : Int32))]))
      refine gs (fun t => XS.iload X15.here hx rfl (hb hby at_45) rfl) ?_
      show Go p e below s QQ room_1.cells room_1.slots (T15.setTop (mkF m 47 #[.val (.long p0), .second, .val (.int p1), .val (.int (1 : Int32)), .val (.ref x_UNSATISFIABLE), .val (.int (0 : Int32)), .unset, .unset, .unset] [(.int (0 : Int32)), (.int (0 : Int32))]))
      refine gs (fun t => XS.icmpNo X15.here hx rfl (hb hby at_47) rfl (teq (by decide : (0 : Int32) = (0 : Int32))).2) ?_
      show Go p e below s QQ room_1.cells room_1.slots (T15.setTop (mkF m 50 #[.val (.long p0), .second, .val (.int p1), .val (.int (1 : Int32)), .val (.ref x_UNSATISFIABLE), .val (.int (0 : Int32)), .unset, .unset, .unset] []))
      refine gs (fun t => XS.iconst X15.here hx rfl (hb hby at_50)) ?_
      show Go p e below s QQ room_1.cells room_1.slots (T15.setTop (mkF m 51 #[.val (.long p0), .second, .val (.int p1), .val (.int (1 : Int32)), .val (.ref x_UNSATISFIABLE), .val (.int (0 : Int32)), .unset, .unset, .unset] [(.int (1 : Int32))]))
      refine gs (fun t => XS.goto X15.here hx rfl (pc0 := 51) (pc' := 55) rfl (hb hby at_51) (by decide) (by decide)) ?_
      show Go p e below s QQ room_1.cells room_1.slots (T15.setTop (mkF m 55 #[.val (.long p0), .second, .val (.int p1), .val (.int (1 : Int32)), .val (.ref x_UNSATISFIABLE), .val (.int (0 : Int32)), .unset, .unset, .unset] [(.int (1 : Int32))]))
      refine gs (fun t => XS.istore X15.here hx rfl (hb hby at_55) rfl (l' := #[.val (.long p0), .second, .val (.int p1), .val (.int (1 : Int32)), .val (.ref x_UNSATISFIABLE), .val (.int (0 : Int32)), .val (.int (1 : Int32)), .unset, .unset]) rfl) ?_
      show Go p e below s QQ room_1.cells room_1.slots (T15.setTop (mkF m 57 #[.val (.long p0), .second, .val (.int p1), .val (.int (1 : Int32)), .val (.ref x_UNSATISFIABLE), .val (.int (0 : Int32)), .val (.int (1 : Int32)), .unset, .unset] []))
      refine gs (fun t => XS.aload X15.here hx rfl (hb hby at_57) rfl rfl) ?_
      show Go p e below s QQ room_1.cells room_1.slots (T15.setTop (mkF m 59 #[.val (.long p0), .second, .val (.int p1), .val (.int (1 : Int32)), .val (.ref x_UNSATISFIABLE), .val (.int (0 : Int32)), .val (.int (1 : Int32)), .unset, .unset] [(.ref x_UNSATISFIABLE)]))
      obtain ⟨T16, X16, e16, st16⟩ := getS2 X15 hx hZ hown (host := "") (Or.inl (hw _ (List.mem_of_getElem? (i := 7) rfl))) Via.refl e15 (S_x_UNSATISFIABLE.ext OLD.2) (g := (mkF m 59 #[.val (.long p0), .second, .val (.int p1), .val (.int (1 : Int32)), .val (.ref x_UNSATISFIABLE), .val (.int (0 : Int32)), .val (.int (1 : Int32)), .unset, .unset] [(.ref x_UNSATISFIABLE)])) rfl (hb hby at_59)
      refine gs st16 ?_
      show Go p e below s QQ room_1.cells room_1.slots (T16.setTop (mkF m 62 #[.val (.long p0), .second, .val (.int p1), .val (.int (1 : Int32)), .val (.ref x_UNSATISFIABLE), .val (.int (0 : Int32)), .val (.int (1 : Int32)), .unset, .unset] [(.ref x_UNSATISFIABLE), (.ref x_UNSATISFIABLE)]))
      refine gs (fun t => Jvm.RoadKit.acmp (g := (mkF m 62 #[.val (.long p0), .second, .val (.int p1), .val (.int (1 : Int32)), .val (.ref x_UNSATISFIABLE), .val (.int (0 : Int32)), .val (.int (1 : Int32)), .unset, .unset] [(.ref x_UNSATISFIABLE), (.ref x_UNSATISFIABLE)])) X16 hx rfl rfl rfl (pc0 := 62) (pc' := 65) (same := true) rfl (hb hby at_62) rfl (decide_eq_true rfl) (by decide) (by decide)) ?_
      show Go p e below s QQ room_1.cells room_1.slots (T16.setTop (mkF m 65 #[.val (.long p0), .second, .val (.int p1), .val (.int (1 : Int32)), .val (.ref x_UNSATISFIABLE), .val (.int (0 : Int32)), .val (.int (1 : Int32)), .unset, .unset] []))
      refine gs (fun t => XS.iconst X16.here hx rfl (hb hby at_65)) ?_
      show Go p e below s QQ room_1.cells room_1.slots (T16.setTop (mkF m 66 #[.val (.long p0), .second, .val (.int p1), .val (.int (1 : Int32)), .val (.ref x_UNSATISFIABLE), .val (.int (0 : Int32)), .val (.int (1 : Int32)), .unset, .unset] [(.int (1 : Int32))]))
      refine gs (fun t => XS.goto X16.here hx rfl (pc0 := 66) (pc' := 70) rfl (hb hby at_66) (by decide) (by decide)) ?_
      show Go p e below s QQ room_1.cells room_1.slots (T16.setTop (mkF m 70 #[.val (.long p0), .second, .val (.int p1), .val (.int (1 : Int32)), .val (.ref x_UNSATISFIABLE), .val (.int (0 : Int32)), .val (.int (1 : Int32)), .unset, .unset] [(.int (1 : Int32))]))
      refine gs (fun t => XS.iload X16.here hx rfl (hb hby at_70) rfl) ?_
      show Go p e below s QQ room_1.cells room_1.slots (T16.setTop (mkF m 72 #[.val (.long p0), .second, .val (.int p1), .val (.int (1 : Int32)), .val (.ref x_UNSATISFIABLE), .val (.int (0 : Int32)), .val (.int (1 : Int32)), .unset, .unset] [(.int (0 : Int32)), (.int (1 : Int32))]))
      refine gs (fun t => XS.ifNo X16.here hx rfl (hb hby at_72) rfl ((if0 _ _).trans (teq (by decide : (0 : Int32) = (0 : Int32))).2)) ?_
      show Go p e below s QQ room_1.cells room_1.slots (T16.setTop (mkF m 75 #[.val (.long p0), .second, .val (.int p1), .val (.int (1 : Int32)), .val (.ref x_UNSATISFIABLE), .val (.int (0 : Int32)), .val (.int (1 : Int32)), .unset, .unset] [(.int (1 : Int32))]))
      refine gs (fun t => XS.iloadN X16.here hx rfl (hb hby at_75) rfl) ?_
      show Go p e below s QQ room_1.cells room_1.slots (T16.setTop (mkF m 76 #[.val (.long p0), .second, .val (.int p1), .val (.int (1 : Int32)), .val (.ref x_UNSATISFIABLE), .val (.int (0 : Int32)), .val (.int (1 : Int32)), .unset, .unset] [(.int (1 : Int32)), (.int (1 : Int32))]))
      refine gs (fun t => XS.ifNo X16.here hx rfl (hb hby at_76) rfl ((if0 _ _).trans (feq (by decide : ¬ ((1 : Int32) = (0 : Int32)))).1)) ?_
      show Go p e below s QQ room_1.cells room_1.slots (T16.setTop (mkF m 79 #[.val (.long p0), .second, .val (.int p1), .val (.int (1 : Int32)), .val (.ref x_UNSATISFIABLE), .val (.int (0 : Int32)), .val (.int (1 : Int32)), .unset, .unset] [(.int (1 : Int32))]))
      refine gs (fun t => XS.iconst X16.here hx rfl (hb hby at_79)) ?_
      show Go p e below s QQ room_1.cells room_1.slots (T16.setTop (mkF m 80 #[.val (.long p0), .second, .val (.int p1), .val (.int (1 : Int32)), .val (.ref x_UNSATISFIABLE), .val (.int (0 : Int32)), .val (.int (1 : Int32)), .unset, .unset] [(.int (1 : Int32)), (.int (1 : Int32))]))
      refine gs (fun t => XS.goto X16.here hx rfl (pc0 := 80) (pc' := 84) rfl (hb hby at_80) (by decide) (by decide)) ?_
      show Go p e below s QQ room_1.cells room_1.slots (T16.setTop (mkF m 84 #[.val (.long p0), .second, .val (.int p1), .val (.int (1 : Int32)), .val (.ref x_UNSATISFIABLE), .val (.int (0 : Int32)), .val (.int (1 : Int32)), .unset, .unset] [(.int (1 : Int32)), (.int (1 : Int32))]))
      refine gs (fun t => XS.icmpNo X16.here hx rfl (hb hby at_84) rfl (teq (by decide : (1 : Int32) = (1 : Int32))).2) ?_
      show Go p e below s QQ room_1.cells room_1.slots (T16.setTop (mkF m 87 #[.val (.long p0), .second, .val (.int p1), .val (.int (1 : Int32)), .val (.ref x_UNSATISFIABLE), .val (.int (0 : Int32)), .val (.int (1 : Int32)), .unset, .unset] []))
      refine gs (fun t => XS.iconst X16.here hx rfl (hb hby at_87)) ?_
      show Go p e below s QQ room_1.cells room_1.slots (T16.setTop (mkF m 88 #[.val (.long p0), .second, .val (.int p1), .val (.int (1 : Int32)), .val (.ref x_UNSATISFIABLE), .val (.int (0 : Int32)), .val (.int (1 : Int32)), .unset, .unset] [(.int (1 : Int32))]))
      refine gs (fun t => XS.goto X16.here hx rfl (pc0 := 88) (pc' := 92) rfl (hb hby at_88) (by decide) (by decide)) ?_
      show Go p e below s QQ room_1.cells room_1.slots (T16.setTop (mkF m 92 #[.val (.long p0), .second, .val (.int p1), .val (.int (1 : Int32)), .val (.ref x_UNSATISFIABLE), .val (.int (0 : Int32)), .val (.int (1 : Int32)), .unset, .unset] [(.int (1 : Int32))]))
      refine gs (fun t => XS.istore X16.here hx rfl (hb hby at_92) rfl (l' := #[.val (.long p0), .second, .val (.int p1), .val (.int (1 : Int32)), .val (.ref x_UNSATISFIABLE), .val (.int (0 : Int32)), .val (.int (1 : Int32)), .val (.int (1 : Int32)), .unset]) rfl) ?_
      show Go p e below s QQ room_1.cells room_1.slots (T16.setTop (mkF m 94 #[.val (.long p0), .second, .val (.int p1), .val (.int (1 : Int32)), .val (.ref x_UNSATISFIABLE), .val (.int (0 : Int32)), .val (.int (1 : Int32)), .val (.int (1 : Int32)), .unset] []))
      refine gs (fun t => XS.aload X16.here hx rfl (hb hby at_94) rfl rfl) ?_
      show Go p e below s QQ room_1.cells room_1.slots (T16.setTop (mkF m 96 #[.val (.long p0), .second, .val (.int p1), .val (.int (1 : Int32)), .val (.ref x_UNSATISFIABLE), .val (.int (0 : Int32)), .val (.int (1 : Int32)), .val (.int (1 : Int32)), .unset] [(.ref x_UNSATISFIABLE)]))
      obtain ⟨T17, X17, e17, st17⟩ := getS2 X16 hx hZ hown (host := "") (Or.inl (hw _ (List.mem_of_getElem? (i := 9) rfl))) Via.refl e16 (S_x_UNKNOWN.ext OLD.2) (g := (mkF m 96 #[.val (.long p0), .second, .val (.int p1), .val (.int (1 : Int32)), .val (.ref x_UNSATISFIABLE), .val (.int (0 : Int32)), .val (.int (1 : Int32)), .val (.int (1 : Int32)), .unset] [(.ref x_UNSATISFIABLE)])) rfl (hb hby at_96)
      refine gs st17 ?_
      show Go p e below s QQ room_1.cells room_1.slots (T17.setTop (mkF m 99 #[.val (.long p0), .second, .val (.int p1), .val (.int (1 : Int32)), .val (.ref x_UNSATISFIABLE), .val (.int (0 : Int32)), .val (.int (1 : Int32)), .val (.int (1 : Int32)), .unset] [(.ref x_UNKNOWN), (.ref x_UNSATISFIABLE)]))
      refine gs (fun t => Jvm.RoadKit.acmp (g := (mkF m 99 #[.val (.long p0), .second, .val (.int p1), .val (.int (1 : Int32)), .val (.ref x_UNSATISFIABLE), .val (.int (0 : Int32)), .val (.int (1 : Int32)), .val (.int (1 : Int32)), .unset] [(.ref x_UNKNOWN), (.ref x_UNSATISFIABLE)])) X17 hx rfl rfl rfl (pc0 := 99) (pc' := 106) (same := false) rfl (hb hby at_99) rfl (decide_eq_false (fun q => ne_x_UNSATISFIABLE_x_UNKNOWN (Value.ref.inj q))) (by decide) (by decide)) ?_
      show Go p e below s QQ room_1.cells room_1.slots (T17.setTop (mkF m 106 #[.val (.long p0), .second, .val (.int p1), .val (.int (1 : Int32)), .val (.ref x_UNSATISFIABLE), .val (.int (0 : Int32)), .val (.int (1 : Int32)), .val (.int (1 : Int32)), .unset] []))
      refine gs (fun t => XS.iconst X17.here hx rfl (hb hby at_106)) ?_
      show Go p e below s QQ room_1.cells room_1.slots (T17.setTop (mkF m 107 #[.val (.long p0), .second, .val (.int p1), .val (.int (1 : Int32)), .val (.ref x_UNSATISFIABLE), .val (.int (0 : Int32)), .val (.int (1 : Int32)), .val (.int (1 : Int32)), .unset] [(.int (0 : Int32))]))
      refine gs (fun t => XS.iload X17.here hx rfl (hb hby at_107) rfl) ?_
      show Go p e below s QQ room_1.cells room_1.slots (T17.setTop (mkF m 109 #[.val (.long p0), .second, .val (.int p1), .val (.int (1 : Int32)), .val (.ref x_UNSATISFIABLE), .val (.int (0 : Int32)), .val (.int (1 : Int32)), .val (.int (1 : Int32)), .unset] [(.int (0 : Int32)), (.int (0 : Int32))]))
      refine gs (fun t => XS.ifNo X17.here hx rfl (hb hby at_109) rfl ((if0 _ _).trans (teq (by decide : (0 : Int32) = (0 : Int32))).2)) ?_
      show Go p e below s QQ room_1.cells room_1.slots (T17.setTop (mkF m 112 #[.val (.long p0), .second, .val (.int p1), .val (.int (1 : Int32)), .val (.ref x_UNSATISFIABLE), .val (.int (0 : Int32)), .val (.int (1 : Int32)), .val (.int (1 : Int32)), .unset] [(.int (0 : Int32))]))
      refine gs (fun t => XS.iloadN X17.here hx rfl (hb hby at_112) rfl) ?_
      show Go p e below s QQ room_1.cells room_1.slots (T17.setTop (mkF m 113 #[.val (.long p0), .second, .val (.int p1), .val (.int (1 : Int32)), .val (.ref x_UNSATISFIABLE), .val (.int (0 : Int32)), .val (.int (1 : Int32)), .val (.int (1 : Int32)), .unset] [(.int (1 : Int32)), (.int (0 : Int32))]))
      refine gs (fun t => XS.ifYes X17.here hx rfl (pc0 := 113) (pc' := 120) rfl (hb hby at_113) rfl ((if0 _ _).trans (feq (by decide : ¬ ((1 : Int32) = (0 : Int32)))).2) (by decide) (by decide)) ?_
      show Go p e below s QQ room_1.cells room_1.slots (T17.setTop (mkF m 120 #[.val (.long p0), .second, .val (.int p1), .val (.int (1 : Int32)), .val (.ref x_UNSATISFIABLE), .val (.int (0 : Int32)), .val (.int (1 : Int32)), .val (.int (1 : Int32)), .unset] [(.int (0 : Int32))]))
      refine gs (fun t => XS.iconst X17.here hx rfl (hb hby at_120)) ?_
      show Go p e below s QQ room_1.cells room_1.slots (T17.setTop (mkF m 121 #[.val (.long p0), .second, .val (.int p1), .val (.int (1 : Int32)), .val (.ref x_UNSATISFIABLE), .val (.int (0 : Int32)), .val (.int (1 : Int32)), .val (.int (1 : Int32)), .unset] [(.int (0 : Int32)), (.int (0 : Int32))]))
      refine gs (fun t => XS.icmpNo X17.here hx rfl (hb hby at_121) rfl (teq (by decide : (0 : Int32) = (0 : Int32))).2) ?_
      show Go p e below s QQ room_1.cells room_1.slots (T17.setTop (mkF m 124 #[.val (.long p0), .second, .val (.int p1), .val (.int (1 : Int32)), .val (.ref x_UNSATISFIABLE), .val (.int (0 : Int32)), .val (.int (1 : Int32)), .val (.int (1 : Int32)), .unset] []))
      refine gs (fun t => XS.iconst X17.here hx rfl (hb hby at_124)) ?_
      show Go p e below s QQ room_1.cells room_1.slots (T17.setTop (mkF m 125 #[.val (.long p0), .second, .val (.int p1), .val (.int (1 : Int32)), .val (.ref x_UNSATISFIABLE), .val (.int (0 : Int32)), .val (.int (1 : Int32)), .val (.int (1 : Int32)), .unset] [(.int (1 : Int32))]))
      refine gs (fun t => XS.goto X17.here hx rfl (pc0 := 125) (pc' := 129) rfl (hb hby at_125) (by decide) (by decide)) ?_
      show Go p e below s QQ room_1.cells room_1.slots (T17.setTop (mkF m 129 #[.val (.long p0), .second, .val (.int p1), .val (.int (1 : Int32)), .val (.ref x_UNSATISFIABLE), .val (.int (0 : Int32)), .val (.int (1 : Int32)), .val (.int (1 : Int32)), .unset] [(.int (1 : Int32))]))
      refine gs (fun t => XS.istore X17.here hx rfl (hb hby at_129) rfl (l' := #[.val (.long p0), .second, .val (.int p1), .val (.int (1 : Int32)), .val (.ref x_UNSATISFIABLE), .val (.int (0 : Int32)), .val (.int (1 : Int32)), .val (.int (1 : Int32)), .val (.int (1 : Int32))]) rfl) ?_
      show Go p e below s QQ room_1.cells room_1.slots (T17.setTop (mkF m 131 #[.val (.long p0), .second, .val (.int p1), .val (.int (1 : Int32)), .val (.ref x_UNSATISFIABLE), .val (.int (0 : Int32)), .val (.int (1 : Int32)), .val (.int (1 : Int32)), .val (.int (1 : Int32))] []))
      refine gs (fun t => XS.iload X17.here hx rfl (hb hby at_131) rfl) ?_
      show Go p e below s QQ room_1.cells room_1.slots (T17.setTop (mkF m 133 #[.val (.long p0), .second, .val (.int p1), .val (.int (1 : Int32)), .val (.ref x_UNSATISFIABLE), .val (.int (0 : Int32)), .val (.int (1 : Int32)), .val (.int (1 : Int32)), .val (.int (1 : Int32))] [(.int (1 : Int32))]))
      refine gs (fun t => XS.ifNo X17.here hx rfl (hb hby at_133) rfl ((if0 _ _).trans (feq (by decide : ¬ ((1 : Int32) = (0 : Int32)))).1)) ?_
      show Go p e below s QQ room_1.cells room_1.slots (T17.setTop (mkF m 136 #[.val (.long p0), .second, .val (.int p1), .val (.int (1 : Int32)), .val (.ref x_UNSATISFIABLE), .val (.int (0 : Int32)), .val (.int (1 : Int32)), .val (.int (1 : Int32)), .val (.int (1 : Int32))] []))
      refine gs (fun t => XS.iload X17.here hx rfl (hb hby at_136) rfl) ?_
      show Go p e below s QQ room_1.cells room_1.slots (T17.setTop (mkF m 138 #[.val (.long p0), .second, .val (.int p1), .val (.int (1 : Int32)), .val (.ref x_UNSATISFIABLE), .val (.int (0 : Int32)), .val (.int (1 : Int32)), .val (.int (1 : Int32)), .val (.int (1 : Int32))] [(.int (1 : Int32))]))
      refine gs (fun t => XS.ifNo X17.here hx rfl (hb hby at_138) rfl ((if0 _ _).trans (feq (by decide : ¬ ((1 : Int32) = (0 : Int32)))).1)) ?_
      show Go p e below s QQ room_1.cells room_1.slots (T17.setTop (mkF m 141 #[.val (.long p0), .second, .val (.int p1), .val (.int (1 : Int32)), .val (.ref x_UNSATISFIABLE), .val (.int (0 : Int32)), .val (.int (1 : Int32)), .val (.int (1 : Int32)), .val (.int (1 : Int32))] []))
      refine gs (fun t => XS.iload X17.here hx rfl (hb hby at_141) rfl) ?_
      show Go p e below s QQ room_1.cells room_1.slots (T17.setTop (mkF m 143 #[.val (.long p0), .second, .val (.int p1), .val (.int (1 : Int32)), .val (.ref x_UNSATISFIABLE), .val (.int (0 : Int32)), .val (.int (1 : Int32)), .val (.int (1 : Int32)), .val (.int (1 : Int32))] [(.int (1 : Int32))]))
      refine gs (fun t => XS.ifNo X17.here hx rfl (hb hby at_143) rfl ((if0 _ _).trans (feq (by decide : ¬ ((1 : Int32) = (0 : Int32)))).1)) ?_
      show Go p e below s QQ room_1.cells room_1.slots (T17.setTop (mkF m 146 #[.val (.long p0), .second, .val (.int p1), .val (.int (1 : Int32)), .val (.ref x_UNSATISFIABLE), .val (.int (0 : Int32)), .val (.int (1 : Int32)), .val (.int (1 : Int32)), .val (.int (1 : Int32))] []))
      refine gs (fun t => XS.iconst X17.here hx rfl (hb hby at_146)) ?_
      show Go p e below s QQ room_1.cells room_1.slots (T17.setTop (mkF m 147 #[.val (.long p0), .second, .val (.int p1), .val (.int (1 : Int32)), .val (.ref x_UNSATISFIABLE), .val (.int (0 : Int32)), .val (.int (1 : Int32)), .val (.int (1 : Int32)), .val (.int (1 : Int32))] [(.int (1 : Int32))]))
      refine gs (fun t => XS.goto X17.here hx rfl (pc0 := 147) (pc' := 151) rfl (hb hby at_147) (by decide) (by decide)) ?_
      show Go p e below s QQ room_1.cells room_1.slots (T17.setTop (mkF m 151 #[.val (.long p0), .second, .val (.int p1), .val (.int (1 : Int32)), .val (.ref x_UNSATISFIABLE), .val (.int (0 : Int32)), .val (.int (1 : Int32)), .val (.int (1 : Int32)), .val (.int (1 : Int32))] [(.int (1 : Int32))]))
      exact goB X17 hx Bd.notSynchronized Bd.returns (by simp) (w := (1 : Int32)) (by first | rfl | decide) (hb hby at_151) (by rw [← hQQ, e17]; exact ⟨rfl, N0⟩) (by decide) (by decide)
set_option maxRecDepth 65536 in
set_option maxHeartbeats 40000000 in
theorem comes_1 {Post : Tables → Env → Array Value → State → Outcome → State → Prop} (hpost : ∀ tb e args s v u, (limb_1_1.after args s (.returned v) u = true ∧ limb_1_2.after args s (.returned v) u = true ∧ True) → FrameEnd s (.returned v) u (Jvm.fieldLocs frame_1_writes args s ++ Jvm.arrayLocs frame_1_arrays args s ++ Jvm.staticLocs frame_1_statics s) 0 0 → Post tb e args s (.returned v) u) :
    ArmFor flags0 classFile x code maxLocals ret World_1 tables_1 room_1 Calls_1 rest_1 Pre_1 Post := by
  intro l hfl _ _ p e ha hc hk s m args below hf hA hF happ hP
  obtain ⟨hcalls, hrest, hpre⟩ := hP
  obtain ⟨-, -, -, hnamed, -, -, -, hat⟩ := (Spec.applies_iff hf).mp happ
  obtain ⟨hg, hn⟩ := and_e (Cond.before_iff.mp (show (Jvm.Cond.and given_1 narrow_1).before args s = true from hpre))
  obtain ⟨gc, hg0⟩ := and_e hg
  obtain ⟨w0, w1, rfl⟩ : ∃ w0 w1 : Value, args = #[w0, w1] := by
    have hs : args.size = 2 := by simpa [Cond.value, given_1] using gc
    obtain ⟨L⟩ := args
    match L, hs with
    | [w0, w1], _ => exact ⟨w0, w1, rfl⟩
  obtain ⟨ga0, hg1⟩ := and_e hg0
  obtain ⟨i0, ei0⟩ := isL_v ga0
  obtain rfl : w0 = (.long i0) := Option.some.inj ei0
  obtain ⟨i1, ei1⟩ := is_v hg1
  obtain rfl : w1 = (.int i1) := Option.some.inj ei1
  have hw := fun d (hd : d ∈ tables_1) => atoms_spec (ws := Jvm.Cond.code x code maxLocals ret :: tables_1) hat d (List.mem_cons_of_mem _ hd)
  have hfit : Fit s := fun {y c} hc i hi => by
    obtain ⟨ha, rfl⟩ := Array.getElem?_eq_some_iff.mp hc
    have q := List.all_eq_true.mp ((Array.all_eq_true_iff_forall_mem.mp hF) _ (Array.getElem_mem ha)) i (List.mem_range.mpr hi)
    simpa [Array.getElem?_eq_getElem hi] using q
  obtain ⟨na1, nb1⟩ := and_e hn
  obtain ⟨na2, nb2⟩ := and_e nb1
  obtain ⟨na3, nb3⟩ := and_e nb2
  obtain ⟨na4, nb4⟩ := and_e nb3
  obtain ⟨na5, nb5⟩ := and_e nb4
  obtain ⟨x_SATISFIABLE, ev_x_SATISFIABLE⟩ := exa_v na1
  have S_x_SATISFIABLE := Sta.start ev_x_SATISFIABLE (Or.inr ⟨(hw _ (List.mem_of_getElem? (i := 2) rfl)), (hw _ (List.mem_of_getElem? (i := 5) rfl))⟩)
  have E_x_SATISFIABLE := Exa.start ev_x_SATISFIABLE na1
  obtain ⟨x_UNSATISFIABLE, ev_x_UNSATISFIABLE⟩ := exa_v na2
  have S_x_UNSATISFIABLE := Sta.start ev_x_UNSATISFIABLE (Or.inr ⟨(hw _ (List.mem_of_getElem? (i := 2) rfl)), (hw _ (List.mem_of_getElem? (i := 8) rfl))⟩)
  have E_x_UNSATISFIABLE := Exa.start ev_x_UNSATISFIABLE na2
  have F_x_SATISFIABLE_ordinal := Fld.start ((fld_at ev_x_SATISFIABLE).symm.trans (own_eqI na3))
  have F_x_UNSATISFIABLE_ordinal := Fld.start ((fld_at ev_x_UNSATISFIABLE).symm.trans (own_eqI na4))
  obtain ⟨x_UNKNOWN, ev_x_UNKNOWN⟩ := exa_v na5
  have S_x_UNKNOWN := Sta.start ev_x_UNKNOWN (Or.inr ⟨(hw _ (List.mem_of_getElem? (i := 2) rfl)), (hw _ (List.mem_of_getElem? (i := 10) rfl))⟩)
  have E_x_UNKNOWN := Exa.start ev_x_UNKNOWN na5
  have F_x_UNKNOWN_ordinal := Fld.start ((fld_at ev_x_UNKNOWN).symm.trans (own_eqI nb5))
  obtain ⟨n, o, h1, h2, h3, _, L, rfl, ⟨rfl, N⟩, hq⟩ := rm0 l s _ hw tables_1 i0 i1 x_SATISFIABLE x_UNSATISFIABLE x_UNKNOWN s.heap s.heap.size (Nat.le_refl _) (Old.start s) S_x_SATISFIABLE E_x_SATISFIABLE S_x_UNSATISFIABLE E_x_UNSATISFIABLE F_x_SATISFIABLE_ordinal F_x_UNSATISFIABLE_ordinal S_x_UNKNOWN E_x_UNKNOWN F_x_UNKNOWN_ordinal p e ha hc hk s m _ below hf ((Spec.applies_iff_loose hf).mp happ).1 ⟨rfl, State.Warmed39.refl s, rfl⟩ trivial
  refine ⟨n, _, h1, h2, h3, hpost _ _ _ _ _ _ ⟨Cond.after_iff.mpr rfl, Cond.after_iff.mpr (eq_i res_at (Term.int_eval (1)) rfl), trivial⟩ ⟨hq.1, hq.2.1, (hq.2.2.sift fun y hy => Or.inr (N y hy)).mono (by decide) (by decide)⟩⟩
theorem main_1_1 : Claimed_1_1 := comes_1 fun _ _ _ _ _ _ h hF => ⟨h.1, hF⟩
theorem main_1_2 : Claimed_1_2 := comes_1 fun _ _ _ _ _ _ h hF => ⟨h.2.1, hF⟩
end Jvm.Pilot.@@N@@
namespace Jvm.Pilot.@@N@@
open Jvm Jvm.ClassFile Sem Op Lib Jvm.Free Jvm.Stand Jvm.Pilot.@@N@@.Jvm.D
/-! MADE BY PROGRAM (witnessworld.py) out of the Statement's table words and the real class files: 12 classes; the members and pool entries that the words name. The judged class is class 1, her method 1. -/
namespace start1
open Jvm.ClassFile
def u (s : String) : CpInfo := .utf8 (stringToUtf16 s)
/-- a pool by its gaps: so many unusable entries, then the entry; so many at the end -/
def gap : Nat → List CpInfo → List CpInfo
  | 0, r => r
  | n + 1, r => .unusable :: gap n r
def poolList (es : List (Nat × CpInfo)) (last : Nat) : List CpInfo := es.foldr (fun e r => gap e.1 (e.2 :: r)) (gap last [])
def pool (es : List (Nat × CpInfo)) (last : Nat) : Array CpInfo := ⟨poolList es last⟩
def fileOf (pool : Array CpInfo) (this : Nat) (attrs : Array Attribute := #[]) (ms : Array MethodInfo := #[]) (fl : Nat := 33) (sup : Nat := 0) (ifs : Array Nat := #[]) (fds : Array FieldInfo := #[]) : ClassFile where
  minorVersion := 0
  majorVersion := 65
  constantPool := pool
  accessFlags := fl
  thisClass := this
  superClass := sup
  interfaces := ifs
  fields := fds
  methods := ms
  attributes := attrs
def plain (name : String) (sup : Option ClassId) : Class where
  name := name
  kind := .ordinary
  loader := none
  accessFlags := 33
  super := sup
  interfaces := #[]
  cf := none
  fields := #[]
  methods := #[]
  instanceTypes := #[]
  staticTypes := #[]
  resolved := #[]
  callSites := []
  init := .initialized
  statics := none
  mirror := none

def pool0 : Array CpInfo := pool [(5, u "<init>"), (0, u "()V"), (1, .class_ 10), (1, u "java/lang/Object")] 113

def k0m0 : Method := { name := "<init>", desc := "()V", sig := { parameters := [], returnType := none }, accessFlags := 1, code := none }
/-- java/lang/Object -/
def k0 : Class := { plain "java/lang/Object" none with
  accessFlags := 33
  interfaces := #[]
  cf := some (fileOf pool0 8 #[] #[{ accessFlags := 1, nameIndex := 5, descriptorIndex := 6, attributes := #[] }] 33 0 #[] #[])
  fields := #[]
  methods := #[k0m0]
  instanceTypes := #[]
  staticTypes := #[]
  resolved := Array.replicate 124 none
  statics := none }

def pool1 : Array CpInfo := pool [(2, .class_ 4), (1, u "java/lang/Object"), (0, u "<init>"), (0, u "()V"), (0, .methodref 8 9), (0, .class_ 10), (0, .nameAndType 11 12), (0, u "com/example/tuplewise/tuplewise/Status"), (0, u "of"), (0, u "(JZ)Lcom/example/tuplewise/tuplewise/Status;"), (0, .fieldref 8 14), (0, .nameAndType 15 16), (0, u "SATISFIABLE"), (0, u "Lcom/example/tuplewise/tuplewise/Status;"), (0, .fieldref 8 18), (0, .nameAndType 19 16), (0, u "UNSATISFIABLE"), (0, .fieldref 8 21), (0, .nameAndType 22 16), (0, u "UNKNOWN"), (0, .class_ 24), (0, u "com/example/tuplewise/tuplewise/StatusOfPinLaw"), (2, u "law"), (0, u "(JI)Z")] 3

def k1m0 : Method := { name := "<init>", desc := "()V", sig := { parameters := [], returnType := none }, accessFlags := 1, code := none }
def k1c1 : Code := { maxStack := 4, maxLocals := 9, code := code, exceptionTable := #[], attributes := #[] }
def k1m1 : Method := { name := "law", desc := "(JI)Z", sig := { parameters := [.long, .int], returnType := some .boolean }, accessFlags := 9, code := some k1c1 }
/-- com/example/tuplewise/tuplewise/StatusOfPinLaw -/
def k1 : Class := { plain "com/example/tuplewise/tuplewise/StatusOfPinLaw" (some 0) with
  accessFlags := 49
  interfaces := #[]
  cf := some (fileOf pool1 23 #[] #[{ accessFlags := 1, nameIndex := 5, descriptorIndex := 6, attributes := #[] }, { accessFlags := 9, nameIndex := 27, descriptorIndex := 28, attributes := #[] }] 49 2 #[] #[])
  fields := #[]
  methods := #[k1m0, k1m1]
  instanceTypes := #[]
  staticTypes := #[]
  resolved := Array.replicate 32 none
  statics := none }

def pool2 : Array CpInfo := pool [(1, .class_ 2), (0, u "java/lang/constant/Constable"), (0, .class_ 4), (0, u "java/lang/Object")] 6

/-- java/lang/constant/Constable -/
def k2 : Class := { plain "java/lang/constant/Constable" (some 0) with
  accessFlags := 1537
  interfaces := #[]
  cf := some (fileOf pool2 1 #[] #[] 1537 3 #[] #[])
  fields := #[]
  methods := #[]
  instanceTypes := #[]
  staticTypes := #[]
  resolved := Array.replicate 11 none
  statics := none }

def pool3 : Array CpInfo := pool [(1, .class_ 2), (0, u "java/lang/Comparable"), (0, .class_ 4), (0, u "java/lang/Object")] 7

/-- java/lang/Comparable -/
def k3 : Class := { plain "java/lang/Comparable" (some 0) with
  accessFlags := 1537
  interfaces := #[]
  cf := some (fileOf pool3 1 #[] #[] 1537 3 #[] #[])
  fields := #[]
  methods := #[]
  instanceTypes := #[]
  staticTypes := #[]
  resolved := Array.replicate 12 none
  statics := none }

def pool4 : Array CpInfo := pool [(1, .class_ 2), (0, u "java/io/Serializable"), (0, .class_ 4), (0, u "java/lang/Object")] 2

/-- java/io/Serializable -/
def k4 : Class := { plain "java/io/Serializable" (some 0) with
  accessFlags := 1537
  interfaces := #[]
  cf := some (fileOf pool4 1 #[] #[] 1537 3 #[] #[])
  fields := #[]
  methods := #[]
  instanceTypes := #[]
  staticTypes := #[]
  resolved := Array.replicate 7 none
  statics := none }

def pool5 : Array CpInfo := pool [(2, .class_ 4), (1, u "java/lang/Enum"), (0, u "name"), (0, u "Ljava/lang/String;"), (2, u "ordinal"), (0, u "I"), (1, .class_ 14), (1, u "java/lang/Object"), (4, u "hash"), (86, .class_ 108), (1, u "java/lang/Enum$EnumDesc"), (2, .class_ 112), (0, u "java/lang/constant/Constable"), (0, .class_ 114), (0, u "java/lang/Comparable"), (0, .class_ 116), (0, u "java/io/Serializable")] 87

/-- java/lang/Enum -/
def k5 : Class := { plain "java/lang/Enum" (some 0) with
  accessFlags := 1057
  interfaces := #[2, 3, 4]
  cf := some (fileOf pool5 2 #[.nestMembers #[106]] #[] 1057 12 #[111, 113, 115] #[{ accessFlags := 18, nameIndex := 5, descriptorIndex := 6, attributes := #[] }, { accessFlags := 18, nameIndex := 9, descriptorIndex := 10, attributes := #[] }, { accessFlags := 2, nameIndex := 19, descriptorIndex := 10, attributes := #[] }])
  fields := #[{ name := "name", type := (.object "java/lang/String"), accessFlags := 18, slot := 0, constantValue := 0 }, { name := "ordinal", type := .int, accessFlags := 18, slot := 1, constantValue := 0 }, { name := "hash", type := .int, accessFlags := 2, slot := 2, constantValue := 0 }]
  methods := #[]
  instanceTypes := #[(.object "java/lang/String"), .int, .int]
  staticTypes := #[]
  resolved := Array.replicate 204 none
  statics := none }

def pool6 : Array CpInfo := pool [(1, .class_ 2), (0, u "com/example/tuplewise/tuplewise/Status"), (0, .fieldref 1 4), (0, .nameAndType 5 6), (0, u "SATISFIABLE"), (0, u "Lcom/example/tuplewise/tuplewise/Status;"), (0, .fieldref 1 8), (0, .nameAndType 9 6), (0, u "UNSATISFIABLE"), (0, .fieldref 1 11), (0, .nameAndType 12 6), (0, u "UNKNOWN"), (2, u "$VALUES"), (0, u "[Lcom/example/tuplewise/tuplewise/Status;"), (6, .class_ 25), (1, u "java/lang/Enum"), (21, u "of"), (0, u "(JZ)Lcom/example/tuplewise/tuplewise/Status;")] 5

def k6c0 : Code := { maxStack := 4, maxLocals := 4, code := prog_19_method_4_code, exceptionTable := #[], attributes := #[] }
def k6m0 : Method := { name := "of", desc := "(JZ)Lcom/example/tuplewise/tuplewise/Status;", sig := { parameters := [.long, .boolean], returnType := some (.object "com/example/tuplewise/tuplewise/Status") }, accessFlags := 8, code := some k6c0 }
/-- com/example/tuplewise/tuplewise/Status -/
def k6 : Class := { plain "com/example/tuplewise/tuplewise/Status" (some 5) with
  accessFlags := 16433
  interfaces := #[]
  cf := some (fileOf pool6 1 #[] #[{ accessFlags := 8, nameIndex := 47, descriptorIndex := 48, attributes := #[] }] 16433 23 #[] #[{ accessFlags := 16409, nameIndex := 5, descriptorIndex := 6, attributes := #[] }, { accessFlags := 16409, nameIndex := 9, descriptorIndex := 6, attributes := #[] }, { accessFlags := 16409, nameIndex := 12, descriptorIndex := 6, attributes := #[] }, { accessFlags := 4122, nameIndex := 15, descriptorIndex := 16, attributes := #[] }])
  fields := #[{ name := "SATISFIABLE", type := (.object "com/example/tuplewise/tuplewise/Status"), accessFlags := 16409, slot := 0, constantValue := 0 }, { name := "UNSATISFIABLE", type := (.object "com/example/tuplewise/tuplewise/Status"), accessFlags := 16409, slot := 1, constantValue := 0 }, { name := "UNKNOWN", type := (.object "com/example/tuplewise/tuplewise/Status"), accessFlags := 16409, slot := 2, constantValue := 0 }, { name := "$VALUES", type := (.array (.object "com/example/tuplewise/tuplewise/Status")), accessFlags := 4122, slot := 3, constantValue := 0 }]
  methods := #[k6m0]
  instanceTypes := #[(.object "java/lang/String"), .int, .int]
  staticTypes := #[(.object "com/example/tuplewise/tuplewise/Status"), (.object "com/example/tuplewise/tuplewise/Status"), (.object "com/example/tuplewise/tuplewise/Status"), (.array (.object "com/example/tuplewise/tuplewise/Status"))]
  resolved := Array.replicate 54 none
  statics := some 0 }

def pool7 : Array CpInfo := pool [(1, u "java/lang/Cloneable"), (0, .class_ 1), (0, u "java/lang/Object"), (0, .class_ 3)] 3

/-- java/lang/Cloneable -/
def k7 : Class := { plain "java/lang/Cloneable" (some 0) with
  accessFlags := 1537
  interfaces := #[]
  cf := some (fileOf pool7 2 #[] #[] 1537 4 #[] #[])
  fields := #[]
  methods := #[]
  instanceTypes := #[]
  staticTypes := #[]
  resolved := Array.replicate 8 none
  statics := none }

/-- the primitive byte -/
def k8 : Class := { plain "byte" none with kind := .primitive 'B', accessFlags := 0x411 }
/-- [B -/
def k9 : Class := { plain "[B" (some 0) with kind := .array 8 .byte, interfaces := #[7, 4], accessFlags := 1041 }

/-- the primitive int -/
def k10 : Class := { plain "int" none with kind := .primitive 'I', accessFlags := 0x411 }
/-- [I -/
def k11 : Class := { plain "[I" (some 0) with kind := .array 10 .int, interfaces := #[7, 4], accessFlags := 1041 }

def heap : Heap := #[{ cls := 6, slots := #[.ref 1, .ref 2, .ref 3, .null], vm := .statics 6 },
  { cls := 6, slots := #[.null, .int 0, .int 0], vm := .none },
  { cls := 6, slots := #[.null, .int 1, .int 0], vm := .none },
  { cls := 6, slots := #[.null, .int 2, .int 0], vm := .none }]
def classes : Array Class := #[k0, k1, k2, k3, k4, k5, k6, k7, k8, k9, k10, k11]
def interned : List (Array UInt16 × Addr) := []
def slotsUsed : Nat := 13
def theMethod : MethodId := ⟨1, 1⟩
def args0 : Array Value := #[.long 1, .int 1]
def aboutOver (below : List Frame) : State where
  vm := { classes := classes, interned := interned.toArray }
  heap := heap
  slotsUsed := slotsUsed
  threads := #[{ frames := .invoking theMethod args0 :: below }]
def below0 : List Frame := [.native { method := ⟨0, 0⟩, args := #[] }]
def about1 : State := aboutOver below0
def p0 : Program := .bare "" "" ""
def e0 : Env := launch0.env 0 0 0
theorem w_frames : about1.frames = Frame.invoking theMethod args0 :: below0 := rfl
set_option maxRecDepth 65536 in
theorem w_args : argsFit about1.vm theMethod args0 = true := by decide +kernel
set_option maxRecDepth 65536 in
theorem w_heap : heapFits about1 = true := by decide +kernel
set_option maxRecDepth 65536 in
theorem w_runnable : about1.curStatus? = some .runnable := by decide +kernel
set_option maxRecDepth 65536 in
theorem w_alone : about1.alone = true := by decide +kernel
set_option maxRecDepth 65536 in
theorem w_named : about1.methodNamed? x = some theMethod := by decide +kernel
set_option maxRecDepth 65536 in
theorem w_hears : about1.hears theMethod below0 = true := by decide +kernel
set_option maxRecDepth 65536 in
theorem w_ripe : about1.ripe theMethod args0 below0 = true := by decide +kernel
theorem w_running : about1.status = .running := rfl
set_option maxRecDepth 65536 in
theorem w_room : about1.hasRoom e0.platform room_1 = true :=
  launch0.hasRoom_least _ room_1 (by decide +kernel) (by decide +kernel) (by decide +kernel) (by decide +kernel) (by decide +kernel) (by decide +kernel)
theorem allAtoms_all (ts : List Jvm.Cond) (a : Array Jvm.Value) (st : Jvm.State) : (allAtoms ts).before a st = ts.all (fun c => c.before a st) := by
  induction ts with
  | nil => rfl
  | cons c t ih =>
    show (Jvm.Cond.and c (allAtoms t)).before a st = _
    rw [Jvm.Cond.before_and, ih, List.all_cons]
def words1 : List Jvm.Cond := Jvm.Cond.code x code maxLocals ret :: tables_1
/-- a 'code' word, met by the world's own term for the bytes: nothing is compared byte by byte -/
theorem code_word {y : MethodName} {bytes : ByteArray} {mx : Nat} {rt : Option FieldType} {a : Array Value} {s : State} {m : MethodId} {meth : Method} {c : Code} (h1 : s.methodNamed? y = some m) (h2 : s.vm.method? m = some meth) (h3 : meth.code = some c) (h4 : c.code = bytes)
    (h5 : (c.maxLocals == mx && c.exceptionTable.isEmpty && decide (c.maxStack ≤ mostOperands) && decide (meth.sig.returnType = rt) && !meth.locks && decide (parseMethodDescriptor y.desc = some meth.sig)) = true) : (Jvm.Cond.code y bytes mx rt).before a s = true := by
  simp only [Bool.and_eq_true, beq_iff_eq, Bool.not_eq_true', decide_eq_true_eq] at h5
  obtain ⟨⟨⟨⟨⟨g1, g2⟩, g3⟩, g4⟩, g5⟩, g6⟩ := h5
  simp [Cond.before, Cond.holds, Cond.value, h1, h2, h3, h4, g1, g2, g3, g4, g5, g6]
def isCode : Jvm.Cond → Bool
  | .code _ _ _ _ => true
  | _ => false
theorem all_split {L : List Jvm.Cond} {P : Jvm.Cond → Bool} (h1 : L.all (fun c => isCode c || P c) = true) (h2 : ∀ c ∈ L.filter isCode, P c = true) : L.all P = true := by
  refine List.all_eq_true.mpr fun c hc => ?_
  have h := List.all_eq_true.mp h1 c hc
  rcases Bool.eq_false_or_eq_true (isCode c) with hi | hi
  · exact h2 c (List.mem_filter.mpr ⟨hc, hi⟩)
  · simpa [hi] using h
set_option maxRecDepth 65536 in
theorem w_c0 : (Jvm.Cond.code x code maxLocals ret).before args0 about1 = true := code_word (m := ⟨1, 1⟩) (meth := k1m1) (c := k1c1) (by decide +kernel) rfl rfl rfl (by decide +kernel)
set_option maxRecDepth 65536 in
theorem w_c1 : (Jvm.Cond.code ({ cls := "com/example/tuplewise/tuplewise/Status", name := "of", desc := "(JZ)Lcom/example/tuplewise/tuplewise/Status;" } : Jvm.MethodName) prog_19_method_4_code (4 : Nat) (Option.some (Jvm.ClassFile.FieldType.object "com/example/tuplewise/tuplewise/Status"))).before args0 about1 = true := code_word (m := ⟨6, 0⟩) (meth := k6m0) (c := k6c0) (by decide +kernel) rfl rfl rfl (by decide +kernel)
def codes1 : List Jvm.Cond := [Jvm.Cond.code x code maxLocals ret, Jvm.Cond.code ({ cls := "com/example/tuplewise/tuplewise/Status", name := "of", desc := "(JZ)Lcom/example/tuplewise/tuplewise/Status;" } : Jvm.MethodName) prog_19_method_4_code (4 : Nat) (Option.some (Jvm.ClassFile.FieldType.object "com/example/tuplewise/tuplewise/Status"))]
set_option maxRecDepth 65536 in
theorem codes_eq : words1.filter isCode = codes1 := rfl
theorem w_codes : ∀ c ∈ words1.filter isCode, c.before args0 about1 = true := by
  rw [codes_eq]
  intro c hc
  simp only [codes1, List.mem_cons, List.not_mem_nil, or_false] at hc
  rcases hc with rfl | rfl
  · exact w_c0
  · exact w_c1
set_option maxRecDepth 65536 in
theorem w_t1 : words1.all (fun c => isCode c || c.before args0 about1) = true := by decide +kernel
theorem w_tables : (allAtoms (Jvm.Cond.code x code maxLocals ret :: tables_1)).before args0 about1 = true := by
  rw [allAtoms_all]
  show words1.all (fun c => c.before args0 about1) = true
  refine all_split ?_ w_codes
  rw [w_t1]
set_option maxRecDepth 65536 in
theorem w_case : (Jvm.Cond.and given_1 narrow_1).before args0 about1 = true := by decide +kernel
theorem w_applies : (headSpec (Jvm.Cond.code x code maxLocals ret :: tables_1) room_1).applies x e0.platform about1 = true :=
  (Spec.applies_iff w_frames).mpr ⟨w_running, w_runnable, w_alone, w_named, w_hears, w_ripe, w_room, w_tables⟩
theorem atStart : AtStart classFile x code maxLocals ret World_1 tables_1 room_1 Calls_1 rest_1 Pre_1 launch0 p0 e0 about1 theMethod args0 below0 :=
  ⟨lists_1, trivial, launch0.admits_env _ _ _, launch0.least_env, fairChoices_fair.cas, fairChoices_fair.clock, w_frames, w_args, w_heap, w_applies, trivial, trivial, w_case⟩
end start1
theorem witness_1 : WitnessClaimed_1 := ⟨start1.p0, start1.e0, start1.about1, start1.theMethod, start1.args0, start1.below0, start1.atStart⟩
end Jvm.Pilot.@@N@@
