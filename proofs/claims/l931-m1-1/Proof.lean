import JvmDerived
import JvmDerived.Pilot.@@N@@Statement
import JvmDerived.Pilot.@@N@@Code
set_option linter.unusedVariables false
set_option linter.unusedSimpArgs false
namespace Jvm.RoadKit
open Sem ClassFile Op Lib Jvm.Stand Jvm.Free Jvm.LawKit
section Own
variable {p : Program} {l : Launch} {e : Env} {R : Room} {s : State} {m : MethodId} {args : Array Value} {below : List Frame} {meth : Method} {c : Code} {T : State} {locs : List Loc} {cells slots : Nat} {Z : State} {h h' : Heap} {a b : Addr} {ty : FieldType} {ws : List Addr}
/-- from the state S the run comes to an end that Q allows -/
def Go (p : Program) (e : Env) (below : List Frame) (s : State) (Q : Option Value → Heap → List Loc → Prop) (K N : Nat) (S : State) : Prop :=
  ∃ (t : State) (o : Outcome), Steps p.tables e below S t ∧ t.status = .running ∧ Ended t below o ∧ ∃ v L, o = .returned v ∧ Q v t.heap L ∧ FrameEnd s o t L K N
variable {Q : Option Value → Heap → List Loc → Prop} {K N : Nat} {S S' : State}
theorem gs (h : ∀ t, Steps p.tables e below S' t → Steps p.tables e below S t) (k : Go p e below s Q K N S') : Go p e below s Q K N S := by
  obtain ⟨t, o, a, b⟩ := k
  exact ⟨t, o, h t a, b⟩
theorem gt (h : Steps p.tables e below S S') (k : Go p e below s Q K N S') : Go p e below s Q K N S := gs (fun _ => h.trans) k
theorem goEnd (X : Stand p l e R s m args below meth c T locs cells slots) {v : Option Value} (hlocks : meth.locks = false) (hv : meth.sig.returnType = none → v = none)
    (hs : ∀ fs, (∀ (f : JFrame) (acts : List Action), f.method = m → f.locked = none → f.entered = [] → (doReturn e (T.setTop f) acts v).1 = T.setFrames fs) → Steps p.tables e below S (T.setFrames fs))
    (hQ : Q v T.heap locs) (hk : cells ≤ K) (hn : slots ≤ N) : Go p e below s Q K N S := by
  obtain ⟨fs, hr, hrun, hended, hW, hsame⟩ := X.leave (v := v) hv hlocks
  exact ⟨_, _, hs fs hr, hrun, hended, v, locs, rfl, hQ, ⟨_, rfl⟩, hW, hsame.mono hk hn⟩
theorem goV (X : Stand p l e R s m args below meth c T locs cells slots) (hx : p.tables.exec = Jvm.exec) (hlocks : meth.locks = false) (hret : meth.sig.returnType = none) {pc : Nat} {Ls : Array Slot} (hd : decode c.code pc = .ok (.return_, 1)) (hQ : Q none T.heap locs) (hk : cells ≤ K) (hn : slots ≤ N) :
    Go p e below s Q K N (T.setTop (mkF m pc Ls [])) := goEnd X hlocks (fun _ => rfl) (fun _ hr => X.returnOut hx hret hd hr) hQ hk hn
theorem goW (X : Stand p l e R s m args below meth c T locs cells slots) (hx : p.tables.exec = Jvm.exec) (hlocks : meth.locks = false) {t : FieldType} (hret : meth.sig.returnType = some t) {pc : Nat} {Ls : Array Slot} {w : Value} {i : Instr} {rest : List Value} (hn0 : narrow t w = w)
    (hi : (i = .ireturn ∧ (t = .int ∨ t = .boolean ∨ t = .byte ∨ t = .char ∨ t = .short) ∧ ∃ z, w = .int z) ∨ (i = .lreturn ∧ t = .long ∧ ∃ z, w = .long z) ∨ (i = .dreturn ∧ t = .double ∧ ∃ z, w = .double z) ∨ (i = .freturn ∧ t = .float ∧ ∃ z, w = .float z) ∨ (i = .areturn ∧ t.isReference = true ∧ w.isRef = true))
    (hd : decode c.code pc = .ok (i, 1)) (hQ : Q (some w) T.heap locs) (hk : cells ≤ K) (hn : slots ≤ N) : Go p e below s Q K N (T.setTop (mkF m pc Ls (w :: rest))) :=
  goEnd X hlocks (fun q => by rw [hret] at q; cases q) (fun _ hr => retOut X hx hret hn0 hi hd hr) hQ hk hn
theorem goI (X : Stand p l e R s m args below meth c T locs cells slots) (hx : p.tables.exec = Jvm.exec) (hlocks : meth.locks = false) (hret : meth.sig.returnType = some .int) {pc : Nat} {Ls : Array Slot} {w : Int32} {rest : List Value} (hd : decode c.code pc = .ok (.ireturn, 1)) (hQ : Q (some (.int w)) T.heap locs) (hk : cells ≤ K) (hn : slots ≤ N) :
    Go p e below s Q K N (T.setTop (mkF m pc Ls (.int w :: rest))) := goW X hx hlocks hret rfl (Or.inl ⟨rfl, Or.inl rfl, w, rfl⟩) hd hQ hk hn
theorem goJ (X : Stand p l e R s m args below meth c T locs cells slots) (hx : p.tables.exec = Jvm.exec) (hlocks : meth.locks = false) (hret : meth.sig.returnType = some .long) {pc : Nat} {Ls : Array Slot} {w : Int64} {rest : List Value} (hd : decode c.code pc = .ok (.lreturn, 1)) (hQ : Q (some (.long w)) T.heap locs) (hk : cells ≤ K) (hn : slots ≤ N) :
    Go p e below s Q K N (T.setTop (mkF m pc Ls (.long w :: rest))) := goW X hx hlocks hret rfl (Or.inr (Or.inl ⟨rfl, rfl, w, rfl⟩)) hd hQ hk hn
theorem goR (X : Stand p l e R s m args below meth c T locs cells slots) (hx : p.tables.exec = Jvm.exec) (hlocks : meth.locks = false) {t : FieldType} (hret : meth.sig.returnType = some t) (ht : t.isReference = true) {pc : Nat} {Ls : Array Slot} {w : Value} (hw : w.isRef = true) {rest : List Value} (hd : decode c.code pc = .ok (.areturn, 1)) (hQ : Q (some w) T.heap locs) (hk : cells ≤ K) (hn : slots ≤ N) :
    Go p e below s Q K N (T.setTop (mkF m pc Ls (w :: rest))) :=
  goW X hx hlocks hret (by cases t <;> simp [FieldType.isReference] at ht <;> rfl) (Or.inr (Or.inr (Or.inr (Or.inr ⟨rfl, ht, hw⟩)))) hd hQ hk hn
theorem goB (X : Stand p l e R s m args below meth c T locs cells slots) (hx : p.tables.exec = Jvm.exec) (hlocks : meth.locks = false) {t : FieldType} (hret : meth.sig.returnType = some t) (ht : t = .boolean ∨ t = .byte ∨ t = .char ∨ t = .short) {pc : Nat} {Ls : Array Slot} {z w : Int32} {rest : List Value} (hz : nar t z = w) (hd : decode c.code pc = .ok (.ireturn, 1)) (hQ : Q (some (.int w)) T.heap locs) (hk : cells ≤ K) (hn : slots ≤ N) :
    Go p e below s Q K N (T.setTop (mkF m pc Ls (.int z :: rest))) := by
  subst hz
  exact goEnd X hlocks (fun q => by rw [hret] at q; cases q) (fun _ hr => retN X hx hret ht hd hr) hQ hk hn
/-- an array of n places; the place i holds f i -/
def Arf (Z : State) (h : Heap) (a : Addr) (ty : FieldType) (n : Nat) (f : Nat → Value) : Prop := ∃ c : Cell, Arr Z h a c ty ∧ c.slots.size = n ∧ n < 2 ^ 31 ∧ ∀ i, i < n → c.slots[i]? = some (f i)
def upd (f : Nat → Value) (j : Nat) (v : Value) : Nat → Value := fun i => if i = j then v else f i
variable {n : Nat} {f g : Nat → Value} {sl : Nat} {v : Value}
theorem Arf.lt (F : Arf Z h a ty n f) : a < h.size := by obtain ⟨c, A, -⟩ := F; exact A.lt
theorem Arf.ext (F : Arf Z h a ty n f) (E : Ext h h') : Arf Z h' a ty n f := by obtain ⟨c, A, r⟩ := F; exact ⟨c, A.ext E, r⟩
theorem Arf.other (F : Arf Z h b ty n f) (W : Wr h h' a sl v) (q : b ≠ a) : Arf Z h' b ty n f := by obtain ⟨c, A, r⟩ := F; exact ⟨c, A.other W q, r⟩
theorem Arf.keep (F : Arf Z h a ty n f) (K : Keep h h' ws) (q : a ∉ ws) : Arf Z h' a ty n f := by obtain ⟨c, A, r⟩ := F; exact ⟨c, ⟨K.2.1 a c A.1 q, A.2⟩, r⟩
theorem Arf.congr (F : Arf Z h a ty n f) (q : ∀ i, i < n → f i = g i) : Arf Z h a ty n g := by
  obtain ⟨c, A, r1, r2, r3⟩ := F
  exact ⟨c, A, r1, r2, fun i hi => by rw [← q i hi]; exact r3 i hi⟩
theorem clampLt (z : Int32) : z.toNatClampNeg < 2 ^ 31 := by
  have h1 := z.toInt_lt
  have h2 : z.toNatClampNeg = z.toInt.toNat := rfl
  omega
theorem clampOf {j : Int32} (h0 : 0 ≤ j.toInt) : (j.toNatClampNeg : Int) = j.toInt := by
  have h2 : j.toNatClampNeg = j.toInt.toNat := rfl
  omega
theorem Arf.new {k : ClassId} {z : Int32} (A : Arr Z h a (newA k ty z) ty) : Arf Z h a ty z.toNatClampNeg (fun _ => defaultValue ty) := by
  refine ⟨_, A, sz_new _ _ _, clampLt z, fun i hi => ?_⟩
  simp [newA, hi]
theorem Arf.set (F : Arf Z h a ty n f) {j : Nat} (W : Wr h h' a j v) (hj : j < n) : Arf Z h' a ty n (upd f j v) := by
  obtain ⟨c, A, r1, r2, r3⟩ := F
  refine ⟨_, A.same W, by rw [sz_set]; exact r1, r2, fun i hi => ?_⟩
  by_cases q : i = j
  · subst q
    simp [Cell.setSlot, upd, r1, hi]
  · have q' : ¬ j = i := fun x => q x.symm
    simp [Cell.setSlot, upd, q, Array.getElem?_setIfInBounds_ne q', r3 i hi]
theorem inI {cl : Cell} (S : cl.slots.size = n) {j : Int32} (hj : 0 ≤ j.toInt ∧ j.toInt < n) : ¬ (j < 0 ∨ cl.slots.size ≤ j.toNatClampNeg) := by
  have q := clampOf hj.1
  rintro (h1 | h1)
  · rw [Int32.lt_iff_toInt_lt] at h1
    have : (0 : Int32).toInt = 0 := rfl
    omega
  · omega
theorem stIf (X : Stand p l e R s m args below meth c T locs cells slots) (hx : p.tables.exec = Jvm.exec) (hZ : Z.Warmed39 s.vm) (eT : T.heap = h) (F : Arf Z h a .int n f) {j x : Int32} (hj : 0 ≤ j.toInt ∧ j.toInt < n) {g : JFrame} (hg : g.method = m) {rest : List Value} (hs : g.stack = .int x :: .int j :: .ref a :: rest) (hd : decode c.code g.pc = .ok (.iastore, 1)) :
    ∃ T' h', Stand p l e R s m args below meth c T' (locs ++ [⟨a, j.toNatClampNeg⟩]) cells slots ∧ T'.heap = h' ∧ Wr h h' a j.toNatClampNeg (.int x) ∧ Arf Z h' a .int n (upd f j.toNatClampNeg (.int x)) ∧ ∀ target, Steps p.tables e below (T'.setTop { g with pc := g.pc + 1, stack := rest }) target → Steps p.tables e below (T.setTop g) target := by
  obtain ⟨cl, A, r1, r2, r3⟩ := id F
  obtain ⟨T', h', X', e', W, st⟩ := stI X hx hZ eT A (j := j) (x := x) (inI r1 hj) hg hs hd
  have q := clampOf hj.1
  exact ⟨T', h', X', e', W, F.set W (by omega), st⟩
theorem stJf (X : Stand p l e R s m args below meth c T locs cells slots) (hx : p.tables.exec = Jvm.exec) (hZ : Z.Warmed39 s.vm) (eT : T.heap = h) (F : Arf Z h a .long n f) {j : Int32} {x : Int64} (hj : 0 ≤ j.toInt ∧ j.toInt < n) {g : JFrame} (hg : g.method = m) {rest : List Value} (hs : g.stack = .long x :: .int j :: .ref a :: rest) (hd : decode c.code g.pc = .ok (.lastore, 1)) :
    ∃ T' h', Stand p l e R s m args below meth c T' (locs ++ [⟨a, j.toNatClampNeg⟩]) cells slots ∧ T'.heap = h' ∧ Wr h h' a j.toNatClampNeg (.long x) ∧ Arf Z h' a .long n (upd f j.toNatClampNeg (.long x)) ∧ ∀ target, Steps p.tables e below (T'.setTop { g with pc := g.pc + 1, stack := rest }) target → Steps p.tables e below (T.setTop g) target := by
  obtain ⟨cl, A, r1, r2, r3⟩ := id F
  obtain ⟨T', h', X', e', W, st⟩ := stJ X hx hZ eT A (j := j) (x := x) (inI r1 hj) hg hs hd
  have q := clampOf hj.1
  exact ⟨T', h', X', e', W, F.set W (by omega), st⟩
theorem stBf (X : Stand p l e R s m args below meth c T locs cells slots) (hx : p.tables.exec = Jvm.exec) (hZ : Z.Warmed39 s.vm) (eT : T.heap = h) (F : Arf Z h a .byte n f) {j x : Int32} (hj : 0 ≤ j.toInt ∧ j.toInt < n) {g : JFrame} (hg : g.method = m) {rest : List Value} (hs : g.stack = .int x :: .int j :: .ref a :: rest) (hd : decode c.code g.pc = .ok (.bastore, 1)) :
    ∃ T' h', Stand p l e R s m args below meth c T' (locs ++ [⟨a, j.toNatClampNeg⟩]) cells slots ∧ T'.heap = h' ∧ Wr h h' a j.toNatClampNeg (.int (nar .byte x)) ∧ Arf Z h' a .byte n (upd f j.toNatClampNeg (.int (nar .byte x))) ∧ ∀ target, Steps p.tables e below (T'.setTop { g with pc := g.pc + 1, stack := rest }) target → Steps p.tables e below (T.setTop g) target := by
  obtain ⟨cl, A, r1, r2, r3⟩ := id F
  obtain ⟨T', h', X', e', W, st⟩ := stB X hx hZ eT A (j := j) (x := x) (inI r1 hj) hg hs hd
  have q := clampOf hj.1
  exact ⟨T', h', X', e', W, F.set W (by omega), st⟩
theorem stZf (X : Stand p l e R s m args below meth c T locs cells slots) (hx : p.tables.exec = Jvm.exec) (hZ : Z.Warmed39 s.vm) (eT : T.heap = h) (F : Arf Z h a .boolean n f) {j x : Int32} (hj : 0 ≤ j.toInt ∧ j.toInt < n) {g : JFrame} (hg : g.method = m) {rest : List Value} (hs : g.stack = .int x :: .int j :: .ref a :: rest) (hd : decode c.code g.pc = .ok (.bastore, 1)) :
    ∃ T' h', Stand p l e R s m args below meth c T' (locs ++ [⟨a, j.toNatClampNeg⟩]) cells slots ∧ T'.heap = h' ∧ Wr h h' a j.toNatClampNeg (.int (nar .boolean x)) ∧ Arf Z h' a .boolean n (upd f j.toNatClampNeg (.int (nar .boolean x))) ∧ ∀ target, Steps p.tables e below (T'.setTop { g with pc := g.pc + 1, stack := rest }) target → Steps p.tables e below (T.setTop g) target := by
  obtain ⟨cl, A, r1, r2, r3⟩ := id F
  obtain ⟨T', h', X', e', W, st⟩ := stZ X hx hZ eT A (j := j) (x := x) (inI r1 hj) hg hs hd
  have q := clampOf hj.1
  exact ⟨T', h', X', e', W, F.set W (by omega), st⟩
theorem stCf (X : Stand p l e R s m args below meth c T locs cells slots) (hx : p.tables.exec = Jvm.exec) (hZ : Z.Warmed39 s.vm) (eT : T.heap = h) (F : Arf Z h a .char n f) {j x : Int32} (hj : 0 ≤ j.toInt ∧ j.toInt < n) {g : JFrame} (hg : g.method = m) {rest : List Value} (hs : g.stack = .int x :: .int j :: .ref a :: rest) (hd : decode c.code g.pc = .ok (.castore, 1)) :
    ∃ T' h', Stand p l e R s m args below meth c T' (locs ++ [⟨a, j.toNatClampNeg⟩]) cells slots ∧ T'.heap = h' ∧ Wr h h' a j.toNatClampNeg (.int (nar .char x)) ∧ Arf Z h' a .char n (upd f j.toNatClampNeg (.int (nar .char x))) ∧ ∀ target, Steps p.tables e below (T'.setTop { g with pc := g.pc + 1, stack := rest }) target → Steps p.tables e below (T.setTop g) target := by
  obtain ⟨cl, A, r1, r2, r3⟩ := id F
  obtain ⟨T', h', X', e', W, st⟩ := stC X hx hZ eT A (j := j) (x := x) (inI r1 hj) hg hs hd
  have q := clampOf hj.1
  exact ⟨T', h', X', e', W, F.set W (by omega), st⟩
theorem stRf (X : Stand p l e R s m args below meth c T locs cells slots) (hx : p.tables.exec = Jvm.exec) (hZ : Z.Warmed39 s.vm) (eT : T.heap = h) (F : Arf Z h a ty n f) (hty : ty.isReference = true) {j : Int32} {v : Value} (hv : Sto Z h a v) (hj : 0 ≤ j.toInt ∧ j.toInt < n) {g : JFrame} (hg : g.method = m) {rest : List Value} (hs : g.stack = v :: .int j :: .ref a :: rest) (hd : decode c.code g.pc = .ok (.aastore, 1)) :
    ∃ T' h', Stand p l e R s m args below meth c T' (locs ++ [⟨a, j.toNatClampNeg⟩]) cells slots ∧ T'.heap = h' ∧ Wr h h' a j.toNatClampNeg v ∧ Arf Z h' a ty n (upd f j.toNatClampNeg v) ∧ ∀ target, Steps p.tables e below (T'.setTop { g with pc := g.pc + 1, stack := rest }) target → Steps p.tables e below (T.setTop g) target := by
  obtain ⟨cl, A, r1, r2, r3⟩ := id F
  obtain ⟨T', h', X', e', W, st⟩ := stR X hx hZ eT A (j := j) (v := v) (inI r1 hj) hty hv hg hs hd
  have q := clampOf hj.1
  exact ⟨T', h', X', e', W, F.set W (by omega), st⟩
theorem ldIf (X : Stand p l e R s m args below meth c T locs cells slots) (hx : p.tables.exec = Jvm.exec) (hZ : Z.Warmed39 s.vm) (eT : T.heap = h) (F : Arf Z h a .int n f) {j : Int32} {v : Value} (hj : 0 ≤ j.toInt ∧ j.toInt < n) (hv : f j.toNatClampNeg = v) {g : JFrame} (hg : g.method = m) {rest : List Value} (hs : g.stack = .int j :: .ref a :: rest) (hd : decode c.code g.pc = .ok (.iaload, 1)) :
    ∀ target, Steps p.tables e below (T.setTop { g with pc := g.pc + 1, stack := v :: rest }) target → Steps p.tables e below (T.setTop g) target := by
  obtain ⟨cl, A, r1, r2, r3⟩ := F
  have q := clampOf hj.1
  exact fun t => X.iaload hx (by rw [eT]; exact A.1) (State.isArrayOf_alike hZ.alike A.2.1) A.2.2 (inI r1 hj) (by rw [← hv]; exact r3 _ (by omega)) hg hs hd t
theorem ldJf (X : Stand p l e R s m args below meth c T locs cells slots) (hx : p.tables.exec = Jvm.exec) (hZ : Z.Warmed39 s.vm) (eT : T.heap = h) (F : Arf Z h a .long n f) {j : Int32} {v : Value} (hj : 0 ≤ j.toInt ∧ j.toInt < n) (hv : f j.toNatClampNeg = v) {g : JFrame} (hg : g.method = m) {rest : List Value} (hs : g.stack = .int j :: .ref a :: rest) (hd : decode c.code g.pc = .ok (.laload, 1)) :
    ∀ target, Steps p.tables e below (T.setTop { g with pc := g.pc + 1, stack := v :: rest }) target → Steps p.tables e below (T.setTop g) target := by
  obtain ⟨cl, A, r1, r2, r3⟩ := F
  have q := clampOf hj.1
  exact fun t => X.laload hx (by rw [eT]; exact A.1) (State.isArrayOf_alike hZ.alike A.2.1) A.2.2 (inI r1 hj) (by rw [← hv]; exact r3 _ (by omega)) hg hs hd t
theorem ldCf (X : Stand p l e R s m args below meth c T locs cells slots) (hx : p.tables.exec = Jvm.exec) (hZ : Z.Warmed39 s.vm) (eT : T.heap = h) (F : Arf Z h a .char n f) {j : Int32} {v : Value} (hj : 0 ≤ j.toInt ∧ j.toInt < n) (hv : f j.toNatClampNeg = v) {g : JFrame} (hg : g.method = m) {rest : List Value} (hs : g.stack = .int j :: .ref a :: rest) (hd : decode c.code g.pc = .ok (.caload, 1)) :
    ∀ target, Steps p.tables e below (T.setTop { g with pc := g.pc + 1, stack := v :: rest }) target → Steps p.tables e below (T.setTop g) target := by
  obtain ⟨cl, A, r1, r2, r3⟩ := F
  have q := clampOf hj.1
  exact fun t => X.caload hx (by rw [eT]; exact A.1) (State.isArrayOf_alike hZ.alike A.2.1) A.2.2 (inI r1 hj) (by rw [← hv]; exact r3 _ (by omega)) hg hs hd t
theorem ldBf (X : Stand p l e R s m args below meth c T locs cells slots) (hx : p.tables.exec = Jvm.exec) (hZ : Z.Warmed39 s.vm) (eT : T.heap = h) (F : Arf Z h a .byte n f) {j : Int32} {v : Value} (hj : 0 ≤ j.toInt ∧ j.toInt < n) (hv : f j.toNatClampNeg = v) {g : JFrame} (hg : g.method = m) {rest : List Value} (hs : g.stack = .int j :: .ref a :: rest) (hd : decode c.code g.pc = .ok (.baload, 1)) :
    ∀ target, Steps p.tables e below (T.setTop { g with pc := g.pc + 1, stack := v :: rest }) target → Steps p.tables e below (T.setTop g) target := by
  obtain ⟨cl, A, r1, r2, r3⟩ := F
  have q := clampOf hj.1
  exact fun t => X.baloadBytes hx (by rw [eT]; exact A.1) (State.isArrayOf_alike hZ.alike A.2.1) A.2.2 (inI r1 hj) (by rw [← hv]; exact r3 _ (by omega)) hg hs hd t
theorem ldZf (X : Stand p l e R s m args below meth c T locs cells slots) (hx : p.tables.exec = Jvm.exec) (hZ : Z.Warmed39 s.vm) (eT : T.heap = h) (F : Arf Z h a .boolean n f) {j : Int32} {v : Value} (hj : 0 ≤ j.toInt ∧ j.toInt < n) (hv : f j.toNatClampNeg = v) {g : JFrame} (hg : g.method = m) {rest : List Value} (hs : g.stack = .int j :: .ref a :: rest) (hd : decode c.code g.pc = .ok (.baload, 1)) :
    ∀ target, Steps p.tables e below (T.setTop { g with pc := g.pc + 1, stack := v :: rest }) target → Steps p.tables e below (T.setTop g) target := by
  obtain ⟨cl, A, r1, r2, r3⟩ := F
  have q := clampOf hj.1
  exact fun t => X.baloadBooleans hx (by rw [eT]; exact A.1) (State.isArrayOf_alike hZ.alike A.2.1) A.2.2 (inI r1 hj) (by rw [← hv]; exact r3 _ (by omega)) hg hs hd t
theorem ldRf (X : Stand p l e R s m args below meth c T locs cells slots) (hx : p.tables.exec = Jvm.exec) (hZ : Z.Warmed39 s.vm) (eT : T.heap = h) (F : Arf Z h a ty n f) (hty : ty.isReference = true) {j : Int32} {v : Value} (hj : 0 ≤ j.toInt ∧ j.toInt < n) (hv : f j.toNatClampNeg = v) {g : JFrame} (hg : g.method = m) {rest : List Value} (hs : g.stack = .int j :: .ref a :: rest) (hd : decode c.code g.pc = .ok (.aaload, 1)) :
    ∀ target, Steps p.tables e below (T.setTop { g with pc := g.pc + 1, stack := v :: rest }) target → Steps p.tables e below (T.setTop g) target := by
  obtain ⟨cl, A, r1, r2, r3⟩ := F
  have q := clampOf hj.1
  exact fun t => X.aaload hx (by rw [eT]; exact A.1) (State.isArrayOf_alike hZ.alike A.2.1) hty A.2.2 (inI r1 hj) (by rw [← hv]; exact r3 _ (by omega)) hg hs hd t
theorem lenf (X : Stand p l e R s m args below meth c T locs cells slots) (hx : p.tables.exec = Jvm.exec) (hZ : Z.Warmed39 s.vm) (eT : T.heap = h) (F : Arf Z h a ty n f) {z : Int32} (hz : n.toInt32 = z) {g : JFrame} (hg : g.method = m) {rest : List Value} (hs : g.stack = .ref a :: rest) (hd : decode c.code g.pc = .ok (.arraylength, 1)) :
    ∀ target, Steps p.tables e below (T.setTop { g with pc := g.pc + 1, stack := .int z :: rest }) target → Steps p.tables e below (T.setTop g) target := by
  obtain ⟨cl, A, r1, r2, r3⟩ := F
  subst hz r1
  exact fun t => X.arraylength hx (by rw [eT]; exact A.1) (State.isArrayOf_alike hZ.alike A.2.1) hg hs hd t
theorem toClamp {z : Int32} (q : 0 ≤ z.toInt) : z.toNatClampNeg.toInt32 = z := (back32 (fun h => by rw [Int32.lt_iff_toInt_lt] at h; have : (0 : Int32).toInt = 0 := rfl; omega)).1
/-- an array that takes every object of the class C -/
def Tak (Z : State) (h : Heap) (a : Addr) (C : String) : Prop := ∃ (cell : Cell) (k kc : Class) (comp : ClassId) (t : FieldType), h[a]? = some cell ∧ Z.vm.classes[cell.cls]? = some k ∧ k.kind = .array comp t ∧ Z.vm.classes[comp]? = some kc ∧ Z.vm.findClass C = some comp
variable {C : String}
theorem Tak.ext (F : Tak Z h a C) (E : Ext h h') : Tak Z h' a C := by obtain ⟨cell, k, kc, comp, t, h1, r⟩ := F; exact ⟨cell, k, kc, comp, t, E.2 _ _ h1, r⟩
theorem Tak.wr (F : Tak Z h a C) (W : Wr h h' b sl v) : Tak Z h' a C := by
  obtain ⟨cell, k, kc, comp, t, h1, h2, r⟩ := F
  obtain ⟨c', e1, e2, -⟩ := wr_at W h1
  exact ⟨c', k, kc, comp, t, e1, by rw [e2]; exact h2, r⟩
theorem Tak.keep (F : Tak Z h a C) (K : Keep h h' ws) : Tak Z h' a C := by
  obtain ⟨cell, k, kc, comp, t, h1, h2, r⟩ := F
  obtain ⟨c', e1, e2, -⟩ := K.2.2 _ _ h1
  exact ⟨c', k, kc, comp, t, e1, by rw [e2]; exact h2, r⟩
theorem Tak.sto (F : Tak Z h a C) {y : Addr} (I : Ins Z h y C true) : Sto Z h a (.ref y) := by
  obtain ⟨cell, k, kc, comp, t, h1, h2, h3, h4, h5⟩ := F
  obtain ⟨cv, cT, g1, g2, g3⟩ := I
  cases h5.symm.trans g2
  simp only [Bool.and_eq_true, Bool.not_eq_true'] at g3
  have hv : ∃ kv, Z.vm.classes[cv.cls]? = some kv := by
    cases q : Z.vm.classes[cv.cls]? with
    | some kv => exact ⟨kv, rfl⟩
    | none =>
      by_cases e : cv.cls = comp
      · rw [e, h4] at q; cases q
      · have := g3.2
        simp [Vm.assignable, Vm.assignableAux, e, q] at this
  obtain ⟨kv, hkv⟩ := hv
  exact Or.inr ⟨cell, cv, k, kv, kc, comp, t, y, h1, h2, h3, h4, rfl, g1, g3.1, hkv, g3.2⟩
theorem Tak.of {cA : ClassId} {n : Int32} (A : Arr Z h a (newA cA ty n) ty) (O : Ovr Z cA C) : Tak Z h a C := by
  obtain ⟨k, comp, o1, o2, o3⟩ := O
  obtain ⟨kc, q, -⟩ := Vm.findClass_spec o3
  exact ⟨_, k, kc, comp, _, A.1, o1, o2, q, o3⟩
theorem Tak.ofA {cA : ClassId} {n : Int32} {ty' : FieldType} (A : Arr Z h a (newA cA ty n) ty) (O : OvrA Z cA ty' C) : Tak Z h a C := by
  obtain ⟨k, comp, o1, o2, o3⟩ := O
  obtain ⟨kc, q, -⟩ := Vm.findClass_spec o3
  exact ⟨_, k, kc, comp, _, A.1, o1, o2, q, o3⟩
theorem own_eqI {t : Term} {k : Int32} {args : Array Value} {first s : State} {o : Option Outcome} {idx : List Nat} (h : (Cond.eq t (.int k)).value args first o s idx = some true) : t.eval args first o idx s = some (.int k) := by
  simp only [Cond.value, Term.eval] at h
  cases ht : t.eval args first o idx s with
  | none => simp [ht] at h
  | some x => cases x <;> simp [ht] at h ⊢ <;> exact h
end Own
end Jvm.RoadKit
namespace Jvm.Pilot.@@N@@
open Jvm Jvm.ClassFile Sem Op Lib Jvm.Free Jvm.Stand Jvm.LawKit Jvm.RoadKit Bundle Jvm.Pilot.@@N@@.Jvm.D
theorem pd_0 : parseMethodDescriptor "()V" = some ⟨[], none⟩ := by decide +kernel
theorem pd_1 : parseMethodDescriptor "(J)V" = some ⟨[.long], none⟩ := by decide +kernel
theorem pd_2 : parseMethodDescriptor "(JJ)V" = some ⟨[.long, .long], none⟩ := by decide +kernel
theorem pd_3 : parseMethodDescriptor "(Ljava/lang/Object;)Z" = some ⟨[(.object "java/lang/Object")], some .boolean⟩ := by decide +kernel
theorem pd_4 : parseMethodDescriptor "(J)Ljava/lang/Long;" = some ⟨[.long], some (.object "java/lang/Long")⟩ := by decide +kernel
theorem own_root {Z : State} {a0 : Array Value} {O K : String} {n : Nat} (w : (Jvm.Cond.noSuperclass O).before a0 Z = true) (wk : (Jvm.Cond.instantiable K n).before a0 Z = true) (hn : O ≠ K) : NS Z O K := by
  obtain ⟨c, k, h1, h2, h3, -, -⟩ := Cond.noSuperclass_spec w
  obtain ⟨t, k', g1, g2, -⟩ := Cond.instantiable_spec wk
  have ne := ids_ne h1 g1 hn
  refine ⟨c, t, h1, g1, fun fuel => ?_⟩
  cases fuel with
  | zero => rfl
  | succ f => simp [Vm.isSubclassAux, ne, h2, h3]
theorem own_notA {Z : State} {a0 : Array Value} {C S O K : String} {n : Nat} (w1 : (Jvm.Cond.superclass C S).before a0 Z = true) (w2 : (Jvm.Cond.superclass S O).before a0 Z = true) (w3 : (Jvm.Cond.noSuperclass O).before a0 Z = true) (wk : (Jvm.Cond.instantiable K n).before a0 Z = true) (h1 : C ≠ K) (h2 : S ≠ K) (h3 : O ≠ K) :
    ∃ c t, Z.vm.findClass C = some c ∧ Z.vm.findClass K = some t ∧ Z.vm.assignable c t = false := by
  obtain ⟨c, t, f1, f2, f3⟩ := NS.step w1 (NS.step w2 (own_root w3 wk h3) h2) h1
  obtain ⟨p, k, kp, g1, g2, g3, g4, g5, -, g7⟩ := Cond.superclass_spec f1 w1
  obtain ⟨t', k', i1, i2, i3, i4, -⟩ := Cond.instantiable_spec wk
  cases f2.symm.trans i1
  have ne := ids_ne f1 i1 h1
  have i5 : k'.isInterface = false := by
    cases hq : k'.isInterface
    · rfl
    · simp [hq] at i4
  refine ⟨c, t, f1, i1, ?_⟩
  show Z.vm.assignableAux (255 + 1) c t = false
  simp [Vm.assignableAux, ne, g2, i2, g5, i3, i5, Vm.isSubclass, f3]
/-- the table of boxes: every place holds a box -/
def own_bx (Z : State) (a : Addr) (K : String) (f : Nat → Value) : Prop := Arf Z Z.heap a (.object K) 256 f ∧ ∀ i, i < 256 → ∃ b : Addr, f i = .ref b ∧ Exa Z Z.heap b K
theorem own_bxs {Z : State} {args : Array Value} {t F : Term} {K d : String} (h4 : (Jvm.Cond.arrayOf t (.object K)).before args Z = true) (h6 : (Jvm.Cond.eq (.length t) (.int 256)).before args Z = true)
    (h7 : (Jvm.Cond.all t (.and (.exactly (.elem t (.index 0)) K) (.eq (.field (.elem t (.index 0)) K "value" d) F))).before args Z = true) (hev : ∀ idx idx', t.eval args Z none idx Z = t.eval args Z none idx' Z) :
    ∃ a f, t.eval args Z none [] Z = some (.ref a) ∧ own_bx Z a K f := by
  have h4' := Cond.before_iff.mp h4
  have h6' := own_eqI (Cond.before_iff.mp h6)
  have h7' := Cond.before_iff.mp h7
  obtain ⟨a, ea⟩ := arr_v h4'
  obtain ⟨c, A⟩ := Arr.start ea h4'
  have hat := A.fin (Vm.Alike.refl Z.vm)
  have hsz : c.slots.size = 256 := by
    simp only [Term.eval, ea, hat, Option.bind_eq_bind, Option.bind_some] at h6'
    split at h6'
    · rename_i hlt
      have q : c.slots.size.toInt32 = 256 := by simpa using h6'
      have q2 := congrArg Int32.toInt q
      rw [len_toInt hlt] at q2
      have k : (256 : Int32).toInt = 256 := rfl
      omega
    · simp at h6'
  refine ⟨a, fun i => (c.slots[i]?).getD .null, ea, ⟨c, A, hsz, by decide, fun i hi => ?_⟩, fun i hi => ?_⟩
  · show c.slots[i]? = some ((c.slots[i]?).getD .null)
    rw [Array.getElem?_eq_getElem (by omega)]; rfl
  · have hi' : i < c.slots.size := by omega
    have hin : i.toInt32.toNatClampNeg = i := by
      show i.toInt32.toInt.toNat = i
      rw [len_toInt (by omega)]; rfl
    have nn : ¬ i.toInt32 < 0 := by
      rw [Int32.lt_iff_toInt_lt, len_toInt (by omega)]
      have : (0 : Int32).toInt = 0 := rfl
      omega
    obtain ⟨u1, u2⟩ := and_e (Cond.all_elim ea hat h7' i hi')
    obtain ⟨box, eb⟩ := exa_v u1
    refine ⟨box, ?_, exa_at eb u1⟩
    have e1 := elem_f (a := .index 0) (j := i.toInt32) ((hev [i] []).trans ea) (Term.index_eval _) hat nn
    rw [hin] at e1
    have e2 := e1.symm.trans eb
    show (c.slots[i]?).getD .null = .ref box
    rw [e2]; rfl
theorem own_in {x : Int64} (h1 : ¬ (lcmpW x (-128 : Int64) < (0 : Int32))) (h2 : ¬ ((0 : Int32) < lcmpW x (127 : Int64))) : 0 ≤ (x.toInt32 + (128 : Int32)).toInt ∧ (x.toInt32 + (128 : Int32)).toInt < (256 : Nat) := by
  rw [lw_lt, Int64.lt_iff_toInt_lt] at h1
  rw [lw_gt, Int64.lt_iff_toInt_lt] at h2
  have k1 : (-128 : Int64).toInt = -128 := rfl
  have k2 : (127 : Int64).toInt = 127 := rfl
  have k3 : (128 : Int32).toInt = 128 := rfl
  have e0 := c_l2i x
  have e := c_iadd x.toInt32 128
  have r0 := rng32 x.toInt32
  have r := rng32 (x.toInt32 + 128)
  omega
theorem d2_0 : decode jdk_30_method_1_code 0 = .ok (.aload_n 0, 1) := by decide +kernel
theorem d2_1 : decode jdk_30_method_1_code 1 = .ok (.invokespecial 1, 3) := by decide +kernel
theorem d2_4 : decode jdk_30_method_1_code 4 = .ok (.return_, 1) := by decide +kernel
theorem pn_2 : plainName "java/lang/Record" = true := by first | (simp [plainName, overriddenIn]; done) | decide +kernel
def Qrm2 (Z : State) (r0 : Addr) (h0 : Heap) (n0 : Nat) (v : Option Value) (h : Heap) (L : List Loc) : Prop := v = none ∧ Fr n0 L ∧ h = h0
set_option maxRecDepth 65536 in
set_option maxHeartbeats 40000000 in
theorem rm2 (l : Launch) (Z : State) (a0 : Array Value) (hw : ∀ d ∈ tables_1, d.before a0 Z = true) (ws : List Jvm.Cond) (r0 : Addr) (h0 : Heap) (n0 : Nat) (Z0 : n0 ≤ h0.size) :
    MetFree l (⟨"java/lang/Record", "<init>", "()V"⟩ : MethodName) (head1 (Jvm.Cond.code (⟨"java/lang/Record", "<init>", "()V"⟩ : MethodName) jdk_30_method_1_code 1 none :: ws) ({ frames := 1, cells := 0, slots := 0, locals := 12 } : Room)) (fun a U => a = #[(.ref r0)] ∧ Z.Warmed39 U.vm ∧ U.heap = h0) (fun _ _ _ _ _ => True) (fun _ U o U' => ∃ v L, o = .returned v ∧ Qrm2 Z r0 h0 n0 v U'.heap L ∧ FrameEnd U o U' L ({ frames := 1, cells := 0, slots := 0, locals := 12 } : Room).cells ({ frames := 1, cells := 0, slots := 0, locals := 12 } : Room).slots) := by
  refine MetFree.of_bodySF (plainFor_of_name pn_2) hisR ?_
  intro p e s m args below meth c s₁ Bd hml0 hP hK
  obtain ⟨rfl, hZ, hh⟩ := hP
  have hx := Bd.exec
  have hby := Bd.bytes
  have hml : c.maxLocals = 1 := hml0
  have hown : s.vm.findClass "java/lang/Record" = some m.cls := findClass_of_methodNamed Bd.named
  have hnm := (name_of_methodNamed Bd.named Bd.method).1
  have X0 : Stand p l e ({ frames := 1, cells := 0, slots := 0, locals := 12 } : Room) s m #[(.ref r0)] below meth c s₁ [] 0 0 := Stand.of_body Bd
  have e0 : s₁.heap = h0 := by rw [← hh, Bd.state]; rfl
  have N0 := Fr.nil n0
  have ZZ := Z0
  show Go p e below s (Qrm2 Z r0 h0 n0) 0 0 (s₁.setTop (entryFrame m #[(.ref r0)] 1))
  generalize hQQ : (Qrm2 Z r0 h0 n0) = QQ
  refine gs (fun t k => castTop (g' := (mkF m 0 #[.val (.ref r0)] [])) (by first | (simp [entryFrame, mkF, argsToLocals, Value.category, maxLocals]; done) | rfl) k) ?_
  show Go p e below s QQ 0 0 (s₁.setTop (mkF m 0 #[.val (.ref r0)] []))
  refine gs (fun t => XS.aloadN X0.here hx rfl (hb hby d2_0) rfl rfl) ?_
  show Go p e below s QQ 0 0 (s₁.setTop (mkF m 1 #[.val (.ref r0)] [(.ref r0)]))
  obtain ⟨T1, X1, e1, st1⟩ := initO X0 hx hZ hown (hw _ (List.mem_of_getElem? (i := 11) rfl)) (hw _ (List.mem_of_getElem? (i := 12) rfl)) (hw _ (List.mem_of_getElem? (i := 13) rfl)) e0 (g := (mkF m 1 #[.val (.ref r0)] [(.ref r0)])) rfl (by rw [hml]; rfl) rfl (hb hby d2_1) (by decide) (W := 0) (by show 2 * 0 + _ ≤ _; exact Nat.le_of_eq rfl) (by decide)
  refine gs st1 ?_
  show Go p e below s QQ 0 0 (T1.setTop (mkF m 4 #[.val (.ref r0)] []))
  exact goV X1 hx Bd.notSynchronized Bd.returns (hb hby d2_4) (by rw [← hQQ, e1]; exact ⟨rfl, N0, rfl⟩) (by decide) (by decide)
theorem d7_0 : decode jdk_18_method_1_code 0 = .ok (.aload_n 0, 1) := by decide +kernel
theorem d7_1 : decode jdk_18_method_1_code 1 = .ok (.invokespecial 1, 3) := by decide +kernel
theorem d7_4 : decode jdk_18_method_1_code 4 = .ok (.return_, 1) := by decide +kernel
theorem pn_7 : plainName "java/lang/Number" = true := by first | (simp [plainName, overriddenIn]; done) | decide +kernel
def Qrm7 (Z : State) (r0 : Addr) (h0 : Heap) (n0 : Nat) (v : Option Value) (h : Heap) (L : List Loc) : Prop := v = none ∧ Fr n0 L ∧ h = h0
set_option maxRecDepth 65536 in
set_option maxHeartbeats 40000000 in
theorem rm7 (l : Launch) (Z : State) (a0 : Array Value) (hw : ∀ d ∈ tables_1, d.before a0 Z = true) (ws : List Jvm.Cond) (r0 : Addr) (h0 : Heap) (n0 : Nat) (Z0 : n0 ≤ h0.size) :
    MetFree l (⟨"java/lang/Number", "<init>", "()V"⟩ : MethodName) (head1 (Jvm.Cond.code (⟨"java/lang/Number", "<init>", "()V"⟩ : MethodName) jdk_18_method_1_code 1 none :: ws) ({ frames := 1, cells := 0, slots := 0, locals := 12 } : Room)) (fun a U => a = #[(.ref r0)] ∧ Z.Warmed39 U.vm ∧ U.heap = h0) (fun _ _ _ _ _ => True) (fun _ U o U' => ∃ v L, o = .returned v ∧ Qrm7 Z r0 h0 n0 v U'.heap L ∧ FrameEnd U o U' L ({ frames := 1, cells := 0, slots := 0, locals := 12 } : Room).cells ({ frames := 1, cells := 0, slots := 0, locals := 12 } : Room).slots) := by
  refine MetFree.of_bodySF (plainFor_of_name pn_7) hisR ?_
  intro p e s m args below meth c s₁ Bd hml0 hP hK
  obtain ⟨rfl, hZ, hh⟩ := hP
  have hx := Bd.exec
  have hby := Bd.bytes
  have hml : c.maxLocals = 1 := hml0
  have hown : s.vm.findClass "java/lang/Number" = some m.cls := findClass_of_methodNamed Bd.named
  have hnm := (name_of_methodNamed Bd.named Bd.method).1
  have X0 : Stand p l e ({ frames := 1, cells := 0, slots := 0, locals := 12 } : Room) s m #[(.ref r0)] below meth c s₁ [] 0 0 := Stand.of_body Bd
  have e0 : s₁.heap = h0 := by rw [← hh, Bd.state]; rfl
  have N0 := Fr.nil n0
  have ZZ := Z0
  show Go p e below s (Qrm7 Z r0 h0 n0) 0 0 (s₁.setTop (entryFrame m #[(.ref r0)] 1))
  generalize hQQ : (Qrm7 Z r0 h0 n0) = QQ
  refine gs (fun t k => castTop (g' := (mkF m 0 #[.val (.ref r0)] [])) (by first | (simp [entryFrame, mkF, argsToLocals, Value.category, maxLocals]; done) | rfl) k) ?_
  show Go p e below s QQ 0 0 (s₁.setTop (mkF m 0 #[.val (.ref r0)] []))
  refine gs (fun t => XS.aloadN X0.here hx rfl (hb hby d7_0) rfl rfl) ?_
  show Go p e below s QQ 0 0 (s₁.setTop (mkF m 1 #[.val (.ref r0)] [(.ref r0)]))
  obtain ⟨T2, X2, e2, st2⟩ := initO X0 hx hZ hown (hw _ (List.mem_of_getElem? (i := 42) rfl)) (hw _ (List.mem_of_getElem? (i := 12) rfl)) (hw _ (List.mem_of_getElem? (i := 13) rfl)) e0 (g := (mkF m 1 #[.val (.ref r0)] [(.ref r0)])) rfl (by rw [hml]; rfl) rfl (hb hby d7_1) (by decide) (W := 0) (by show 2 * 0 + _ ≤ _; exact Nat.le_of_eq rfl) (by decide)
  refine gs st2 ?_
  show Go p e below s QQ 0 0 (T2.setTop (mkF m 4 #[.val (.ref r0)] []))
  exact goV X2 hx Bd.notSynchronized Bd.returns (hb hby d7_4) (by rw [← hQQ, e2]; exact ⟨rfl, N0, rfl⟩) (by decide) (by decide)
theorem d1_0 : decode prog_82_method_1_code 0 = .ok (.aload_n 0, 1) := by decide +kernel
theorem d1_1 : decode prog_82_method_1_code 1 = .ok (.invokespecial 1, 3) := by decide +kernel
theorem d1_4 : decode prog_82_method_1_code 4 = .ok (.aload_n 0, 1) := by decide +kernel
theorem d1_5 : decode prog_82_method_1_code 5 = .ok (.lload_n 1, 1) := by decide +kernel
theorem d1_6 : decode prog_82_method_1_code 6 = .ok (.putfield 7, 3) := by decide +kernel
theorem d1_9 : decode prog_82_method_1_code 9 = .ok (.aload_n 0, 1) := by decide +kernel
theorem d1_10 : decode prog_82_method_1_code 10 = .ok (.lload_n 3, 1) := by decide +kernel
theorem d1_11 : decode prog_82_method_1_code 11 = .ok (.putfield 13, 3) := by decide +kernel
theorem d1_14 : decode prog_82_method_1_code 14 = .ok (.return_, 1) := by decide +kernel
theorem pn_1 : plainName "weirline/io/FileIdentity" = true := by first | (simp [plainName, overriddenIn]; done) | decide +kernel
def Qrm1 (Z : State) (r0 : Addr) (p1 : Int64) (p2 : Int64) (h0 : Heap) (n0 : Nat) (v : Option Value) (h : Heap) (L : List Loc) : Prop := v = none ∧ Fr n0 L ∧ Keep h0 h [r0] ∧ Fld Z h r0 "weirline/io/FileIdentity" "device" "J" (.long p1) ∧ Fld Z h r0 "weirline/io/FileIdentity" "inode" "J" (.long p2)
set_option maxRecDepth 65536 in
set_option maxHeartbeats 40000000 in
theorem rm1 (l : Launch) (Z : State) (a0 : Array Value) (hw : ∀ d ∈ tables_1, d.before a0 Z = true) (ws : List Jvm.Cond) (r0 : Addr) (p1 : Int64) (p2 : Int64) (h0 : Heap) (n0 : Nat) (Z0 : n0 ≤ h0.size) (F_device_r0 : Fld Z h0 r0 "weirline/io/FileIdentity" "device" "J" (.long (0 : Int64))) (F_inode_r0 : Fld Z h0 r0 "weirline/io/FileIdentity" "inode" "J" (.long (0 : Int64))) (E_r0 : Exa Z h0 r0 "weirline/io/FileIdentity") (ge_r0 : n0 ≤ r0) :
    MetFree l (⟨"weirline/io/FileIdentity", "<init>", "(JJ)V"⟩ : MethodName) (head1 (Jvm.Cond.code (⟨"weirline/io/FileIdentity", "<init>", "(JJ)V"⟩ : MethodName) prog_82_method_1_code 5 none :: ws) ({ frames := 2, cells := 0, slots := 0, locals := 24 } : Room)) (fun a U => a = #[(.ref r0), (.long p1), (.long p2)] ∧ Z.Warmed39 U.vm ∧ U.heap = h0) (fun _ _ _ _ _ => True) (fun _ U o U' => ∃ v L, o = .returned v ∧ Qrm1 Z r0 p1 p2 h0 n0 v U'.heap L ∧ FrameEnd U o U' L ({ frames := 2, cells := 0, slots := 0, locals := 24 } : Room).cells ({ frames := 2, cells := 0, slots := 0, locals := 24 } : Room).slots) := by
  refine MetFree.of_bodySF (plainFor_of_name pn_1) hisR ?_
  intro p e s m args below meth c s₁ Bd hml0 hP hK
  obtain ⟨rfl, hZ, hh⟩ := hP
  have hx := Bd.exec
  have hby := Bd.bytes
  have hml : c.maxLocals = 5 := hml0
  have hown : s.vm.findClass "weirline/io/FileIdentity" = some m.cls := findClass_of_methodNamed Bd.named
  have hnm := (name_of_methodNamed Bd.named Bd.method).1
  have X0 : Stand p l e ({ frames := 2, cells := 0, slots := 0, locals := 24 } : Room) s m #[(.ref r0), (.long p1), (.long p2)] below meth c s₁ [] 0 0 := Stand.of_body Bd
  have e0 : s₁.heap = h0 := by rw [← hh, Bd.state]; rfl
  have N0 := Fr.nil n0
  have ZZ := Z0
  have KK : Keep h0 h0 [r0] := Keep.refl h0 _
  show Go p e below s (Qrm1 Z r0 p1 p2 h0 n0) 0 0 (s₁.setTop (entryFrame m #[(.ref r0), (.long p1), (.long p2)] 5))
  generalize hQQ : (Qrm1 Z r0 p1 p2 h0 n0) = QQ
  refine gs (fun t k => castTop (g' := (mkF m 0 #[.val (.ref r0), .val (.long p1), .second, .val (.long p2), .second] [])) (by first | (simp [entryFrame, mkF, argsToLocals, Value.category, maxLocals]; done) | rfl) k) ?_
  show Go p e below s QQ 0 0 (s₁.setTop (mkF m 0 #[.val (.ref r0), .val (.long p1), .second, .val (.long p2), .second] []))
  refine gs (fun t => XS.aloadN X0.here hx rfl (hb hby d1_0) rfl rfl) ?_
  show Go p e below s QQ 0 0 (s₁.setTop (mkF m 1 #[.val (.ref r0), .val (.long p1), .second, .val (.long p2), .second] [(.ref r0)]))
  obtain ⟨_, _, ⟨T3, L3, k3, n3⟩, -, X3, ⟨Lc3, hQ3, l3, y3, z3⟩, st3⟩ := X0.specialBack hx (y := (⟨"java/lang/Record", "<init>", "()V"⟩ : MethodName)) rfl hown (mvT hZ (hw _ (List.mem_of_getElem? (i := 6) rfl))) (mvT hZ (hw _ (List.mem_of_getElem? (i := 7) rfl))) (mvT hZ (hw _ (List.mem_of_getElem? (i := 10) rfl))) (by decide) (backOf (W := 0) (rm2 l Z a0 hw [] r0 h0 n0 ZZ ) hZ (hw _ (List.mem_of_getElem? (i := 10) rfl)) (hw _ (List.mem_of_getElem? (i := 9) rfl)) (by decide) (by decide)) (g := (mkF m 1 #[.val (.ref r0), .val (.long p1), .second, .val (.long p2), .second] [(.ref r0)])) rfl (by rw [hml]; rfl) (Steps.refl _) (a := r0) (argsL := []) (rest := []) (lenOf pd_0 rfl) rfl (by show 2 * 0 + _ ≤ _; exact Nat.le_of_eq rfl) (hb hby d1_1) (fun _ _ => ⟨rfl, e0, (by decide : 0 + 0 ≤ _), (by decide : 0 + 0 ≤ _)⟩)
  dsimp only [Pt.U, Pt.locs, Pt.cells, Pt.slots] at X3 l3 y3 z3 st3 hQ3
  subst l3 y3 z3
  obtain ⟨rfl, N3q, e3⟩ := hQ3
  replace N0 := Fr.app N0 N3q
  refine gt st3 ?_
  show Go p e below s QQ 0 0 (T3.setTop (mkF m 4 #[.val (.ref r0), .val (.long p1), .second, .val (.long p2), .second] []))
  refine gs (fun t => XS.aloadN X3.here hx rfl (hb hby d1_4) rfl rfl) ?_
  show Go p e below s QQ 0 0 (T3.setTop (mkF m 5 #[.val (.ref r0), .val (.long p1), .second, .val (.long p2), .second] [(.ref r0)]))
  refine gs (fun t => XS.lloadN X3.here hx rfl (hb hby d1_5) rfl) ?_
  show Go p e below s QQ 0 0 (T3.setTop (mkF m 6 #[.val (.ref r0), .val (.long p1), .second, .val (.long p2), .second] [(.long p1), (.ref r0)]))
  obtain ⟨T4, h4, X4, e4, W4, st4⟩ := putF X3 hx hZ hown (host := "") (Or.inl (hw _ (List.mem_of_getElem? (i := 14) rfl))) Via.refl e3 F_device_r0 E_r0 (Or.inr ⟨(hw _ (List.mem_of_getElem? (i := 15) rfl)), rfl, hnm⟩) (hw _ (List.mem_of_getElem? (i := 1) rfl)) (ty := .long) (by decide) rfl rfl (g := (mkF m 6 #[.val (.ref r0), .val (.long p1), .second, .val (.long p2), .second] [(.long p1), (.ref r0)])) rfl rfl (hb hby d1_6)
  replace N0 := Fr.snoc X4 N0 ge_r0
  refine gs st4 ?_
  show Go p e below s QQ 0 0 (T4.setTop (mkF m 9 #[.val (.ref r0), .val (.long p1), .second, .val (.long p2), .second] []))
  replace F_device_r0 := F_device_r0.same W4
  replace F_inode_r0 := F_inode_r0.other W4 (Or.inr (slot_ne (Or.inr (hw _ (List.mem_of_getElem? (i := 17) rfl))) (Or.inr (hw _ (List.mem_of_getElem? (i := 15) rfl))) (by decide) (t := .long) (t' := .long) (by decide) (by decide)))
  replace E_r0 := E_r0.wr W4
  replace ZZ : n0 ≤ h4.size := by rw [W4.size]; exact ZZ
  replace KK := KK.wr W4 (Or.inl (by simp))
  refine gs (fun t => XS.aloadN X4.here hx rfl (hb hby d1_9) rfl rfl) ?_
  show Go p e below s QQ 0 0 (T4.setTop (mkF m 10 #[.val (.ref r0), .val (.long p1), .second, .val (.long p2), .second] [(.ref r0)]))
  refine gs (fun t => XS.lloadN X4.here hx rfl (hb hby d1_10) rfl) ?_
  show Go p e below s QQ 0 0 (T4.setTop (mkF m 11 #[.val (.ref r0), .val (.long p1), .second, .val (.long p2), .second] [(.long p2), (.ref r0)]))
  obtain ⟨T5, h5, X5, e5, W5, st5⟩ := putF X4 hx hZ hown (host := "") (Or.inl (hw _ (List.mem_of_getElem? (i := 16) rfl))) Via.refl e4 F_inode_r0 E_r0 (Or.inr ⟨(hw _ (List.mem_of_getElem? (i := 17) rfl)), rfl, hnm⟩) (hw _ (List.mem_of_getElem? (i := 1) rfl)) (ty := .long) (by decide) rfl rfl (g := (mkF m 11 #[.val (.ref r0), .val (.long p1), .second, .val (.long p2), .second] [(.long p2), (.ref r0)])) rfl rfl (hb hby d1_11)
  replace N0 := Fr.snoc X5 N0 ge_r0
  refine gs st5 ?_
  show Go p e below s QQ 0 0 (T5.setTop (mkF m 14 #[.val (.ref r0), .val (.long p1), .second, .val (.long p2), .second] []))
  replace F_device_r0 := F_device_r0.other W5 (Or.inr (slot_ne (Or.inr (hw _ (List.mem_of_getElem? (i := 15) rfl))) (Or.inr (hw _ (List.mem_of_getElem? (i := 17) rfl))) (by decide) (t := .long) (t' := .long) (by decide) (by decide)))
  replace F_inode_r0 := F_inode_r0.same W5
  replace E_r0 := E_r0.wr W5
  replace ZZ : n0 ≤ h5.size := by rw [W5.size]; exact ZZ
  replace KK := KK.wr W5 (Or.inl (by simp))
  exact goV X5 hx Bd.notSynchronized Bd.returns (hb hby d1_14) (by rw [← hQQ, e5]; exact ⟨rfl, N0, KK, F_device_r0, F_inode_r0⟩) (by decide) (by decide)
theorem d4_0 : decode prog_82_method_3_code 0 = .ok (.aload_n 1, 1) := by decide +kernel
theorem d4_1 : decode prog_82_method_3_code 1 = .ok (.instanceof 8, 3) := by decide +kernel
theorem d4_4 : decode prog_82_method_3_code 4 = .ok (.ifCond .eq 36, 3) := by decide +kernel
theorem d4_7 : decode prog_82_method_3_code 7 = .ok (.aload_n 1, 1) := by decide +kernel
theorem d4_8 : decode prog_82_method_3_code 8 = .ok (.checkcast 8, 3) := by decide +kernel
theorem d4_11 : decode prog_82_method_3_code 11 = .ok (.astore_n 2, 1) := by decide +kernel
theorem d4_12 : decode prog_82_method_3_code 12 = .ok (.aload_n 2, 1) := by decide +kernel
theorem d4_13 : decode prog_82_method_3_code 13 = .ok (.getfield 7, 3) := by decide +kernel
theorem d4_16 : decode prog_82_method_3_code 16 = .ok (.aload_n 0, 1) := by decide +kernel
theorem d4_17 : decode prog_82_method_3_code 17 = .ok (.getfield 7, 3) := by decide +kernel
theorem d4_20 : decode prog_82_method_3_code 20 = .ok (.lcmp, 1) := by decide +kernel
theorem d4_21 : decode prog_82_method_3_code 21 = .ok (.ifCond .ne 19, 3) := by decide +kernel
theorem d4_24 : decode prog_82_method_3_code 24 = .ok (.aload_n 2, 1) := by decide +kernel
theorem d4_25 : decode prog_82_method_3_code 25 = .ok (.getfield 13, 3) := by decide +kernel
theorem d4_28 : decode prog_82_method_3_code 28 = .ok (.aload_n 0, 1) := by decide +kernel
theorem d4_29 : decode prog_82_method_3_code 29 = .ok (.getfield 13, 3) := by decide +kernel
theorem d4_32 : decode prog_82_method_3_code 32 = .ok (.lcmp, 1) := by decide +kernel
theorem d4_33 : decode prog_82_method_3_code 33 = .ok (.ifCond .ne 7, 3) := by decide +kernel
theorem d4_36 : decode prog_82_method_3_code 36 = .ok (.iconst 1, 1) := by decide +kernel
theorem d4_37 : decode prog_82_method_3_code 37 = .ok (.goto 4, 3) := by decide +kernel
theorem d4_40 : decode prog_82_method_3_code 40 = .ok (.iconst 0, 1) := by decide +kernel
theorem d4_41 : decode prog_82_method_3_code 41 = .ok (.ireturn, 1) := by decide +kernel
theorem pn_4 : plainName "weirline/io/FileIdentity" = true := by first | (simp [plainName, overriddenIn]; done) | decide +kernel
def Qrm4a (Z : State) (r0 : Addr) (r1 : Addr) (a0_ : Int64) (a1_ : Int64) (b0_ : Int64) (b1_ : Int64) (h0 : Heap) (n0 : Nat) (v : Option Value) (h : Heap) (L : List Loc) : Prop := v = some (.int (if b0_ = a0_ ∧ b1_ = a1_ then 1 else 0)) ∧ Fr n0 L ∧ h = h0
set_option maxRecDepth 65536 in
set_option maxHeartbeats 40000000 in
theorem rm4a (l : Launch) (Z : State) (a0 : Array Value) (hw : ∀ d ∈ tables_1, d.before a0 Z = true) (ws : List Jvm.Cond) (r0 : Addr) (r1 : Addr) (a0_ : Int64) (a1_ : Int64) (b0_ : Int64) (b1_ : Int64) (h0 : Heap) (n0 : Nat) (Z0 : n0 ≤ h0.size) (F_device_r0 : Fld Z h0 r0 "weirline/io/FileIdentity" "device" "J" (.long a0_)) (F_inode_r0 : Fld Z h0 r0 "weirline/io/FileIdentity" "inode" "J" (.long a1_)) (F_device_r1 : Fld Z h0 r1 "weirline/io/FileIdentity" "device" "J" (.long b0_)) (F_inode_r1 : Fld Z h0 r1 "weirline/io/FileIdentity" "inode" "J" (.long b1_)) (E_r1 : Exa Z h0 r1 "weirline/io/FileIdentity") :
    MetFree l (⟨"weirline/io/FileIdentity", "equals", "(Ljava/lang/Object;)Z"⟩ : MethodName) (head1 (Jvm.Cond.code (⟨"weirline/io/FileIdentity", "equals", "(Ljava/lang/Object;)Z"⟩ : MethodName) prog_82_method_3_code 3 (some .boolean) :: ws) ({ frames := 0, cells := 0, slots := 0, locals := 0 } : Room)) (fun a U => a = #[(.ref r0), (.ref r1)] ∧ Z.Warmed39 U.vm ∧ U.heap = h0) (fun _ _ _ _ _ => True) (fun _ U o U' => ∃ v L, o = .returned v ∧ Qrm4a Z r0 r1 a0_ a1_ b0_ b1_ h0 n0 v U'.heap L ∧ FrameEnd U o U' L ({ frames := 0, cells := 0, slots := 0, locals := 0 } : Room).cells ({ frames := 0, cells := 0, slots := 0, locals := 0 } : Room).slots) := by
  refine MetFree.of_bodySF (plainFor_of_name pn_4) hisR ?_
  intro p e s m args below meth c s₁ Bd hml0 hP hK
  obtain ⟨rfl, hZ, hh⟩ := hP
  have hx := Bd.exec
  have hby := Bd.bytes
  have hml : c.maxLocals = 3 := hml0
  have hown : s.vm.findClass "weirline/io/FileIdentity" = some m.cls := findClass_of_methodNamed Bd.named
  have hnm := (name_of_methodNamed Bd.named Bd.method).1
  have X0 : Stand p l e ({ frames := 0, cells := 0, slots := 0, locals := 0 } : Room) s m #[(.ref r0), (.ref r1)] below meth c s₁ [] 0 0 := Stand.of_body Bd
  have e0 : s₁.heap = h0 := by rw [← hh, Bd.state]; rfl
  have N0 := Fr.nil n0
  have ZZ := Z0
  show Go p e below s (Qrm4a Z r0 r1 a0_ a1_ b0_ b1_ h0 n0) 0 0 (s₁.setTop (entryFrame m #[(.ref r0), (.ref r1)] 3))
  generalize hQQ : (Qrm4a Z r0 r1 a0_ a1_ b0_ b1_ h0 n0) = QQ
  refine gs (fun t k => castTop (g' := (mkF m 0 #[.val (.ref r0), .val (.ref r1), .unset] [])) (by first | (simp [entryFrame, mkF, argsToLocals, Value.category, maxLocals]; done) | rfl) k) ?_
  show Go p e below s QQ 0 0 (s₁.setTop (mkF m 0 #[.val (.ref r0), .val (.ref r1), .unset] []))
  refine gs (fun t => XS.aloadN X0.here hx rfl (hb hby d4_0) rfl rfl) ?_
  show Go p e below s QQ 0 0 (s₁.setTop (mkF m 1 #[.val (.ref r0), .val (.ref r1), .unset] [(.ref r1)]))
  obtain ⟨T6, X6, e6, st6⟩ := instY X0 hx hZ hown (hw _ (List.mem_of_getElem? (i := 23) rfl)) e0 (Ins.self E_r1) (g := (mkF m 1 #[.val (.ref r0), .val (.ref r1), .unset] [(.ref r1)])) rfl rfl (hb hby d4_1)
  refine gs st6 ?_
  show Go p e below s QQ 0 0 (T6.setTop (mkF m 4 #[.val (.ref r0), .val (.ref r1), .unset] [(.int (1 : Int32))]))
  refine gs (fun t => XS.ifNo X6.here hx rfl (hb hby d4_4) rfl ((if0 _ _).trans (feq (by decide : ¬ ((1 : Int32) = (0 : Int32)))).1)) ?_
  show Go p e below s QQ 0 0 (T6.setTop (mkF m 7 #[.val (.ref r0), .val (.ref r1), .unset] []))
  refine gs (fun t => XS.aloadN X6.here hx rfl (hb hby d4_7) rfl rfl) ?_
  show Go p e below s QQ 0 0 (T6.setTop (mkF m 8 #[.val (.ref r0), .val (.ref r1), .unset] [(.ref r1)]))
  obtain ⟨T7, X7, e7, st7⟩ := castY X6 hx hZ hown (hw _ (List.mem_of_getElem? (i := 23) rfl)) e6 (Ins.self E_r1) (g := (mkF m 8 #[.val (.ref r0), .val (.ref r1), .unset] [(.ref r1)])) rfl rfl (hb hby d4_8)
  refine gs st7 ?_
  show Go p e below s QQ 0 0 (T7.setTop (mkF m 11 #[.val (.ref r0), .val (.ref r1), .unset] [(.ref r1)]))
  refine gs (fun t => XS.astoreN X7.here hx rfl (hb hby d4_11) rfl rfl (l' := #[.val (.ref r0), .val (.ref r1), .val (.ref r1)]) rfl) ?_
  show Go p e below s QQ 0 0 (T7.setTop (mkF m 12 #[.val (.ref r0), .val (.ref r1), .val (.ref r1)] []))
  refine gs (fun t => XS.aloadN X7.here hx rfl (hb hby d4_12) rfl rfl) ?_
  show Go p e below s QQ 0 0 (T7.setTop (mkF m 13 #[.val (.ref r0), .val (.ref r1), .val (.ref r1)] [(.ref r1)]))
  obtain ⟨T8, X8, e8, st8⟩ := getF X7 hx hZ hown (host := "") (Or.inl (hw _ (List.mem_of_getElem? (i := 14) rfl))) Via.refl e7 F_device_r1 (g := (mkF m 13 #[.val (.ref r0), .val (.ref r1), .val (.ref r1)] [(.ref r1)])) rfl rfl (hb hby d4_13)
  refine gs st8 ?_
  show Go p e below s QQ 0 0 (T8.setTop (mkF m 16 #[.val (.ref r0), .val (.ref r1), .val (.ref r1)] [(.long b0_)]))
  refine gs (fun t => XS.aloadN X8.here hx rfl (hb hby d4_16) rfl rfl) ?_
  show Go p e below s QQ 0 0 (T8.setTop (mkF m 17 #[.val (.ref r0), .val (.ref r1), .val (.ref r1)] [(.ref r0), (.long b0_)]))
  obtain ⟨T9, X9, e9, st9⟩ := getF X8 hx hZ hown (host := "") (Or.inl (hw _ (List.mem_of_getElem? (i := 14) rfl))) Via.refl e8 F_device_r0 (g := (mkF m 17 #[.val (.ref r0), .val (.ref r1), .val (.ref r1)] [(.ref r0), (.long b0_)])) rfl rfl (hb hby d4_17)
  refine gs st9 ?_
  show Go p e below s QQ 0 0 (T9.setTop (mkF m 20 #[.val (.ref r0), .val (.ref r1), .val (.ref r1)] [(.long a0_), (.long b0_)]))
  refine gs (fun t => XS.lcmp X9.here hx rfl (hb hby d4_20) rfl) ?_
  show Go p e below s QQ 0 0 (T9.setTop (mkF m 21 #[.val (.ref r0), .val (.ref r1), .val (.ref r1)] [(.int (lcmpW b0_ a0_))]))
  by_cases hc : (lcmpW b0_ a0_) = (0 : Int32)
  · skip
    refine gs (fun t => XS.ifNo X9.here hx rfl (hb hby d4_21) rfl ((if0 _ _).trans (teq hc).2)) ?_
    show Go p e below s QQ 0 0 (T9.setTop (mkF m 24 #[.val (.ref r0), .val (.ref r1), .val (.ref r1)] []))
    refine gs (fun t => XS.aloadN X9.here hx rfl (hb hby d4_24) rfl rfl) ?_
    show Go p e below s QQ 0 0 (T9.setTop (mkF m 25 #[.val (.ref r0), .val (.ref r1), .val (.ref r1)] [(.ref r1)]))
    obtain ⟨T10, X10, e10, st10⟩ := getF X9 hx hZ hown (host := "") (Or.inl (hw _ (List.mem_of_getElem? (i := 16) rfl))) Via.refl e9 F_inode_r1 (g := (mkF m 25 #[.val (.ref r0), .val (.ref r1), .val (.ref r1)] [(.ref r1)])) rfl rfl (hb hby d4_25)
    refine gs st10 ?_
    show Go p e below s QQ 0 0 (T10.setTop (mkF m 28 #[.val (.ref r0), .val (.ref r1), .val (.ref r1)] [(.long b1_)]))
    refine gs (fun t => XS.aloadN X10.here hx rfl (hb hby d4_28) rfl rfl) ?_
    show Go p e below s QQ 0 0 (T10.setTop (mkF m 29 #[.val (.ref r0), .val (.ref r1), .val (.ref r1)] [(.ref r0), (.long b1_)]))
    obtain ⟨T11, X11, e11, st11⟩ := getF X10 hx hZ hown (host := "") (Or.inl (hw _ (List.mem_of_getElem? (i := 16) rfl))) Via.refl e10 F_inode_r0 (g := (mkF m 29 #[.val (.ref r0), .val (.ref r1), .val (.ref r1)] [(.ref r0), (.long b1_)])) rfl rfl (hb hby d4_29)
    refine gs st11 ?_
    show Go p e below s QQ 0 0 (T11.setTop (mkF m 32 #[.val (.ref r0), .val (.ref r1), .val (.ref r1)] [(.long a1_), (.long b1_)]))
    refine gs (fun t => XS.lcmp X11.here hx rfl (hb hby d4_32) rfl) ?_
    show Go p e below s QQ 0 0 (T11.setTop (mkF m 33 #[.val (.ref r0), .val (.ref r1), .val (.ref r1)] [(.int (lcmpW b1_ a1_))]))
    by_cases hd : (lcmpW b1_ a1_) = (0 : Int32)
    · skip
      refine gs (fun t => XS.ifNo X11.here hx rfl (hb hby d4_33) rfl ((if0 _ _).trans (teq hd).2)) ?_
      show Go p e below s QQ 0 0 (T11.setTop (mkF m 36 #[.val (.ref r0), .val (.ref r1), .val (.ref r1)] []))
      refine gs (fun t => XS.iconst X11.here hx rfl (hb hby d4_36)) ?_
      show Go p e below s QQ 0 0 (T11.setTop (mkF m 37 #[.val (.ref r0), .val (.ref r1), .val (.ref r1)] [(.int (1 : Int32))]))
      refine gs (fun t => XS.goto X11.here hx rfl (pc0 := 37) (pc' := 41) rfl (hb hby d4_37) (by decide) (by decide)) ?_
      show Go p e below s QQ 0 0 (T11.setTop (mkF m 41 #[.val (.ref r0), .val (.ref r1), .val (.ref r1)] [(.int (1 : Int32))]))
      exact goB X11 hx Bd.notSynchronized Bd.returns (by simp) (w := (1 : Int32)) (by first | rfl | decide) (hb hby d4_41) (by rw [← hQQ, e11]; exact ⟨by rw [lw_eq] at hc hd; simp [hc, hd], N0, rfl⟩) (by decide) (by decide)
    · skip
      refine gs (fun t => XS.ifYes X11.here hx rfl (pc0 := 33) (pc' := 40) rfl (hb hby d4_33) rfl ((if0 _ _).trans (feq hd).2) (by decide) (by decide)) ?_
      show Go p e below s QQ 0 0 (T11.setTop (mkF m 40 #[.val (.ref r0), .val (.ref r1), .val (.ref r1)] []))
      refine gs (fun t => XS.iconst X11.here hx rfl (hb hby d4_40)) ?_
      show Go p e below s QQ 0 0 (T11.setTop (mkF m 41 #[.val (.ref r0), .val (.ref r1), .val (.ref r1)] [(.int (0 : Int32))]))
      exact goB X11 hx Bd.notSynchronized Bd.returns (by simp) (w := (0 : Int32)) (by first | rfl | decide) (hb hby d4_41) (by rw [← hQQ, e11]; exact ⟨by rw [lw_eq] at hc hd; simp [hc, hd], N0, rfl⟩) (by decide) (by decide)
  · skip
    refine gs (fun t => XS.ifYes X9.here hx rfl (pc0 := 21) (pc' := 40) rfl (hb hby d4_21) rfl ((if0 _ _).trans (feq hc).2) (by decide) (by decide)) ?_
    show Go p e below s QQ 0 0 (T9.setTop (mkF m 40 #[.val (.ref r0), .val (.ref r1), .val (.ref r1)] []))
    refine gs (fun t => XS.iconst X9.here hx rfl (hb hby d4_40)) ?_
    show Go p e below s QQ 0 0 (T9.setTop (mkF m 41 #[.val (.ref r0), .val (.ref r1), .val (.ref r1)] [(.int (0 : Int32))]))
    exact goB X9 hx Bd.notSynchronized Bd.returns (by simp) (w := (0 : Int32)) (by first | rfl | decide) (hb hby d4_41) (by rw [← hQQ, e9]; exact ⟨by rw [lw_eq] at hc; simp [hc], N0, rfl⟩) (by decide) (by decide)
def Qrm4b (Z : State) (r0 : Addr) (h0 : Heap) (n0 : Nat) (v : Option Value) (h : Heap) (L : List Loc) : Prop := v = some (.int 0) ∧ Fr n0 L ∧ h = h0
set_option maxRecDepth 65536 in
set_option maxHeartbeats 40000000 in
theorem rm4b (l : Launch) (Z : State) (a0 : Array Value) (hw : ∀ d ∈ tables_1, d.before a0 Z = true) (ws : List Jvm.Cond) (r0 : Addr) (h0 : Heap) (n0 : Nat) (Z0 : n0 ≤ h0.size) :
    MetFree l (⟨"weirline/io/FileIdentity", "equals", "(Ljava/lang/Object;)Z"⟩ : MethodName) (head1 (Jvm.Cond.code (⟨"weirline/io/FileIdentity", "equals", "(Ljava/lang/Object;)Z"⟩ : MethodName) prog_82_method_3_code 3 (some .boolean) :: ws) ({ frames := 0, cells := 0, slots := 0, locals := 0 } : Room)) (fun a U => a = #[(.ref r0), .null] ∧ Z.Warmed39 U.vm ∧ U.heap = h0) (fun _ _ _ _ _ => True) (fun _ U o U' => ∃ v L, o = .returned v ∧ Qrm4b Z r0 h0 n0 v U'.heap L ∧ FrameEnd U o U' L ({ frames := 0, cells := 0, slots := 0, locals := 0 } : Room).cells ({ frames := 0, cells := 0, slots := 0, locals := 0 } : Room).slots) := by
  refine MetFree.of_bodySF (plainFor_of_name pn_4) hisR ?_
  intro p e s m args below meth c s₁ Bd hml0 hP hK
  obtain ⟨rfl, hZ, hh⟩ := hP
  have hx := Bd.exec
  have hby := Bd.bytes
  have hml : c.maxLocals = 3 := hml0
  have hown : s.vm.findClass "weirline/io/FileIdentity" = some m.cls := findClass_of_methodNamed Bd.named
  have hnm := (name_of_methodNamed Bd.named Bd.method).1
  have X0 : Stand p l e ({ frames := 0, cells := 0, slots := 0, locals := 0 } : Room) s m #[(.ref r0), .null] below meth c s₁ [] 0 0 := Stand.of_body Bd
  have e0 : s₁.heap = h0 := by rw [← hh, Bd.state]; rfl
  have N0 := Fr.nil n0
  have ZZ := Z0
  show Go p e below s (Qrm4b Z r0 h0 n0) 0 0 (s₁.setTop (entryFrame m #[(.ref r0), .null] 3))
  generalize hQQ : (Qrm4b Z r0 h0 n0) = QQ
  refine gs (fun t k => castTop (g' := (mkF m 0 #[.val (.ref r0), .val .null, .unset] [])) (by first | (simp [entryFrame, mkF, argsToLocals, Value.category, maxLocals]; done) | rfl) k) ?_
  show Go p e below s QQ 0 0 (s₁.setTop (mkF m 0 #[.val (.ref r0), .val .null, .unset] []))
  refine gs (fun t => XS.aloadN X0.here hx rfl (hb hby d4_0) rfl rfl) ?_
  show Go p e below s QQ 0 0 (s₁.setTop (mkF m 1 #[.val (.ref r0), .val .null, .unset] [.null]))
  refine gs (fun t => X0.instanceofNull hx (g := (mkF m 1 #[.val (.ref r0), .val .null, .unset] [.null])) rfl rfl (hb hby d4_1) t) ?_
  show Go p e below s QQ 0 0 (s₁.setTop (mkF m 4 #[.val (.ref r0), .val .null, .unset] [(.int (0 : Int32))]))
  refine gs (fun t => XS.ifYes X0.here hx rfl (pc0 := 4) (pc' := 40) rfl (hb hby d4_4) rfl ((if0 _ _).trans (teq (by decide : (0 : Int32) = (0 : Int32))).1) (by decide) (by decide)) ?_
  show Go p e below s QQ 0 0 (s₁.setTop (mkF m 40 #[.val (.ref r0), .val .null, .unset] []))
  refine gs (fun t => XS.iconst X0.here hx rfl (hb hby d4_40)) ?_
  show Go p e below s QQ 0 0 (s₁.setTop (mkF m 41 #[.val (.ref r0), .val .null, .unset] [(.int (0 : Int32))]))
  exact goB X0 hx Bd.notSynchronized Bd.returns (by simp) (w := (0 : Int32)) (by first | rfl | decide) (hb hby d4_41) (by rw [← hQQ, e0]; exact ⟨rfl, N0, rfl⟩) (by decide) (by decide)
def Qrm4c (Z : State) (r0 : Addr) (r1 : Addr) (h0 : Heap) (n0 : Nat) (v : Option Value) (h : Heap) (L : List Loc) : Prop := v = some (.int 0) ∧ Fr n0 L ∧ h = h0
set_option maxRecDepth 65536 in
set_option maxHeartbeats 40000000 in
theorem rm4c (l : Launch) (Z : State) (a0 : Array Value) (hw : ∀ d ∈ tables_1, d.before a0 Z = true) (ws : List Jvm.Cond) (r0 : Addr) (r1 : Addr) (h0 : Heap) (n0 : Nat) (Z0 : n0 ≤ h0.size) (E_r1 : Exa Z h0 r1 "java/lang/Long") :
    MetFree l (⟨"weirline/io/FileIdentity", "equals", "(Ljava/lang/Object;)Z"⟩ : MethodName) (head1 (Jvm.Cond.code (⟨"weirline/io/FileIdentity", "equals", "(Ljava/lang/Object;)Z"⟩ : MethodName) prog_82_method_3_code 3 (some .boolean) :: ws) ({ frames := 0, cells := 0, slots := 0, locals := 0 } : Room)) (fun a U => a = #[(.ref r0), (.ref r1)] ∧ Z.Warmed39 U.vm ∧ U.heap = h0) (fun _ _ _ _ _ => True) (fun _ U o U' => ∃ v L, o = .returned v ∧ Qrm4c Z r0 r1 h0 n0 v U'.heap L ∧ FrameEnd U o U' L ({ frames := 0, cells := 0, slots := 0, locals := 0 } : Room).cells ({ frames := 0, cells := 0, slots := 0, locals := 0 } : Room).slots) := by
  refine MetFree.of_bodySF (plainFor_of_name pn_4) hisR ?_
  intro p e s m args below meth c s₁ Bd hml0 hP hK
  obtain ⟨rfl, hZ, hh⟩ := hP
  have hx := Bd.exec
  have hby := Bd.bytes
  have hml : c.maxLocals = 3 := hml0
  have hown : s.vm.findClass "weirline/io/FileIdentity" = some m.cls := findClass_of_methodNamed Bd.named
  have hnm := (name_of_methodNamed Bd.named Bd.method).1
  have X0 : Stand p l e ({ frames := 0, cells := 0, slots := 0, locals := 0 } : Room) s m #[(.ref r0), (.ref r1)] below meth c s₁ [] 0 0 := Stand.of_body Bd
  have e0 : s₁.heap = h0 := by rw [← hh, Bd.state]; rfl
  have N0 := Fr.nil n0
  have ZZ := Z0
  show Go p e below s (Qrm4c Z r0 r1 h0 n0) 0 0 (s₁.setTop (entryFrame m #[(.ref r0), (.ref r1)] 3))
  generalize hQQ : (Qrm4c Z r0 r1 h0 n0) = QQ
  refine gs (fun t k => castTop (g' := (mkF m 0 #[.val (.ref r0), .val (.ref r1), .unset] [])) (by first | (simp [entryFrame, mkF, argsToLocals, Value.category, maxLocals]; done) | rfl) k) ?_
  show Go p e below s QQ 0 0 (s₁.setTop (mkF m 0 #[.val (.ref r0), .val (.ref r1), .unset] []))
  refine gs (fun t => XS.aloadN X0.here hx rfl (hb hby d4_0) rfl rfl) ?_
  show Go p e below s QQ 0 0 (s₁.setTop (mkF m 1 #[.val (.ref r0), .val (.ref r1), .unset] [(.ref r1)]))
  obtain ⟨T12, X12, e12, st12⟩ := instNo X0 hx hZ hown (hw _ (List.mem_of_getElem? (i := 23) rfl)) e0 E_r1 (own_notA (hw _ (List.mem_of_getElem? (i := 45) rfl)) (hw _ (List.mem_of_getElem? (i := 46) rfl)) (hw _ (List.mem_of_getElem? (i := 47) rfl)) (hw _ (List.mem_of_getElem? (i := 1) rfl)) (by decide) (by decide) (by decide)) (g := (mkF m 1 #[.val (.ref r0), .val (.ref r1), .unset] [(.ref r1)])) rfl rfl (hb hby d4_1)
  refine gs st12 ?_
  show Go p e below s QQ 0 0 (T12.setTop (mkF m 4 #[.val (.ref r0), .val (.ref r1), .unset] [(.int (0 : Int32))]))
  refine gs (fun t => XS.ifYes X12.here hx rfl (pc0 := 4) (pc' := 40) rfl (hb hby d4_4) rfl ((if0 _ _).trans (teq (by decide : (0 : Int32) = (0 : Int32))).1) (by decide) (by decide)) ?_
  show Go p e below s QQ 0 0 (T12.setTop (mkF m 40 #[.val (.ref r0), .val (.ref r1), .unset] []))
  refine gs (fun t => XS.iconst X12.here hx rfl (hb hby d4_40)) ?_
  show Go p e below s QQ 0 0 (T12.setTop (mkF m 41 #[.val (.ref r0), .val (.ref r1), .unset] [(.int (0 : Int32))]))
  exact goB X12 hx Bd.notSynchronized Bd.returns (by simp) (w := (0 : Int32)) (by first | rfl | decide) (hb hby d4_41) (by rw [← hQQ, e12]; exact ⟨rfl, N0, rfl⟩) (by decide) (by decide)
theorem d6_0 : decode jdk_35_method_26_code 0 = .ok (.aload_n 0, 1) := by decide +kernel
theorem d6_1 : decode jdk_35_method_26_code 1 = .ok (.invokespecial 270, 3) := by decide +kernel
theorem d6_4 : decode jdk_35_method_26_code 4 = .ok (.aload_n 0, 1) := by decide +kernel
theorem d6_5 : decode jdk_35_method_26_code 5 = .ok (.lload_n 1, 1) := by decide +kernel
theorem d6_6 : decode jdk_35_method_26_code 6 = .ok (.putfield 273, 3) := by decide +kernel
theorem d6_9 : decode jdk_35_method_26_code 9 = .ok (.return_, 1) := by decide +kernel
theorem pn_6 : plainName "java/lang/Long" = true := by first | (simp [plainName, overriddenIn]; done) | decide +kernel
def Qrm6 (Z : State) (r0 : Addr) (p1 : Int64) (h0 : Heap) (n0 : Nat) (v : Option Value) (h : Heap) (L : List Loc) : Prop := v = none ∧ Fr n0 L ∧ Keep h0 h [r0]
set_option maxRecDepth 65536 in
set_option maxHeartbeats 40000000 in
theorem rm6 (l : Launch) (Z : State) (a0 : Array Value) (hw : ∀ d ∈ tables_1, d.before a0 Z = true) (ws : List Jvm.Cond) (r0 : Addr) (p1 : Int64) (h0 : Heap) (n0 : Nat) (Z0 : n0 ≤ h0.size) (F_value_r0 : Fld Z h0 r0 "java/lang/Long" "value" "J" (.long (0 : Int64))) (E_r0 : Exa Z h0 r0 "java/lang/Long") (ge_r0 : n0 ≤ r0) :
    MetFree l (⟨"java/lang/Long", "<init>", "(J)V"⟩ : MethodName) (head1 (Jvm.Cond.code (⟨"java/lang/Long", "<init>", "(J)V"⟩ : MethodName) jdk_35_method_26_code 3 none :: ws) ({ frames := 2, cells := 0, slots := 0, locals := 24 } : Room)) (fun a U => a = #[(.ref r0), (.long p1)] ∧ Z.Warmed39 U.vm ∧ U.heap = h0) (fun _ _ _ _ _ => True) (fun _ U o U' => ∃ v L, o = .returned v ∧ Qrm6 Z r0 p1 h0 n0 v U'.heap L ∧ FrameEnd U o U' L ({ frames := 2, cells := 0, slots := 0, locals := 24 } : Room).cells ({ frames := 2, cells := 0, slots := 0, locals := 24 } : Room).slots) := by
  refine MetFree.of_bodySF (plainFor_of_name pn_6) hisR ?_
  intro p e s m args below meth c s₁ Bd hml0 hP hK
  obtain ⟨rfl, hZ, hh⟩ := hP
  have hx := Bd.exec
  have hby := Bd.bytes
  have hml : c.maxLocals = 3 := hml0
  have hown : s.vm.findClass "java/lang/Long" = some m.cls := findClass_of_methodNamed Bd.named
  have hnm := (name_of_methodNamed Bd.named Bd.method).1
  have X0 : Stand p l e ({ frames := 2, cells := 0, slots := 0, locals := 24 } : Room) s m #[(.ref r0), (.long p1)] below meth c s₁ [] 0 0 := Stand.of_body Bd
  have e0 : s₁.heap = h0 := by rw [← hh, Bd.state]; rfl
  have N0 := Fr.nil n0
  have ZZ := Z0
  have KK : Keep h0 h0 [r0] := Keep.refl h0 _
  show Go p e below s (Qrm6 Z r0 p1 h0 n0) 0 0 (s₁.setTop (entryFrame m #[(.ref r0), (.long p1)] 3))
  generalize hQQ : (Qrm6 Z r0 p1 h0 n0) = QQ
  refine gs (fun t k => castTop (g' := (mkF m 0 #[.val (.ref r0), .val (.long p1), .second] [])) (by first | (simp [entryFrame, mkF, argsToLocals, Value.category, maxLocals]; done) | rfl) k) ?_
  show Go p e below s QQ 0 0 (s₁.setTop (mkF m 0 #[.val (.ref r0), .val (.long p1), .second] []))
  refine gs (fun t => XS.aloadN X0.here hx rfl (hb hby d6_0) rfl rfl) ?_
  show Go p e below s QQ 0 0 (s₁.setTop (mkF m 1 #[.val (.ref r0), .val (.long p1), .second] [(.ref r0)]))
  obtain ⟨_, _, ⟨T13, L13, k13, n13⟩, -, X13, ⟨Lc13, hQ13, l13, y13, z13⟩, st13⟩ := X0.specialBack hx (y := (⟨"java/lang/Number", "<init>", "()V"⟩ : MethodName)) rfl hown (mvT hZ (hw _ (List.mem_of_getElem? (i := 36) rfl))) (mvT hZ (hw _ (List.mem_of_getElem? (i := 37) rfl))) (mvT hZ (hw _ (List.mem_of_getElem? (i := 41) rfl))) (by decide) (backOf (W := 0) (rm7 l Z a0 hw [] r0 h0 n0 ZZ ) hZ (hw _ (List.mem_of_getElem? (i := 41) rfl)) (hw _ (List.mem_of_getElem? (i := 40) rfl)) (by decide) (by decide)) (g := (mkF m 1 #[.val (.ref r0), .val (.long p1), .second] [(.ref r0)])) rfl (by rw [hml]; rfl) (Steps.refl _) (a := r0) (argsL := []) (rest := []) (lenOf pd_0 rfl) rfl (by show 2 * 0 + _ ≤ _; exact Nat.le_of_eq rfl) (hb hby d6_1) (fun _ _ => ⟨rfl, e0, (by decide : 0 + 0 ≤ _), (by decide : 0 + 0 ≤ _)⟩)
  dsimp only [Pt.U, Pt.locs, Pt.cells, Pt.slots] at X13 l13 y13 z13 st13 hQ13
  subst l13 y13 z13
  obtain ⟨rfl, N13q, e13⟩ := hQ13
  replace N0 := Fr.app N0 N13q
  refine gt st13 ?_
  show Go p e below s QQ 0 0 (T13.setTop (mkF m 4 #[.val (.ref r0), .val (.long p1), .second] []))
  refine gs (fun t => XS.aloadN X13.here hx rfl (hb hby d6_4) rfl rfl) ?_
  show Go p e below s QQ 0 0 (T13.setTop (mkF m 5 #[.val (.ref r0), .val (.long p1), .second] [(.ref r0)]))
  refine gs (fun t => XS.lloadN X13.here hx rfl (hb hby d6_5) rfl) ?_
  show Go p e below s QQ 0 0 (T13.setTop (mkF m 6 #[.val (.ref r0), .val (.long p1), .second] [(.long p1), (.ref r0)]))
  obtain ⟨T14, h14, X14, e14, W14, st14⟩ := putF X13 hx hZ hown (host := "") (Or.inl (hw _ (List.mem_of_getElem? (i := 43) rfl))) Via.refl e13 F_value_r0 E_r0 (Or.inr ⟨(hw _ (List.mem_of_getElem? (i := 44) rfl)), rfl, hnm⟩) (hw _ (List.mem_of_getElem? (i := 31) rfl)) (ty := .long) (by decide) rfl rfl (g := (mkF m 6 #[.val (.ref r0), .val (.long p1), .second] [(.long p1), (.ref r0)])) rfl rfl (hb hby d6_6)
  replace N0 := Fr.snoc X14 N0 ge_r0
  refine gs st14 ?_
  show Go p e below s QQ 0 0 (T14.setTop (mkF m 9 #[.val (.ref r0), .val (.long p1), .second] []))
  replace F_value_r0 := F_value_r0.same W14
  replace E_r0 := E_r0.wr W14
  replace ZZ : n0 ≤ h14.size := by rw [W14.size]; exact ZZ
  replace KK := KK.wr W14 (Or.inl (by simp))
  exact goV X14 hx Bd.notSynchronized Bd.returns (hb hby d6_9) (by rw [← hQQ, e14]; exact ⟨rfl, N0, KK⟩) (by decide) (by decide)
theorem d5_0 : decode jdk_35_method_24_code 0 = .ok (.sipush 128, 3) := by decide +kernel
theorem d5_3 : decode jdk_35_method_24_code 3 = .ok (.istore_n 2, 1) := by decide +kernel
theorem d5_4 : decode jdk_35_method_24_code 4 = .ok (.lload_n 0, 1) := by decide +kernel
theorem d5_5 : decode jdk_35_method_24_code 5 = .ok (.ldc2_w 230, 3) := by decide +kernel
theorem d5_8 : decode jdk_35_method_24_code 8 = .ok (.lcmp, 1) := by decide +kernel
theorem d5_9 : decode jdk_35_method_24_code 9 = .ok (.ifCond .lt 22, 3) := by decide +kernel
theorem d5_12 : decode jdk_35_method_24_code 12 = .ok (.lload_n 0, 1) := by decide +kernel
theorem d5_13 : decode jdk_35_method_24_code 13 = .ok (.ldc2_w 232, 3) := by decide +kernel
theorem d5_16 : decode jdk_35_method_24_code 16 = .ok (.lcmp, 1) := by decide +kernel
theorem d5_17 : decode jdk_35_method_24_code 17 = .ok (.ifCond .gt 14, 3) := by decide +kernel
theorem d5_20 : decode jdk_35_method_24_code 20 = .ok (.getstatic 234, 3) := by decide +kernel
theorem d5_23 : decode jdk_35_method_24_code 23 = .ok (.lload_n 0, 1) := by decide +kernel
theorem d5_24 : decode jdk_35_method_24_code 24 = .ok (.l2i, 1) := by decide +kernel
theorem d5_25 : decode jdk_35_method_24_code 25 = .ok (.sipush 128, 3) := by decide +kernel
theorem d5_28 : decode jdk_35_method_24_code 28 = .ok (.iadd, 1) := by decide +kernel
theorem d5_29 : decode jdk_35_method_24_code 29 = .ok (.aaload, 1) := by decide +kernel
theorem d5_30 : decode jdk_35_method_24_code 30 = .ok (.areturn, 1) := by decide +kernel
theorem d5_31 : decode jdk_35_method_24_code 31 = .ok (.new 1, 3) := by decide +kernel
theorem d5_34 : decode jdk_35_method_24_code 34 = .ok (.dup, 1) := by decide +kernel
theorem d5_35 : decode jdk_35_method_24_code 35 = .ok (.lload_n 0, 1) := by decide +kernel
theorem d5_36 : decode jdk_35_method_24_code 36 = .ok (.invokespecial 240, 3) := by decide +kernel
theorem d5_39 : decode jdk_35_method_24_code 39 = .ok (.areturn, 1) := by decide +kernel
theorem pn_5 : plainName "java/lang/Long" = true := by first | (simp [plainName, overriddenIn]; done) | decide +kernel
def Qrm5 (Z : State) (p0 : Int64) (xc : Addr) (fc : Nat → Value) (h0 : Heap) (n0 : Nat) (v : Option Value) (h : Heap) (L : List Loc) : Prop := ∃ b : Addr, v = some (.ref b) ∧ Fr n0 L ∧ Keep h0 h [] ∧ Exa Z h b "java/lang/Long"
set_option maxRecDepth 65536 in
set_option maxHeartbeats 40000000 in
theorem rm5 (l : Launch) (Z : State) (a0 : Array Value) (hw : ∀ d ∈ tables_1, d.before a0 Z = true) (ws : List Jvm.Cond) (p0 : Int64) (xc : Addr) (fc : Nat → Value) (h0 : Heap) (n0 : Nat) (Z0 : n0 ≤ h0.size) (OLD : Old Z n0 h0) (SC : Sta Z Z.heap "java/lang/Long$LongCache" "cache" "[Ljava/lang/Long;" (.ref xc)) (BX : own_bx Z xc "java/lang/Long" fc) :
    MetFree l (⟨"java/lang/Long", "valueOf", "(J)Ljava/lang/Long;"⟩ : MethodName) (head1 (Jvm.Cond.code (⟨"java/lang/Long", "valueOf", "(J)Ljava/lang/Long;"⟩ : MethodName) jdk_35_method_24_code 3 (some (.object "java/lang/Long")) :: ws) ({ frames := 3, cells := 1, slots := 1, locals := 39 } : Room)) (fun a U => a = #[(.long p0)] ∧ Z.Warmed39 U.vm ∧ U.heap = h0) (fun _ _ _ _ _ => True) (fun _ U o U' => ∃ v L, o = .returned v ∧ Qrm5 Z p0 xc fc h0 n0 v U'.heap L ∧ FrameEnd U o U' L ({ frames := 3, cells := 1, slots := 1, locals := 39 } : Room).cells ({ frames := 3, cells := 1, slots := 1, locals := 39 } : Room).slots) := by
  refine MetFree.of_bodySF (plainFor_of_name pn_5) hisR ?_
  intro p e s m args below meth c s₁ Bd hml0 hP hK
  obtain ⟨rfl, hZ, hh⟩ := hP
  have hx := Bd.exec
  have hby := Bd.bytes
  have hml : c.maxLocals = 3 := hml0
  have hown : s.vm.findClass "java/lang/Long" = some m.cls := findClass_of_methodNamed Bd.named
  have hnm := (name_of_methodNamed Bd.named Bd.method).1
  have X0 : Stand p l e ({ frames := 3, cells := 1, slots := 1, locals := 39 } : Room) s m #[(.long p0)] below meth c s₁ [] 0 0 := Stand.of_body Bd
  have e0 : s₁.heap = h0 := by rw [← hh, Bd.state]; rfl
  have N0 := Fr.nil n0
  have ZZ := Z0
  have KK : Keep h0 h0 [] := Keep.refl h0 _
  show Go p e below s (Qrm5 Z p0 xc fc h0 n0) 1 1 (s₁.setTop (entryFrame m #[(.long p0)] 3))
  generalize hQQ : (Qrm5 Z p0 xc fc h0 n0) = QQ
  refine gs (fun t k => castTop (g' := (mkF m 0 #[.val (.long p0), .second, .unset] [])) (by first | (simp [entryFrame, mkF, argsToLocals, Value.category, maxLocals]; done) | rfl) k) ?_
  show Go p e below s QQ 1 1 (s₁.setTop (mkF m 0 #[.val (.long p0), .second, .unset] []))
  obtain ⟨VC, hbx⟩ := BX
  refine gs (fun t => XS.sipush X0.here hx rfl (hb hby d5_0)) ?_
  show Go p e below s QQ 1 1 (s₁.setTop (mkF m 3 #[.val (.long p0), .second, .unset] [(.int (128 : Int32))]))
  refine gs (fun t => XS.istoreN X0.here hx rfl (hb hby d5_3) rfl (l' := #[.val (.long p0), .second, .val (.int (128 : Int32))]) rfl) ?_
  show Go p e below s QQ 1 1 (s₁.setTop (mkF m 4 #[.val (.long p0), .second, .val (.int (128 : Int32))] []))
  refine gs (fun t => XS.lloadN X0.here hx rfl (hb hby d5_4) rfl) ?_
  show Go p e below s QQ 1 1 (s₁.setTop (mkF m 5 #[.val (.long p0), .second, .val (.int (128 : Int32))] [(.long p0)]))
  refine gs (fun t => X0.ldc2Long hx hown (mvT hZ (hw _ (List.mem_of_getElem? (i := 29) rfl))) (g := (mkF m 5 #[.val (.long p0), .second, .val (.int (128 : Int32))] [(.long p0)])) rfl (hb hby d5_5) t) ?_
  show Go p e below s QQ 1 1 (s₁.setTop (mkF m 8 #[.val (.long p0), .second, .val (.int (128 : Int32))] [(.long (-128 : Int64)), (.long p0)]))
  refine gs (fun t => XS.lcmp X0.here hx rfl (hb hby d5_8) rfl) ?_
  show Go p e below s QQ 1 1 (s₁.setTop (mkF m 9 #[.val (.long p0), .second, .val (.int (128 : Int32))] [(.int (lcmpW p0 (-128 : Int64)))]))
  by_cases hc : (lcmpW p0 (-128 : Int64)) < (0 : Int32)
  · skip
    refine gs (fun t => XS.ifYes X0.here hx rfl (pc0 := 9) (pc' := 31) rfl (hb hby d5_9) rfl ((if0 _ _).trans (tlt hc).1) (by decide) (by decide)) ?_
    show Go p e below s QQ 1 1 (s₁.setTop (mkF m 31 #[.val (.long p0), .second, .val (.int (128 : Int32))] []))
    obtain ⟨T15, h15, X15, e15, E15, A15, D15, -, st15⟩ := newO X0 hx hZ hown (hw _ (List.mem_of_getElem? (i := 30) rfl)) (hw _ (List.mem_of_getElem? (i := 31) rfl)) (hw _ (List.mem_of_getElem? (i := 27) rfl)) e0 (g := (mkF m 31 #[.val (.long p0), .second, .val (.int (128 : Int32))] [])) rfl (hb hby d5_31) (by decide) (by decide)
    obtain ⟨b15, g15⟩ : ∃ z, z = h0.size := ⟨_, rfl⟩
    rw [← g15] at A15 D15 st15
    have ge_b15 : n0 ≤ b15 := by rw [g15]; exact ZZ
    have sz_b15 : h0.size ≤ b15 := by rw [g15]; exact KK.1
    refine gs st15 ?_
    show Go p e below s QQ 1 1 (T15.setTop (mkF m 34 #[.val (.long p0), .second, .val (.int (128 : Int32))] [(.ref b15)]))
    replace OLD := OLD.ext E15
    replace ZZ := Nat.le_trans ZZ E15.1
    replace KK := KK.ext E15
    have Ex_b15 := A15
    have F_value_b15 : Fld Z h15 b15 "java/lang/Long" "value" "J" (.long (0 : Int64)) := D15 (Or.inr (hw _ (List.mem_of_getElem? (i := 44) rfl))) (ty := .long) (by decide)
    refine gs (fun t => XS.dup X15.here hx rfl (hb hby d5_34) rfl rfl) ?_
    show Go p e below s QQ 1 1 (T15.setTop (mkF m 35 #[.val (.long p0), .second, .val (.int (128 : Int32))] [(.ref b15), (.ref b15)]))
    refine gs (fun t => XS.lloadN X15.here hx rfl (hb hby d5_35) rfl) ?_
    show Go p e below s QQ 1 1 (T15.setTop (mkF m 36 #[.val (.long p0), .second, .val (.int (128 : Int32))] [(.long p0), (.ref b15), (.ref b15)]))
    obtain ⟨_, _, ⟨T16, L16, k16, n16⟩, -, X16, ⟨Lc16, hQ16, l16, y16, z16⟩, st16⟩ := X15.specialBack hx (y := (⟨"java/lang/Long", "<init>", "(J)V"⟩ : MethodName)) rfl hown (mvT hZ (hw _ (List.mem_of_getElem? (i := 32) rfl))) (mvT hZ (hw _ (List.mem_of_getElem? (i := 33) rfl))) (mvT hZ (hw _ (List.mem_of_getElem? (i := 35) rfl))) (by decide) (backOf (W := 1) (rm6 l Z a0 hw [] b15 p0 h15 n0 ZZ F_value_b15 Ex_b15 ge_b15) hZ (hw _ (List.mem_of_getElem? (i := 35) rfl)) (hw _ (List.mem_of_getElem? (i := 27) rfl)) (by decide) (by decide)) (g := (mkF m 36 #[.val (.long p0), .second, .val (.int (128 : Int32))] [(.long p0), (.ref b15), (.ref b15)])) rfl (by rw [hml]; rfl) (Steps.refl _) (a := b15) (argsL := [(.long p0)]) (rest := [(.ref b15)]) (lenOf pd_1 rfl) rfl (by show 2 * 0 + _ ≤ _; exact Nat.le_of_eq rfl) (hb hby d5_36) (fun _ _ => ⟨rfl, e15, (by decide : 1 + 0 ≤ _), (by decide : 1 + 0 ≤ _)⟩)
    dsimp only [Pt.U, Pt.locs, Pt.cells, Pt.slots] at X16 l16 y16 z16 st16 hQ16
    subst l16 y16 z16
    obtain ⟨rfl, N16q, K16⟩ := hQ16
    replace N0 := Fr.app N0 N16q
    refine gt st16 ?_
    show Go p e below s QQ 1 1 (T16.setTop (mkF m 39 #[.val (.long p0), .second, .val (.int (128 : Int32))] [(.ref b15)]))
    replace OLD := OLD.keep K16 (allS ge_b15 all0)
    replace Ex_b15 := Ex_b15.keep K16
    replace ZZ := Nat.le_trans ZZ K16.1
    replace KK := KK.trans K16 (allS (Or.inr sz_b15) all0)
    exact goR X16 hx Bd.notSynchronized Bd.returns rfl rfl (hb hby d5_39) (by rw [← hQQ]; exact ⟨b15, rfl, N0, KK, Ex_b15⟩) (by decide) (by decide)
  · skip
    refine gs (fun t => XS.ifNo X0.here hx rfl (hb hby d5_9) rfl ((if0 _ _).trans (flt hc).1)) ?_
    show Go p e below s QQ 1 1 (s₁.setTop (mkF m 12 #[.val (.long p0), .second, .val (.int (128 : Int32))] []))
    refine gs (fun t => XS.lloadN X0.here hx rfl (hb hby d5_12) rfl) ?_
    show Go p e below s QQ 1 1 (s₁.setTop (mkF m 13 #[.val (.long p0), .second, .val (.int (128 : Int32))] [(.long p0)]))
    refine gs (fun t => X0.ldc2Long hx hown (mvT hZ (hw _ (List.mem_of_getElem? (i := 48) rfl))) (g := (mkF m 13 #[.val (.long p0), .second, .val (.int (128 : Int32))] [(.long p0)])) rfl (hb hby d5_13) t) ?_
    show Go p e below s QQ 1 1 (s₁.setTop (mkF m 16 #[.val (.long p0), .second, .val (.int (128 : Int32))] [(.long (127 : Int64)), (.long p0)]))
    refine gs (fun t => XS.lcmp X0.here hx rfl (hb hby d5_16) rfl) ?_
    show Go p e below s QQ 1 1 (s₁.setTop (mkF m 17 #[.val (.long p0), .second, .val (.int (128 : Int32))] [(.int (lcmpW p0 (127 : Int64)))]))
    by_cases hd : (0 : Int32) < (lcmpW p0 (127 : Int64))
    · skip
      refine gs (fun t => XS.ifYes X0.here hx rfl (pc0 := 17) (pc' := 31) rfl (hb hby d5_17) rfl ((if0 _ _).trans (tlt hd).2.2.1) (by decide) (by decide)) ?_
      show Go p e below s QQ 1 1 (s₁.setTop (mkF m 31 #[.val (.long p0), .second, .val (.int (128 : Int32))] []))
      obtain ⟨T17, h17, X17, e17, E17, A17, D17, -, st17⟩ := newO X0 hx hZ hown (hw _ (List.mem_of_getElem? (i := 30) rfl)) (hw _ (List.mem_of_getElem? (i := 31) rfl)) (hw _ (List.mem_of_getElem? (i := 27) rfl)) e0 (g := (mkF m 31 #[.val (.long p0), .second, .val (.int (128 : Int32))] [])) rfl (hb hby d5_31) (by decide) (by decide)
      obtain ⟨b17, g17⟩ : ∃ z, z = h0.size := ⟨_, rfl⟩
      rw [← g17] at A17 D17 st17
      have ge_b17 : n0 ≤ b17 := by rw [g17]; exact ZZ
      have sz_b17 : h0.size ≤ b17 := by rw [g17]; exact KK.1
      refine gs st17 ?_
      show Go p e below s QQ 1 1 (T17.setTop (mkF m 34 #[.val (.long p0), .second, .val (.int (128 : Int32))] [(.ref b17)]))
      replace OLD := OLD.ext E17
      replace ZZ := Nat.le_trans ZZ E17.1
      replace KK := KK.ext E17
      have Ex_b17 := A17
      have F_value_b17 : Fld Z h17 b17 "java/lang/Long" "value" "J" (.long (0 : Int64)) := D17 (Or.inr (hw _ (List.mem_of_getElem? (i := 44) rfl))) (ty := .long) (by decide)
      refine gs (fun t => XS.dup X17.here hx rfl (hb hby d5_34) rfl rfl) ?_
      show Go p e below s QQ 1 1 (T17.setTop (mkF m 35 #[.val (.long p0), .second, .val (.int (128 : Int32))] [(.ref b17), (.ref b17)]))
      refine gs (fun t => XS.lloadN X17.here hx rfl (hb hby d5_35) rfl) ?_
      show Go p e below s QQ 1 1 (T17.setTop (mkF m 36 #[.val (.long p0), .second, .val (.int (128 : Int32))] [(.long p0), (.ref b17), (.ref b17)]))
      obtain ⟨_, _, ⟨T18, L18, k18, n18⟩, -, X18, ⟨Lc18, hQ18, l18, y18, z18⟩, st18⟩ := X17.specialBack hx (y := (⟨"java/lang/Long", "<init>", "(J)V"⟩ : MethodName)) rfl hown (mvT hZ (hw _ (List.mem_of_getElem? (i := 32) rfl))) (mvT hZ (hw _ (List.mem_of_getElem? (i := 33) rfl))) (mvT hZ (hw _ (List.mem_of_getElem? (i := 35) rfl))) (by decide) (backOf (W := 1) (rm6 l Z a0 hw [] b17 p0 h17 n0 ZZ F_value_b17 Ex_b17 ge_b17) hZ (hw _ (List.mem_of_getElem? (i := 35) rfl)) (hw _ (List.mem_of_getElem? (i := 27) rfl)) (by decide) (by decide)) (g := (mkF m 36 #[.val (.long p0), .second, .val (.int (128 : Int32))] [(.long p0), (.ref b17), (.ref b17)])) rfl (by rw [hml]; rfl) (Steps.refl _) (a := b17) (argsL := [(.long p0)]) (rest := [(.ref b17)]) (lenOf pd_1 rfl) rfl (by show 2 * 0 + _ ≤ _; exact Nat.le_of_eq rfl) (hb hby d5_36) (fun _ _ => ⟨rfl, e17, (by decide : 1 + 0 ≤ _), (by decide : 1 + 0 ≤ _)⟩)
      dsimp only [Pt.U, Pt.locs, Pt.cells, Pt.slots] at X18 l18 y18 z18 st18 hQ18
      subst l18 y18 z18
      obtain ⟨rfl, N18q, K18⟩ := hQ18
      replace N0 := Fr.app N0 N18q
      refine gt st18 ?_
      show Go p e below s QQ 1 1 (T18.setTop (mkF m 39 #[.val (.long p0), .second, .val (.int (128 : Int32))] [(.ref b17)]))
      replace OLD := OLD.keep K18 (allS ge_b17 all0)
      replace Ex_b17 := Ex_b17.keep K18
      replace ZZ := Nat.le_trans ZZ K18.1
      replace KK := KK.trans K18 (allS (Or.inr sz_b17) all0)
      exact goR X18 hx Bd.notSynchronized Bd.returns rfl rfl (hb hby d5_39) (by rw [← hQQ]; exact ⟨b17, rfl, N0, KK, Ex_b17⟩) (by decide) (by decide)
    · skip
      refine gs (fun t => XS.ifNo X0.here hx rfl (hb hby d5_17) rfl ((if0 _ _).trans (flt hd).2.2.1)) ?_
      show Go p e below s QQ 1 1 (s₁.setTop (mkF m 20 #[.val (.long p0), .second, .val (.int (128 : Int32))] []))
      obtain ⟨T19, X19, e19, st19⟩ := getS2 X0 hx hZ hown (host := "") (Or.inl (hw _ (List.mem_of_getElem? (i := 49) rfl))) Via.refl e0 (SC.ext OLD.2) (g := (mkF m 20 #[.val (.long p0), .second, .val (.int (128 : Int32))] [])) rfl (hb hby d5_20)
      refine gs st19 ?_
      show Go p e below s QQ 1 1 (T19.setTop (mkF m 23 #[.val (.long p0), .second, .val (.int (128 : Int32))] [(.ref xc)]))
      refine gs (fun t => XS.lloadN X19.here hx rfl (hb hby d5_23) rfl) ?_
      show Go p e below s QQ 1 1 (T19.setTop (mkF m 24 #[.val (.long p0), .second, .val (.int (128 : Int32))] [(.long p0), (.ref xc)]))
      refine gs (fun t => XS.l2i X19.here hx rfl (hb hby d5_24) rfl) ?_
      show Go p e below s QQ 1 1 (T19.setTop (mkF m 25 #[.val (.long p0), .second, .val (.int (128 : Int32))] [(.int (p0.toInt32)), (.ref xc)]))
      refine gs (fun t => XS.sipush X19.here hx rfl (hb hby d5_25)) ?_
      show Go p e below s QQ 1 1 (T19.setTop (mkF m 28 #[.val (.long p0), .second, .val (.int (128 : Int32))] [(.int (128 : Int32)), (.int (p0.toInt32)), (.ref xc)]))
      refine gs (fun t => XS.iadd X19.here hx rfl (hb hby d5_28) rfl) ?_
      show Go p e below s QQ 1 1 (T19.setTop (mkF m 29 #[.val (.long p0), .second, .val (.int (128 : Int32))] [(.int ((p0.toInt32) + (128 : Int32))), (.ref xc)]))
      have hj := own_in hc hd
      have hj2 := clampOf (j := ((p0.toInt32) + (128 : Int32))) hj.1
      obtain ⟨xb, hxb, Exb⟩ := hbx (((p0.toInt32) + (128 : Int32))).toNatClampNeg (by omega)
      refine gs (fun t => ldRf X19 hx hZ e19 (VC.ext OLD.2) rfl (j := ((p0.toInt32) + (128 : Int32))) (v := (.ref xb)) hj hxb (g := (mkF m 29 #[.val (.long p0), .second, .val (.int (128 : Int32))] [(.int ((p0.toInt32) + (128 : Int32))), (.ref xc)])) rfl rfl (hb hby d5_29) t) ?_
      show Go p e below s QQ 1 1 (T19.setTop (mkF m 30 #[.val (.long p0), .second, .val (.int (128 : Int32))] [(.ref xb)]))
      exact goR X19 hx Bd.notSynchronized Bd.returns rfl rfl (hb hby d5_30) (by rw [← hQQ, e19]; exact ⟨xb, rfl, N0, KK, Exb.ext OLD.2⟩) (by decide) (by decide)
theorem pn_0 : plainName "weirline/io/FileIdentityEqualsPinLaw" = true := by first | (simp [plainName, overriddenIn]; done) | decide +kernel
def Qrm0 (Z : State) (p0 : Int64) (p1 : Int64) (p2 : Int64) (p3 : Int64) (p4 : Int32) (xc : Addr) (fc : Nat → Value) (h0 : Heap) (n0 : Nat) (v : Option Value) (h : Heap) (L : List Loc) : Prop := v = some (.int 1) ∧ Fr n0 L
set_option maxRecDepth 65536 in
set_option maxHeartbeats 40000000 in
theorem rm0 (l : Launch) (Z : State) (a0 : Array Value) (hw : ∀ d ∈ tables_1, d.before a0 Z = true) (ws : List Jvm.Cond) (p0 : Int64) (p1 : Int64) (p2 : Int64) (p3 : Int64) (p4 : Int32) (xc : Addr) (fc : Nat → Value) (h0 : Heap) (n0 : Nat) (Z0 : n0 ≤ h0.size) (OLD : Old Z n0 h0) (SC : Sta Z Z.heap "java/lang/Long$LongCache" "cache" "[Ljava/lang/Long;" (.ref xc)) (BX : own_bx Z xc "java/lang/Long" fc) :
    MetFree l x (head1 (Jvm.Cond.code x code maxLocals ret :: ws) room_1) (fun a U => a = #[(.long p0), (.long p1), (.long p2), (.long p3), (.int p4)] ∧ Z.Warmed39 U.vm ∧ U.heap = h0) (fun _ _ _ _ _ => True) (fun _ U o U' => ∃ v L, o = .returned v ∧ Qrm0 Z p0 p1 p2 p3 p4 xc fc h0 n0 v U'.heap L ∧ FrameEnd U o U' L room_1.cells room_1.slots) := by
  refine MetFree.of_bodySF (plainFor_of_name pn_0) hisR ?_
  intro p e s m args below meth c s₁ Bd hml0 hP hK
  obtain ⟨rfl, hZ, hh⟩ := hP
  have hx := Bd.exec
  have hby := Bd.bytes
  have hml : c.maxLocals = 19 := hml0
  have hown : s.vm.findClass "weirline/io/FileIdentityEqualsPinLaw" = some m.cls := findClass_of_methodNamed Bd.named
  have hnm := (name_of_methodNamed Bd.named Bd.method).1
  have X0 : Stand p l e room_1 s m #[(.long p0), (.long p1), (.long p2), (.long p3), (.int p4)] below meth c s₁ [] 0 0 := Stand.of_body Bd
  have e0 : s₁.heap = h0 := by rw [← hh, Bd.state]; rfl
  have N0 := Fr.nil n0
  have ZZ := Z0
  show Go p e below s (Qrm0 Z p0 p1 p2 p3 p4 xc fc h0 n0) room_1.cells room_1.slots (s₁.setTop (entryFrame m #[(.long p0), (.long p1), (.long p2), (.long p3), (.int p4)] maxLocals))
  generalize hQQ : (Qrm0 Z p0 p1 p2 p3 p4 xc fc h0 n0) = QQ
  refine gs (fun t k => castTop (g' := (mkF m 0 #[.val (.long p0), .second, .val (.long p1), .second, .val (.long p2), .second, .val (.long p3), .second, .val (.int p4), .unset, .unset, .unset, .unset, .unset, .unset, .unset, .unset, .unset, .unset] [])) (by first | (simp [entryFrame, mkF, argsToLocals, Value.category, maxLocals]; done) | rfl) k) ?_
  show Go p e below s QQ room_1.cells room_1.slots (s₁.setTop (mkF m 0 #[.val (.long p0), .second, .val (.long p1), .second, .val (.long p2), .second, .val (.long p3), .second, .val (.int p4), .unset, .unset, .unset, .unset, .unset, .unset, .unset, .unset, .unset, .unset] []))
  refine gs (fun t => XS.iload X0.here hx rfl (hb hby at_0) rfl) ?_
  show Go p e below s QQ room_1.cells room_1.slots (s₁.setTop (mkF m 2 #[.val (.long p0), .second, .val (.long p1), .second, .val (.long p2), .second, .val (.long p3), .second, .val (.int p4), .unset, .unset, .unset, .unset, .unset, .unset, .unset, .unset, .unset, .unset] [(.int p4)]))
  refine gs (fun t => XS.iconst X0.here hx rfl (hb hby at_2)) ?_
  show Go p e below s QQ room_1.cells room_1.slots (s₁.setTop (mkF m 3 #[.val (.long p0), .second, .val (.long p1), .second, .val (.long p2), .second, .val (.long p3), .second, .val (.int p4), .unset, .unset, .unset, .unset, .unset, .unset, .unset, .unset, .unset, .unset] [(.int (1 : Int32)), (.int p4)]))
  refine gs (fun t => XS.iand X0.here hx rfl (hb hby at_3) rfl) ?_
  show Go p e below s QQ room_1.cells room_1.slots (s₁.setTop (mkF m 4 #[.val (.long p0), .second, .val (.long p1), .second, .val (.long p2), .second, .val (.long p3), .second, .val (.int p4), .unset, .unset, .unset, .unset, .unset, .unset, .unset, .unset, .unset, .unset] [(.int (p4 &&& (1 : Int32)))]))
  have key13 : ∀ (c2 : Int64), Go p e below s QQ room_1.cells room_1.slots (s₁.setTop (mkF m 13 #[.val (.long p0), .second, .val (.long p1), .second, .val (.long p2), .second, .val (.long p3), .second, .val (.int p4), .unset, .unset, .unset, .unset, .unset, .unset, .unset, .unset, .unset, .unset] [(.long c2)])) := by
    intro c2
    refine gs (fun t => XS.lstore X0.here hx rfl (hb hby at_13) rfl (l' := #[.val (.long p0), .second, .val (.long p1), .second, .val (.long p2), .second, .val (.long p3), .second, .val (.int p4), .val (.long c2), .second, .unset, .unset, .unset, .unset, .unset, .unset, .unset, .unset]) rfl) ?_
    show Go p e below s QQ room_1.cells room_1.slots (s₁.setTop (mkF m 15 #[.val (.long p0), .second, .val (.long p1), .second, .val (.long p2), .second, .val (.long p3), .second, .val (.int p4), .val (.long c2), .second, .unset, .unset, .unset, .unset, .unset, .unset, .unset, .unset] []))
    refine gs (fun t => XS.iload X0.here hx rfl (hb hby at_15) rfl) ?_
    show Go p e below s QQ room_1.cells room_1.slots (s₁.setTop (mkF m 17 #[.val (.long p0), .second, .val (.long p1), .second, .val (.long p2), .second, .val (.long p3), .second, .val (.int p4), .val (.long c2), .second, .unset, .unset, .unset, .unset, .unset, .unset, .unset, .unset] [(.int p4)]))
    refine gs (fun t => XS.iconst X0.here hx rfl (hb hby at_17)) ?_
    show Go p e below s QQ room_1.cells room_1.slots (s₁.setTop (mkF m 18 #[.val (.long p0), .second, .val (.long p1), .second, .val (.long p2), .second, .val (.long p3), .second, .val (.int p4), .val (.long c2), .second, .unset, .unset, .unset, .unset, .unset, .unset, .unset, .unset] [(.int (2 : Int32)), (.int p4)]))
    refine gs (fun t => XS.iand X0.here hx rfl (hb hby at_18) rfl) ?_
    show Go p e below s QQ room_1.cells room_1.slots (s₁.setTop (mkF m 19 #[.val (.long p0), .second, .val (.long p1), .second, .val (.long p2), .second, .val (.long p3), .second, .val (.int p4), .val (.long c2), .second, .unset, .unset, .unset, .unset, .unset, .unset, .unset, .unset] [(.int (p4 &&& (2 : Int32)))]))
    have key28 : ∀ (d2 : Int64), Go p e below s QQ room_1.cells room_1.slots (s₁.setTop (mkF m 28 #[.val (.long p0), .second, .val (.long p1), .second, .val (.long p2), .second, .val (.long p3), .second, .val (.int p4), .val (.long c2), .second, .unset, .unset, .unset, .unset, .unset, .unset, .unset, .unset] [(.long d2)])) := by
      intro d2
      refine gs (fun t => XS.lstore X0.here hx rfl (hb hby at_28) rfl (l' := #[.val (.long p0), .second, .val (.long p1), .second, .val (.long p2), .second, .val (.long p3), .second, .val (.int p4), .val (.long c2), .second, .val (.long d2), .second, .unset, .unset, .unset, .unset, .unset, .unset]) rfl) ?_
      show Go p e below s QQ room_1.cells room_1.slots (s₁.setTop (mkF m 30 #[.val (.long p0), .second, .val (.long p1), .second, .val (.long p2), .second, .val (.long p3), .second, .val (.int p4), .val (.long c2), .second, .val (.long d2), .second, .unset, .unset, .unset, .unset, .unset, .unset] []))
      obtain ⟨T22, h22, X22, e22, E22, A22, D22, -, st22⟩ := newO X0 hx hZ hown (hw _ (List.mem_of_getElem? (i := 0) rfl)) (hw _ (List.mem_of_getElem? (i := 1) rfl)) (hw _ (List.mem_of_getElem? (i := 2) rfl)) e0 (g := (mkF m 30 #[.val (.long p0), .second, .val (.long p1), .second, .val (.long p2), .second, .val (.long p3), .second, .val (.int p4), .val (.long c2), .second, .val (.long d2), .second, .unset, .unset, .unset, .unset, .unset, .unset] [])) rfl (hb hby at_30) (by decide) (by decide)
      obtain ⟨b22, g22⟩ : ∃ z, z = h0.size := ⟨_, rfl⟩
      rw [← g22] at A22 D22 st22
      have ge_b22 : n0 ≤ b22 := by rw [g22]; exact ZZ
      refine gs st22 ?_
      show Go p e below s QQ room_1.cells room_1.slots (T22.setTop (mkF m 33 #[.val (.long p0), .second, .val (.long p1), .second, .val (.long p2), .second, .val (.long p3), .second, .val (.int p4), .val (.long c2), .second, .val (.long d2), .second, .unset, .unset, .unset, .unset, .unset, .unset] [(.ref b22)]))
      replace OLD := OLD.ext E22
      replace ZZ := Nat.le_trans ZZ E22.1
      have Ex_b22 := A22
      have F_device_b22 : Fld Z h22 b22 "weirline/io/FileIdentity" "device" "J" (.long (0 : Int64)) := D22 (Or.inr (hw _ (List.mem_of_getElem? (i := 15) rfl))) (ty := .long) (by decide)
      have F_inode_b22 : Fld Z h22 b22 "weirline/io/FileIdentity" "inode" "J" (.long (0 : Int64)) := D22 (Or.inr (hw _ (List.mem_of_getElem? (i := 17) rfl))) (ty := .long) (by decide)
      refine gs (fun t => XS.dup X22.here hx rfl (hb hby at_33) rfl rfl) ?_
      show Go p e below s QQ room_1.cells room_1.slots (T22.setTop (mkF m 34 #[.val (.long p0), .second, .val (.long p1), .second, .val (.long p2), .second, .val (.long p3), .second, .val (.int p4), .val (.long c2), .second, .val (.long d2), .second, .unset, .unset, .unset, .unset, .unset, .unset] [(.ref b22), (.ref b22)]))
      refine gs (fun t => XS.lloadN X22.here hx rfl (hb hby at_34) rfl) ?_
      show Go p e below s QQ room_1.cells room_1.slots (T22.setTop (mkF m 35 #[.val (.long p0), .second, .val (.long p1), .second, .val (.long p2), .second, .val (.long p3), .second, .val (.int p4), .val (.long c2), .second, .val (.long d2), .second, .unset, .unset, .unset, .unset, .unset, .unset] [(.long p0), (.ref b22), (.ref b22)]))
      refine gs (fun t => XS.lloadN X22.here hx rfl (hb hby at_35) rfl) ?_
      show Go p e below s QQ room_1.cells room_1.slots (T22.setTop (mkF m 36 #[.val (.long p0), .second, .val (.long p1), .second, .val (.long p2), .second, .val (.long p3), .second, .val (.int p4), .val (.long c2), .second, .val (.long d2), .second, .unset, .unset, .unset, .unset, .unset, .unset] [(.long p1), (.long p0), (.ref b22), (.ref b22)]))
      obtain ⟨_, _, ⟨T23, L23, k23, n23⟩, -, X23, ⟨Lc23, hQ23, l23, y23, z23⟩, st23⟩ := X22.specialBack hx (y := (⟨"weirline/io/FileIdentity", "<init>", "(JJ)V"⟩ : MethodName)) rfl hown (mvT hZ (hw _ (List.mem_of_getElem? (i := 3) rfl))) (mvT hZ (hw _ (List.mem_of_getElem? (i := 4) rfl))) (mvT hZ (hw _ (List.mem_of_getElem? (i := 5) rfl))) (by decide) (backOf (W := 1) (rm1 l Z a0 hw [] b22 p0 p1 h22 n0 ZZ F_device_b22 F_inode_b22 Ex_b22 ge_b22) hZ (hw _ (List.mem_of_getElem? (i := 5) rfl)) (hw _ (List.mem_of_getElem? (i := 2) rfl)) (by decide) (by decide)) (g := (mkF m 36 #[.val (.long p0), .second, .val (.long p1), .second, .val (.long p2), .second, .val (.long p3), .second, .val (.int p4), .val (.long c2), .second, .val (.long d2), .second, .unset, .unset, .unset, .unset, .unset, .unset] [(.long p1), (.long p0), (.ref b22), (.ref b22)])) rfl (by rw [hml]; rfl) (Steps.refl _) (a := b22) (argsL := [(.long p0), (.long p1)]) (rest := [(.ref b22)]) (lenOf pd_2 rfl) rfl (by show 2 * 0 + _ ≤ _; exact Nat.le_of_eq rfl) (hb hby at_36) (fun _ _ => ⟨rfl, e22, (by decide : 1 + 0 ≤ _), (by decide : 2 + 0 ≤ _)⟩)
      dsimp only [Pt.U, Pt.locs, Pt.cells, Pt.slots] at X23 l23 y23 z23 st23 hQ23
      subst l23 y23 z23
      obtain ⟨rfl, N23q, K23, Fa23, Fb23⟩ := hQ23
      replace N0 := Fr.app N0 N23q
      refine gt st23 ?_
      show Go p e below s QQ room_1.cells room_1.slots (T23.setTop (mkF m 39 #[.val (.long p0), .second, .val (.long p1), .second, .val (.long p2), .second, .val (.long p3), .second, .val (.int p4), .val (.long c2), .second, .val (.long d2), .second, .unset, .unset, .unset, .unset, .unset, .unset] [(.ref b22)]))
      replace OLD := OLD.keep K23 (allS ge_b22 all0)
      replace Ex_b22 := Ex_b22.keep K23
      replace ZZ := Nat.le_trans ZZ K23.1
      refine gs (fun t => XS.astore X23.here hx rfl (hb hby at_39) rfl rfl (l' := #[.val (.long p0), .second, .val (.long p1), .second, .val (.long p2), .second, .val (.long p3), .second, .val (.int p4), .val (.long c2), .second, .val (.long d2), .second, .val (.ref b22), .unset, .unset, .unset, .unset, .unset]) rfl) ?_
      show Go p e below s QQ room_1.cells room_1.slots (T23.setTop (mkF m 41 #[.val (.long p0), .second, .val (.long p1), .second, .val (.long p2), .second, .val (.long p3), .second, .val (.int p4), .val (.long c2), .second, .val (.long d2), .second, .val (.ref b22), .unset, .unset, .unset, .unset, .unset] []))
      obtain ⟨T24, h24, X24, e24, E24, A24, D24, -, st24⟩ := newO X23 hx hZ hown (hw _ (List.mem_of_getElem? (i := 0) rfl)) (hw _ (List.mem_of_getElem? (i := 1) rfl)) (hw _ (List.mem_of_getElem? (i := 2) rfl)) rfl (g := (mkF m 41 #[.val (.long p0), .second, .val (.long p1), .second, .val (.long p2), .second, .val (.long p3), .second, .val (.int p4), .val (.long c2), .second, .val (.long d2), .second, .val (.ref b22), .unset, .unset, .unset, .unset, .unset] [])) rfl (hb hby at_41) (by decide) (by decide)
      obtain ⟨b24, g24⟩ : ∃ z, z = T23.heap.size := ⟨_, rfl⟩
      rw [← g24] at A24 D24 st24
      have ge_b24 : n0 ≤ b24 := by rw [g24]; exact ZZ
      have ne_b22_b24 : b22 ≠ b24 := by rw [g24]; exact Nat.ne_of_lt Ex_b22.lt
      refine gs st24 ?_
      show Go p e below s QQ room_1.cells room_1.slots (T24.setTop (mkF m 44 #[.val (.long p0), .second, .val (.long p1), .second, .val (.long p2), .second, .val (.long p3), .second, .val (.int p4), .val (.long c2), .second, .val (.long d2), .second, .val (.ref b22), .unset, .unset, .unset, .unset, .unset] [(.ref b24)]))
      replace OLD := OLD.ext E24
      replace Ex_b22 := Ex_b22.ext E24
      replace Fa23 := Fa23.ext E24
      replace Fb23 := Fb23.ext E24
      replace ZZ := Nat.le_trans ZZ E24.1
      have Ex_b24 := A24
      have F_device_b24 : Fld Z h24 b24 "weirline/io/FileIdentity" "device" "J" (.long (0 : Int64)) := D24 (Or.inr (hw _ (List.mem_of_getElem? (i := 15) rfl))) (ty := .long) (by decide)
      have F_inode_b24 : Fld Z h24 b24 "weirline/io/FileIdentity" "inode" "J" (.long (0 : Int64)) := D24 (Or.inr (hw _ (List.mem_of_getElem? (i := 17) rfl))) (ty := .long) (by decide)
      refine gs (fun t => XS.dup X24.here hx rfl (hb hby at_44) rfl rfl) ?_
      show Go p e below s QQ room_1.cells room_1.slots (T24.setTop (mkF m 45 #[.val (.long p0), .second, .val (.long p1), .second, .val (.long p2), .second, .val (.long p3), .second, .val (.int p4), .val (.long c2), .second, .val (.long d2), .second, .val (.ref b22), .unset, .unset, .unset, .unset, .unset] [(.ref b24), (.ref b24)]))
      refine gs (fun t => XS.lload X24.here hx rfl (hb hby at_45) rfl) ?_
      show Go p e below s QQ room_1.cells room_1.slots (T24.setTop (mkF m 47 #[.val (.long p0), .second, .val (.long p1), .second, .val (.long p2), .second, .val (.long p3), .second, .val (.int p4), .val (.long c2), .second, .val (.long d2), .second, .val (.ref b22), .unset, .unset, .unset, .unset, .unset] [(.long c2), (.ref b24), (.ref b24)]))
      refine gs (fun t => XS.lload X24.here hx rfl (hb hby at_47) rfl) ?_
      show Go p e below s QQ room_1.cells room_1.slots (T24.setTop (mkF m 49 #[.val (.long p0), .second, .val (.long p1), .second, .val (.long p2), .second, .val (.long p3), .second, .val (.int p4), .val (.long c2), .second, .val (.long d2), .second, .val (.ref b22), .unset, .unset, .unset, .unset, .unset] [(.long d2), (.long c2), (.ref b24), (.ref b24)]))
      obtain ⟨_, _, ⟨T25, L25, k25, n25⟩, -, X25, ⟨Lc25, hQ25, l25, y25, z25⟩, st25⟩ := X24.specialBack hx (y := (⟨"weirline/io/FileIdentity", "<init>", "(JJ)V"⟩ : MethodName)) rfl hown (mvT hZ (hw _ (List.mem_of_getElem? (i := 3) rfl))) (mvT hZ (hw _ (List.mem_of_getElem? (i := 4) rfl))) (mvT hZ (hw _ (List.mem_of_getElem? (i := 5) rfl))) (by decide) (backOf (W := 1) (rm1 l Z a0 hw [] b24 c2 d2 h24 n0 ZZ F_device_b24 F_inode_b24 Ex_b24 ge_b24) hZ (hw _ (List.mem_of_getElem? (i := 5) rfl)) (hw _ (List.mem_of_getElem? (i := 2) rfl)) (by decide) (by decide)) (g := (mkF m 49 #[.val (.long p0), .second, .val (.long p1), .second, .val (.long p2), .second, .val (.long p3), .second, .val (.int p4), .val (.long c2), .second, .val (.long d2), .second, .val (.ref b22), .unset, .unset, .unset, .unset, .unset] [(.long d2), (.long c2), (.ref b24), (.ref b24)])) rfl (by rw [hml]; rfl) (Steps.refl _) (a := b24) (argsL := [(.long c2), (.long d2)]) (rest := [(.ref b24)]) (lenOf pd_2 rfl) rfl (by show 2 * 0 + _ ≤ _; exact Nat.le_of_eq rfl) (hb hby at_49) (fun _ _ => ⟨rfl, e24, (by decide : 2 + 0 ≤ _), (by decide : 4 + 0 ≤ _)⟩)
      dsimp only [Pt.U, Pt.locs, Pt.cells, Pt.slots] at X25 l25 y25 z25 st25 hQ25
      subst l25 y25 z25
      obtain ⟨rfl, N25q, K25, Fa25, Fb25⟩ := hQ25
      replace N0 := Fr.app N0 N25q
      refine gt st25 ?_
      show Go p e below s QQ room_1.cells room_1.slots (T25.setTop (mkF m 52 #[.val (.long p0), .second, .val (.long p1), .second, .val (.long p2), .second, .val (.long p3), .second, .val (.int p4), .val (.long c2), .second, .val (.long d2), .second, .val (.ref b22), .unset, .unset, .unset, .unset, .unset] [(.ref b24)]))
      replace OLD := OLD.keep K25 (allS ge_b24 all0)
      replace Ex_b22 := Ex_b22.keep K25
      replace Fa23 := Fa23.keep K25 (ninS ne_b22_b24 nin0)
      replace Fb23 := Fb23.keep K25 (ninS ne_b22_b24 nin0)
      replace Ex_b24 := Ex_b24.keep K25
      replace ZZ := Nat.le_trans ZZ K25.1
      refine gs (fun t => XS.astore X25.here hx rfl (hb hby at_52) rfl rfl (l' := #[.val (.long p0), .second, .val (.long p1), .second, .val (.long p2), .second, .val (.long p3), .second, .val (.int p4), .val (.long c2), .second, .val (.long d2), .second, .val (.ref b22), .val (.ref b24), .unset, .unset, .unset, .unset]) rfl) ?_
      show Go p e below s QQ room_1.cells room_1.slots (T25.setTop (mkF m 54 #[.val (.long p0), .second, .val (.long p1), .second, .val (.long p2), .second, .val (.long p3), .second, .val (.int p4), .val (.long c2), .second, .val (.long d2), .second, .val (.ref b22), .val (.ref b24), .unset, .unset, .unset, .unset] []))
      refine gs (fun t => XS.iload X25.here hx rfl (hb hby at_54) rfl) ?_
      show Go p e below s QQ room_1.cells room_1.slots (T25.setTop (mkF m 56 #[.val (.long p0), .second, .val (.long p1), .second, .val (.long p2), .second, .val (.long p3), .second, .val (.int p4), .val (.long c2), .second, .val (.long d2), .second, .val (.ref b22), .val (.ref b24), .unset, .unset, .unset, .unset] [(.int p4)]))
      refine gs (fun t => XS.iconst X25.here hx rfl (hb hby at_56)) ?_
      show Go p e below s QQ room_1.cells room_1.slots (T25.setTop (mkF m 57 #[.val (.long p0), .second, .val (.long p1), .second, .val (.long p2), .second, .val (.long p3), .second, .val (.int p4), .val (.long c2), .second, .val (.long d2), .second, .val (.ref b22), .val (.ref b24), .unset, .unset, .unset, .unset] [(.int (2 : Int32)), (.int p4)]))
      refine gs (fun t => XS.iushr X25.here hx rfl (hb hby at_57) rfl) ?_
      show Go p e below s QQ room_1.cells room_1.slots (T25.setTop (mkF m 58 #[.val (.long p0), .second, .val (.long p1), .second, .val (.long p2), .second, .val (.long p3), .second, .val (.int p4), .val (.long c2), .second, .val (.long d2), .second, .val (.ref b22), .val (.ref b24), .unset, .unset, .unset, .unset] [(.int ((p4.toUInt32 >>> ((2 : Int32) &&& 31).toUInt32).toInt32))]))
      refine gs (fun t => XS.iconst X25.here hx rfl (hb hby at_58)) ?_
      show Go p e below s QQ room_1.cells room_1.slots (T25.setTop (mkF m 59 #[.val (.long p0), .second, .val (.long p1), .second, .val (.long p2), .second, .val (.long p3), .second, .val (.int p4), .val (.long c2), .second, .val (.long d2), .second, .val (.ref b22), .val (.ref b24), .unset, .unset, .unset, .unset] [(.int (3 : Int32)), (.int ((p4.toUInt32 >>> ((2 : Int32) &&& 31).toUInt32).toInt32))]))
      refine gs (fun t => XS.iand X25.here hx rfl (hb hby at_59) rfl) ?_
      show Go p e below s QQ room_1.cells room_1.slots (T25.setTop (mkF m 60 #[.val (.long p0), .second, .val (.long p1), .second, .val (.long p2), .second, .val (.long p3), .second, .val (.int p4), .val (.long c2), .second, .val (.long d2), .second, .val (.ref b22), .val (.ref b24), .unset, .unset, .unset, .unset] [(.int (((p4.toUInt32 >>> ((2 : Int32) &&& 31).toUInt32).toInt32) &&& (3 : Int32)))]))
      generalize hkd : (((p4.toUInt32 >>> ((2 : Int32) &&& 31).toUInt32).toInt32) &&& (3 : Int32)) = kd
      show Go p e below s QQ room_1.cells room_1.slots (T25.setTop (mkF m 60 #[.val (.long p0), .second, .val (.long p1), .second, .val (.long p2), .second, .val (.long p3), .second, .val (.int p4), .val (.long c2), .second, .val (.long d2), .second, .val (.ref b22), .val (.ref b24), .unset, .unset, .unset, .unset] [(.int kd)]))
      refine gs (fun t => XS.istore X25.here hx rfl (hb hby at_60) rfl (l' := #[.val (.long p0), .second, .val (.long p1), .second, .val (.long p2), .second, .val (.long p3), .second, .val (.int p4), .val (.long c2), .second, .val (.long d2), .second, .val (.ref b22), .val (.ref b24), .val (.int kd), .unset, .unset, .unset]) rfl) ?_
      show Go p e below s QQ room_1.cells room_1.slots (T25.setTop (mkF m 62 #[.val (.long p0), .second, .val (.long p1), .second, .val (.long p2), .second, .val (.long p3), .second, .val (.int p4), .val (.long c2), .second, .val (.long d2), .second, .val (.ref b22), .val (.ref b24), .val (.int kd), .unset, .unset, .unset] []))
      refine gs (fun t => XS.iload X25.here hx rfl (hb hby at_62) rfl) ?_
      show Go p e below s QQ room_1.cells room_1.slots (T25.setTop (mkF m 64 #[.val (.long p0), .second, .val (.long p1), .second, .val (.long p2), .second, .val (.long p3), .second, .val (.int p4), .val (.long c2), .second, .val (.long d2), .second, .val (.ref b22), .val (.ref b24), .val (.int kd), .unset, .unset, .unset] [(.int kd)]))
      by_cases hk0 : kd = (0 : Int32)
      · skip
        refine gs (fun t => XS.ifNo X25.here hx rfl (hb hby at_64) rfl ((if0 _ _).trans (teq hk0).2)) ?_
        show Go p e below s QQ room_1.cells room_1.slots (T25.setTop (mkF m 67 #[.val (.long p0), .second, .val (.long p1), .second, .val (.long p2), .second, .val (.long p3), .second, .val (.int p4), .val (.long c2), .second, .val (.long d2), .second, .val (.ref b22), .val (.ref b24), .val (.int kd), .unset, .unset, .unset] []))
        refine gs (fun t => XS.aload X25.here hx rfl (hb hby at_67) rfl rfl) ?_
        show Go p e below s QQ room_1.cells room_1.slots (T25.setTop (mkF m 69 #[.val (.long p0), .second, .val (.long p1), .second, .val (.long p2), .second, .val (.long p3), .second, .val (.int p4), .val (.long c2), .second, .val (.long d2), .second, .val (.ref b22), .val (.ref b24), .val (.int kd), .unset, .unset, .unset] [(.ref b22)]))
        refine gs (fun t => XS.aload X25.here hx rfl (hb hby at_69) rfl rfl) ?_
        show Go p e below s QQ room_1.cells room_1.slots (T25.setTop (mkF m 71 #[.val (.long p0), .second, .val (.long p1), .second, .val (.long p2), .second, .val (.long p3), .second, .val (.int p4), .val (.long c2), .second, .val (.long d2), .second, .val (.ref b22), .val (.ref b24), .val (.int kd), .unset, .unset, .unset] [(.ref b24), (.ref b22)]))
        obtain ⟨cq26, kq26, q26a, q26b, q26c⟩ := isOf hZ rfl Ex_b22
        obtain ⟨_, _, ⟨T26, L26, k26, n26⟩, -, X26, ⟨Lc26, hQ26, l26, y26, z26⟩, st26⟩ := X25.virtualBack hx (y := (⟨"weirline/io/FileIdentity", "equals", "(Ljava/lang/Object;)Z"⟩ : MethodName)) (z := (⟨"weirline/io/FileIdentity", "equals", "(Ljava/lang/Object;)Z"⟩ : MethodName)) hown (mvT hZ (hw _ (List.mem_of_getElem? (i := 18) rfl))) (mvT hZ (hw _ (List.mem_of_getElem? (i := 19) rfl))) (notFace_of_selects (args := #[]) (mvT hZ (hw _ (List.mem_of_getElem? (i := 21) rfl)))) (mvT hZ (hw _ (List.mem_of_getElem? (i := 21) rfl))) (mvT hZ (hw _ (List.mem_of_getElem? (i := 20) rfl))) (by decide) (backOf (W := 0) (rm4a l Z a0 hw [] b22 b24 p0 p1 c2 d2 T25.heap n0 ZZ Fa23 Fb23 Fa25 Fb25 Ex_b24) hZ (hw _ (List.mem_of_getElem? (i := 22) rfl)) (hw _ (List.mem_of_getElem? (i := 2) rfl)) (by decide) (by decide)) q26a q26c (g := (mkF m 71 #[.val (.long p0), .second, .val (.long p1), .second, .val (.long p2), .second, .val (.long p3), .second, .val (.int p4), .val (.long c2), .second, .val (.long d2), .second, .val (.ref b22), .val (.ref b24), .val (.int kd), .unset, .unset, .unset] [(.ref b24), (.ref b22)])) rfl (by rw [hml]; rfl) (Steps.refl _) (argsL := [(.ref b24)]) (rest := []) (lenOf pd_3 rfl) rfl (by show 2 * 0 + _ ≤ _; exact Nat.le_of_eq rfl) (hb hby at_71) (fun _ _ => ⟨rfl, rfl, (by decide : 2 + 0 ≤ _), (by decide : 4 + 0 ≤ _)⟩)
        dsimp only [Pt.U, Pt.locs, Pt.cells, Pt.slots] at X26 l26 y26 z26 st26 hQ26
        subst l26 y26 z26
        obtain ⟨rfl, N26q, e26⟩ := hQ26
        replace N0 := Fr.app N0 N26q
        refine gt st26 ?_
        show Go p e below s QQ room_1.cells room_1.slots (T26.setTop (mkF m 74 #[.val (.long p0), .second, .val (.long p1), .second, .val (.long p2), .second, .val (.long p3), .second, .val (.int p4), .val (.long c2), .second, .val (.long d2), .second, .val (.ref b22), .val (.ref b24), .val (.int kd), .unset, .unset, .unset] [(.int (if c2 = p0 ∧ d2 = p1 then 1 else 0))]))
        refine gs (fun t => XS.istore X26.here hx rfl (hb hby at_74) rfl (l' := #[.val (.long p0), .second, .val (.long p1), .second, .val (.long p2), .second, .val (.long p3), .second, .val (.int p4), .val (.long c2), .second, .val (.long d2), .second, .val (.ref b22), .val (.ref b24), .val (.int kd), .val (.int (if c2 = p0 ∧ d2 = p1 then 1 else 0)), .unset, .unset]) rfl) ?_
        show Go p e below s QQ room_1.cells room_1.slots (T26.setTop (mkF m 76 #[.val (.long p0), .second, .val (.long p1), .second, .val (.long p2), .second, .val (.long p3), .second, .val (.int p4), .val (.long c2), .second, .val (.long d2), .second, .val (.ref b22), .val (.ref b24), .val (.int kd), .val (.int (if c2 = p0 ∧ d2 = p1 then 1 else 0)), .unset, .unset] []))
        refine gs (fun t => XS.aload X26.here hx rfl (hb hby at_76) rfl rfl) ?_
        show Go p e below s QQ room_1.cells room_1.slots (T26.setTop (mkF m 78 #[.val (.long p0), .second, .val (.long p1), .second, .val (.long p2), .second, .val (.long p3), .second, .val (.int p4), .val (.long c2), .second, .val (.long d2), .second, .val (.ref b22), .val (.ref b24), .val (.int kd), .val (.int (if c2 = p0 ∧ d2 = p1 then 1 else 0)), .unset, .unset] [(.ref b24)]))
        refine gs (fun t => XS.aload X26.here hx rfl (hb hby at_78) rfl rfl) ?_
        show Go p e below s QQ room_1.cells room_1.slots (T26.setTop (mkF m 80 #[.val (.long p0), .second, .val (.long p1), .second, .val (.long p2), .second, .val (.long p3), .second, .val (.int p4), .val (.long c2), .second, .val (.long d2), .second, .val (.ref b22), .val (.ref b24), .val (.int kd), .val (.int (if c2 = p0 ∧ d2 = p1 then 1 else 0)), .unset, .unset] [(.ref b22), (.ref b24)]))
        obtain ⟨cq27, kq27, q27a, q27b, q27c⟩ := isOf hZ e26 Ex_b24
        obtain ⟨_, _, ⟨T27, L27, k27, n27⟩, -, X27, ⟨Lc27, hQ27, l27, y27, z27⟩, st27⟩ := X26.virtualBack hx (y := (⟨"weirline/io/FileIdentity", "equals", "(Ljava/lang/Object;)Z"⟩ : MethodName)) (z := (⟨"weirline/io/FileIdentity", "equals", "(Ljava/lang/Object;)Z"⟩ : MethodName)) hown (mvT hZ (hw _ (List.mem_of_getElem? (i := 18) rfl))) (mvT hZ (hw _ (List.mem_of_getElem? (i := 19) rfl))) (notFace_of_selects (args := #[]) (mvT hZ (hw _ (List.mem_of_getElem? (i := 21) rfl)))) (mvT hZ (hw _ (List.mem_of_getElem? (i := 21) rfl))) (mvT hZ (hw _ (List.mem_of_getElem? (i := 20) rfl))) (by decide) (backOf (W := 0) (rm4a l Z a0 hw [] b24 b22 c2 d2 p0 p1 T25.heap n0 ZZ Fa25 Fb25 Fa23 Fb23 Ex_b22) hZ (hw _ (List.mem_of_getElem? (i := 22) rfl)) (hw _ (List.mem_of_getElem? (i := 2) rfl)) (by decide) (by decide)) q27a q27c (g := (mkF m 80 #[.val (.long p0), .second, .val (.long p1), .second, .val (.long p2), .second, .val (.long p3), .second, .val (.int p4), .val (.long c2), .second, .val (.long d2), .second, .val (.ref b22), .val (.ref b24), .val (.int kd), .val (.int (if c2 = p0 ∧ d2 = p1 then 1 else 0)), .unset, .unset] [(.ref b22), (.ref b24)])) rfl (by rw [hml]; rfl) (Steps.refl _) (argsL := [(.ref b22)]) (rest := []) (lenOf pd_3 rfl) rfl (by show 2 * 0 + _ ≤ _; exact Nat.le_of_eq rfl) (hb hby at_80) (fun _ _ => ⟨rfl, e26, (by decide : 2 + 0 ≤ _), (by decide : 4 + 0 ≤ _)⟩)
        dsimp only [Pt.U, Pt.locs, Pt.cells, Pt.slots] at X27 l27 y27 z27 st27 hQ27
        subst l27 y27 z27
        obtain ⟨rfl, N27q, e27⟩ := hQ27
        replace N0 := Fr.app N0 N27q
        refine gt st27 ?_
        show Go p e below s QQ room_1.cells room_1.slots (T27.setTop (mkF m 83 #[.val (.long p0), .second, .val (.long p1), .second, .val (.long p2), .second, .val (.long p3), .second, .val (.int p4), .val (.long c2), .second, .val (.long d2), .second, .val (.ref b22), .val (.ref b24), .val (.int kd), .val (.int (if c2 = p0 ∧ d2 = p1 then 1 else 0)), .unset, .unset] [(.int (if p0 = c2 ∧ p1 = d2 then 1 else 0))]))
        refine gs (fun t => XS.istore X27.here hx rfl (hb hby at_83) rfl (l' := #[.val (.long p0), .second, .val (.long p1), .second, .val (.long p2), .second, .val (.long p3), .second, .val (.int p4), .val (.long c2), .second, .val (.long d2), .second, .val (.ref b22), .val (.ref b24), .val (.int kd), .val (.int (if c2 = p0 ∧ d2 = p1 then 1 else 0)), .val (.int (if p0 = c2 ∧ p1 = d2 then 1 else 0)), .unset]) rfl) ?_
        show Go p e below s QQ room_1.cells room_1.slots (T27.setTop (mkF m 85 #[.val (.long p0), .second, .val (.long p1), .second, .val (.long p2), .second, .val (.long p3), .second, .val (.int p4), .val (.long c2), .second, .val (.long d2), .second, .val (.ref b22), .val (.ref b24), .val (.int kd), .val (.int (if c2 = p0 ∧ d2 = p1 then 1 else 0)), .val (.int (if p0 = c2 ∧ p1 = d2 then 1 else 0)), .unset] []))
        refine gs (fun t => XS.lloadN X27.here hx rfl (hb hby at_85) rfl) ?_
        show Go p e below s QQ room_1.cells room_1.slots (T27.setTop (mkF m 86 #[.val (.long p0), .second, .val (.long p1), .second, .val (.long p2), .second, .val (.long p3), .second, .val (.int p4), .val (.long c2), .second, .val (.long d2), .second, .val (.ref b22), .val (.ref b24), .val (.int kd), .val (.int (if c2 = p0 ∧ d2 = p1 then 1 else 0)), .val (.int (if p0 = c2 ∧ p1 = d2 then 1 else 0)), .unset] [(.long p0)]))
        refine gs (fun t => XS.lload X27.here hx rfl (hb hby at_86) rfl) ?_
        show Go p e below s QQ room_1.cells room_1.slots (T27.setTop (mkF m 88 #[.val (.long p0), .second, .val (.long p1), .second, .val (.long p2), .second, .val (.long p3), .second, .val (.int p4), .val (.long c2), .second, .val (.long d2), .second, .val (.ref b22), .val (.ref b24), .val (.int kd), .val (.int (if c2 = p0 ∧ d2 = p1 then 1 else 0)), .val (.int (if p0 = c2 ∧ p1 = d2 then 1 else 0)), .unset] [(.long c2), (.long p0)]))
        refine gs (fun t => XS.lcmp X27.here hx rfl (hb hby at_88) rfl) ?_
        show Go p e below s QQ room_1.cells room_1.slots (T27.setTop (mkF m 89 #[.val (.long p0), .second, .val (.long p1), .second, .val (.long p2), .second, .val (.long p3), .second, .val (.int p4), .val (.long c2), .second, .val (.long d2), .second, .val (.ref b22), .val (.ref b24), .val (.int kd), .val (.int (if c2 = p0 ∧ d2 = p1 then 1 else 0)), .val (.int (if p0 = c2 ∧ p1 = d2 then 1 else 0)), .unset] [(.int (lcmpW p0 c2))]))
        by_cases h1 : (lcmpW p0 c2) = (0 : Int32)
        · skip
          refine gs (fun t => XS.ifNo X27.here hx rfl (hb hby at_89) rfl ((if0 _ _).trans (teq h1).2)) ?_
          show Go p e below s QQ room_1.cells room_1.slots (T27.setTop (mkF m 92 #[.val (.long p0), .second, .val (.long p1), .second, .val (.long p2), .second, .val (.long p3), .second, .val (.int p4), .val (.long c2), .second, .val (.long d2), .second, .val (.ref b22), .val (.ref b24), .val (.int kd), .val (.int (if c2 = p0 ∧ d2 = p1 then 1 else 0)), .val (.int (if p0 = c2 ∧ p1 = d2 then 1 else 0)), .unset] []))
          refine gs (fun t => XS.lloadN X27.here hx rfl (hb hby at_92) rfl) ?_
          show Go p e below s QQ room_1.cells room_1.slots (T27.setTop (mkF m 93 #[.val (.long p0), .second, .val (.long p1), .second, .val (.long p2), .second, .val (.long p3), .second, .val (.int p4), .val (.long c2), .second, .val (.long d2), .second, .val (.ref b22), .val (.ref b24), .val (.int kd), .val (.int (if c2 = p0 ∧ d2 = p1 then 1 else 0)), .val (.int (if p0 = c2 ∧ p1 = d2 then 1 else 0)), .unset] [(.long p1)]))
          refine gs (fun t => XS.lload X27.here hx rfl (hb hby at_93) rfl) ?_
          show Go p e below s QQ room_1.cells room_1.slots (T27.setTop (mkF m 95 #[.val (.long p0), .second, .val (.long p1), .second, .val (.long p2), .second, .val (.long p3), .second, .val (.int p4), .val (.long c2), .second, .val (.long d2), .second, .val (.ref b22), .val (.ref b24), .val (.int kd), .val (.int (if c2 = p0 ∧ d2 = p1 then 1 else 0)), .val (.int (if p0 = c2 ∧ p1 = d2 then 1 else 0)), .unset] [(.long d2), (.long p1)]))
          refine gs (fun t => XS.lcmp X27.here hx rfl (hb hby at_95) rfl) ?_
          show Go p e below s QQ room_1.cells room_1.slots (T27.setTop (mkF m 96 #[.val (.long p0), .second, .val (.long p1), .second, .val (.long p2), .second, .val (.long p3), .second, .val (.int p4), .val (.long c2), .second, .val (.long d2), .second, .val (.ref b22), .val (.ref b24), .val (.int kd), .val (.int (if c2 = p0 ∧ d2 = p1 then 1 else 0)), .val (.int (if p0 = c2 ∧ p1 = d2 then 1 else 0)), .unset] [(.int (lcmpW p1 d2))]))
          by_cases h2 : (lcmpW p1 d2) = (0 : Int32)
          · skip
            refine gs (fun t => XS.ifNo X27.here hx rfl (hb hby at_96) rfl ((if0 _ _).trans (teq h2).2)) ?_
            show Go p e below s QQ room_1.cells room_1.slots (T27.setTop (mkF m 99 #[.val (.long p0), .second, .val (.long p1), .second, .val (.long p2), .second, .val (.long p3), .second, .val (.int p4), .val (.long c2), .second, .val (.long d2), .second, .val (.ref b22), .val (.ref b24), .val (.int kd), .val (.int (if c2 = p0 ∧ d2 = p1 then 1 else 0)), .val (.int (if p0 = c2 ∧ p1 = d2 then 1 else 0)), .unset] []))
            refine gs (fun t => XS.iconst X27.here hx rfl (hb hby at_99)) ?_
            show Go p e below s QQ room_1.cells room_1.slots (T27.setTop (mkF m 100 #[.val (.long p0), .second, .val (.long p1), .second, .val (.long p2), .second, .val (.long p3), .second, .val (.int p4), .val (.long c2), .second, .val (.long d2), .second, .val (.ref b22), .val (.ref b24), .val (.int kd), .val (.int (if c2 = p0 ∧ d2 = p1 then 1 else 0)), .val (.int (if p0 = c2 ∧ p1 = d2 then 1 else 0)), .unset] [(.int (1 : Int32))]))
            refine gs (fun t => XS.goto X27.here hx rfl (pc0 := 100) (pc' := 104) rfl (hb hby at_100) (by decide) (by decide)) ?_
            show Go p e below s QQ room_1.cells room_1.slots (T27.setTop (mkF m 104 #[.val (.long p0), .second, .val (.long p1), .second, .val (.long p2), .second, .val (.long p3), .second, .val (.int p4), .val (.long c2), .second, .val (.long d2), .second, .val (.ref b22), .val (.ref b24), .val (.int kd), .val (.int (if c2 = p0 ∧ d2 = p1 then 1 else 0)), .val (.int (if p0 = c2 ∧ p1 = d2 then 1 else 0)), .unset] [(.int (1 : Int32))]))
            refine gs (fun t => XS.istore X27.here hx rfl (hb hby at_104) rfl (l' := #[.val (.long p0), .second, .val (.long p1), .second, .val (.long p2), .second, .val (.long p3), .second, .val (.int p4), .val (.long c2), .second, .val (.long d2), .second, .val (.ref b22), .val (.ref b24), .val (.int kd), .val (.int (if c2 = p0 ∧ d2 = p1 then 1 else 0)), .val (.int (if p0 = c2 ∧ p1 = d2 then 1 else 0)), .val (.int (1 : Int32))]) rfl) ?_
            show Go p e below s QQ room_1.cells room_1.slots (T27.setTop (mkF m 106 #[.val (.long p0), .second, .val (.long p1), .second, .val (.long p2), .second, .val (.long p3), .second, .val (.int p4), .val (.long c2), .second, .val (.long d2), .second, .val (.ref b22), .val (.ref b24), .val (.int kd), .val (.int (if c2 = p0 ∧ d2 = p1 then 1 else 0)), .val (.int (if p0 = c2 ∧ p1 = d2 then 1 else 0)), .val (.int (1 : Int32))] []))
            refine gs (fun t => XS.iload X27.here hx rfl (hb hby at_106) rfl) ?_
            show Go p e below s QQ room_1.cells room_1.slots (T27.setTop (mkF m 108 #[.val (.long p0), .second, .val (.long p1), .second, .val (.long p2), .second, .val (.long p3), .second, .val (.int p4), .val (.long c2), .second, .val (.long d2), .second, .val (.ref b22), .val (.ref b24), .val (.int kd), .val (.int (if c2 = p0 ∧ d2 = p1 then 1 else 0)), .val (.int (if p0 = c2 ∧ p1 = d2 then 1 else 0)), .val (.int (1 : Int32))] [(.int (if c2 = p0 ∧ d2 = p1 then 1 else 0))]))
            refine gs (fun t => XS.iload X27.here hx rfl (hb hby at_108) rfl) ?_
            show Go p e below s QQ room_1.cells room_1.slots (T27.setTop (mkF m 110 #[.val (.long p0), .second, .val (.long p1), .second, .val (.long p2), .second, .val (.long p3), .second, .val (.int p4), .val (.long c2), .second, .val (.long d2), .second, .val (.ref b22), .val (.ref b24), .val (.int kd), .val (.int (if c2 = p0 ∧ d2 = p1 then 1 else 0)), .val (.int (if p0 = c2 ∧ p1 = d2 then 1 else 0)), .val (.int (1 : Int32))] [(.int (1 : Int32)), (.int (if c2 = p0 ∧ d2 = p1 then 1 else 0))]))
            have g1 := (lw_eq _ _).mp h1
            have g2 : p1 = d2 := (lw_eq _ _).mp h2
            refine gs (fun t => XS.icmpNo X27.here hx rfl (hb hby at_110) rfl (teq (by subst g1; simp [g2] : (if c2 = p0 ∧ d2 = p1 then 1 else 0) = (1 : Int32))).2) ?_
            show Go p e below s QQ room_1.cells room_1.slots (T27.setTop (mkF m 113 #[.val (.long p0), .second, .val (.long p1), .second, .val (.long p2), .second, .val (.long p3), .second, .val (.int p4), .val (.long c2), .second, .val (.long d2), .second, .val (.ref b22), .val (.ref b24), .val (.int kd), .val (.int (if c2 = p0 ∧ d2 = p1 then 1 else 0)), .val (.int (if p0 = c2 ∧ p1 = d2 then 1 else 0)), .val (.int (1 : Int32))] []))
            refine gs (fun t => XS.iload X27.here hx rfl (hb hby at_113) rfl) ?_
            show Go p e below s QQ room_1.cells room_1.slots (T27.setTop (mkF m 115 #[.val (.long p0), .second, .val (.long p1), .second, .val (.long p2), .second, .val (.long p3), .second, .val (.int p4), .val (.long c2), .second, .val (.long d2), .second, .val (.ref b22), .val (.ref b24), .val (.int kd), .val (.int (if c2 = p0 ∧ d2 = p1 then 1 else 0)), .val (.int (if p0 = c2 ∧ p1 = d2 then 1 else 0)), .val (.int (1 : Int32))] [(.int (if p0 = c2 ∧ p1 = d2 then 1 else 0))]))
            refine gs (fun t => XS.iload X27.here hx rfl (hb hby at_115) rfl) ?_
            show Go p e below s QQ room_1.cells room_1.slots (T27.setTop (mkF m 117 #[.val (.long p0), .second, .val (.long p1), .second, .val (.long p2), .second, .val (.long p3), .second, .val (.int p4), .val (.long c2), .second, .val (.long d2), .second, .val (.ref b22), .val (.ref b24), .val (.int kd), .val (.int (if c2 = p0 ∧ d2 = p1 then 1 else 0)), .val (.int (if p0 = c2 ∧ p1 = d2 then 1 else 0)), .val (.int (1 : Int32))] [(.int (1 : Int32)), (.int (if p0 = c2 ∧ p1 = d2 then 1 else 0))]))
            refine gs (fun t => XS.icmpNo X27.here hx rfl (hb hby at_117) rfl (teq (by subst g1; simp [g2] : (if p0 = c2 ∧ p1 = d2 then 1 else 0) = (1 : Int32))).2) ?_
            show Go p e below s QQ room_1.cells room_1.slots (T27.setTop (mkF m 120 #[.val (.long p0), .second, .val (.long p1), .second, .val (.long p2), .second, .val (.long p3), .second, .val (.int p4), .val (.long c2), .second, .val (.long d2), .second, .val (.ref b22), .val (.ref b24), .val (.int kd), .val (.int (if c2 = p0 ∧ d2 = p1 then 1 else 0)), .val (.int (if p0 = c2 ∧ p1 = d2 then 1 else 0)), .val (.int (1 : Int32))] []))
            refine gs (fun t => XS.iconst X27.here hx rfl (hb hby at_120)) ?_
            show Go p e below s QQ room_1.cells room_1.slots (T27.setTop (mkF m 121 #[.val (.long p0), .second, .val (.long p1), .second, .val (.long p2), .second, .val (.long p3), .second, .val (.int p4), .val (.long c2), .second, .val (.long d2), .second, .val (.ref b22), .val (.ref b24), .val (.int kd), .val (.int (if c2 = p0 ∧ d2 = p1 then 1 else 0)), .val (.int (if p0 = c2 ∧ p1 = d2 then 1 else 0)), .val (.int (1 : Int32))] [(.int (1 : Int32))]))
            refine gs (fun t => XS.goto X27.here hx rfl (pc0 := 121) (pc' := 125) rfl (hb hby at_121) (by decide) (by decide)) ?_
            show Go p e below s QQ room_1.cells room_1.slots (T27.setTop (mkF m 125 #[.val (.long p0), .second, .val (.long p1), .second, .val (.long p2), .second, .val (.long p3), .second, .val (.int p4), .val (.long c2), .second, .val (.long d2), .second, .val (.ref b22), .val (.ref b24), .val (.int kd), .val (.int (if c2 = p0 ∧ d2 = p1 then 1 else 0)), .val (.int (if p0 = c2 ∧ p1 = d2 then 1 else 0)), .val (.int (1 : Int32))] [(.int (1 : Int32))]))
            exact goB X27 hx Bd.notSynchronized Bd.returns (by simp) (w := (1 : Int32)) (by first | rfl | decide) (hb hby at_125) (by rw [← hQQ, e27]; exact ⟨rfl, N0⟩) (by decide) (by decide)
          · skip
            refine gs (fun t => XS.ifYes X27.here hx rfl (pc0 := 96) (pc' := 103) rfl (hb hby at_96) rfl ((if0 _ _).trans (feq h2).2) (by decide) (by decide)) ?_
            show Go p e below s QQ room_1.cells room_1.slots (T27.setTop (mkF m 103 #[.val (.long p0), .second, .val (.long p1), .second, .val (.long p2), .second, .val (.long p3), .second, .val (.int p4), .val (.long c2), .second, .val (.long d2), .second, .val (.ref b22), .val (.ref b24), .val (.int kd), .val (.int (if c2 = p0 ∧ d2 = p1 then 1 else 0)), .val (.int (if p0 = c2 ∧ p1 = d2 then 1 else 0)), .unset] []))
            refine gs (fun t => XS.iconst X27.here hx rfl (hb hby at_103)) ?_
            show Go p e below s QQ room_1.cells room_1.slots (T27.setTop (mkF m 104 #[.val (.long p0), .second, .val (.long p1), .second, .val (.long p2), .second, .val (.long p3), .second, .val (.int p4), .val (.long c2), .second, .val (.long d2), .second, .val (.ref b22), .val (.ref b24), .val (.int kd), .val (.int (if c2 = p0 ∧ d2 = p1 then 1 else 0)), .val (.int (if p0 = c2 ∧ p1 = d2 then 1 else 0)), .unset] [(.int (0 : Int32))]))
            refine gs (fun t => XS.istore X27.here hx rfl (hb hby at_104) rfl (l' := #[.val (.long p0), .second, .val (.long p1), .second, .val (.long p2), .second, .val (.long p3), .second, .val (.int p4), .val (.long c2), .second, .val (.long d2), .second, .val (.ref b22), .val (.ref b24), .val (.int kd), .val (.int (if c2 = p0 ∧ d2 = p1 then 1 else 0)), .val (.int (if p0 = c2 ∧ p1 = d2 then 1 else 0)), .val (.int (0 : Int32))]) rfl) ?_
            show Go p e below s QQ room_1.cells room_1.slots (T27.setTop (mkF m 106 #[.val (.long p0), .second, .val (.long p1), .second, .val (.long p2), .second, .val (.long p3), .second, .val (.int p4), .val (.long c2), .second, .val (.long d2), .second, .val (.ref b22), .val (.ref b24), .val (.int kd), .val (.int (if c2 = p0 ∧ d2 = p1 then 1 else 0)), .val (.int (if p0 = c2 ∧ p1 = d2 then 1 else 0)), .val (.int (0 : Int32))] []))
            refine gs (fun t => XS.iload X27.here hx rfl (hb hby at_106) rfl) ?_
            show Go p e below s QQ room_1.cells room_1.slots (T27.setTop (mkF m 108 #[.val (.long p0), .second, .val (.long p1), .second, .val (.long p2), .second, .val (.long p3), .second, .val (.int p4), .val (.long c2), .second, .val (.long d2), .second, .val (.ref b22), .val (.ref b24), .val (.int kd), .val (.int (if c2 = p0 ∧ d2 = p1 then 1 else 0)), .val (.int (if p0 = c2 ∧ p1 = d2 then 1 else 0)), .val (.int (0 : Int32))] [(.int (if c2 = p0 ∧ d2 = p1 then 1 else 0))]))
            refine gs (fun t => XS.iload X27.here hx rfl (hb hby at_108) rfl) ?_
            show Go p e below s QQ room_1.cells room_1.slots (T27.setTop (mkF m 110 #[.val (.long p0), .second, .val (.long p1), .second, .val (.long p2), .second, .val (.long p3), .second, .val (.int p4), .val (.long c2), .second, .val (.long d2), .second, .val (.ref b22), .val (.ref b24), .val (.int kd), .val (.int (if c2 = p0 ∧ d2 = p1 then 1 else 0)), .val (.int (if p0 = c2 ∧ p1 = d2 then 1 else 0)), .val (.int (0 : Int32))] [(.int (0 : Int32)), (.int (if c2 = p0 ∧ d2 = p1 then 1 else 0))]))
            have g1 := (lw_eq _ _).mp h1
            have g2 : ¬ (p1 = d2) := fun q => h2 ((lw_eq _ _).mpr q)
            refine gs (fun t => XS.icmpNo X27.here hx rfl (hb hby at_110) rfl (teq (by subst g1; simp [g2]; exact fun q => g2 q.symm : (if c2 = p0 ∧ d2 = p1 then 1 else 0) = (0 : Int32))).2) ?_
            show Go p e below s QQ room_1.cells room_1.slots (T27.setTop (mkF m 113 #[.val (.long p0), .second, .val (.long p1), .second, .val (.long p2), .second, .val (.long p3), .second, .val (.int p4), .val (.long c2), .second, .val (.long d2), .second, .val (.ref b22), .val (.ref b24), .val (.int kd), .val (.int (if c2 = p0 ∧ d2 = p1 then 1 else 0)), .val (.int (if p0 = c2 ∧ p1 = d2 then 1 else 0)), .val (.int (0 : Int32))] []))
            refine gs (fun t => XS.iload X27.here hx rfl (hb hby at_113) rfl) ?_
            show Go p e below s QQ room_1.cells room_1.slots (T27.setTop (mkF m 115 #[.val (.long p0), .second, .val (.long p1), .second, .val (.long p2), .second, .val (.long p3), .second, .val (.int p4), .val (.long c2), .second, .val (.long d2), .second, .val (.ref b22), .val (.ref b24), .val (.int kd), .val (.int (if c2 = p0 ∧ d2 = p1 then 1 else 0)), .val (.int (if p0 = c2 ∧ p1 = d2 then 1 else 0)), .val (.int (0 : Int32))] [(.int (if p0 = c2 ∧ p1 = d2 then 1 else 0))]))
            refine gs (fun t => XS.iload X27.here hx rfl (hb hby at_115) rfl) ?_
            show Go p e below s QQ room_1.cells room_1.slots (T27.setTop (mkF m 117 #[.val (.long p0), .second, .val (.long p1), .second, .val (.long p2), .second, .val (.long p3), .second, .val (.int p4), .val (.long c2), .second, .val (.long d2), .second, .val (.ref b22), .val (.ref b24), .val (.int kd), .val (.int (if c2 = p0 ∧ d2 = p1 then 1 else 0)), .val (.int (if p0 = c2 ∧ p1 = d2 then 1 else 0)), .val (.int (0 : Int32))] [(.int (0 : Int32)), (.int (if p0 = c2 ∧ p1 = d2 then 1 else 0))]))
            refine gs (fun t => XS.icmpNo X27.here hx rfl (hb hby at_117) rfl (teq (by subst g1; simp [g2] : (if p0 = c2 ∧ p1 = d2 then 1 else 0) = (0 : Int32))).2) ?_
            show Go p e below s QQ room_1.cells room_1.slots (T27.setTop (mkF m 120 #[.val (.long p0), .second, .val (.long p1), .second, .val (.long p2), .second, .val (.long p3), .second, .val (.int p4), .val (.long c2), .second, .val (.long d2), .second, .val (.ref b22), .val (.ref b24), .val (.int kd), .val (.int (if c2 = p0 ∧ d2 = p1 then 1 else 0)), .val (.int (if p0 = c2 ∧ p1 = d2 then 1 else 0)), .val (.int (0 : Int32))] []))
            refine gs (fun t => XS.iconst X27.here hx rfl (hb hby at_120)) ?_
            show Go p e below s QQ room_1.cells room_1.slots (T27.setTop (mkF m 121 #[.val (.long p0), .second, .val (.long p1), .second, .val (.long p2), .second, .val (.long p3), .second, .val (.int p4), .val (.long c2), .second, .val (.long d2), .second, .val (.ref b22), .val (.ref b24), .val (.int kd), .val (.int (if c2 = p0 ∧ d2 = p1 then 1 else 0)), .val (.int (if p0 = c2 ∧ p1 = d2 then 1 else 0)), .val (.int (0 : Int32))] [(.int (1 : Int32))]))
            refine gs (fun t => XS.goto X27.here hx rfl (pc0 := 121) (pc' := 125) rfl (hb hby at_121) (by decide) (by decide)) ?_
            show Go p e below s QQ room_1.cells room_1.slots (T27.setTop (mkF m 125 #[.val (.long p0), .second, .val (.long p1), .second, .val (.long p2), .second, .val (.long p3), .second, .val (.int p4), .val (.long c2), .second, .val (.long d2), .second, .val (.ref b22), .val (.ref b24), .val (.int kd), .val (.int (if c2 = p0 ∧ d2 = p1 then 1 else 0)), .val (.int (if p0 = c2 ∧ p1 = d2 then 1 else 0)), .val (.int (0 : Int32))] [(.int (1 : Int32))]))
            exact goB X27 hx Bd.notSynchronized Bd.returns (by simp) (w := (1 : Int32)) (by first | rfl | decide) (hb hby at_125) (by rw [← hQQ, e27]; exact ⟨rfl, N0⟩) (by decide) (by decide)
        · skip
          refine gs (fun t => XS.ifYes X27.here hx rfl (pc0 := 89) (pc' := 103) rfl (hb hby at_89) rfl ((if0 _ _).trans (feq h1).2) (by decide) (by decide)) ?_
          show Go p e below s QQ room_1.cells room_1.slots (T27.setTop (mkF m 103 #[.val (.long p0), .second, .val (.long p1), .second, .val (.long p2), .second, .val (.long p3), .second, .val (.int p4), .val (.long c2), .second, .val (.long d2), .second, .val (.ref b22), .val (.ref b24), .val (.int kd), .val (.int (if c2 = p0 ∧ d2 = p1 then 1 else 0)), .val (.int (if p0 = c2 ∧ p1 = d2 then 1 else 0)), .unset] []))
          refine gs (fun t => XS.iconst X27.here hx rfl (hb hby at_103)) ?_
          show Go p e below s QQ room_1.cells room_1.slots (T27.setTop (mkF m 104 #[.val (.long p0), .second, .val (.long p1), .second, .val (.long p2), .second, .val (.long p3), .second, .val (.int p4), .val (.long c2), .second, .val (.long d2), .second, .val (.ref b22), .val (.ref b24), .val (.int kd), .val (.int (if c2 = p0 ∧ d2 = p1 then 1 else 0)), .val (.int (if p0 = c2 ∧ p1 = d2 then 1 else 0)), .unset] [(.int (0 : Int32))]))
          refine gs (fun t => XS.istore X27.here hx rfl (hb hby at_104) rfl (l' := #[.val (.long p0), .second, .val (.long p1), .second, .val (.long p2), .second, .val (.long p3), .second, .val (.int p4), .val (.long c2), .second, .val (.long d2), .second, .val (.ref b22), .val (.ref b24), .val (.int kd), .val (.int (if c2 = p0 ∧ d2 = p1 then 1 else 0)), .val (.int (if p0 = c2 ∧ p1 = d2 then 1 else 0)), .val (.int (0 : Int32))]) rfl) ?_
          show Go p e below s QQ room_1.cells room_1.slots (T27.setTop (mkF m 106 #[.val (.long p0), .second, .val (.long p1), .second, .val (.long p2), .second, .val (.long p3), .second, .val (.int p4), .val (.long c2), .second, .val (.long d2), .second, .val (.ref b22), .val (.ref b24), .val (.int kd), .val (.int (if c2 = p0 ∧ d2 = p1 then 1 else 0)), .val (.int (if p0 = c2 ∧ p1 = d2 then 1 else 0)), .val (.int (0 : Int32))] []))
          refine gs (fun t => XS.iload X27.here hx rfl (hb hby at_106) rfl) ?_
          show Go p e below s QQ room_1.cells room_1.slots (T27.setTop (mkF m 108 #[.val (.long p0), .second, .val (.long p1), .second, .val (.long p2), .second, .val (.long p3), .second, .val (.int p4), .val (.long c2), .second, .val (.long d2), .second, .val (.ref b22), .val (.ref b24), .val (.int kd), .val (.int (if c2 = p0 ∧ d2 = p1 then 1 else 0)), .val (.int (if p0 = c2 ∧ p1 = d2 then 1 else 0)), .val (.int (0 : Int32))] [(.int (if c2 = p0 ∧ d2 = p1 then 1 else 0))]))
          refine gs (fun t => XS.iload X27.here hx rfl (hb hby at_108) rfl) ?_
          show Go p e below s QQ room_1.cells room_1.slots (T27.setTop (mkF m 110 #[.val (.long p0), .second, .val (.long p1), .second, .val (.long p2), .second, .val (.long p3), .second, .val (.int p4), .val (.long c2), .second, .val (.long d2), .second, .val (.ref b22), .val (.ref b24), .val (.int kd), .val (.int (if c2 = p0 ∧ d2 = p1 then 1 else 0)), .val (.int (if p0 = c2 ∧ p1 = d2 then 1 else 0)), .val (.int (0 : Int32))] [(.int (0 : Int32)), (.int (if c2 = p0 ∧ d2 = p1 then 1 else 0))]))
          have g1 : ¬ (p0 = c2) := fun q => h1 ((lw_eq _ _).mpr q)
          have g1' : ¬ (c2 = p0) := fun q => g1 q.symm
          refine gs (fun t => XS.icmpNo X27.here hx rfl (hb hby at_110) rfl (teq (by simp [g1'] : (if c2 = p0 ∧ d2 = p1 then 1 else 0) = (0 : Int32))).2) ?_
          show Go p e below s QQ room_1.cells room_1.slots (T27.setTop (mkF m 113 #[.val (.long p0), .second, .val (.long p1), .second, .val (.long p2), .second, .val (.long p3), .second, .val (.int p4), .val (.long c2), .second, .val (.long d2), .second, .val (.ref b22), .val (.ref b24), .val (.int kd), .val (.int (if c2 = p0 ∧ d2 = p1 then 1 else 0)), .val (.int (if p0 = c2 ∧ p1 = d2 then 1 else 0)), .val (.int (0 : Int32))] []))
          refine gs (fun t => XS.iload X27.here hx rfl (hb hby at_113) rfl) ?_
          show Go p e below s QQ room_1.cells room_1.slots (T27.setTop (mkF m 115 #[.val (.long p0), .second, .val (.long p1), .second, .val (.long p2), .second, .val (.long p3), .second, .val (.int p4), .val (.long c2), .second, .val (.long d2), .second, .val (.ref b22), .val (.ref b24), .val (.int kd), .val (.int (if c2 = p0 ∧ d2 = p1 then 1 else 0)), .val (.int (if p0 = c2 ∧ p1 = d2 then 1 else 0)), .val (.int (0 : Int32))] [(.int (if p0 = c2 ∧ p1 = d2 then 1 else 0))]))
          refine gs (fun t => XS.iload X27.here hx rfl (hb hby at_115) rfl) ?_
          show Go p e below s QQ room_1.cells room_1.slots (T27.setTop (mkF m 117 #[.val (.long p0), .second, .val (.long p1), .second, .val (.long p2), .second, .val (.long p3), .second, .val (.int p4), .val (.long c2), .second, .val (.long d2), .second, .val (.ref b22), .val (.ref b24), .val (.int kd), .val (.int (if c2 = p0 ∧ d2 = p1 then 1 else 0)), .val (.int (if p0 = c2 ∧ p1 = d2 then 1 else 0)), .val (.int (0 : Int32))] [(.int (0 : Int32)), (.int (if p0 = c2 ∧ p1 = d2 then 1 else 0))]))
          refine gs (fun t => XS.icmpNo X27.here hx rfl (hb hby at_117) rfl (teq (by simp [g1] : (if p0 = c2 ∧ p1 = d2 then 1 else 0) = (0 : Int32))).2) ?_
          show Go p e below s QQ room_1.cells room_1.slots (T27.setTop (mkF m 120 #[.val (.long p0), .second, .val (.long p1), .second, .val (.long p2), .second, .val (.long p3), .second, .val (.int p4), .val (.long c2), .second, .val (.long d2), .second, .val (.ref b22), .val (.ref b24), .val (.int kd), .val (.int (if c2 = p0 ∧ d2 = p1 then 1 else 0)), .val (.int (if p0 = c2 ∧ p1 = d2 then 1 else 0)), .val (.int (0 : Int32))] []))
          refine gs (fun t => XS.iconst X27.here hx rfl (hb hby at_120)) ?_
          show Go p e below s QQ room_1.cells room_1.slots (T27.setTop (mkF m 121 #[.val (.long p0), .second, .val (.long p1), .second, .val (.long p2), .second, .val (.long p3), .second, .val (.int p4), .val (.long c2), .second, .val (.long d2), .second, .val (.ref b22), .val (.ref b24), .val (.int kd), .val (.int (if c2 = p0 ∧ d2 = p1 then 1 else 0)), .val (.int (if p0 = c2 ∧ p1 = d2 then 1 else 0)), .val (.int (0 : Int32))] [(.int (1 : Int32))]))
          refine gs (fun t => XS.goto X27.here hx rfl (pc0 := 121) (pc' := 125) rfl (hb hby at_121) (by decide) (by decide)) ?_
          show Go p e below s QQ room_1.cells room_1.slots (T27.setTop (mkF m 125 #[.val (.long p0), .second, .val (.long p1), .second, .val (.long p2), .second, .val (.long p3), .second, .val (.int p4), .val (.long c2), .second, .val (.long d2), .second, .val (.ref b22), .val (.ref b24), .val (.int kd), .val (.int (if c2 = p0 ∧ d2 = p1 then 1 else 0)), .val (.int (if p0 = c2 ∧ p1 = d2 then 1 else 0)), .val (.int (0 : Int32))] [(.int (1 : Int32))]))
          exact goB X27 hx Bd.notSynchronized Bd.returns (by simp) (w := (1 : Int32)) (by first | rfl | decide) (hb hby at_125) (by rw [← hQQ, e27]; exact ⟨rfl, N0⟩) (by decide) (by decide)
      · skip
        refine gs (fun t => XS.ifYes X25.here hx rfl (pc0 := 64) (pc' := 126) rfl (hb hby at_64) rfl ((if0 _ _).trans (feq hk0).2) (by decide) (by decide)) ?_
        show Go p e below s QQ room_1.cells room_1.slots (T25.setTop (mkF m 126 #[.val (.long p0), .second, .val (.long p1), .second, .val (.long p2), .second, .val (.long p3), .second, .val (.int p4), .val (.long c2), .second, .val (.long d2), .second, .val (.ref b22), .val (.ref b24), .val (.int kd), .unset, .unset, .unset] []))
        refine gs (fun t => XS.iload X25.here hx rfl (hb hby at_126) rfl) ?_
        show Go p e below s QQ room_1.cells room_1.slots (T25.setTop (mkF m 128 #[.val (.long p0), .second, .val (.long p1), .second, .val (.long p2), .second, .val (.long p3), .second, .val (.int p4), .val (.long c2), .second, .val (.long d2), .second, .val (.ref b22), .val (.ref b24), .val (.int kd), .unset, .unset, .unset] [(.int kd)]))
        refine gs (fun t => XS.iconst X25.here hx rfl (hb hby at_128)) ?_
        show Go p e below s QQ room_1.cells room_1.slots (T25.setTop (mkF m 129 #[.val (.long p0), .second, .val (.long p1), .second, .val (.long p2), .second, .val (.long p3), .second, .val (.int p4), .val (.long c2), .second, .val (.long d2), .second, .val (.ref b22), .val (.ref b24), .val (.int kd), .unset, .unset, .unset] [(.int (1 : Int32)), (.int kd)]))
        by_cases hk1 : kd = (1 : Int32)
        · skip
          refine gs (fun t => XS.icmpNo X25.here hx rfl (hb hby at_129) rfl (teq hk1).2) ?_
          show Go p e below s QQ room_1.cells room_1.slots (T25.setTop (mkF m 132 #[.val (.long p0), .second, .val (.long p1), .second, .val (.long p2), .second, .val (.long p3), .second, .val (.int p4), .val (.long c2), .second, .val (.long d2), .second, .val (.ref b22), .val (.ref b24), .val (.int kd), .unset, .unset, .unset] []))
          refine gs (fun t => XS.aload X25.here hx rfl (hb hby at_132) rfl rfl) ?_
          show Go p e below s QQ room_1.cells room_1.slots (T25.setTop (mkF m 134 #[.val (.long p0), .second, .val (.long p1), .second, .val (.long p2), .second, .val (.long p3), .second, .val (.int p4), .val (.long c2), .second, .val (.long d2), .second, .val (.ref b22), .val (.ref b24), .val (.int kd), .unset, .unset, .unset] [(.ref b22)]))
          refine gs (fun t => XS.aconstNull X25.here hx rfl (hb hby at_134)) ?_
          show Go p e below s QQ room_1.cells room_1.slots (T25.setTop (mkF m 135 #[.val (.long p0), .second, .val (.long p1), .second, .val (.long p2), .second, .val (.long p3), .second, .val (.int p4), .val (.long c2), .second, .val (.long d2), .second, .val (.ref b22), .val (.ref b24), .val (.int kd), .unset, .unset, .unset] [.null, (.ref b22)]))
          obtain ⟨cq28, kq28, q28a, q28b, q28c⟩ := isOf hZ rfl Ex_b22
          obtain ⟨_, _, ⟨T28, L28, k28, n28⟩, -, X28, ⟨Lc28, hQ28, l28, y28, z28⟩, st28⟩ := X25.virtualBack hx (y := (⟨"weirline/io/FileIdentity", "equals", "(Ljava/lang/Object;)Z"⟩ : MethodName)) (z := (⟨"weirline/io/FileIdentity", "equals", "(Ljava/lang/Object;)Z"⟩ : MethodName)) hown (mvT hZ (hw _ (List.mem_of_getElem? (i := 18) rfl))) (mvT hZ (hw _ (List.mem_of_getElem? (i := 19) rfl))) (notFace_of_selects (args := #[]) (mvT hZ (hw _ (List.mem_of_getElem? (i := 21) rfl)))) (mvT hZ (hw _ (List.mem_of_getElem? (i := 21) rfl))) (mvT hZ (hw _ (List.mem_of_getElem? (i := 20) rfl))) (by decide) (backOf (W := 0) (rm4b l Z a0 hw [] b22 T25.heap n0 ZZ ) hZ (hw _ (List.mem_of_getElem? (i := 22) rfl)) (hw _ (List.mem_of_getElem? (i := 2) rfl)) (by decide) (by decide)) q28a q28c (g := (mkF m 135 #[.val (.long p0), .second, .val (.long p1), .second, .val (.long p2), .second, .val (.long p3), .second, .val (.int p4), .val (.long c2), .second, .val (.long d2), .second, .val (.ref b22), .val (.ref b24), .val (.int kd), .unset, .unset, .unset] [.null, (.ref b22)])) rfl (by rw [hml]; rfl) (Steps.refl _) (argsL := [.null]) (rest := []) (lenOf pd_3 rfl) rfl (by show 2 * 0 + _ ≤ _; exact Nat.le_of_eq rfl) (hb hby at_135) (fun _ _ => ⟨rfl, rfl, (by decide : 2 + 0 ≤ _), (by decide : 4 + 0 ≤ _)⟩)
          dsimp only [Pt.U, Pt.locs, Pt.cells, Pt.slots] at X28 l28 y28 z28 st28 hQ28
          subst l28 y28 z28
          obtain ⟨rfl, N28q, e28⟩ := hQ28
          replace N0 := Fr.app N0 N28q
          refine gt st28 ?_
          show Go p e below s QQ room_1.cells room_1.slots (T28.setTop (mkF m 138 #[.val (.long p0), .second, .val (.long p1), .second, .val (.long p2), .second, .val (.long p3), .second, .val (.int p4), .val (.long c2), .second, .val (.long d2), .second, .val (.ref b22), .val (.ref b24), .val (.int kd), .unset, .unset, .unset] [(.int (0 : Int32))]))
          refine gs (fun t => XS.ifNo X28.here hx rfl (hb hby at_138) rfl ((if0 _ _).trans (teq (by decide : (0 : Int32) = (0 : Int32))).2)) ?_
          show Go p e below s QQ room_1.cells room_1.slots (T28.setTop (mkF m 141 #[.val (.long p0), .second, .val (.long p1), .second, .val (.long p2), .second, .val (.long p3), .second, .val (.int p4), .val (.long c2), .second, .val (.long d2), .second, .val (.ref b22), .val (.ref b24), .val (.int kd), .unset, .unset, .unset] []))
          refine gs (fun t => XS.iconst X28.here hx rfl (hb hby at_141)) ?_
          show Go p e below s QQ room_1.cells room_1.slots (T28.setTop (mkF m 142 #[.val (.long p0), .second, .val (.long p1), .second, .val (.long p2), .second, .val (.long p3), .second, .val (.int p4), .val (.long c2), .second, .val (.long d2), .second, .val (.ref b22), .val (.ref b24), .val (.int kd), .unset, .unset, .unset] [(.int (1 : Int32))]))
          refine gs (fun t => XS.goto X28.here hx rfl (pc0 := 142) (pc' := 146) rfl (hb hby at_142) (by decide) (by decide)) ?_
          show Go p e below s QQ room_1.cells room_1.slots (T28.setTop (mkF m 146 #[.val (.long p0), .second, .val (.long p1), .second, .val (.long p2), .second, .val (.long p3), .second, .val (.int p4), .val (.long c2), .second, .val (.long d2), .second, .val (.ref b22), .val (.ref b24), .val (.int kd), .unset, .unset, .unset] [(.int (1 : Int32))]))
          exact goB X28 hx Bd.notSynchronized Bd.returns (by simp) (w := (1 : Int32)) (by first | rfl | decide) (hb hby at_146) (by rw [← hQQ, e28]; exact ⟨rfl, N0⟩) (by decide) (by decide)
        · skip
          refine gs (fun t => XS.icmpYes X25.here hx rfl (pc0 := 129) (pc' := 147) rfl (hb hby at_129) rfl (feq hk1).2 (by decide) (by decide)) ?_
          show Go p e below s QQ room_1.cells room_1.slots (T25.setTop (mkF m 147 #[.val (.long p0), .second, .val (.long p1), .second, .val (.long p2), .second, .val (.long p3), .second, .val (.int p4), .val (.long c2), .second, .val (.long d2), .second, .val (.ref b22), .val (.ref b24), .val (.int kd), .unset, .unset, .unset] []))
          refine gs (fun t => XS.iload X25.here hx rfl (hb hby at_147) rfl) ?_
          show Go p e below s QQ room_1.cells room_1.slots (T25.setTop (mkF m 149 #[.val (.long p0), .second, .val (.long p1), .second, .val (.long p2), .second, .val (.long p3), .second, .val (.int p4), .val (.long c2), .second, .val (.long d2), .second, .val (.ref b22), .val (.ref b24), .val (.int kd), .unset, .unset, .unset] [(.int kd)]))
          refine gs (fun t => XS.iconst X25.here hx rfl (hb hby at_149)) ?_
          show Go p e below s QQ room_1.cells room_1.slots (T25.setTop (mkF m 150 #[.val (.long p0), .second, .val (.long p1), .second, .val (.long p2), .second, .val (.long p3), .second, .val (.int p4), .val (.long c2), .second, .val (.long d2), .second, .val (.ref b22), .val (.ref b24), .val (.int kd), .unset, .unset, .unset] [(.int (2 : Int32)), (.int kd)]))
          by_cases hk2 : kd = (2 : Int32)
          · skip
            refine gs (fun t => XS.icmpNo X25.here hx rfl (hb hby at_150) rfl (teq hk2).2) ?_
            show Go p e below s QQ room_1.cells room_1.slots (T25.setTop (mkF m 153 #[.val (.long p0), .second, .val (.long p1), .second, .val (.long p2), .second, .val (.long p3), .second, .val (.int p4), .val (.long c2), .second, .val (.long d2), .second, .val (.ref b22), .val (.ref b24), .val (.int kd), .unset, .unset, .unset] []))
            refine gs (fun t => XS.aload X25.here hx rfl (hb hby at_153) rfl rfl) ?_
            show Go p e below s QQ room_1.cells room_1.slots (T25.setTop (mkF m 155 #[.val (.long p0), .second, .val (.long p1), .second, .val (.long p2), .second, .val (.long p3), .second, .val (.int p4), .val (.long c2), .second, .val (.long d2), .second, .val (.ref b22), .val (.ref b24), .val (.int kd), .unset, .unset, .unset] [(.ref b22)]))
            refine gs (fun t => XS.lloadN X25.here hx rfl (hb hby at_155) rfl) ?_
            show Go p e below s QQ room_1.cells room_1.slots (T25.setTop (mkF m 156 #[.val (.long p0), .second, .val (.long p1), .second, .val (.long p2), .second, .val (.long p3), .second, .val (.int p4), .val (.long c2), .second, .val (.long d2), .second, .val (.ref b22), .val (.ref b24), .val (.int kd), .unset, .unset, .unset] [(.long p0), (.ref b22)]))
            obtain ⟨_, _, ⟨T29, L29, k29, n29⟩, -, X29, ⟨Lc29, hQ29, l29, y29, z29⟩, st29⟩ := Jvm.LawKit.callS X25 hx (y := (⟨"java/lang/Long", "valueOf", "(J)Ljava/lang/Long;"⟩ : MethodName)) hown (mvT hZ (hw _ (List.mem_of_getElem? (i := 25) rfl))) (mvT hZ (hw _ (List.mem_of_getElem? (i := 26) rfl))) (mvT hZ (hw _ (List.mem_of_getElem? (i := 27) rfl))) (mvT hZ (hw _ (List.mem_of_getElem? (i := 28) rfl))) (by decide) (backOf (W := 1) (rm5 l Z a0 hw [] p0 xc fc T25.heap n0 ZZ OLD SC BX) hZ (hw _ (List.mem_of_getElem? (i := 28) rfl)) (hw _ (List.mem_of_getElem? (i := 27) rfl)) (by decide) (by decide)) (g := (mkF m 156 #[.val (.long p0), .second, .val (.long p1), .second, .val (.long p2), .second, .val (.long p3), .second, .val (.int p4), .val (.long c2), .second, .val (.long d2), .second, .val (.ref b22), .val (.ref b24), .val (.int kd), .unset, .unset, .unset] [(.long p0), (.ref b22)])) rfl (by rw [hml]; rfl) (argsL := [(.long p0)]) (rest := [(.ref b22)]) (lenOf pd_4 rfl) rfl (by show 2 * 0 + _ ≤ _; exact Nat.le_of_eq rfl) (hb hby at_156) (fun _ _ => ⟨rfl, rfl, (by decide : 2 + 1 ≤ _), (by decide : 4 + 1 ≤ _)⟩)
            dsimp only [Pt.U, Pt.locs, Pt.cells, Pt.slots] at X29 l29 y29 z29 st29 hQ29
            subst l29 y29 z29
            obtain ⟨b29, rfl, N29q, K29, Eb29⟩ := hQ29
            replace N0 := Fr.app N0 N29q
            refine gs st29 ?_
            show Go p e below s QQ room_1.cells room_1.slots (T29.setTop (mkF m 159 #[.val (.long p0), .second, .val (.long p1), .second, .val (.long p2), .second, .val (.long p3), .second, .val (.int p4), .val (.long c2), .second, .val (.long d2), .second, .val (.ref b22), .val (.ref b24), .val (.int kd), .unset, .unset, .unset] [(.ref b29), (.ref b22)]))
            replace OLD := OLD.keep K29 all0
            replace Ex_b22 := Ex_b22.keep K29
            replace Fa23 := Fa23.keep K29 nin0
            replace Fb23 := Fb23.keep K29 nin0
            replace Ex_b24 := Ex_b24.keep K29
            replace Fa25 := Fa25.keep K29 nin0
            replace Fb25 := Fb25.keep K29 nin0
            replace ZZ := Nat.le_trans ZZ K29.1
            obtain ⟨cq30, kq30, q30a, q30b, q30c⟩ := isOf hZ rfl Ex_b22
            obtain ⟨_, _, ⟨T30, L30, k30, n30⟩, -, X30, ⟨Lc30, hQ30, l30, y30, z30⟩, st30⟩ := X29.virtualBack hx (y := (⟨"weirline/io/FileIdentity", "equals", "(Ljava/lang/Object;)Z"⟩ : MethodName)) (z := (⟨"weirline/io/FileIdentity", "equals", "(Ljava/lang/Object;)Z"⟩ : MethodName)) hown (mvT hZ (hw _ (List.mem_of_getElem? (i := 18) rfl))) (mvT hZ (hw _ (List.mem_of_getElem? (i := 19) rfl))) (notFace_of_selects (args := #[]) (mvT hZ (hw _ (List.mem_of_getElem? (i := 21) rfl)))) (mvT hZ (hw _ (List.mem_of_getElem? (i := 21) rfl))) (mvT hZ (hw _ (List.mem_of_getElem? (i := 20) rfl))) (by decide) (backOf (W := 0) (rm4c l Z a0 hw [] b22 b29 T29.heap n0 ZZ Eb29) hZ (hw _ (List.mem_of_getElem? (i := 22) rfl)) (hw _ (List.mem_of_getElem? (i := 2) rfl)) (by decide) (by decide)) q30a q30c (g := (mkF m 159 #[.val (.long p0), .second, .val (.long p1), .second, .val (.long p2), .second, .val (.long p3), .second, .val (.int p4), .val (.long c2), .second, .val (.long d2), .second, .val (.ref b22), .val (.ref b24), .val (.int kd), .unset, .unset, .unset] [(.ref b29), (.ref b22)])) rfl (by rw [hml]; rfl) (Steps.refl _) (argsL := [(.ref b29)]) (rest := []) (lenOf pd_3 rfl) rfl (by show 2 * 0 + _ ≤ _; exact Nat.le_of_eq rfl) (hb hby at_159) (fun _ _ => ⟨rfl, rfl, (by decide : 3 + 0 ≤ _), (by decide : 5 + 0 ≤ _)⟩)
            dsimp only [Pt.U, Pt.locs, Pt.cells, Pt.slots] at X30 l30 y30 z30 st30 hQ30
            subst l30 y30 z30
            obtain ⟨rfl, N30q, e30⟩ := hQ30
            replace N0 := Fr.app N0 N30q
            refine gt st30 ?_
            show Go p e below s QQ room_1.cells room_1.slots (T30.setTop (mkF m 162 #[.val (.long p0), .second, .val (.long p1), .second, .val (.long p2), .second, .val (.long p3), .second, .val (.int p4), .val (.long c2), .second, .val (.long d2), .second, .val (.ref b22), .val (.ref b24), .val (.int kd), .unset, .unset, .unset] [(.int (0 : Int32))]))
            refine gs (fun t => XS.ifNo X30.here hx rfl (hb hby at_162) rfl ((if0 _ _).trans (teq (by decide : (0 : Int32) = (0 : Int32))).2)) ?_
            show Go p e below s QQ room_1.cells room_1.slots (T30.setTop (mkF m 165 #[.val (.long p0), .second, .val (.long p1), .second, .val (.long p2), .second, .val (.long p3), .second, .val (.int p4), .val (.long c2), .second, .val (.long d2), .second, .val (.ref b22), .val (.ref b24), .val (.int kd), .unset, .unset, .unset] []))
            refine gs (fun t => XS.iconst X30.here hx rfl (hb hby at_165)) ?_
            show Go p e below s QQ room_1.cells room_1.slots (T30.setTop (mkF m 166 #[.val (.long p0), .second, .val (.long p1), .second, .val (.long p2), .second, .val (.long p3), .second, .val (.int p4), .val (.long c2), .second, .val (.long d2), .second, .val (.ref b22), .val (.ref b24), .val (.int kd), .unset, .unset, .unset] [(.int (1 : Int32))]))
            refine gs (fun t => XS.goto X30.here hx rfl (pc0 := 166) (pc' := 170) rfl (hb hby at_166) (by decide) (by decide)) ?_
            show Go p e below s QQ room_1.cells room_1.slots (T30.setTop (mkF m 170 #[.val (.long p0), .second, .val (.long p1), .second, .val (.long p2), .second, .val (.long p3), .second, .val (.int p4), .val (.long c2), .second, .val (.long d2), .second, .val (.ref b22), .val (.ref b24), .val (.int kd), .unset, .unset, .unset] [(.int (1 : Int32))]))
            exact goB X30 hx Bd.notSynchronized Bd.returns (by simp) (w := (1 : Int32)) (by first | rfl | decide) (hb hby at_170) (by rw [← hQQ, e30]; exact ⟨rfl, N0⟩) (by decide) (by decide)
          · skip
            refine gs (fun t => XS.icmpYes X25.here hx rfl (pc0 := 150) (pc' := 171) rfl (hb hby at_150) rfl (feq hk2).2 (by decide) (by decide)) ?_
            show Go p e below s QQ room_1.cells room_1.slots (T25.setTop (mkF m 171 #[.val (.long p0), .second, .val (.long p1), .second, .val (.long p2), .second, .val (.long p3), .second, .val (.int p4), .val (.long c2), .second, .val (.long d2), .second, .val (.ref b22), .val (.ref b24), .val (.int kd), .unset, .unset, .unset] []))
            refine gs (fun t => XS.aload X25.here hx rfl (hb hby at_171) rfl rfl) ?_
            show Go p e below s QQ room_1.cells room_1.slots (T25.setTop (mkF m 173 #[.val (.long p0), .second, .val (.long p1), .second, .val (.long p2), .second, .val (.long p3), .second, .val (.int p4), .val (.long c2), .second, .val (.long d2), .second, .val (.ref b22), .val (.ref b24), .val (.int kd), .unset, .unset, .unset] [(.ref b22)]))
            refine gs (fun t => XS.aload X25.here hx rfl (hb hby at_173) rfl rfl) ?_
            show Go p e below s QQ room_1.cells room_1.slots (T25.setTop (mkF m 175 #[.val (.long p0), .second, .val (.long p1), .second, .val (.long p2), .second, .val (.long p3), .second, .val (.int p4), .val (.long c2), .second, .val (.long d2), .second, .val (.ref b22), .val (.ref b24), .val (.int kd), .unset, .unset, .unset] [(.ref b22), (.ref b22)]))
            obtain ⟨cq31, kq31, q31a, q31b, q31c⟩ := isOf hZ rfl Ex_b22
            obtain ⟨_, _, ⟨T31, L31, k31, n31⟩, -, X31, ⟨Lc31, hQ31, l31, y31, z31⟩, st31⟩ := X25.virtualBack hx (y := (⟨"weirline/io/FileIdentity", "equals", "(Ljava/lang/Object;)Z"⟩ : MethodName)) (z := (⟨"weirline/io/FileIdentity", "equals", "(Ljava/lang/Object;)Z"⟩ : MethodName)) hown (mvT hZ (hw _ (List.mem_of_getElem? (i := 18) rfl))) (mvT hZ (hw _ (List.mem_of_getElem? (i := 19) rfl))) (notFace_of_selects (args := #[]) (mvT hZ (hw _ (List.mem_of_getElem? (i := 21) rfl)))) (mvT hZ (hw _ (List.mem_of_getElem? (i := 21) rfl))) (mvT hZ (hw _ (List.mem_of_getElem? (i := 20) rfl))) (by decide) (backOf (W := 0) (rm4a l Z a0 hw [] b22 b22 p0 p1 p0 p1 T25.heap n0 ZZ Fa23 Fb23 Fa23 Fb23 Ex_b22) hZ (hw _ (List.mem_of_getElem? (i := 22) rfl)) (hw _ (List.mem_of_getElem? (i := 2) rfl)) (by decide) (by decide)) q31a q31c (g := (mkF m 175 #[.val (.long p0), .second, .val (.long p1), .second, .val (.long p2), .second, .val (.long p3), .second, .val (.int p4), .val (.long c2), .second, .val (.long d2), .second, .val (.ref b22), .val (.ref b24), .val (.int kd), .unset, .unset, .unset] [(.ref b22), (.ref b22)])) rfl (by rw [hml]; rfl) (Steps.refl _) (argsL := [(.ref b22)]) (rest := []) (lenOf pd_3 rfl) rfl (by show 2 * 0 + _ ≤ _; exact Nat.le_of_eq rfl) (hb hby at_175) (fun _ _ => ⟨rfl, rfl, (by decide : 2 + 0 ≤ _), (by decide : 4 + 0 ≤ _)⟩)
            dsimp only [Pt.U, Pt.locs, Pt.cells, Pt.slots] at X31 l31 y31 z31 st31 hQ31
            subst l31 y31 z31
            obtain ⟨rfl, N31q, e31⟩ := hQ31
            replace N0 := Fr.app N0 N31q
            refine gt st31 ?_
            show Go p e below s QQ room_1.cells room_1.slots (T31.setTop (mkF m 178 #[.val (.long p0), .second, .val (.long p1), .second, .val (.long p2), .second, .val (.long p3), .second, .val (.int p4), .val (.long c2), .second, .val (.long d2), .second, .val (.ref b22), .val (.ref b24), .val (.int kd), .unset, .unset, .unset] [(.int (if p0 = p0 ∧ p1 = p1 then 1 else 0))]))
            rw [show (if p0 = p0 ∧ p1 = p1 then 1 else 0) = (1 : Int32) from by simp]
            show Go p e below s QQ room_1.cells room_1.slots (T31.setTop (mkF m 178 #[.val (.long p0), .second, .val (.long p1), .second, .val (.long p2), .second, .val (.long p3), .second, .val (.int p4), .val (.long c2), .second, .val (.long d2), .second, .val (.ref b22), .val (.ref b24), .val (.int kd), .unset, .unset, .unset] [(.int (1 : Int32))]))
            exact goB X31 hx Bd.notSynchronized Bd.returns (by simp) (w := (1 : Int32)) (by first | rfl | decide) (hb hby at_178) (by rw [← hQQ, e31]; exact ⟨rfl, N0⟩) (by decide) (by decide)
    by_cases hb2 : (p4 &&& (2 : Int32)) = (0 : Int32)
    · skip
      refine gs (fun t => XS.ifYes X0.here hx rfl (pc0 := 19) (pc' := 26) rfl (hb hby at_19) rfl ((if0 _ _).trans (teq hb2).1) (by decide) (by decide)) ?_
      show Go p e below s QQ room_1.cells room_1.slots (s₁.setTop (mkF m 26 #[.val (.long p0), .second, .val (.long p1), .second, .val (.long p2), .second, .val (.long p3), .second, .val (.int p4), .val (.long c2), .second, .unset, .unset, .unset, .unset, .unset, .unset, .unset, .unset] []))
      refine gs (fun t => XS.lload X0.here hx rfl (hb hby at_26) rfl) ?_
      show Go p e below s QQ room_1.cells room_1.slots (s₁.setTop (mkF m 28 #[.val (.long p0), .second, .val (.long p1), .second, .val (.long p2), .second, .val (.long p3), .second, .val (.int p4), .val (.long c2), .second, .unset, .unset, .unset, .unset, .unset, .unset, .unset, .unset] [(.long p3)]))
      exact key28 _
    · skip
      refine gs (fun t => XS.ifNo X0.here hx rfl (hb hby at_19) rfl ((if0 _ _).trans (feq hb2).1)) ?_
      show Go p e below s QQ room_1.cells room_1.slots (s₁.setTop (mkF m 22 #[.val (.long p0), .second, .val (.long p1), .second, .val (.long p2), .second, .val (.long p3), .second, .val (.int p4), .val (.long c2), .second, .unset, .unset, .unset, .unset, .unset, .unset, .unset, .unset] []))
      refine gs (fun t => XS.lloadN X0.here hx rfl (hb hby at_22) rfl) ?_
      show Go p e below s QQ room_1.cells room_1.slots (s₁.setTop (mkF m 23 #[.val (.long p0), .second, .val (.long p1), .second, .val (.long p2), .second, .val (.long p3), .second, .val (.int p4), .val (.long c2), .second, .unset, .unset, .unset, .unset, .unset, .unset, .unset, .unset] [(.long p1)]))
      refine gs (fun t => XS.goto X0.here hx rfl (pc0 := 23) (pc' := 28) rfl (hb hby at_23) (by decide) (by decide)) ?_
      show Go p e below s QQ room_1.cells room_1.slots (s₁.setTop (mkF m 28 #[.val (.long p0), .second, .val (.long p1), .second, .val (.long p2), .second, .val (.long p3), .second, .val (.int p4), .val (.long c2), .second, .unset, .unset, .unset, .unset, .unset, .unset, .unset, .unset] [(.long p1)]))
      exact key28 _
  by_cases hb1 : (p4 &&& (1 : Int32)) = (0 : Int32)
  · skip
    refine gs (fun t => XS.ifYes X0.here hx rfl (pc0 := 4) (pc' := 11) rfl (hb hby at_4) rfl ((if0 _ _).trans (teq hb1).1) (by decide) (by decide)) ?_
    show Go p e below s QQ room_1.cells room_1.slots (s₁.setTop (mkF m 11 #[.val (.long p0), .second, .val (.long p1), .second, .val (.long p2), .second, .val (.long p3), .second, .val (.int p4), .unset, .unset, .unset, .unset, .unset, .unset, .unset, .unset, .unset, .unset] []))
    refine gs (fun t => XS.lload X0.here hx rfl (hb hby at_11) rfl) ?_
    show Go p e below s QQ room_1.cells room_1.slots (s₁.setTop (mkF m 13 #[.val (.long p0), .second, .val (.long p1), .second, .val (.long p2), .second, .val (.long p3), .second, .val (.int p4), .unset, .unset, .unset, .unset, .unset, .unset, .unset, .unset, .unset, .unset] [(.long p2)]))
    exact key13 _
  · skip
    refine gs (fun t => XS.ifNo X0.here hx rfl (hb hby at_4) rfl ((if0 _ _).trans (feq hb1).1)) ?_
    show Go p e below s QQ room_1.cells room_1.slots (s₁.setTop (mkF m 7 #[.val (.long p0), .second, .val (.long p1), .second, .val (.long p2), .second, .val (.long p3), .second, .val (.int p4), .unset, .unset, .unset, .unset, .unset, .unset, .unset, .unset, .unset, .unset] []))
    refine gs (fun t => XS.lloadN X0.here hx rfl (hb hby at_7) rfl) ?_
    show Go p e below s QQ room_1.cells room_1.slots (s₁.setTop (mkF m 8 #[.val (.long p0), .second, .val (.long p1), .second, .val (.long p2), .second, .val (.long p3), .second, .val (.int p4), .unset, .unset, .unset, .unset, .unset, .unset, .unset, .unset, .unset, .unset] [(.long p0)]))
    refine gs (fun t => XS.goto X0.here hx rfl (pc0 := 8) (pc' := 13) rfl (hb hby at_8) (by decide) (by decide)) ?_
    show Go p e below s QQ room_1.cells room_1.slots (s₁.setTop (mkF m 13 #[.val (.long p0), .second, .val (.long p1), .second, .val (.long p2), .second, .val (.long p3), .second, .val (.int p4), .unset, .unset, .unset, .unset, .unset, .unset, .unset, .unset, .unset, .unset] [(.long p0)]))
    exact key13 _
set_option maxRecDepth 65536 in
set_option maxHeartbeats 40000000 in
theorem comes_1 {Post : Tables → Env → Array Value → State → Outcome → State → Prop} (hpost : ∀ tb e args s v u, (limb_1_1.after args s (.returned v) u = true ∧ limb_1_2.after args s (.returned v) u = true ∧ True) → FrameEnd s (.returned v) u (Jvm.fieldLocs frame_1_writes args s ++ Jvm.arrayLocs frame_1_arrays args s ++ Jvm.staticLocs frame_1_statics s) 16 128 → Post tb e args s (.returned v) u) :
    ArmFor flags0 classFile x code maxLocals ret World_1 tables_1 room_1 Calls_1 rest_1 Pre_1 Post := by
  intro l hfl _ _ p e ha hc hk s m args below hf hA hF happ hP
  obtain ⟨hcalls, hrest, hpre⟩ := hP
  obtain ⟨-, -, -, hnamed, -, -, -, hat⟩ := (Spec.applies_iff hf).mp happ
  obtain ⟨hg, hn⟩ := and_e (Cond.before_iff.mp (show (Jvm.Cond.and given_1 narrow_1).before args s = true from hpre))
  obtain ⟨gc, hg0⟩ := and_e hg
  obtain ⟨w0, w1, w2, w3, w4, rfl⟩ : ∃ w0 w1 w2 w3 w4 : Value, args = #[w0, w1, w2, w3, w4] := by
    have hs : args.size = 5 := by simpa [Cond.value, given_1] using gc
    obtain ⟨L⟩ := args
    match L, hs with
    | [w0, w1, w2, w3, w4], _ => exact ⟨w0, w1, w2, w3, w4, rfl⟩
  obtain ⟨ga0, hg1⟩ := and_e hg0
  obtain ⟨i0, ei0⟩ := isL_v ga0
  obtain rfl : w0 = (.long i0) := Option.some.inj ei0
  obtain ⟨ga1, hg2⟩ := and_e hg1
  obtain ⟨i1, ei1⟩ := isL_v ga1
  obtain rfl : w1 = (.long i1) := Option.some.inj ei1
  obtain ⟨ga2, hg3⟩ := and_e hg2
  obtain ⟨i2, ei2⟩ := isL_v ga2
  obtain rfl : w2 = (.long i2) := Option.some.inj ei2
  obtain ⟨ga3, hg4⟩ := and_e hg3
  obtain ⟨i3, ei3⟩ := isL_v ga3
  obtain rfl : w3 = (.long i3) := Option.some.inj ei3
  obtain ⟨i4, ei4⟩ := is_v hg4
  obtain rfl : w4 = (.int i4) := Option.some.inj ei4
  have hw := fun d (hd : d ∈ tables_1) => atoms_spec (ws := Jvm.Cond.code x code maxLocals ret :: tables_1) hat d (List.mem_cons_of_mem _ hd)
  have hfit : Fit s := fun {y c} hc i hi => by
    obtain ⟨ha, rfl⟩ := Array.getElem?_eq_some_iff.mp hc
    have q := List.all_eq_true.mp ((Array.all_eq_true_iff_forall_mem.mp hF) _ (Array.getElem_mem ha)) i (List.mem_range.mpr hi)
    simpa [Array.getElem?_eq_getElem hi] using q
  obtain ⟨hsets, hown0⟩ := atoms_of _ (rest_1_c_eq ▸ (show rest_1_c.before _ s = true from hrest))
  have hr0 := Cond.before_iff.mp hown0
  obtain ⟨xc, fc, ec, BX⟩ := own_bxs (hsets _ (List.mem_of_getElem? (i := 2) rfl)) (hsets _ (List.mem_of_getElem? (i := 4) rfl)) (hsets _ (List.mem_of_getElem? (i := 5) rfl)) (fun _ _ => rfl)
  have SC := Sta.start ec (Or.inl (hsets _ (List.mem_of_getElem? (i := 1) rfl)))
  obtain ⟨n, o, h1, h2, h3, _, L, rfl, ⟨rfl, N⟩, hq⟩ := rm0 l s _ hw tables_1 i0 i1 i2 i3 i4 xc fc s.heap s.heap.size (Nat.le_refl _) (Old.start s) SC BX p e ha hc hk s m _ below hf ((Spec.applies_iff_loose hf).mp happ).1 ⟨rfl, State.Warmed39.refl s, rfl⟩ trivial
  refine ⟨n, _, h1, h2, h3, hpost _ _ _ _ _ _ ⟨Cond.after_iff.mpr rfl, Cond.after_iff.mpr (eq_i res_at (Term.int_eval (1)) rfl), trivial⟩ ⟨hq.1, hq.2.1, (hq.2.2.sift fun y hy => Or.inr (N y hy)).mono (by decide) (by decide)⟩⟩
theorem main_1_1 : Claimed_1_1 := comes_1 fun _ _ _ _ _ _ h hF => ⟨h.1, hF⟩
theorem main_1_2 : Claimed_1_2 := comes_1 fun _ _ _ _ _ _ h hF => ⟨h.2.1, hF⟩
end Jvm.Pilot.@@N@@
namespace Jvm.Pilot.@@N@@
open Jvm Jvm.ClassFile Sem Op Lib Jvm.Free Jvm.Stand Jvm.Pilot.@@N@@.Jvm.D
/-! MADE BY PROGRAM (witnessworld.py) out of the Statement's table words and the real class files: 17 classes; the members and pool entries that the words name. The judged class is class 1, her method 1. -/
namespace start1
open Jvm.ClassFile
def u (s : String) : CpInfo := .utf8 (stringToUtf16 s)
/-- a pool by its gaps: so many unusable entries, then the entry; so many at the end -/
def gap : Nat → List CpInfo → List CpInfo
  | 0, r => r
  | n + 1, r => .unusable :: gap n r
def poolList (es : List (Nat × CpInfo)) (last : Nat) : List CpInfo := es.foldr (fun e r => gap e.1 (e.2 :: r)) (gap last [])
def pool (es : List (Nat × CpInfo)) (last : Nat) : Array CpInfo := ⟨poolList es last⟩
def fileOf (pool : Array CpInfo) (this : Nat) (attrs : Array Attribute := #[]) (ms : Array MethodInfo := #[]) (fl : Nat := 33) (sup : Nat := 0) (ifs : Array Nat := #[]) (fds : Array FieldInfo := #[]) : ClassFile where
  minorVersion := 0
  majorVersion := 65
  constantPool := pool
  accessFlags := fl
  thisClass := this
  superClass := sup
  interfaces := ifs
  fields := fds
  methods := ms
  attributes := attrs
def plain (name : String) (sup : Option ClassId) : Class where
  name := name
  kind := .ordinary
  loader := none
  accessFlags := 33
  super := sup
  interfaces := #[]
  cf := none
  fields := #[]
  methods := #[]
  instanceTypes := #[]
  staticTypes := #[]
  resolved := #[]
  callSites := []
  init := .initialized
  statics := none
  mirror := none

def pool0 : Array CpInfo := pool [(5, u "<init>"), (0, u "()V"), (1, .class_ 10), (1, u "java/lang/Object")] 113

def k0c0 : Code := { maxStack := 0, maxLocals := 1, code := object_method_1_code, exceptionTable := #[], attributes := #[] }
def k0m0 : Method := { name := "<init>", desc := "()V", sig := { parameters := [], returnType := none }, accessFlags := 1, code := some k0c0 }
/-- java/lang/Object -/
def k0 : Class := { plain "java/lang/Object" none with
  accessFlags := 33
  interfaces := #[]
  cf := some (fileOf pool0 8 #[] #[{ accessFlags := 1, nameIndex := 5, descriptorIndex := 6, attributes := #[] }] 33 0 #[] #[])
  fields := #[]
  methods := #[k0m0]
  instanceTypes := #[]
  staticTypes := #[]
  resolved := Array.replicate 124 none
  statics := none }

def pool1 : Array CpInfo := pool [(2, .class_ 4), (1, u "java/lang/Object"), (0, u "<init>"), (0, u "()V"), (0, .class_ 8), (0, u "weirline/io/FileIdentity"), (0, .methodref 7 10), (0, .nameAndType 5 11), (0, u "(JJ)V"), (0, .methodref 7 13), (0, .nameAndType 14 15), (0, u "equals"), (0, u "(Ljava/lang/Object;)Z"), (0, .methodref 17 18), (0, .class_ 19), (0, .nameAndType 20 21), (0, u "java/lang/Long"), (0, u "valueOf"), (0, u "(J)Ljava/lang/Long;"), (0, .class_ 23), (0, u "weirline/io/FileIdentityEqualsPinLaw"), (2, u "law"), (0, u "(JJJJI)Z")] 3

def k1m0 : Method := { name := "<init>", desc := "()V", sig := { parameters := [], returnType := none }, accessFlags := 1, code := none }
def k1c1 : Code := { maxStack := 6, maxLocals := 19, code := code, exceptionTable := #[], attributes := #[] }
def k1m1 : Method := { name := "law", desc := "(JJJJI)Z", sig := { parameters := [.long, .long, .long, .long, .int], returnType := some .boolean }, accessFlags := 9, code := some k1c1 }
/-- weirline/io/FileIdentityEqualsPinLaw -/
def k1 : Class := { plain "weirline/io/FileIdentityEqualsPinLaw" (some 0) with
  accessFlags := 49
  interfaces := #[]
  cf := some (fileOf pool1 22 #[] #[{ accessFlags := 1, nameIndex := 5, descriptorIndex := 6, attributes := #[] }, { accessFlags := 9, nameIndex := 26, descriptorIndex := 27, attributes := #[] }] 49 2 #[] #[])
  fields := #[]
  methods := #[k1m0, k1m1]
  instanceTypes := #[]
  staticTypes := #[]
  resolved := Array.replicate 31 none
  statics := none }

def pool2 : Array CpInfo := pool [(1, .methodref 2 3), (0, .class_ 4), (0, .nameAndType 5 6), (0, u "java/lang/Object"), (0, u "<init>"), (0, u "()V"), (0, .class_ 8), (0, u "java/lang/Record")] 13

def k2c0 : Code := { maxStack := 1, maxLocals := 1, code := jdk_30_method_1_code, exceptionTable := #[], attributes := #[] }
def k2m0 : Method := { name := "<init>", desc := "()V", sig := { parameters := [], returnType := none }, accessFlags := 4, code := some k2c0 }
/-- java/lang/Record -/
def k2 : Class := { plain "java/lang/Record" (some 0) with
  accessFlags := 1057
  interfaces := #[]
  cf := some (fileOf pool2 7 #[] #[{ accessFlags := 4, nameIndex := 5, descriptorIndex := 6, attributes := #[] }] 1057 2 #[] #[])
  fields := #[]
  methods := #[k2m0]
  instanceTypes := #[]
  staticTypes := #[]
  resolved := Array.replicate 22 none
  statics := none }

def pool3 : Array CpInfo := pool [(1, .methodref 2 3), (0, .class_ 4), (0, .nameAndType 5 6), (0, u "java/lang/Record"), (0, u "<init>"), (0, u "()V"), (0, .fieldref 8 9), (0, .class_ 10), (0, .nameAndType 11 12), (0, u "weirline/io/FileIdentity"), (0, u "device"), (0, u "J"), (0, .fieldref 8 14), (0, .nameAndType 15 12), (0, u "inode"), (28, u "(JJ)V"), (16, u "equals"), (0, u "(Ljava/lang/Object;)Z")] 24

def k3c0 : Code := { maxStack := 3, maxLocals := 5, code := prog_82_method_1_code, exceptionTable := #[], attributes := #[] }
def k3m0 : Method := { name := "<init>", desc := "(JJ)V", sig := { parameters := [.long, .long], returnType := none }, accessFlags := 0, code := some k3c0 }
def k3c1 : Code := { maxStack := 4, maxLocals := 3, code := prog_82_method_3_code, exceptionTable := #[], attributes := #[] }
def k3m1 : Method := { name := "equals", desc := "(Ljava/lang/Object;)Z", sig := { parameters := [(.object "java/lang/Object")], returnType := some .boolean }, accessFlags := 1, code := some k3c1 }
/-- weirline/io/FileIdentity -/
def k3 : Class := { plain "weirline/io/FileIdentity" (some 2) with
  accessFlags := 48
  interfaces := #[]
  cf := some (fileOf pool3 8 #[] #[{ accessFlags := 0, nameIndex := 5, descriptorIndex := 44, attributes := #[] }, { accessFlags := 1, nameIndex := 61, descriptorIndex := 62, attributes := #[] }] 48 2 #[] #[{ accessFlags := 18, nameIndex := 11, descriptorIndex := 12, attributes := #[] }, { accessFlags := 18, nameIndex := 15, descriptorIndex := 12, attributes := #[] }])
  fields := #[{ name := "device", type := .long, accessFlags := 18, slot := 0, constantValue := 0 }, { name := "inode", type := .long, accessFlags := 18, slot := 1, constantValue := 0 }]
  methods := #[k3m0, k3m1]
  instanceTypes := #[.long, .long]
  staticTypes := #[]
  resolved := Array.replicate 87 none
  statics := none }

def pool4 : Array CpInfo := pool [(1, .class_ 2), (0, u "java/io/Serializable"), (0, .class_ 4), (0, u "java/lang/Object")] 2

/-- java/io/Serializable -/
def k4 : Class := { plain "java/io/Serializable" (some 0) with
  accessFlags := 1537
  interfaces := #[]
  cf := some (fileOf pool4 1 #[] #[] 1537 3 #[] #[])
  fields := #[]
  methods := #[]
  instanceTypes := #[]
  staticTypes := #[]
  resolved := Array.replicate 7 none
  statics := none }

def pool5 : Array CpInfo := pool [(1, .methodref 2 3), (0, .class_ 4), (0, .nameAndType 5 6), (0, u "java/lang/Object"), (0, u "<init>"), (0, u "()V"), (1, .class_ 10), (1, u "java/lang/Number"), (2, .class_ 14), (0, u "java/io/Serializable"), (0, u "serialVersionUID"), (0, u "J")] 20

def k5c0 : Code := { maxStack := 1, maxLocals := 1, code := jdk_18_method_1_code, exceptionTable := #[], attributes := #[] }
def k5m0 : Method := { name := "<init>", desc := "()V", sig := { parameters := [], returnType := none }, accessFlags := 1, code := some k5c0 }
/-- java/lang/Number -/
def k5 : Class := { plain "java/lang/Number" (some 0) with
  accessFlags := 1057
  interfaces := #[4]
  cf := some (fileOf pool5 8 #[] #[{ accessFlags := 1, nameIndex := 5, descriptorIndex := 6, attributes := #[] }] 1057 2 #[13] #[{ accessFlags := 26, nameIndex := 15, descriptorIndex := 16, attributes := #[] }])
  fields := #[{ name := "serialVersionUID", type := .long, accessFlags := 26, slot := 0, constantValue := 0 }]
  methods := #[k5m0]
  instanceTypes := #[]
  staticTypes := #[.long]
  resolved := Array.replicate 37 none
  statics := none }

def pool6 : Array CpInfo := pool [(1, .class_ 2), (0, u "java/lang/Comparable"), (0, .class_ 4), (0, u "java/lang/Object")] 7

/-- java/lang/Comparable -/
def k6 : Class := { plain "java/lang/Comparable" (some 0) with
  accessFlags := 1537
  interfaces := #[]
  cf := some (fileOf pool6 1 #[] #[] 1537 3 #[] #[])
  fields := #[]
  methods := #[]
  instanceTypes := #[]
  staticTypes := #[]
  resolved := Array.replicate 12 none
  statics := none }

def pool7 : Array CpInfo := pool [(1, .class_ 2), (0, u "java/lang/constant/Constable"), (0, .class_ 4), (0, u "java/lang/Object")] 6

/-- java/lang/constant/Constable -/
def k7 : Class := { plain "java/lang/constant/Constable" (some 0) with
  accessFlags := 1537
  interfaces := #[]
  cf := some (fileOf pool7 1 #[] #[] 1537 3 #[] #[])
  fields := #[]
  methods := #[]
  instanceTypes := #[]
  staticTypes := #[]
  resolved := Array.replicate 11 none
  statics := none }

def pool8 : Array CpInfo := pool [(1, .class_ 2), (0, u "java/lang/constant/ConstantDesc"), (0, .class_ 4), (0, u "java/lang/Object")] 32

/-- java/lang/constant/ConstantDesc -/
def k8 : Class := { plain "java/lang/constant/ConstantDesc" (some 0) with
  accessFlags := 1537
  interfaces := #[]
  cf := some (fileOf pool8 1 #[] #[] 1537 3 #[] #[])
  fields := #[]
  methods := #[]
  instanceTypes := #[]
  staticTypes := #[]
  resolved := Array.replicate 37 none
  statics := none }

def pool9 : Array CpInfo := pool [(1, .class_ 2), (0, u "java/lang/Long"), (55, .nameAndType 59 60), (0, u "<init>"), (0, u "()V"), (24, u "valueOf"), (143, u "(J)Ljava/lang/Long;"), (0, .long 18446744073709551488), (1, .long 127), (1, .fieldref 235 236), (0, .class_ 237), (0, .nameAndType 238 239), (0, u "java/lang/Long$LongCache"), (0, u "cache"), (0, u "[Ljava/lang/Long;"), (0, .methodref 1 241), (0, .nameAndType 59 242), (0, u "(J)V"), (27, .methodref 271 58), (0, .class_ 272), (0, u "java/lang/Number"), (0, .fieldref 1 274), (0, .nameAndType 275 276), (0, u "value"), (0, u "J"), (84, u "TYPE"), (0, u "Ljava/lang/Class;"), (0, .class_ 364), (0, u "java/lang/Comparable"), (0, .class_ 366), (0, u "java/lang/constant/Constable"), (0, .class_ 368), (0, u "java/lang/constant/ConstantDesc"), (0, u "MIN_VALUE"), (1, u "MAX_VALUE"), (4, u "SIZE"), (0, u "I"), (1, u "BYTES"), (1, u "serialVersionUID")] 142

def k9c0 : Code := { maxStack := 4, maxLocals := 3, code := jdk_35_method_24_code, exceptionTable := #[], attributes := #[] }
def k9m0 : Method := { name := "valueOf", desc := "(J)Ljava/lang/Long;", sig := { parameters := [.long], returnType := some (.object "java/lang/Long") }, accessFlags := 9, code := some k9c0 }
def k9c1 : Code := { maxStack := 3, maxLocals := 3, code := jdk_35_method_26_code, exceptionTable := #[], attributes := #[] }
def k9m1 : Method := { name := "<init>", desc := "(J)V", sig := { parameters := [.long], returnType := none }, accessFlags := 1, code := some k9c1 }
/-- java/lang/Long -/
def k9 : Class := { plain "java/lang/Long" (some 5) with
  accessFlags := 49
  interfaces := #[6, 7, 8]
  cf := some (fileOf pool9 1 #[.nestMembers #[235]] #[{ accessFlags := 9, nameIndex := 85, descriptorIndex := 229, attributes := #[] }, { accessFlags := 1, nameIndex := 59, descriptorIndex := 242, attributes := #[] }] 49 271 #[363, 365, 367] #[{ accessFlags := 25, nameIndex := 369, descriptorIndex := 276, attributes := #[] }, { accessFlags := 25, nameIndex := 371, descriptorIndex := 276, attributes := #[] }, { accessFlags := 25, nameIndex := 361, descriptorIndex := 362, attributes := #[] }, { accessFlags := 18, nameIndex := 275, descriptorIndex := 276, attributes := #[] }, { accessFlags := 25, nameIndex := 376, descriptorIndex := 377, attributes := #[] }, { accessFlags := 25, nameIndex := 379, descriptorIndex := 377, attributes := #[] }, { accessFlags := 26, nameIndex := 381, descriptorIndex := 276, attributes := #[] }])
  fields := #[{ name := "MIN_VALUE", type := .long, accessFlags := 25, slot := 0, constantValue := 0 }, { name := "MAX_VALUE", type := .long, accessFlags := 25, slot := 1, constantValue := 0 }, { name := "TYPE", type := (.object "java/lang/Class"), accessFlags := 25, slot := 2, constantValue := 0 }, { name := "value", type := .long, accessFlags := 18, slot := 0, constantValue := 0 }, { name := "SIZE", type := .int, accessFlags := 25, slot := 3, constantValue := 0 }, { name := "BYTES", type := .int, accessFlags := 25, slot := 4, constantValue := 0 }, { name := "serialVersionUID", type := .long, accessFlags := 26, slot := 5, constantValue := 0 }]
  methods := #[k9m0, k9m1]
  instanceTypes := #[.long]
  staticTypes := #[.long, .long, (.object "java/lang/Class"), .int, .int, .long]
  resolved := Array.replicate 524 none
  statics := none }

def pool10 : Array CpInfo := pool [(2, .class_ 4), (1, u "java/lang/Object"), (0, u "<init>"), (0, u "()V"), (0, .class_ 8), (0, u "java/lang/Long"), (7, .class_ 18), (1, u "java/lang/Long$LongCache"), (0, u "$assertionsDisabled"), (0, u "Z"), (8, u "archivedCache"), (0, u "[Ljava/lang/Long;"), (7, u "cache")] 24

def k10m0 : Method := { name := "<init>", desc := "()V", sig := { parameters := [], returnType := none }, accessFlags := 2, code := none }
/-- java/lang/Long$LongCache -/
def k10 : Class := { plain "java/lang/Long$LongCache" (some 0) with
  accessFlags := 48
  interfaces := #[]
  cf := some (fileOf pool10 16 #[.nestHost 7] #[{ accessFlags := 2, nameIndex := 5, descriptorIndex := 6, attributes := #[] }] 48 2 #[] #[{ accessFlags := 24, nameIndex := 38, descriptorIndex := 30, attributes := #[] }, { accessFlags := 8, nameIndex := 29, descriptorIndex := 30, attributes := #[] }, { accessFlags := 4120, nameIndex := 19, descriptorIndex := 20, attributes := #[] }])
  fields := #[{ name := "cache", type := (.array (.object "java/lang/Long")), accessFlags := 24, slot := 0, constantValue := 0 }, { name := "archivedCache", type := (.array (.object "java/lang/Long")), accessFlags := 8, slot := 1, constantValue := 0 }, { name := "$assertionsDisabled", type := .boolean, accessFlags := 4120, slot := 2, constantValue := 0 }]
  methods := #[k10m0]
  instanceTypes := #[]
  staticTypes := #[(.array (.object "java/lang/Long")), (.array (.object "java/lang/Long")), .boolean]
  resolved := Array.replicate 63 none
  statics := some 0 }

def pool11 : Array CpInfo := pool [(1, u "java/lang/Cloneable"), (0, .class_ 1), (0, u "java/lang/Object"), (0, .class_ 3)] 3

/-- java/lang/Cloneable -/
def k11 : Class := { plain "java/lang/Cloneable" (some 0) with
  accessFlags := 1537
  interfaces := #[]
  cf := some (fileOf pool11 2 #[] #[] 1537 4 #[] #[])
  fields := #[]
  methods := #[]
  instanceTypes := #[]
  staticTypes := #[]
  resolved := Array.replicate 8 none
  statics := none }

/-- the primitive byte -/
def k12 : Class := { plain "byte" none with kind := .primitive 'B', accessFlags := 0x411 }
/-- [B -/
def k13 : Class := { plain "[B" (some 0) with kind := .array 12 .byte, interfaces := #[11, 4], accessFlags := 1041 }

/-- the primitive int -/
def k14 : Class := { plain "int" none with kind := .primitive 'I', accessFlags := 0x411 }
/-- [I -/
def k15 : Class := { plain "[I" (some 0) with kind := .array 14 .int, interfaces := #[11, 4], accessFlags := 1041 }

/-- [Ljava/lang/Long; -/
def k16 : Class := { plain "[Ljava/lang/Long;" (some 0) with kind := .array 9 (.object "java/lang/Long"), interfaces := #[11, 4], accessFlags := 1041 }

def heap : Heap := #[{ cls := 10, slots := #[.ref 1, .null, .int 0], vm := .statics 10 },
  { cls := 16, slots := #[.ref 2, .ref 3, .ref 4, .ref 5, .ref 6, .ref 7, .ref 8, .ref 9, .ref 10, .ref 11, .ref 12, .ref 13, .ref 14, .ref 15, .ref 16, .ref 17, .ref 18, .ref 19, .ref 20, .ref 21, .ref 22, .ref 23, .ref 24, .ref 25, .ref 26, .ref 27, .ref 28, .ref 29, .ref 30, .ref 31, .ref 32, .ref 33, .ref 34, .ref 35, .ref 36, .ref 37, .ref 38, .ref 39, .ref 40, .ref 41, .ref 42, .ref 43, .ref 44, .ref 45, .ref 46, .ref 47, .ref 48, .ref 49, .ref 50, .ref 51, .ref 52, .ref 53, .ref 54, .ref 55, .ref 56, .ref 57, .ref 58, .ref 59, .ref 60, .ref 61, .ref 62, .ref 63, .ref 64, .ref 65, .ref 66, .ref 67, .ref 68, .ref 69, .ref 70, .ref 71, .ref 72, .ref 73, .ref 74, .ref 75, .ref 76, .ref 77, .ref 78, .ref 79, .ref 80, .ref 81, .ref 82, .ref 83, .ref 84, .ref 85, .ref 86, .ref 87, .ref 88, .ref 89, .ref 90, .ref 91, .ref 92, .ref 93, .ref 94, .ref 95, .ref 96, .ref 97, .ref 98, .ref 99, .ref 100, .ref 101, .ref 102, .ref 103, .ref 104, .ref 105, .ref 106, .ref 107, .ref 108, .ref 109, .ref 110, .ref 111, .ref 112, .ref 113, .ref 114, .ref 115, .ref 116, .ref 117, .ref 118, .ref 119, .ref 120, .ref 121, .ref 122, .ref 123, .ref 124, .ref 125, .ref 126, .ref 127, .ref 128, .ref 129, .ref 130, .ref 131, .ref 132, .ref 133, .ref 134, .ref 135, .ref 136, .ref 137, .ref 138, .ref 139, .ref 140, .ref 141, .ref 142, .ref 143, .ref 144, .ref 145, .ref 146, .ref 147, .ref 148, .ref 149, .ref 150, .ref 151, .ref 152, .ref 153, .ref 154, .ref 155, .ref 156, .ref 157, .ref 158, .ref 159, .ref 160, .ref 161, .ref 162, .ref 163, .ref 164, .ref 165, .ref 166, .ref 167, .ref 168, .ref 169, .ref 170, .ref 171, .ref 172, .ref 173, .ref 174, .ref 175, .ref 176, .ref 177, .ref 178, .ref 179, .ref 180, .ref 181, .ref 182, .ref 183, .ref 184, .ref 185, .ref 186, .ref 187, .ref 188, .ref 189, .ref 190, .ref 191, .ref 192, .ref 193, .ref 194, .ref 195, .ref 196, .ref 197, .ref 198, .ref 199, .ref 200, .ref 201, .ref 202, .ref 203, .ref 204, .ref 205, .ref 206, .ref 207, .ref 208, .ref 209, .ref 210, .ref 211, .ref 212, .ref 213, .ref 214, .ref 215, .ref 216, .ref 217, .ref 218, .ref 219, .ref 220, .ref 221, .ref 222, .ref 223, .ref 224, .ref 225, .ref 226, .ref 227, .ref 228, .ref 229, .ref 230, .ref 231, .ref 232, .ref 233, .ref 234, .ref 235, .ref 236, .ref 237, .ref 238, .ref 239, .ref 240, .ref 241, .ref 242, .ref 243, .ref 244, .ref 245, .ref 246, .ref 247, .ref 248, .ref 249, .ref 250, .ref 251, .ref 252, .ref 253, .ref 254, .ref 255, .ref 256, .ref 257], vm := .none },
  { cls := 9, slots := #[.long (-128)], vm := .none },
  { cls := 9, slots := #[.long (-127)], vm := .none },
  { cls := 9, slots := #[.long (-126)], vm := .none },
  { cls := 9, slots := #[.long (-125)], vm := .none },
  { cls := 9, slots := #[.long (-124)], vm := .none },
  { cls := 9, slots := #[.long (-123)], vm := .none },
  { cls := 9, slots := #[.long (-122)], vm := .none },
  { cls := 9, slots := #[.long (-121)], vm := .none },
  { cls := 9, slots := #[.long (-120)], vm := .none },
  { cls := 9, slots := #[.long (-119)], vm := .none },
  { cls := 9, slots := #[.long (-118)], vm := .none },
  { cls := 9, slots := #[.long (-117)], vm := .none },
  { cls := 9, slots := #[.long (-116)], vm := .none },
  { cls := 9, slots := #[.long (-115)], vm := .none },
  { cls := 9, slots := #[.long (-114)], vm := .none },
  { cls := 9, slots := #[.long (-113)], vm := .none },
  { cls := 9, slots := #[.long (-112)], vm := .none },
  { cls := 9, slots := #[.long (-111)], vm := .none },
  { cls := 9, slots := #[.long (-110)], vm := .none },
  { cls := 9, slots := #[.long (-109)], vm := .none },
  { cls := 9, slots := #[.long (-108)], vm := .none },
  { cls := 9, slots := #[.long (-107)], vm := .none },
  { cls := 9, slots := #[.long (-106)], vm := .none },
  { cls := 9, slots := #[.long (-105)], vm := .none },
  { cls := 9, slots := #[.long (-104)], vm := .none },
  { cls := 9, slots := #[.long (-103)], vm := .none },
  { cls := 9, slots := #[.long (-102)], vm := .none },
  { cls := 9, slots := #[.long (-101)], vm := .none },
  { cls := 9, slots := #[.long (-100)], vm := .none },
  { cls := 9, slots := #[.long (-99)], vm := .none },
  { cls := 9, slots := #[.long (-98)], vm := .none },
  { cls := 9, slots := #[.long (-97)], vm := .none },
  { cls := 9, slots := #[.long (-96)], vm := .none },
  { cls := 9, slots := #[.long (-95)], vm := .none },
  { cls := 9, slots := #[.long (-94)], vm := .none },
  { cls := 9, slots := #[.long (-93)], vm := .none },
  { cls := 9, slots := #[.long (-92)], vm := .none },
  { cls := 9, slots := #[.long (-91)], vm := .none },
  { cls := 9, slots := #[.long (-90)], vm := .none },
  { cls := 9, slots := #[.long (-89)], vm := .none },
  { cls := 9, slots := #[.long (-88)], vm := .none },
  { cls := 9, slots := #[.long (-87)], vm := .none },
  { cls := 9, slots := #[.long (-86)], vm := .none },
  { cls := 9, slots := #[.long (-85)], vm := .none },
  { cls := 9, slots := #[.long (-84)], vm := .none },
  { cls := 9, slots := #[.long (-83)], vm := .none },
  { cls := 9, slots := #[.long (-82)], vm := .none },
  { cls := 9, slots := #[.long (-81)], vm := .none },
  { cls := 9, slots := #[.long (-80)], vm := .none },
  { cls := 9, slots := #[.long (-79)], vm := .none },
  { cls := 9, slots := #[.long (-78)], vm := .none },
  { cls := 9, slots := #[.long (-77)], vm := .none },
  { cls := 9, slots := #[.long (-76)], vm := .none },
  { cls := 9, slots := #[.long (-75)], vm := .none },
  { cls := 9, slots := #[.long (-74)], vm := .none },
  { cls := 9, slots := #[.long (-73)], vm := .none },
  { cls := 9, slots := #[.long (-72)], vm := .none },
  { cls := 9, slots := #[.long (-71)], vm := .none },
  { cls := 9, slots := #[.long (-70)], vm := .none },
  { cls := 9, slots := #[.long (-69)], vm := .none },
  { cls := 9, slots := #[.long (-68)], vm := .none },
  { cls := 9, slots := #[.long (-67)], vm := .none },
  { cls := 9, slots := #[.long (-66)], vm := .none },
  { cls := 9, slots := #[.long (-65)], vm := .none },
  { cls := 9, slots := #[.long (-64)], vm := .none },
  { cls := 9, slots := #[.long (-63)], vm := .none },
  { cls := 9, slots := #[.long (-62)], vm := .none },
  { cls := 9, slots := #[.long (-61)], vm := .none },
  { cls := 9, slots := #[.long (-60)], vm := .none },
  { cls := 9, slots := #[.long (-59)], vm := .none },
  { cls := 9, slots := #[.long (-58)], vm := .none },
  { cls := 9, slots := #[.long (-57)], vm := .none },
  { cls := 9, slots := #[.long (-56)], vm := .none },
  { cls := 9, slots := #[.long (-55)], vm := .none },
  { cls := 9, slots := #[.long (-54)], vm := .none },
  { cls := 9, slots := #[.long (-53)], vm := .none },
  { cls := 9, slots := #[.long (-52)], vm := .none },
  { cls := 9, slots := #[.long (-51)], vm := .none },
  { cls := 9, slots := #[.long (-50)], vm := .none },
  { cls := 9, slots := #[.long (-49)], vm := .none },
  { cls := 9, slots := #[.long (-48)], vm := .none },
  { cls := 9, slots := #[.long (-47)], vm := .none },
  { cls := 9, slots := #[.long (-46)], vm := .none },
  { cls := 9, slots := #[.long (-45)], vm := .none },
  { cls := 9, slots := #[.long (-44)], vm := .none },
  { cls := 9, slots := #[.long (-43)], vm := .none },
  { cls := 9, slots := #[.long (-42)], vm := .none },
  { cls := 9, slots := #[.long (-41)], vm := .none },
  { cls := 9, slots := #[.long (-40)], vm := .none },
  { cls := 9, slots := #[.long (-39)], vm := .none },
  { cls := 9, slots := #[.long (-38)], vm := .none },
  { cls := 9, slots := #[.long (-37)], vm := .none },
  { cls := 9, slots := #[.long (-36)], vm := .none },
  { cls := 9, slots := #[.long (-35)], vm := .none },
  { cls := 9, slots := #[.long (-34)], vm := .none },
  { cls := 9, slots := #[.long (-33)], vm := .none },
  { cls := 9, slots := #[.long (-32)], vm := .none },
  { cls := 9, slots := #[.long (-31)], vm := .none },
  { cls := 9, slots := #[.long (-30)], vm := .none },
  { cls := 9, slots := #[.long (-29)], vm := .none },
  { cls := 9, slots := #[.long (-28)], vm := .none },
  { cls := 9, slots := #[.long (-27)], vm := .none },
  { cls := 9, slots := #[.long (-26)], vm := .none },
  { cls := 9, slots := #[.long (-25)], vm := .none },
  { cls := 9, slots := #[.long (-24)], vm := .none },
  { cls := 9, slots := #[.long (-23)], vm := .none },
  { cls := 9, slots := #[.long (-22)], vm := .none },
  { cls := 9, slots := #[.long (-21)], vm := .none },
  { cls := 9, slots := #[.long (-20)], vm := .none },
  { cls := 9, slots := #[.long (-19)], vm := .none },
  { cls := 9, slots := #[.long (-18)], vm := .none },
  { cls := 9, slots := #[.long (-17)], vm := .none },
  { cls := 9, slots := #[.long (-16)], vm := .none },
  { cls := 9, slots := #[.long (-15)], vm := .none },
  { cls := 9, slots := #[.long (-14)], vm := .none },
  { cls := 9, slots := #[.long (-13)], vm := .none },
  { cls := 9, slots := #[.long (-12)], vm := .none },
  { cls := 9, slots := #[.long (-11)], vm := .none },
  { cls := 9, slots := #[.long (-10)], vm := .none },
  { cls := 9, slots := #[.long (-9)], vm := .none },
  { cls := 9, slots := #[.long (-8)], vm := .none },
  { cls := 9, slots := #[.long (-7)], vm := .none },
  { cls := 9, slots := #[.long (-6)], vm := .none },
  { cls := 9, slots := #[.long (-5)], vm := .none },
  { cls := 9, slots := #[.long (-4)], vm := .none },
  { cls := 9, slots := #[.long (-3)], vm := .none },
  { cls := 9, slots := #[.long (-2)], vm := .none },
  { cls := 9, slots := #[.long (-1)], vm := .none },
  { cls := 9, slots := #[.long (0)], vm := .none },
  { cls := 9, slots := #[.long (1)], vm := .none },
  { cls := 9, slots := #[.long (2)], vm := .none },
  { cls := 9, slots := #[.long (3)], vm := .none },
  { cls := 9, slots := #[.long (4)], vm := .none },
  { cls := 9, slots := #[.long (5)], vm := .none },
  { cls := 9, slots := #[.long (6)], vm := .none },
  { cls := 9, slots := #[.long (7)], vm := .none },
  { cls := 9, slots := #[.long (8)], vm := .none },
  { cls := 9, slots := #[.long (9)], vm := .none },
  { cls := 9, slots := #[.long (10)], vm := .none },
  { cls := 9, slots := #[.long (11)], vm := .none },
  { cls := 9, slots := #[.long (12)], vm := .none },
  { cls := 9, slots := #[.long (13)], vm := .none },
  { cls := 9, slots := #[.long (14)], vm := .none },
  { cls := 9, slots := #[.long (15)], vm := .none },
  { cls := 9, slots := #[.long (16)], vm := .none },
  { cls := 9, slots := #[.long (17)], vm := .none },
  { cls := 9, slots := #[.long (18)], vm := .none },
  { cls := 9, slots := #[.long (19)], vm := .none },
  { cls := 9, slots := #[.long (20)], vm := .none },
  { cls := 9, slots := #[.long (21)], vm := .none },
  { cls := 9, slots := #[.long (22)], vm := .none },
  { cls := 9, slots := #[.long (23)], vm := .none },
  { cls := 9, slots := #[.long (24)], vm := .none },
  { cls := 9, slots := #[.long (25)], vm := .none },
  { cls := 9, slots := #[.long (26)], vm := .none },
  { cls := 9, slots := #[.long (27)], vm := .none },
  { cls := 9, slots := #[.long (28)], vm := .none },
  { cls := 9, slots := #[.long (29)], vm := .none },
  { cls := 9, slots := #[.long (30)], vm := .none },
  { cls := 9, slots := #[.long (31)], vm := .none },
  { cls := 9, slots := #[.long (32)], vm := .none },
  { cls := 9, slots := #[.long (33)], vm := .none },
  { cls := 9, slots := #[.long (34)], vm := .none },
  { cls := 9, slots := #[.long (35)], vm := .none },
  { cls := 9, slots := #[.long (36)], vm := .none },
  { cls := 9, slots := #[.long (37)], vm := .none },
  { cls := 9, slots := #[.long (38)], vm := .none },
  { cls := 9, slots := #[.long (39)], vm := .none },
  { cls := 9, slots := #[.long (40)], vm := .none },
  { cls := 9, slots := #[.long (41)], vm := .none },
  { cls := 9, slots := #[.long (42)], vm := .none },
  { cls := 9, slots := #[.long (43)], vm := .none },
  { cls := 9, slots := #[.long (44)], vm := .none },
  { cls := 9, slots := #[.long (45)], vm := .none },
  { cls := 9, slots := #[.long (46)], vm := .none },
  { cls := 9, slots := #[.long (47)], vm := .none },
  { cls := 9, slots := #[.long (48)], vm := .none },
  { cls := 9, slots := #[.long (49)], vm := .none },
  { cls := 9, slots := #[.long (50)], vm := .none },
  { cls := 9, slots := #[.long (51)], vm := .none },
  { cls := 9, slots := #[.long (52)], vm := .none },
  { cls := 9, slots := #[.long (53)], vm := .none },
  { cls := 9, slots := #[.long (54)], vm := .none },
  { cls := 9, slots := #[.long (55)], vm := .none },
  { cls := 9, slots := #[.long (56)], vm := .none },
  { cls := 9, slots := #[.long (57)], vm := .none },
  { cls := 9, slots := #[.long (58)], vm := .none },
  { cls := 9, slots := #[.long (59)], vm := .none },
  { cls := 9, slots := #[.long (60)], vm := .none },
  { cls := 9, slots := #[.long (61)], vm := .none },
  { cls := 9, slots := #[.long (62)], vm := .none },
  { cls := 9, slots := #[.long (63)], vm := .none },
  { cls := 9, slots := #[.long (64)], vm := .none },
  { cls := 9, slots := #[.long (65)], vm := .none },
  { cls := 9, slots := #[.long (66)], vm := .none },
  { cls := 9, slots := #[.long (67)], vm := .none },
  { cls := 9, slots := #[.long (68)], vm := .none },
  { cls := 9, slots := #[.long (69)], vm := .none },
  { cls := 9, slots := #[.long (70)], vm := .none },
  { cls := 9, slots := #[.long (71)], vm := .none },
  { cls := 9, slots := #[.long (72)], vm := .none },
  { cls := 9, slots := #[.long (73)], vm := .none },
  { cls := 9, slots := #[.long (74)], vm := .none },
  { cls := 9, slots := #[.long (75)], vm := .none },
  { cls := 9, slots := #[.long (76)], vm := .none },
  { cls := 9, slots := #[.long (77)], vm := .none },
  { cls := 9, slots := #[.long (78)], vm := .none },
  { cls := 9, slots := #[.long (79)], vm := .none },
  { cls := 9, slots := #[.long (80)], vm := .none },
  { cls := 9, slots := #[.long (81)], vm := .none },
  { cls := 9, slots := #[.long (82)], vm := .none },
  { cls := 9, slots := #[.long (83)], vm := .none },
  { cls := 9, slots := #[.long (84)], vm := .none },
  { cls := 9, slots := #[.long (85)], vm := .none },
  { cls := 9, slots := #[.long (86)], vm := .none },
  { cls := 9, slots := #[.long (87)], vm := .none },
  { cls := 9, slots := #[.long (88)], vm := .none },
  { cls := 9, slots := #[.long (89)], vm := .none },
  { cls := 9, slots := #[.long (90)], vm := .none },
  { cls := 9, slots := #[.long (91)], vm := .none },
  { cls := 9, slots := #[.long (92)], vm := .none },
  { cls := 9, slots := #[.long (93)], vm := .none },
  { cls := 9, slots := #[.long (94)], vm := .none },
  { cls := 9, slots := #[.long (95)], vm := .none },
  { cls := 9, slots := #[.long (96)], vm := .none },
  { cls := 9, slots := #[.long (97)], vm := .none },
  { cls := 9, slots := #[.long (98)], vm := .none },
  { cls := 9, slots := #[.long (99)], vm := .none },
  { cls := 9, slots := #[.long (100)], vm := .none },
  { cls := 9, slots := #[.long (101)], vm := .none },
  { cls := 9, slots := #[.long (102)], vm := .none },
  { cls := 9, slots := #[.long (103)], vm := .none },
  { cls := 9, slots := #[.long (104)], vm := .none },
  { cls := 9, slots := #[.long (105)], vm := .none },
  { cls := 9, slots := #[.long (106)], vm := .none },
  { cls := 9, slots := #[.long (107)], vm := .none },
  { cls := 9, slots := #[.long (108)], vm := .none },
  { cls := 9, slots := #[.long (109)], vm := .none },
  { cls := 9, slots := #[.long (110)], vm := .none },
  { cls := 9, slots := #[.long (111)], vm := .none },
  { cls := 9, slots := #[.long (112)], vm := .none },
  { cls := 9, slots := #[.long (113)], vm := .none },
  { cls := 9, slots := #[.long (114)], vm := .none },
  { cls := 9, slots := #[.long (115)], vm := .none },
  { cls := 9, slots := #[.long (116)], vm := .none },
  { cls := 9, slots := #[.long (117)], vm := .none },
  { cls := 9, slots := #[.long (118)], vm := .none },
  { cls := 9, slots := #[.long (119)], vm := .none },
  { cls := 9, slots := #[.long (120)], vm := .none },
  { cls := 9, slots := #[.long (121)], vm := .none },
  { cls := 9, slots := #[.long (122)], vm := .none },
  { cls := 9, slots := #[.long (123)], vm := .none },
  { cls := 9, slots := #[.long (124)], vm := .none },
  { cls := 9, slots := #[.long (125)], vm := .none },
  { cls := 9, slots := #[.long (126)], vm := .none },
  { cls := 9, slots := #[.long (127)], vm := .none }]
def classes : Array Class := #[k0, k1, k2, k3, k4, k5, k6, k7, k8, k9, k10, k11, k12, k13, k14, k15, k16]
def interned : List (Array UInt16 × Addr) := []
def slotsUsed : Nat := 515
def theMethod : MethodId := ⟨1, 1⟩
def args0 : Array Value := #[.long 1, .long 2, .long 3, .long 4, .int 0]
def aboutOver (below : List Frame) : State where
  vm := { classes := classes, interned := interned.toArray }
  heap := heap
  slotsUsed := slotsUsed
  threads := #[{ frames := .invoking theMethod args0 :: below }]
def below0 : List Frame := [.native { method := ⟨0, 0⟩, args := #[] }]
def about1 : State := aboutOver below0
def p0 : Program := .bare "" "" ""
def e0 : Env := launch0.env 0 0 0
theorem w_frames : about1.frames = Frame.invoking theMethod args0 :: below0 := rfl
set_option maxRecDepth 65536 in
theorem w_args : argsFit about1.vm theMethod args0 = true := by decide +kernel
set_option maxRecDepth 65536 in
theorem w_heap : heapFits about1 = true := by decide +kernel
set_option maxRecDepth 65536 in
theorem w_runnable : about1.curStatus? = some .runnable := by decide +kernel
set_option maxRecDepth 65536 in
theorem w_alone : about1.alone = true := by decide +kernel
set_option maxRecDepth 65536 in
theorem w_named : about1.methodNamed? x = some theMethod := by decide +kernel
set_option maxRecDepth 65536 in
theorem w_hears : about1.hears theMethod below0 = true := by decide +kernel
set_option maxRecDepth 65536 in
theorem w_ripe : about1.ripe theMethod args0 below0 = true := by decide +kernel
theorem w_running : about1.status = .running := rfl
set_option maxRecDepth 65536 in
theorem w_room : about1.hasRoom e0.platform room_1 = true :=
  launch0.hasRoom_least _ room_1 (by decide +kernel) (by decide +kernel) (by decide +kernel) (by decide +kernel) (by decide +kernel) (by decide +kernel)
theorem allAtoms_all (ts : List Jvm.Cond) (a : Array Jvm.Value) (st : Jvm.State) : (allAtoms ts).before a st = ts.all (fun c => c.before a st) := by
  induction ts with
  | nil => rfl
  | cons c t ih =>
    show (Jvm.Cond.and c (allAtoms t)).before a st = _
    rw [Jvm.Cond.before_and, ih, List.all_cons]
def words1 : List Jvm.Cond := Jvm.Cond.code x code maxLocals ret :: tables_1
/-- a 'code' word, met by the world's own term for the bytes: nothing is compared byte by byte -/
theorem code_word {y : MethodName} {bytes : ByteArray} {mx : Nat} {rt : Option FieldType} {a : Array Value} {s : State} {m : MethodId} {meth : Method} {c : Code} (h1 : s.methodNamed? y = some m) (h2 : s.vm.method? m = some meth) (h3 : meth.code = some c) (h4 : c.code = bytes)
    (h5 : (c.maxLocals == mx && c.exceptionTable.isEmpty && decide (c.maxStack ≤ mostOperands) && decide (meth.sig.returnType = rt) && !meth.locks && decide (parseMethodDescriptor y.desc = some meth.sig)) = true) : (Jvm.Cond.code y bytes mx rt).before a s = true := by
  simp only [Bool.and_eq_true, beq_iff_eq, Bool.not_eq_true', decide_eq_true_eq] at h5
  obtain ⟨⟨⟨⟨⟨g1, g2⟩, g3⟩, g4⟩, g5⟩, g6⟩ := h5
  simp [Cond.before, Cond.holds, Cond.value, h1, h2, h3, h4, g1, g2, g3, g4, g5, g6]
def isCode : Jvm.Cond → Bool
  | .code _ _ _ _ => true
  | _ => false
theorem all_split {L : List Jvm.Cond} {P : Jvm.Cond → Bool} (h1 : L.all (fun c => isCode c || P c) = true) (h2 : ∀ c ∈ L.filter isCode, P c = true) : L.all P = true := by
  refine List.all_eq_true.mpr fun c hc => ?_
  have h := List.all_eq_true.mp h1 c hc
  rcases Bool.eq_false_or_eq_true (isCode c) with hi | hi
  · exact h2 c (List.mem_filter.mpr ⟨hc, hi⟩)
  · simpa [hi] using h
set_option maxRecDepth 65536 in
theorem w_c0 : (Jvm.Cond.code x code maxLocals ret).before args0 about1 = true := code_word (m := ⟨1, 1⟩) (meth := k1m1) (c := k1c1) (by decide +kernel) rfl rfl rfl (by decide +kernel)
set_option maxRecDepth 65536 in
theorem w_c1 : (Jvm.Cond.code ({ cls := "weirline/io/FileIdentity", name := "<init>", desc := "(JJ)V" } : Jvm.MethodName) prog_82_method_1_code (5 : Nat) (Option.none : Option Jvm.ClassFile.FieldType)).before args0 about1 = true := code_word (m := ⟨3, 0⟩) (meth := k3m0) (c := k3c0) (by decide +kernel) rfl rfl rfl (by decide +kernel)
set_option maxRecDepth 65536 in
theorem w_c2 : (Jvm.Cond.code ({ cls := "java/lang/Record", name := "<init>", desc := "()V" } : Jvm.MethodName) jdk_30_method_1_code (1 : Nat) (Option.none : Option Jvm.ClassFile.FieldType)).before args0 about1 = true := code_word (m := ⟨2, 0⟩) (meth := k2m0) (c := k2c0) (by decide +kernel) rfl rfl rfl (by decide +kernel)
set_option maxRecDepth 65536 in
theorem w_c3 : (Jvm.Cond.code ({ cls := "java/lang/Object", name := "<init>", desc := "()V" } : Jvm.MethodName) object_method_1_code (1 : Nat) (Option.none : Option Jvm.ClassFile.FieldType)).before args0 about1 = true := code_word (m := ⟨0, 0⟩) (meth := k0m0) (c := k0c0) (by decide +kernel) rfl rfl rfl (by decide +kernel)
set_option maxRecDepth 65536 in
theorem w_c4 : (Jvm.Cond.code ({ cls := "weirline/io/FileIdentity", name := "equals", desc := "(Ljava/lang/Object;)Z" } : Jvm.MethodName) prog_82_method_3_code (3 : Nat) (Option.some Jvm.ClassFile.FieldType.boolean)).before args0 about1 = true := code_word (m := ⟨3, 1⟩) (meth := k3m1) (c := k3c1) (by decide +kernel) rfl rfl rfl (by decide +kernel)
set_option maxRecDepth 65536 in
theorem w_c5 : (Jvm.Cond.code ({ cls := "java/lang/Long", name := "valueOf", desc := "(J)Ljava/lang/Long;" } : Jvm.MethodName) jdk_35_method_24_code (3 : Nat) (Option.some (Jvm.ClassFile.FieldType.object "java/lang/Long"))).before args0 about1 = true := code_word (m := ⟨9, 0⟩) (meth := k9m0) (c := k9c0) (by decide +kernel) rfl rfl rfl (by decide +kernel)
set_option maxRecDepth 65536 in
theorem w_c6 : (Jvm.Cond.code ({ cls := "java/lang/Long", name := "<init>", desc := "(J)V" } : Jvm.MethodName) jdk_35_method_26_code (3 : Nat) (Option.none : Option Jvm.ClassFile.FieldType)).before args0 about1 = true := code_word (m := ⟨9, 1⟩) (meth := k9m1) (c := k9c1) (by decide +kernel) rfl rfl rfl (by decide +kernel)
set_option maxRecDepth 65536 in
theorem w_c7 : (Jvm.Cond.code ({ cls := "java/lang/Number", name := "<init>", desc := "()V" } : Jvm.MethodName) jdk_18_method_1_code (1 : Nat) (Option.none : Option Jvm.ClassFile.FieldType)).before args0 about1 = true := code_word (m := ⟨5, 0⟩) (meth := k5m0) (c := k5c0) (by decide +kernel) rfl rfl rfl (by decide +kernel)
def codes1 : List Jvm.Cond := [Jvm.Cond.code x code maxLocals ret, Jvm.Cond.code ({ cls := "weirline/io/FileIdentity", name := "<init>", desc := "(JJ)V" } : Jvm.MethodName) prog_82_method_1_code (5 : Nat) (Option.none : Option Jvm.ClassFile.FieldType), Jvm.Cond.code ({ cls := "java/lang/Record", name := "<init>", desc := "()V" } : Jvm.MethodName) jdk_30_method_1_code (1 : Nat) (Option.none : Option Jvm.ClassFile.FieldType), Jvm.Cond.code ({ cls := "java/lang/Object", name := "<init>", desc := "()V" } : Jvm.MethodName) object_method_1_code (1 : Nat) (Option.none : Option Jvm.ClassFile.FieldType), Jvm.Cond.code ({ cls := "weirline/io/FileIdentity", name := "equals", desc := "(Ljava/lang/Object;)Z" } : Jvm.MethodName) prog_82_method_3_code (3 : Nat) (Option.some Jvm.ClassFile.FieldType.boolean), Jvm.Cond.code ({ cls := "java/lang/Long", name := "valueOf", desc := "(J)Ljava/lang/Long;" } : Jvm.MethodName) jdk_35_method_24_code (3 : Nat) (Option.some (Jvm.ClassFile.FieldType.object "java/lang/Long")), Jvm.Cond.code ({ cls := "java/lang/Long", name := "<init>", desc := "(J)V" } : Jvm.MethodName) jdk_35_method_26_code (3 : Nat) (Option.none : Option Jvm.ClassFile.FieldType), Jvm.Cond.code ({ cls := "java/lang/Number", name := "<init>", desc := "()V" } : Jvm.MethodName) jdk_18_method_1_code (1 : Nat) (Option.none : Option Jvm.ClassFile.FieldType)]
set_option maxRecDepth 65536 in
theorem codes_eq : words1.filter isCode = codes1 := rfl
theorem w_codes : ∀ c ∈ words1.filter isCode, c.before args0 about1 = true := by
  rw [codes_eq]
  intro c hc
  simp only [codes1, List.mem_cons, List.not_mem_nil, or_false] at hc
  rcases hc with rfl | rfl | rfl | rfl | rfl | rfl | rfl | rfl
  · exact w_c0
  · exact w_c1
  · exact w_c2
  · exact w_c3
  · exact w_c4
  · exact w_c5
  · exact w_c6
  · exact w_c7
set_option maxRecDepth 65536 in
theorem w_t1 : (words1.take 24).all (fun c => isCode c || c.before args0 about1) = true := by decide +kernel
set_option maxRecDepth 65536 in
theorem w_t2 : ((words1.drop 24).take 24).all (fun c => isCode c || c.before args0 about1) = true := by decide +kernel
set_option maxRecDepth 65536 in
theorem w_t3 : ((words1.drop 24).drop 24).all (fun c => isCode c || c.before args0 about1) = true := by decide +kernel
theorem w_tables : (allAtoms (Jvm.Cond.code x code maxLocals ret :: tables_1)).before args0 about1 = true := by
  rw [allAtoms_all]
  show words1.all (fun c => c.before args0 about1) = true
  refine all_split ?_ w_codes
  rw [← List.take_append_drop 24 words1, List.all_append, w_t1, ← List.take_append_drop 24 (words1.drop 24), List.all_append, w_t2, w_t3]
  rfl
set_option maxRecDepth 65536 in
theorem w_rest : rest_1_c.before args0 about1 = true := by decide +kernel
set_option maxRecDepth 65536 in
theorem w_case : (Jvm.Cond.and given_1 narrow_1).before args0 about1 = true := by decide +kernel
theorem w_applies : (headSpec (Jvm.Cond.code x code maxLocals ret :: tables_1) room_1).applies x e0.platform about1 = true :=
  (Spec.applies_iff w_frames).mpr ⟨w_running, w_runnable, w_alone, w_named, w_hears, w_ripe, w_room, w_tables⟩
theorem atStart : AtStart classFile x code maxLocals ret World_1 tables_1 room_1 Calls_1 rest_1 Pre_1 launch0 p0 e0 about1 theMethod args0 below0 :=
  ⟨lists_1, trivial, launch0.admits_env _ _ _, launch0.least_env, fairChoices_fair.cas, fairChoices_fair.clock, w_frames, w_args, w_heap, w_applies, trivial, w_rest, w_case⟩
end start1
theorem witness_1 : WitnessClaimed_1 := ⟨start1.p0, start1.e0, start1.about1, start1.theMethod, start1.args0, start1.below0, start1.atStart⟩
end Jvm.Pilot.@@N@@
