import JvmDerived
import JvmDerived.Pilot.@@N@@Statement
import JvmDerived.Pilot.@@N@@Code
set_option linter.unusedVariables false
set_option linter.unusedSimpArgs false
namespace Jvm.RoadKit
open Sem ClassFile Op Lib Jvm.Stand Jvm.Free Jvm.LawKit
section Own
variable {p : Program} {l : Launch} {e : Env} {R : Room} {s : State} {m : MethodId} {args : Array Value} {below : List Frame} {meth : Method} {c : Code} {T : State} {locs : List Loc} {cells slots : Nat} {Z : State} {h h' : Heap} {a b : Addr} {ty : FieldType} {ws : List Addr}
/-- from the state S the run comes to an end that Q allows -/
def Go (p : Program) (e : Env) (below : List Frame) (s : State) (Q : Option Value → Heap → List Loc → Prop) (K N : Nat) (S : State) : Prop :=
  ∃ (t : State) (o : Outcome), Steps p.tables e below S t ∧ t.status = .running ∧ Ended t below o ∧ ∃ v L, o = .returned v ∧ Q v t.heap L ∧ FrameEnd s o t L K N
variable {Q : Option Value → Heap → List Loc → Prop} {K N : Nat} {S S' : State}
theorem gs (h : ∀ t, Steps p.tables e below S' t → Steps p.tables e below S t) (k : Go p e below s Q K N S') : Go p e below s Q K N S := by
  obtain ⟨t, o, a, b⟩ := k
  exact ⟨t, o, h t a, b⟩
theorem gt (h : Steps p.tables e below S S') (k : Go p e below s Q K N S') : Go p e below s Q K N S := gs (fun _ => h.trans) k
theorem goEnd (X : Stand p l e R s m args below meth c T locs cells slots) {v : Option Value} (hlocks : meth.locks = false) (hv : meth.sig.returnType = none → v = none)
    (hs : ∀ fs, (∀ (f : JFrame) (acts : List Action), f.method = m → f.locked = none → f.entered = [] → (doReturn e (T.setTop f) acts v).1 = T.setFrames fs) → Steps p.tables e below S (T.setFrames fs))
    (hQ : Q v T.heap locs) (hk : cells ≤ K) (hn : slots ≤ N) : Go p e below s Q K N S := by
  obtain ⟨fs, hr, hrun, hended, hW, hsame⟩ := X.leave (v := v) hv hlocks
  exact ⟨_, _, hs fs hr, hrun, hended, v, locs, rfl, hQ, ⟨_, rfl⟩, hW, hsame.mono hk hn⟩
theorem goV (X : Stand p l e R s m args below meth c T locs cells slots) (hx : p.tables.exec = Jvm.exec) (hlocks : meth.locks = false) (hret : meth.sig.returnType = none) {pc : Nat} {Ls : Array Slot} (hd : decode c.code pc = .ok (.return_, 1)) (hQ : Q none T.heap locs) (hk : cells ≤ K) (hn : slots ≤ N) :
    Go p e below s Q K N (T.setTop (mkF m pc Ls [])) := goEnd X hlocks (fun _ => rfl) (fun _ hr => X.returnOut hx hret hd hr) hQ hk hn
theorem goW (X : Stand p l e R s m args below meth c T locs cells slots) (hx : p.tables.exec = Jvm.exec) (hlocks : meth.locks = false) {t : FieldType} (hret : meth.sig.returnType = some t) {pc : Nat} {Ls : Array Slot} {w : Value} {i : Instr} {rest : List Value} (hn0 : narrow t w = w)
    (hi : (i = .ireturn ∧ (t = .int ∨ t = .boolean ∨ t = .byte ∨ t = .char ∨ t = .short) ∧ ∃ z, w = .int z) ∨ (i = .lreturn ∧ t = .long ∧ ∃ z, w = .long z) ∨ (i = .dreturn ∧ t = .double ∧ ∃ z, w = .double z) ∨ (i = .freturn ∧ t = .float ∧ ∃ z, w = .float z) ∨ (i = .areturn ∧ t.isReference = true ∧ w.isRef = true))
    (hd : decode c.code pc = .ok (i, 1)) (hQ : Q (some w) T.heap locs) (hk : cells ≤ K) (hn : slots ≤ N) : Go p e below s Q K N (T.setTop (mkF m pc Ls (w :: rest))) :=
  goEnd X hlocks (fun q => by rw [hret] at q; cases q) (fun _ hr => retOut X hx hret hn0 hi hd hr) hQ hk hn
theorem goI (X : Stand p l e R s m args below meth c T locs cells slots) (hx : p.tables.exec = Jvm.exec) (hlocks : meth.locks = false) (hret : meth.sig.returnType = some .int) {pc : Nat} {Ls : Array Slot} {w : Int32} {rest : List Value} (hd : decode c.code pc = .ok (.ireturn, 1)) (hQ : Q (some (.int w)) T.heap locs) (hk : cells ≤ K) (hn : slots ≤ N) :
    Go p e below s Q K N (T.setTop (mkF m pc Ls (.int w :: rest))) := goW X hx hlocks hret rfl (Or.inl ⟨rfl, Or.inl rfl, w, rfl⟩) hd hQ hk hn
theorem goJ (X : Stand p l e R s m args below meth c T locs cells slots) (hx : p.tables.exec = Jvm.exec) (hlocks : meth.locks = false) (hret : meth.sig.returnType = some .long) {pc : Nat} {Ls : Array Slot} {w : Int64} {rest : List Value} (hd : decode c.code pc = .ok (.lreturn, 1)) (hQ : Q (some (.long w)) T.heap locs) (hk : cells ≤ K) (hn : slots ≤ N) :
    Go p e below s Q K N (T.setTop (mkF m pc Ls (.long w :: rest))) := goW X hx hlocks hret rfl (Or.inr (Or.inl ⟨rfl, rfl, w, rfl⟩)) hd hQ hk hn
theorem goR (X : Stand p l e R s m args below meth c T locs cells slots) (hx : p.tables.exec = Jvm.exec) (hlocks : meth.locks = false) {t : FieldType} (hret : meth.sig.returnType = some t) (ht : t.isReference = true) {pc : Nat} {Ls : Array Slot} {w : Value} (hw : w.isRef = true) {rest : List Value} (hd : decode c.code pc = .ok (.areturn, 1)) (hQ : Q (some w) T.heap locs) (hk : cells ≤ K) (hn : slots ≤ N) :
    Go p e below s Q K N (T.setTop (mkF m pc Ls (w :: rest))) :=
  goW X hx hlocks hret (by cases t <;> simp [FieldType.isReference] at ht <;> rfl) (Or.inr (Or.inr (Or.inr (Or.inr ⟨rfl, ht, hw⟩)))) hd hQ hk hn
theorem goB (X : Stand p l e R s m args below meth c T locs cells slots) (hx : p.tables.exec = Jvm.exec) (hlocks : meth.locks = false) {t : FieldType} (hret : meth.sig.returnType = some t) (ht : t = .boolean ∨ t = .byte ∨ t = .char ∨ t = .short) {pc : Nat} {Ls : Array Slot} {z w : Int32} {rest : List Value} (hz : nar t z = w) (hd : decode c.code pc = .ok (.ireturn, 1)) (hQ : Q (some (.int w)) T.heap locs) (hk : cells ≤ K) (hn : slots ≤ N) :
    Go p e below s Q K N (T.setTop (mkF m pc Ls (.int z :: rest))) := by
  subst hz
  exact goEnd X hlocks (fun q => by rw [hret] at q; cases q) (fun _ hr => retN X hx hret ht hd hr) hQ hk hn
/-- an array of n places; the place i holds f i -/
def Arf (Z : State) (h : Heap) (a : Addr) (ty : FieldType) (n : Nat) (f : Nat → Value) : Prop := ∃ c : Cell, Arr Z h a c ty ∧ c.slots.size = n ∧ n < 2 ^ 31 ∧ ∀ i, i < n → c.slots[i]? = some (f i)
def upd (f : Nat → Value) (j : Nat) (v : Value) : Nat → Value := fun i => if i = j then v else f i
variable {n : Nat} {f g : Nat → Value} {sl : Nat} {v : Value}
theorem Arf.lt (F : Arf Z h a ty n f) : a < h.size := by obtain ⟨c, A, -⟩ := F; exact A.lt
theorem Arf.ext (F : Arf Z h a ty n f) (E : Ext h h') : Arf Z h' a ty n f := by obtain ⟨c, A, r⟩ := F; exact ⟨c, A.ext E, r⟩
theorem Arf.other (F : Arf Z h b ty n f) (W : Wr h h' a sl v) (q : b ≠ a) : Arf Z h' b ty n f := by obtain ⟨c, A, r⟩ := F; exact ⟨c, A.other W q, r⟩
theorem Arf.keep (F : Arf Z h a ty n f) (K : Keep h h' ws) (q : a ∉ ws) : Arf Z h' a ty n f := by obtain ⟨c, A, r⟩ := F; exact ⟨c, ⟨K.2.1 a c A.1 q, A.2⟩, r⟩
theorem Arf.congr (F : Arf Z h a ty n f) (q : ∀ i, i < n → f i = g i) : Arf Z h a ty n g := by
  obtain ⟨c, A, r1, r2, r3⟩ := F
  exact ⟨c, A, r1, r2, fun i hi => by rw [← q i hi]; exact r3 i hi⟩
theorem clampLt (z : Int32) : z.toNatClampNeg < 2 ^ 31 := by
  have h1 := z.toInt_lt
  have h2 : z.toNatClampNeg = z.toInt.toNat := rfl
  omega
theorem clampOf {j : Int32} (h0 : 0 ≤ j.toInt) : (j.toNatClampNeg : Int) = j.toInt := by
  have h2 : j.toNatClampNeg = j.toInt.toNat := rfl
  omega
theorem Arf.new {k : ClassId} {z : Int32} (A : Arr Z h a (newA k ty z) ty) : Arf Z h a ty z.toNatClampNeg (fun _ => defaultValue ty) := by
  refine ⟨_, A, sz_new _ _ _, clampLt z, fun i hi => ?_⟩
  simp [newA, hi]
theorem Arf.set (F : Arf Z h a ty n f) {j : Nat} (W : Wr h h' a j v) (hj : j < n) : Arf Z h' a ty n (upd f j v) := by
  obtain ⟨c, A, r1, r2, r3⟩ := F
  refine ⟨_, A.same W, by rw [sz_set]; exact r1, r2, fun i hi => ?_⟩
  by_cases q : i = j
  · subst q
    simp [Cell.setSlot, upd, r1, hi]
  · have q' : ¬ j = i := fun x => q x.symm
    simp [Cell.setSlot, upd, q, Array.getElem?_setIfInBounds_ne q', r3 i hi]
theorem inI {cl : Cell} (S : cl.slots.size = n) {j : Int32} (hj : 0 ≤ j.toInt ∧ j.toInt < n) : ¬ (j < 0 ∨ cl.slots.size ≤ j.toNatClampNeg) := by
  have q := clampOf hj.1
  rintro (h1 | h1)
  · rw [Int32.lt_iff_toInt_lt] at h1
    have : (0 : Int32).toInt = 0 := rfl
    omega
  · omega
theorem stIf (X : Stand p l e R s m args below meth c T locs cells slots) (hx : p.tables.exec = Jvm.exec) (hZ : Z.Warmed39 s.vm) (eT : T.heap = h) (F : Arf Z h a .int n f) {j x : Int32} (hj : 0 ≤ j.toInt ∧ j.toInt < n) {g : JFrame} (hg : g.method = m) {rest : List Value} (hs : g.stack = .int x :: .int j :: .ref a :: rest) (hd : decode c.code g.pc = .ok (.iastore, 1)) :
    ∃ T' h', Stand p l e R s m args below meth c T' (locs ++ [⟨a, j.toNatClampNeg⟩]) cells slots ∧ T'.heap = h' ∧ Wr h h' a j.toNatClampNeg (.int x) ∧ Arf Z h' a .int n (upd f j.toNatClampNeg (.int x)) ∧ ∀ target, Steps p.tables e below (T'.setTop { g with pc := g.pc + 1, stack := rest }) target → Steps p.tables e below (T.setTop g) target := by
  obtain ⟨cl, A, r1, r2, r3⟩ := id F
  obtain ⟨T', h', X', e', W, st⟩ := stI X hx hZ eT A (j := j) (x := x) (inI r1 hj) hg hs hd
  have q := clampOf hj.1
  exact ⟨T', h', X', e', W, F.set W (by omega), st⟩
theorem stJf (X : Stand p l e R s m args below meth c T locs cells slots) (hx : p.tables.exec = Jvm.exec) (hZ : Z.Warmed39 s.vm) (eT : T.heap = h) (F : Arf Z h a .long n f) {j : Int32} {x : Int64} (hj : 0 ≤ j.toInt ∧ j.toInt < n) {g : JFrame} (hg : g.method = m) {rest : List Value} (hs : g.stack = .long x :: .int j :: .ref a :: rest) (hd : decode c.code g.pc = .ok (.lastore, 1)) :
    ∃ T' h', Stand p l e R s m args below meth c T' (locs ++ [⟨a, j.toNatClampNeg⟩]) cells slots ∧ T'.heap = h' ∧ Wr h h' a j.toNatClampNeg (.long x) ∧ Arf Z h' a .long n (upd f j.toNatClampNeg (.long x)) ∧ ∀ target, Steps p.tables e below (T'.setTop { g with pc := g.pc + 1, stack := rest }) target → Steps p.tables e below (T.setTop g) target := by
  obtain ⟨cl, A, r1, r2, r3⟩ := id F
  obtain ⟨T', h', X', e', W, st⟩ := stJ X hx hZ eT A (j := j) (x := x) (inI r1 hj) hg hs hd
  have q := clampOf hj.1
  exact ⟨T', h', X', e', W, F.set W (by omega), st⟩
theorem stBf (X : Stand p l e R s m args below meth c T locs cells slots) (hx : p.tables.exec = Jvm.exec) (hZ : Z.Warmed39 s.vm) (eT : T.heap = h) (F : Arf Z h a .byte n f) {j x : Int32} (hj : 0 ≤ j.toInt ∧ j.toInt < n) {g : JFrame} (hg : g.method = m) {rest : List Value} (hs : g.stack = .int x :: .int j :: .ref a :: rest) (hd : decode c.code g.pc = .ok (.bastore, 1)) :
    ∃ T' h', Stand p l e R s m args below meth c T' (locs ++ [⟨a, j.toNatClampNeg⟩]) cells slots ∧ T'.heap = h' ∧ Wr h h' a j.toNatClampNeg (.int (nar .byte x)) ∧ Arf Z h' a .byte n (upd f j.toNatClampNeg (.int (nar .byte x))) ∧ ∀ target, Steps p.tables e below (T'.setTop { g with pc := g.pc + 1, stack := rest }) target → Steps p.tables e below (T.setTop g) target := by
  obtain ⟨cl, A, r1, r2, r3⟩ := id F
  obtain ⟨T', h', X', e', W, st⟩ := stB X hx hZ eT A (j := j) (x := x) (inI r1 hj) hg hs hd
  have q := clampOf hj.1
  exact ⟨T', h', X', e', W, F.set W (by omega), st⟩
theorem stZf (X : Stand p l e R s m args below meth c T locs cells slots) (hx : p.tables.exec = Jvm.exec) (hZ : Z.Warmed39 s.vm) (eT : T.heap = h) (F : Arf Z h a .boolean n f) {j x : Int32} (hj : 0 ≤ j.toInt ∧ j.toInt < n) {g : JFrame} (hg : g.method = m) {rest : List Value} (hs : g.stack = .int x :: .int j :: .ref a :: rest) (hd : decode c.code g.pc = .ok (.bastore, 1)) :
    ∃ T' h', Stand p l e R s m args below meth c T' (locs ++ [⟨a, j.toNatClampNeg⟩]) cells slots ∧ T'.heap = h' ∧ Wr h h' a j.toNatClampNeg (.int (nar .boolean x)) ∧ Arf Z h' a .boolean n (upd f j.toNatClampNeg (.int (nar .boolean x))) ∧ ∀ target, Steps p.tables e below (T'.setTop { g with pc := g.pc + 1, stack := rest }) target → Steps p.tables e below (T.setTop g) target := by
  obtain ⟨cl, A, r1, r2, r3⟩ := id F
  obtain ⟨T', h', X', e', W, st⟩ := stZ X hx hZ eT A (j := j) (x := x) (inI r1 hj) hg hs hd
  have q := clampOf hj.1
  exact ⟨T', h', X', e', W, F.set W (by omega), st⟩
theorem stCf (X : Stand p l e R s m args below meth c T locs cells slots) (hx : p.tables.exec = Jvm.exec) (hZ : Z.Warmed39 s.vm) (eT : T.heap = h) (F : Arf Z h a .char n f) {j x : Int32} (hj : 0 ≤ j.toInt ∧ j.toInt < n) {g : JFrame} (hg : g.method = m) {rest : List Value} (hs : g.stack = .int x :: .int j :: .ref a :: rest) (hd : decode c.code g.pc = .ok (.castore, 1)) :
    ∃ T' h', Stand p l e R s m args below meth c T' (locs ++ [⟨a, j.toNatClampNeg⟩]) cells slots ∧ T'.heap = h' ∧ Wr h h' a j.toNatClampNeg (.int (nar .char x)) ∧ Arf Z h' a .char n (upd f j.toNatClampNeg (.int (nar .char x))) ∧ ∀ target, Steps p.tables e below (T'.setTop { g with pc := g.pc + 1, stack := rest }) target → Steps p.tables e below (T.setTop g) target := by
  obtain ⟨cl, A, r1, r2, r3⟩ := id F
  obtain ⟨T', h', X', e', W, st⟩ := stC X hx hZ eT A (j := j) (x := x) (inI r1 hj) hg hs hd
  have q := clampOf hj.1
  exact ⟨T', h', X', e', W, F.set W (by omega), st⟩
theorem stRf (X : Stand p l e R s m args below meth c T locs cells slots) (hx : p.tables.exec = Jvm.exec) (hZ : Z.Warmed39 s.vm) (eT : T.heap = h) (F : Arf Z h a ty n f) (hty : ty.isReference = true) {j : Int32} {v : Value} (hv : Sto Z h a v) (hj : 0 ≤ j.toInt ∧ j.toInt < n) {g : JFrame} (hg : g.method = m) {rest : List Value} (hs : g.stack = v :: .int j :: .ref a :: rest) (hd : decode c.code g.pc = .ok (.aastore, 1)) :
    ∃ T' h', Stand p l e R s m args below meth c T' (locs ++ [⟨a, j.toNatClampNeg⟩]) cells slots ∧ T'.heap = h' ∧ Wr h h' a j.toNatClampNeg v ∧ Arf Z h' a ty n (upd f j.toNatClampNeg v) ∧ ∀ target, Steps p.tables e below (T'.setTop { g with pc := g.pc + 1, stack := rest }) target → Steps p.tables e below (T.setTop g) target := by
  obtain ⟨cl, A, r1, r2, r3⟩ := id F
  obtain ⟨T', h', X', e', W, st⟩ := stR X hx hZ eT A (j := j) (v := v) (inI r1 hj) hty hv hg hs hd
  have q := clampOf hj.1
  exact ⟨T', h', X', e', W, F.set W (by omega), st⟩
theorem ldIf (X : Stand p l e R s m args below meth c T locs cells slots) (hx : p.tables.exec = Jvm.exec) (hZ : Z.Warmed39 s.vm) (eT : T.heap = h) (F : Arf Z h a .int n f) {j : Int32} {v : Value} (hj : 0 ≤ j.toInt ∧ j.toInt < n) (hv : f j.toNatClampNeg = v) {g : JFrame} (hg : g.method = m) {rest : List Value} (hs : g.stack = .int j :: .ref a :: rest) (hd : decode c.code g.pc = .ok (.iaload, 1)) :
    ∀ target, Steps p.tables e below (T.setTop { g with pc := g.pc + 1, stack := v :: rest }) target → Steps p.tables e below (T.setTop g) target := by
  obtain ⟨cl, A, r1, r2, r3⟩ := F
  have q := clampOf hj.1
  exact fun t => X.iaload hx (by rw [eT]; exact A.1) (State.isArrayOf_alike hZ.alike A.2.1) A.2.2 (inI r1 hj) (by rw [← hv]; exact r3 _ (by omega)) hg hs hd t
theorem ldJf (X : Stand p l e R s m args below meth c T locs cells slots) (hx : p.tables.exec = Jvm.exec) (hZ : Z.Warmed39 s.vm) (eT : T.heap = h) (F : Arf Z h a .long n f) {j : Int32} {v : Value} (hj : 0 ≤ j.toInt ∧ j.toInt < n) (hv : f j.toNatClampNeg = v) {g : JFrame} (hg : g.method = m) {rest : List Value} (hs : g.stack = .int j :: .ref a :: rest) (hd : decode c.code g.pc = .ok (.laload, 1)) :
    ∀ target, Steps p.tables e below (T.setTop { g with pc := g.pc + 1, stack := v :: rest }) target → Steps p.tables e below (T.setTop g) target := by
  obtain ⟨cl, A, r1, r2, r3⟩ := F
  have q := clampOf hj.1
  exact fun t => X.laload hx (by rw [eT]; exact A.1) (State.isArrayOf_alike hZ.alike A.2.1) A.2.2 (inI r1 hj) (by rw [← hv]; exact r3 _ (by omega)) hg hs hd t
theorem ldCf (X : Stand p l e R s m args below meth c T locs cells slots) (hx : p.tables.exec = Jvm.exec) (hZ : Z.Warmed39 s.vm) (eT : T.heap = h) (F : Arf Z h a .char n f) {j : Int32} {v : Value} (hj : 0 ≤ j.toInt ∧ j.toInt < n) (hv : f j.toNatClampNeg = v) {g : JFrame} (hg : g.method = m) {rest : List Value} (hs : g.stack = .int j :: .ref a :: rest) (hd : decode c.code g.pc = .ok (.caload, 1)) :
    ∀ target, Steps p.tables e below (T.setTop { g with pc := g.pc + 1, stack := v :: rest }) target → Steps p.tables e below (T.setTop g) target := by
  obtain ⟨cl, A, r1, r2, r3⟩ := F
  have q := clampOf hj.1
  exact fun t => X.caload hx (by rw [eT]; exact A.1) (State.isArrayOf_alike hZ.alike A.2.1) A.2.2 (inI r1 hj) (by rw [← hv]; exact r3 _ (by omega)) hg hs hd t
theorem ldBf (X : Stand p l e R s m args below meth c T locs cells slots) (hx : p.tables.exec = Jvm.exec) (hZ : Z.Warmed39 s.vm) (eT : T.heap = h) (F : Arf Z h a .byte n f) {j : Int32} {v : Value} (hj : 0 ≤ j.toInt ∧ j.toInt < n) (hv : f j.toNatClampNeg = v) {g : JFrame} (hg : g.method = m) {rest : List Value} (hs : g.stack = .int j :: .ref a :: rest) (hd : decode c.code g.pc = .ok (.baload, 1)) :
    ∀ target, Steps p.tables e below (T.setTop { g with pc := g.pc + 1, stack := v :: rest }) target → Steps p.tables e below (T.setTop g) target := by
  obtain ⟨cl, A, r1, r2, r3⟩ := F
  have q := clampOf hj.1
  exact fun t => X.baloadBytes hx (by rw [eT]; exact A.1) (State.isArrayOf_alike hZ.alike A.2.1) A.2.2 (inI r1 hj) (by rw [← hv]; exact r3 _ (by omega)) hg hs hd t
theorem ldZf (X : Stand p l e R s m args below meth c T locs cells slots) (hx : p.tables.exec = Jvm.exec) (hZ : Z.Warmed39 s.vm) (eT : T.heap = h) (F : Arf Z h a .boolean n f) {j : Int32} {v : Value} (hj : 0 ≤ j.toInt ∧ j.toInt < n) (hv : f j.toNatClampNeg = v) {g : JFrame} (hg : g.method = m) {rest : List Value} (hs : g.stack = .int j :: .ref a :: rest) (hd : decode c.code g.pc = .ok (.baload, 1)) :
    ∀ target, Steps p.tables e below (T.setTop { g with pc := g.pc + 1, stack := v :: rest }) target → Steps p.tables e below (T.setTop g) target := by
  obtain ⟨cl, A, r1, r2, r3⟩ := F
  have q := clampOf hj.1
  exact fun t => X.baloadBooleans hx (by rw [eT]; exact A.1) (State.isArrayOf_alike hZ.alike A.2.1) A.2.2 (inI r1 hj) (by rw [← hv]; exact r3 _ (by omega)) hg hs hd t
theorem ldRf (X : Stand p l e R s m args below meth c T locs cells slots) (hx : p.tables.exec = Jvm.exec) (hZ : Z.Warmed39 s.vm) (eT : T.heap = h) (F : Arf Z h a ty n f) (hty : ty.isReference = true) {j : Int32} {v : Value} (hj : 0 ≤ j.toInt ∧ j.toInt < n) (hv : f j.toNatClampNeg = v) {g : JFrame} (hg : g.method = m) {rest : List Value} (hs : g.stack = .int j :: .ref a :: rest) (hd : decode c.code g.pc = .ok (.aaload, 1)) :
    ∀ target, Steps p.tables e below (T.setTop { g with pc := g.pc + 1, stack := v :: rest }) target → Steps p.tables e below (T.setTop g) target := by
  obtain ⟨cl, A, r1, r2, r3⟩ := F
  have q := clampOf hj.1
  exact fun t => X.aaload hx (by rw [eT]; exact A.1) (State.isArrayOf_alike hZ.alike A.2.1) hty A.2.2 (inI r1 hj) (by rw [← hv]; exact r3 _ (by omega)) hg hs hd t
theorem lenf (X : Stand p l e R s m args below meth c T locs cells slots) (hx : p.tables.exec = Jvm.exec) (hZ : Z.Warmed39 s.vm) (eT : T.heap = h) (F : Arf Z h a ty n f) {z : Int32} (hz : n.toInt32 = z) {g : JFrame} (hg : g.method = m) {rest : List Value} (hs : g.stack = .ref a :: rest) (hd : decode c.code g.pc = .ok (.arraylength, 1)) :
    ∀ target, Steps p.tables e below (T.setTop { g with pc := g.pc + 1, stack := .int z :: rest }) target → Steps p.tables e below (T.setTop g) target := by
  obtain ⟨cl, A, r1, r2, r3⟩ := F
  subst hz r1
  exact fun t => X.arraylength hx (by rw [eT]; exact A.1) (State.isArrayOf_alike hZ.alike A.2.1) hg hs hd t
theorem toClamp {z : Int32} (q : 0 ≤ z.toInt) : z.toNatClampNeg.toInt32 = z := (back32 (fun h => by rw [Int32.lt_iff_toInt_lt] at h; have : (0 : Int32).toInt = 0 := rfl; omega)).1
/-- an array that takes every object of the class C -/
def Tak (Z : State) (h : Heap) (a : Addr) (C : String) : Prop := ∃ (cell : Cell) (k kc : Class) (comp : ClassId) (t : FieldType), h[a]? = some cell ∧ Z.vm.classes[cell.cls]? = some k ∧ k.kind = .array comp t ∧ Z.vm.classes[comp]? = some kc ∧ Z.vm.findClass C = some comp
variable {C : String}
theorem Tak.ext (F : Tak Z h a C) (E : Ext h h') : Tak Z h' a C := by obtain ⟨cell, k, kc, comp, t, h1, r⟩ := F; exact ⟨cell, k, kc, comp, t, E.2 _ _ h1, r⟩
theorem Tak.wr (F : Tak Z h a C) (W : Wr h h' b sl v) : Tak Z h' a C := by
  obtain ⟨cell, k, kc, comp, t, h1, h2, r⟩ := F
  obtain ⟨c', e1, e2, -⟩ := wr_at W h1
  exact ⟨c', k, kc, comp, t, e1, by rw [e2]; exact h2, r⟩
theorem Tak.keep (F : Tak Z h a C) (K : Keep h h' ws) : Tak Z h' a C := by
  obtain ⟨cell, k, kc, comp, t, h1, h2, r⟩ := F
  obtain ⟨c', e1, e2, -⟩ := K.2.2 _ _ h1
  exact ⟨c', k, kc, comp, t, e1, by rw [e2]; exact h2, r⟩
theorem Tak.sto (F : Tak Z h a C) {y : Addr} (I : Ins Z h y C true) : Sto Z h a (.ref y) := by
  obtain ⟨cell, k, kc, comp, t, h1, h2, h3, h4, h5⟩ := F
  obtain ⟨cv, cT, g1, g2, g3⟩ := I
  cases h5.symm.trans g2
  simp only [Bool.and_eq_true, Bool.not_eq_true'] at g3
  have hv : ∃ kv, Z.vm.classes[cv.cls]? = some kv := by
    cases q : Z.vm.classes[cv.cls]? with
    | some kv => exact ⟨kv, rfl⟩
    | none =>
      by_cases e : cv.cls = comp
      · rw [e, h4] at q; cases q
      · have := g3.2
        simp [Vm.assignable, Vm.assignableAux, e, q] at this
  obtain ⟨kv, hkv⟩ := hv
  exact Or.inr ⟨cell, cv, k, kv, kc, comp, t, y, h1, h2, h3, h4, rfl, g1, g3.1, hkv, g3.2⟩
theorem Tak.of {cA : ClassId} {n : Int32} (A : Arr Z h a (newA cA ty n) ty) (O : Ovr Z cA C) : Tak Z h a C := by
  obtain ⟨k, comp, o1, o2, o3⟩ := O
  obtain ⟨kc, q, -⟩ := Vm.findClass_spec o3
  exact ⟨_, k, kc, comp, _, A.1, o1, o2, q, o3⟩
theorem Tak.ofA {cA : ClassId} {n : Int32} {ty' : FieldType} (A : Arr Z h a (newA cA ty n) ty) (O : OvrA Z cA ty' C) : Tak Z h a C := by
  obtain ⟨k, comp, o1, o2, o3⟩ := O
  obtain ⟨kc, q, -⟩ := Vm.findClass_spec o3
  exact ⟨_, k, kc, comp, _, A.1, o1, o2, q, o3⟩
theorem own_eqI {t : Term} {k : Int32} {args : Array Value} {first s : State} {o : Option Outcome} {idx : List Nat} (h : (Cond.eq t (.int k)).value args first o s idx = some true) : t.eval args first o idx s = some (.int k) := by
  simp only [Cond.value, Term.eval] at h
  cases ht : t.eval args first o idx s with
  | none => simp [ht] at h
  | some x => cases x <;> simp [ht] at h ⊢ <;> exact h
end Own
end Jvm.RoadKit
namespace Jvm.Pilot.@@N@@
open Jvm Jvm.ClassFile Sem Op Lib Jvm.Free Jvm.Stand Jvm.LawKit Jvm.RoadKit Bundle Jvm.Pilot.@@N@@.Jvm.D
theorem pd_0 : parseMethodDescriptor "(JJ)V" = some ⟨[.long, .long], none⟩ := by decide +kernel
theorem pd_1 : parseMethodDescriptor "(JIJ)Ljava/util/UUID;" = some ⟨[.long, .int, .long], some (.object "java/util/UUID")⟩ := by decide +kernel
theorem pd_2 : parseMethodDescriptor "()J" = some ⟨[], some .long⟩ := by decide +kernel
theorem own_hi (x : Int64) (y : Int32) {m hi : Int64} {a : Int32} (hm : x &&& (281474976710655 : Int64) = m) (ha : y &&& (4095 : Int32) = a) (hh : (((m <<< ((16 : Int32) &&& 0x3f).toInt64) ||| (28672 : Int64)) ||| (a.toInt64)) = hi) :
    ((hi.toUInt64 >>> ((16 : Int32) &&& 0x3f).toInt64.toUInt64).toInt64) = m ∧ (((hi.toUInt64 >>> ((12 : Int32) &&& 0x3f).toInt64.toUInt64).toInt64) &&& (15 : Int64)) = 7 ∧ (hi &&& (4095 : Int64)) = a.toInt64 := by
  have e1 := c_maskL x 281474976710655 48 (by decide) (by decide)
  have e2 := c_mask y 4095 12 (by decide) (by decide)
  rw [hm] at e1
  rw [ha] at e2
  have e3 := c_lshl m 16 16 (by decide)
  have k1 : (28672 : Int64).toInt = 28672 := rfl
  have e4 := c_orL (m <<< ((16 : Int32) &&& 0x3f).toInt64) 28672 16 (by decide) 65536 (by decide) (by omega) (by decide) (by decide)
  have e5 := c_i2l a
  have e6 := c_orL ((m <<< ((16 : Int32) &&& 0x3f).toInt64) ||| 28672) a.toInt64 12 (by decide) 4096 (by decide) (by omega) (by omega) (by omega)
  rw [hh] at e6
  have e7 := c_lushr hi 16 16 (by decide) (by decide)
  have e8 := c_lushr hi 12 12 (by decide) (by decide)
  have e9 := c_maskL ((hi.toUInt64 >>> ((12 : Int32) &&& 0x3f).toInt64.toUInt64).toInt64) 15 4 (by decide) (by decide)
  have e10 := c_maskL hi 4095 12 (by decide) (by decide)
  have k7 : (7 : Int64).toInt = 7 := rfl
  have r1 := rng64 hi
  refine ⟨?_, ?_, ?_⟩ <;> rw [← Int64.toInt_inj] <;> omega
theorem own_lo (x : Int64) {b lo : Int64} (hb : x &&& (4611686018427387903 : Int64) = b) (hl : ((-9223372036854775808 : Int64) ||| b) = lo) :
    ((lo.toUInt64 >>> ((62 : Int32) &&& 0x3f).toInt64.toUInt64).toInt64) = 2 ∧ (lo &&& (4611686018427387903 : Int64)) = b := by
  have e1 := c_maskL x 4611686018427387903 62 (by decide) (by decide)
  rw [hb] at e1
  have k1 : (-9223372036854775808 : Int64).toInt = -9223372036854775808 := rfl
  have e2 := c_orL (-9223372036854775808) b 62 (by decide) 4611686018427387904 (by decide) (by decide) (by omega) (by omega)
  rw [hl] at e2
  have e3 := c_lushr lo 62 62 (by decide) (by decide)
  have e4 := c_maskL lo 4611686018427387903 62 (by decide) (by decide)
  have k7 : (2 : Int64).toInt = 2 := rfl
  have r1 := rng64 lo
  refine ⟨?_, ?_⟩ <;> rw [← Int64.toInt_inj] <;> omega
theorem d2_0 : decode jdk_2758_method_2_code 0 = .ok (.aload_n 0, 1) := by decide +kernel
theorem d2_1 : decode jdk_2758_method_2_code 1 = .ok (.invokespecial 1, 3) := by decide +kernel
theorem d2_4 : decode jdk_2758_method_2_code 4 = .ok (.aload_n 0, 1) := by decide +kernel
theorem d2_5 : decode jdk_2758_method_2_code 5 = .ok (.lload_n 1, 1) := by decide +kernel
theorem d2_6 : decode jdk_2758_method_2_code 6 = .ok (.putfield 20, 3) := by decide +kernel
theorem d2_9 : decode jdk_2758_method_2_code 9 = .ok (.aload_n 0, 1) := by decide +kernel
theorem d2_10 : decode jdk_2758_method_2_code 10 = .ok (.lload_n 3, 1) := by decide +kernel
theorem d2_11 : decode jdk_2758_method_2_code 11 = .ok (.putfield 24, 3) := by decide +kernel
theorem d2_14 : decode jdk_2758_method_2_code 14 = .ok (.return_, 1) := by decide +kernel
theorem pn_2 : plainName "java/util/UUID" = true := by first | (simp [plainName, overriddenIn]; done) | decide +kernel
def Qrm2 (Z : State) (r0 : Addr) (p1 : Int64) (p2 : Int64) (h0 : Heap) (n0 : Nat) (v : Option Value) (h : Heap) (L : List Loc) : Prop := v = none ∧ Fr n0 L ∧ Keep h0 h [r0] ∧ Fld Z h r0 "java/util/UUID" "mostSigBits" "J" (.long p1) ∧ Fld Z h r0 "java/util/UUID" "leastSigBits" "J" (.long p2)
set_option maxRecDepth 65536 in
set_option maxHeartbeats 40000000 in
theorem rm2 (l : Launch) (Z : State) (a0 : Array Value) (hw : ∀ d ∈ tables_1, d.before a0 Z = true) (ws : List Jvm.Cond) (r0 : Addr) (p1 : Int64) (p2 : Int64) (h0 : Heap) (n0 : Nat) (Z0 : n0 ≤ h0.size) (F_mostSigBits_r0 : Fld Z h0 r0 "java/util/UUID" "mostSigBits" "J" (.long (0 : Int64))) (F_leastSigBits_r0 : Fld Z h0 r0 "java/util/UUID" "leastSigBits" "J" (.long (0 : Int64))) (E_r0 : Exa Z h0 r0 "java/util/UUID") (ge_r0 : n0 ≤ r0) :
    MetFree l (⟨"java/util/UUID", "<init>", "(JJ)V"⟩ : MethodName) (head1 (Jvm.Cond.code (⟨"java/util/UUID", "<init>", "(JJ)V"⟩ : MethodName) jdk_2758_method_2_code 5 none :: ws) ({ frames := 1, cells := 0, slots := 0, locals := 12 } : Room)) (fun a U => a = #[(.ref r0), (.long p1), (.long p2)] ∧ Z.Warmed39 U.vm ∧ U.heap = h0) (fun _ _ _ _ _ => True) (fun _ U o U' => ∃ v L, o = .returned v ∧ Qrm2 Z r0 p1 p2 h0 n0 v U'.heap L ∧ FrameEnd U o U' L ({ frames := 1, cells := 0, slots := 0, locals := 12 } : Room).cells ({ frames := 1, cells := 0, slots := 0, locals := 12 } : Room).slots) := by
  refine MetFree.of_bodySF (plainFor_of_name pn_2) hisR ?_
  intro p e s m args below meth c s₁ Bd hml0 hP hK
  obtain ⟨rfl, hZ, hh⟩ := hP
  have hx := Bd.exec
  have hby := Bd.bytes
  have hml : c.maxLocals = 5 := hml0
  have hown : s.vm.findClass "java/util/UUID" = some m.cls := findClass_of_methodNamed Bd.named
  have hnm := (name_of_methodNamed Bd.named Bd.method).1
  have X0 : Stand p l e ({ frames := 1, cells := 0, slots := 0, locals := 12 } : Room) s m #[(.ref r0), (.long p1), (.long p2)] below meth c s₁ [] 0 0 := Stand.of_body Bd
  have e0 : s₁.heap = h0 := by rw [← hh, Bd.state]; rfl
  have N0 := Fr.nil n0
  have ZZ := Z0
  have KK : Keep h0 h0 [r0] := Keep.refl h0 _
  show Go p e below s (Qrm2 Z r0 p1 p2 h0 n0) 0 0 (s₁.setTop (entryFrame m #[(.ref r0), (.long p1), (.long p2)] 5))
  generalize hQQ : (Qrm2 Z r0 p1 p2 h0 n0) = QQ
  refine gs (fun t k => castTop (g' := (mkF m 0 #[.val (.ref r0), .val (.long p1), .second, .val (.long p2), .second] [])) (by first | (simp [entryFrame, mkF, argsToLocals, Value.category, maxLocals]; done) | rfl) k) ?_
  show Go p e below s QQ 0 0 (s₁.setTop (mkF m 0 #[.val (.ref r0), .val (.long p1), .second, .val (.long p2), .second] []))
  refine gs (fun t => XS.aloadN X0.here hx rfl (hb hby d2_0) rfl rfl) ?_
  show Go p e below s QQ 0 0 (s₁.setTop (mkF m 1 #[.val (.ref r0), .val (.long p1), .second, .val (.long p2), .second] [(.ref r0)]))
  obtain ⟨T1, X1, e1, st1⟩ := initO X0 hx hZ hown (hw _ (List.mem_of_getElem? (i := 14) rfl)) (hw _ (List.mem_of_getElem? (i := 15) rfl)) (hw _ (List.mem_of_getElem? (i := 16) rfl)) e0 (g := (mkF m 1 #[.val (.ref r0), .val (.long p1), .second, .val (.long p2), .second] [(.ref r0)])) rfl (by rw [hml]; rfl) rfl (hb hby d2_1) (by decide) (W := 0) (by show 2 * 0 + _ ≤ _; exact Nat.le_of_eq rfl) (by decide)
  refine gs st1 ?_
  show Go p e below s QQ 0 0 (T1.setTop (mkF m 4 #[.val (.ref r0), .val (.long p1), .second, .val (.long p2), .second] []))
  refine gs (fun t => XS.aloadN X1.here hx rfl (hb hby d2_4) rfl rfl) ?_
  show Go p e below s QQ 0 0 (T1.setTop (mkF m 5 #[.val (.ref r0), .val (.long p1), .second, .val (.long p2), .second] [(.ref r0)]))
  refine gs (fun t => XS.lloadN X1.here hx rfl (hb hby d2_5) rfl) ?_
  show Go p e below s QQ 0 0 (T1.setTop (mkF m 6 #[.val (.ref r0), .val (.long p1), .second, .val (.long p2), .second] [(.long p1), (.ref r0)]))
  obtain ⟨T2, h2, X2, e2, W2, st2⟩ := putF X1 hx hZ hown (host := "") (Or.inl (hw _ (List.mem_of_getElem? (i := 17) rfl))) Via.refl e1 F_mostSigBits_r0 E_r0 (Or.inr ⟨(hw _ (List.mem_of_getElem? (i := 18) rfl)), rfl, hnm⟩) (hw _ (List.mem_of_getElem? (i := 9) rfl)) (ty := .long) (by decide) rfl rfl (g := (mkF m 6 #[.val (.ref r0), .val (.long p1), .second, .val (.long p2), .second] [(.long p1), (.ref r0)])) rfl rfl (hb hby d2_6)
  replace N0 := Fr.snoc X2 N0 ge_r0
  refine gs st2 ?_
  show Go p e below s QQ 0 0 (T2.setTop (mkF m 9 #[.val (.ref r0), .val (.long p1), .second, .val (.long p2), .second] []))
  replace F_mostSigBits_r0 := F_mostSigBits_r0.same W2
  replace F_leastSigBits_r0 := F_leastSigBits_r0.other W2 (Or.inr (slot_ne (Or.inr (hw _ (List.mem_of_getElem? (i := 20) rfl))) (Or.inr (hw _ (List.mem_of_getElem? (i := 18) rfl))) (by decide) (t := .long) (t' := .long) (by decide) (by decide)))
  replace E_r0 := E_r0.wr W2
  replace ZZ : n0 ≤ h2.size := by rw [W2.size]; exact ZZ
  replace KK := KK.wr W2 (Or.inl (by simp))
  refine gs (fun t => XS.aloadN X2.here hx rfl (hb hby d2_9) rfl rfl) ?_
  show Go p e below s QQ 0 0 (T2.setTop (mkF m 10 #[.val (.ref r0), .val (.long p1), .second, .val (.long p2), .second] [(.ref r0)]))
  refine gs (fun t => XS.lloadN X2.here hx rfl (hb hby d2_10) rfl) ?_
  show Go p e below s QQ 0 0 (T2.setTop (mkF m 11 #[.val (.ref r0), .val (.long p1), .second, .val (.long p2), .second] [(.long p2), (.ref r0)]))
  obtain ⟨T3, h3, X3, e3, W3, st3⟩ := putF X2 hx hZ hown (host := "") (Or.inl (hw _ (List.mem_of_getElem? (i := 19) rfl))) Via.refl e2 F_leastSigBits_r0 E_r0 (Or.inr ⟨(hw _ (List.mem_of_getElem? (i := 20) rfl)), rfl, hnm⟩) (hw _ (List.mem_of_getElem? (i := 9) rfl)) (ty := .long) (by decide) rfl rfl (g := (mkF m 11 #[.val (.ref r0), .val (.long p1), .second, .val (.long p2), .second] [(.long p2), (.ref r0)])) rfl rfl (hb hby d2_11)
  replace N0 := Fr.snoc X3 N0 ge_r0
  refine gs st3 ?_
  show Go p e below s QQ 0 0 (T3.setTop (mkF m 14 #[.val (.ref r0), .val (.long p1), .second, .val (.long p2), .second] []))
  replace F_mostSigBits_r0 := F_mostSigBits_r0.other W3 (Or.inr (slot_ne (Or.inr (hw _ (List.mem_of_getElem? (i := 18) rfl))) (Or.inr (hw _ (List.mem_of_getElem? (i := 20) rfl))) (by decide) (t := .long) (t' := .long) (by decide) (by decide)))
  replace F_leastSigBits_r0 := F_leastSigBits_r0.same W3
  replace E_r0 := E_r0.wr W3
  replace ZZ : n0 ≤ h3.size := by rw [W3.size]; exact ZZ
  replace KK := KK.wr W3 (Or.inl (by simp))
  exact goV X3 hx Bd.notSynchronized Bd.returns (hb hby d2_14) (by rw [← hQQ, e3]; exact ⟨rfl, N0, KK, F_mostSigBits_r0, F_leastSigBits_r0⟩) (by decide) (by decide)
theorem d1_0 : decode prog_21_method_5_code 0 = .ok (.lload_n 0, 1) := by decide +kernel
theorem d1_1 : decode prog_21_method_5_code 1 = .ok (.bipush 16, 2) := by decide +kernel
theorem d1_3 : decode prog_21_method_5_code 3 = .ok (.lshl, 1) := by decide +kernel
theorem d1_4 : decode prog_21_method_5_code 4 = .ok (.ldc2_w 93, 3) := by decide +kernel
theorem d1_7 : decode prog_21_method_5_code 7 = .ok (.lor, 1) := by decide +kernel
theorem d1_8 : decode prog_21_method_5_code 8 = .ok (.iload_n 2, 1) := by decide +kernel
theorem d1_9 : decode prog_21_method_5_code 9 = .ok (.i2l, 1) := by decide +kernel
theorem d1_10 : decode prog_21_method_5_code 10 = .ok (.lor, 1) := by decide +kernel
theorem d1_11 : decode prog_21_method_5_code 11 = .ok (.lstore 5, 2) := by decide +kernel
theorem d1_13 : decode prog_21_method_5_code 13 = .ok (.ldc2_w 97, 3) := by decide +kernel
theorem d1_16 : decode prog_21_method_5_code 16 = .ok (.lload_n 3, 1) := by decide +kernel
theorem d1_17 : decode prog_21_method_5_code 17 = .ok (.lor, 1) := by decide +kernel
theorem d1_18 : decode prog_21_method_5_code 18 = .ok (.lstore 7, 2) := by decide +kernel
theorem d1_20 : decode prog_21_method_5_code 20 = .ok (.new 99, 3) := by decide +kernel
theorem d1_23 : decode prog_21_method_5_code 23 = .ok (.dup, 1) := by decide +kernel
theorem d1_24 : decode prog_21_method_5_code 24 = .ok (.lload 5, 2) := by decide +kernel
theorem d1_26 : decode prog_21_method_5_code 26 = .ok (.lload 7, 2) := by decide +kernel
theorem d1_28 : decode prog_21_method_5_code 28 = .ok (.invokespecial 101, 3) := by decide +kernel
theorem d1_31 : decode prog_21_method_5_code 31 = .ok (.areturn, 1) := by decide +kernel
theorem pn_1 : plainName "com/example/shrike/shrike/util/UuidV7Generator" = true := by first | (simp [plainName, overriddenIn]; done) | decide +kernel
def Qrm1 (Z : State) (p0 : Int64) (p1 : Int32) (p2 : Int64) (hi : Int64) (lo : Int64) (h0 : Heap) (n0 : Nat) (v : Option Value) (h : Heap) (L : List Loc) : Prop := ∃ b : Addr, v = some (.ref b) ∧ Fr n0 L ∧ Keep h0 h [] ∧ Exa Z h b "java/util/UUID" ∧ Fld Z h b "java/util/UUID" "mostSigBits" "J" (.long hi) ∧ Fld Z h b "java/util/UUID" "leastSigBits" "J" (.long lo)
set_option maxRecDepth 65536 in
set_option maxHeartbeats 40000000 in
theorem rm1 (l : Launch) (Z : State) (a0 : Array Value) (hw : ∀ d ∈ tables_1, d.before a0 Z = true) (ws : List Jvm.Cond) (p0 : Int64) (p1 : Int32) (p2 : Int64) (hi : Int64) (lo : Int64) (h0 : Heap) (n0 : Nat) (Z0 : n0 ≤ h0.size) (hhi : (((p0 <<< ((16 : Int32) &&& 0x3f).toInt64) ||| (28672 : Int64)) ||| (p1.toInt64)) = hi) (hlo : ((-9223372036854775808 : Int64) ||| p2) = lo) :
    MetFree l (⟨"com/example/shrike/shrike/util/UuidV7Generator", "of", "(JIJ)Ljava/util/UUID;"⟩ : MethodName) (head1 (Jvm.Cond.code (⟨"com/example/shrike/shrike/util/UuidV7Generator", "of", "(JIJ)Ljava/util/UUID;"⟩ : MethodName) prog_21_method_5_code 9 (some (.object "java/util/UUID")) :: ws) ({ frames := 2, cells := 1, slots := 2, locals := 29 } : Room)) (fun a U => a = #[(.long p0), (.int p1), (.long p2)] ∧ Z.Warmed39 U.vm ∧ U.heap = h0) (fun _ _ _ _ _ => True) (fun _ U o U' => ∃ v L, o = .returned v ∧ Qrm1 Z p0 p1 p2 hi lo h0 n0 v U'.heap L ∧ FrameEnd U o U' L ({ frames := 2, cells := 1, slots := 2, locals := 29 } : Room).cells ({ frames := 2, cells := 1, slots := 2, locals := 29 } : Room).slots) := by
  refine MetFree.of_bodySF (plainFor_of_name pn_1) hisR ?_
  intro p e s m args below meth c s₁ Bd hml0 hP hK
  obtain ⟨rfl, hZ, hh⟩ := hP
  have hx := Bd.exec
  have hby := Bd.bytes
  have hml : c.maxLocals = 9 := hml0
  have hown : s.vm.findClass "com/example/shrike/shrike/util/UuidV7Generator" = some m.cls := findClass_of_methodNamed Bd.named
  have hnm := (name_of_methodNamed Bd.named Bd.method).1
  have X0 : Stand p l e ({ frames := 2, cells := 1, slots := 2, locals := 29 } : Room) s m #[(.long p0), (.int p1), (.long p2)] below meth c s₁ [] 0 0 := Stand.of_body Bd
  have e0 : s₁.heap = h0 := by rw [← hh, Bd.state]; rfl
  have N0 := Fr.nil n0
  have ZZ := Z0
  have KK : Keep h0 h0 [] := Keep.refl h0 _
  show Go p e below s (Qrm1 Z p0 p1 p2 hi lo h0 n0) 1 2 (s₁.setTop (entryFrame m #[(.long p0), (.int p1), (.long p2)] 9))
  generalize hQQ : (Qrm1 Z p0 p1 p2 hi lo h0 n0) = QQ
  refine gs (fun t k => castTop (g' := (mkF m 0 #[.val (.long p0), .second, .val (.int p1), .val (.long p2), .second, .unset, .unset, .unset, .unset] [])) (by first | (simp [entryFrame, mkF, argsToLocals, Value.category, maxLocals]; done) | rfl) k) ?_
  show Go p e below s QQ 1 2 (s₁.setTop (mkF m 0 #[.val (.long p0), .second, .val (.int p1), .val (.long p2), .second, .unset, .unset, .unset, .unset] []))
  refine gs (fun t => XS.lloadN X0.here hx rfl (hb hby d1_0) rfl) ?_
  show Go p e below s QQ 1 2 (s₁.setTop (mkF m 1 #[.val (.long p0), .second, .val (.int p1), .val (.long p2), .second, .unset, .unset, .unset, .unset] [(.long p0)]))
  refine gs (fun t => XS.bipush X0.here hx rfl (hb hby d1_1)) ?_
  show Go p e below s QQ 1 2 (s₁.setTop (mkF m 3 #[.val (.long p0), .second, .val (.int p1), .val (.long p2), .second, .unset, .unset, .unset, .unset] [(.int (16 : Int32)), (.long p0)]))
  refine gs (fun t => XS.lshl X0.here hx rfl (hb hby d1_3) rfl) ?_
  show Go p e below s QQ 1 2 (s₁.setTop (mkF m 4 #[.val (.long p0), .second, .val (.int p1), .val (.long p2), .second, .unset, .unset, .unset, .unset] [(.long (p0 <<< ((16 : Int32) &&& 0x3f).toInt64))]))
  refine gs (fun t => X0.ldc2Long hx hown (mvT hZ (hw _ (List.mem_of_getElem? (i := 6) rfl))) (g := (mkF m 4 #[.val (.long p0), .second, .val (.int p1), .val (.long p2), .second, .unset, .unset, .unset, .unset] [(.long (p0 <<< ((16 : Int32) &&& 0x3f).toInt64))])) rfl (hb hby d1_4) t) ?_
  show Go p e below s QQ 1 2 (s₁.setTop (mkF m 7 #[.val (.long p0), .second, .val (.int p1), .val (.long p2), .second, .unset, .unset, .unset, .unset] [(.long (28672 : Int64)), (.long (p0 <<< ((16 : Int32) &&& 0x3f).toInt64))]))
  refine gs (fun t => XS.lor X0.here hx rfl (hb hby d1_7) rfl) ?_
  show Go p e below s QQ 1 2 (s₁.setTop (mkF m 8 #[.val (.long p0), .second, .val (.int p1), .val (.long p2), .second, .unset, .unset, .unset, .unset] [(.long ((p0 <<< ((16 : Int32) &&& 0x3f).toInt64) ||| (28672 : Int64)))]))
  refine gs (fun t => XS.iloadN X0.here hx rfl (hb hby d1_8) rfl) ?_
  show Go p e below s QQ 1 2 (s₁.setTop (mkF m 9 #[.val (.long p0), .second, .val (.int p1), .val (.long p2), .second, .unset, .unset, .unset, .unset] [(.int p1), (.long ((p0 <<< ((16 : Int32) &&& 0x3f).toInt64) ||| (28672 : Int64)))]))
  refine gs (fun t => XS.i2l X0.here hx rfl (hb hby d1_9) rfl) ?_
  show Go p e below s QQ 1 2 (s₁.setTop (mkF m 10 #[.val (.long p0), .second, .val (.int p1), .val (.long p2), .second, .unset, .unset, .unset, .unset] [(.long (p1.toInt64)), (.long ((p0 <<< ((16 : Int32) &&& 0x3f).toInt64) ||| (28672 : Int64)))]))
  refine gs (fun t => XS.lor X0.here hx rfl (hb hby d1_10) rfl) ?_
  show Go p e below s QQ 1 2 (s₁.setTop (mkF m 11 #[.val (.long p0), .second, .val (.int p1), .val (.long p2), .second, .unset, .unset, .unset, .unset] [(.long (((p0 <<< ((16 : Int32) &&& 0x3f).toInt64) ||| (28672 : Int64)) ||| (p1.toInt64)))]))
  rw [show (((p0 <<< ((16 : Int32) &&& 0x3f).toInt64) ||| (28672 : Int64)) ||| (p1.toInt64)) = hi from hhi]
  show Go p e below s QQ 1 2 (s₁.setTop (mkF m 11 #[.val (.long p0), .second, .val (.int p1), .val (.long p2), .second, .unset, .unset, .unset, .unset] [(.long hi)]))
  refine gs (fun t => XS.lstore X0.here hx rfl (hb hby d1_11) rfl (l' := #[.val (.long p0), .second, .val (.int p1), .val (.long p2), .second, .val (.long hi), .second, .unset, .unset]) rfl) ?_
  show Go p e below s QQ 1 2 (s₁.setTop (mkF m 13 #[.val (.long p0), .second, .val (.int p1), .val (.long p2), .second, .val (.long hi), .second, .unset, .unset] []))
  refine gs (fun t => X0.ldc2Long hx hown (mvT hZ (hw _ (List.mem_of_getElem? (i := 7) rfl))) (g := (mkF m 13 #[.val (.long p0), .second, .val (.int p1), .val (.long p2), .second, .val (.long hi), .second, .unset, .unset] [])) rfl (hb hby d1_13) t) ?_
  show Go p e below s QQ 1 2 (s₁.setTop (mkF m 16 #[.val (.long p0), .second, .val (.int p1), .val (.long p2), .second, .val (.long hi), .second, .unset, .unset] [(.long (-9223372036854775808 : Int64))]))
  refine gs (fun t => XS.lloadN X0.here hx rfl (hb hby d1_16) rfl) ?_
  show Go p e below s QQ 1 2 (s₁.setTop (mkF m 17 #[.val (.long p0), .second, .val (.int p1), .val (.long p2), .second, .val (.long hi), .second, .unset, .unset] [(.long p2), (.long (-9223372036854775808 : Int64))]))
  refine gs (fun t => XS.lor X0.here hx rfl (hb hby d1_17) rfl) ?_
  show Go p e below s QQ 1 2 (s₁.setTop (mkF m 18 #[.val (.long p0), .second, .val (.int p1), .val (.long p2), .second, .val (.long hi), .second, .unset, .unset] [(.long ((-9223372036854775808 : Int64) ||| p2))]))
  rw [show ((-9223372036854775808 : Int64) ||| p2) = lo from hlo]
  show Go p e below s QQ 1 2 (s₁.setTop (mkF m 18 #[.val (.long p0), .second, .val (.int p1), .val (.long p2), .second, .val (.long hi), .second, .unset, .unset] [(.long lo)]))
  refine gs (fun t => XS.lstore X0.here hx rfl (hb hby d1_18) rfl (l' := #[.val (.long p0), .second, .val (.int p1), .val (.long p2), .second, .val (.long hi), .second, .val (.long lo), .second]) rfl) ?_
  show Go p e below s QQ 1 2 (s₁.setTop (mkF m 20 #[.val (.long p0), .second, .val (.int p1), .val (.long p2), .second, .val (.long hi), .second, .val (.long lo), .second] []))
  obtain ⟨T4, h4, X4, e4, E4, A4, D4, -, st4⟩ := newO X0 hx hZ hown (hw _ (List.mem_of_getElem? (i := 8) rfl)) (hw _ (List.mem_of_getElem? (i := 9) rfl)) (hw _ (List.mem_of_getElem? (i := 10) rfl)) e0 (g := (mkF m 20 #[.val (.long p0), .second, .val (.int p1), .val (.long p2), .second, .val (.long hi), .second, .val (.long lo), .second] [])) rfl (hb hby d1_20) (by decide) (by decide)
  obtain ⟨b4, g4⟩ : ∃ z, z = h0.size := ⟨_, rfl⟩
  rw [← g4] at A4 D4 st4
  have ge_b4 : n0 ≤ b4 := by rw [g4]; exact ZZ
  have sz_b4 : h0.size ≤ b4 := by rw [g4]; exact KK.1
  refine gs st4 ?_
  show Go p e below s QQ 1 2 (T4.setTop (mkF m 23 #[.val (.long p0), .second, .val (.int p1), .val (.long p2), .second, .val (.long hi), .second, .val (.long lo), .second] [(.ref b4)]))
  replace ZZ := Nat.le_trans ZZ E4.1
  replace KK := KK.ext E4
  have Ex_b4 := A4
  have F_mostSigBits_b4 : Fld Z h4 b4 "java/util/UUID" "mostSigBits" "J" (.long (0 : Int64)) := D4 (Or.inr (hw _ (List.mem_of_getElem? (i := 18) rfl))) (ty := .long) (by decide)
  have F_leastSigBits_b4 : Fld Z h4 b4 "java/util/UUID" "leastSigBits" "J" (.long (0 : Int64)) := D4 (Or.inr (hw _ (List.mem_of_getElem? (i := 20) rfl))) (ty := .long) (by decide)
  refine gs (fun t => XS.dup X4.here hx rfl (hb hby d1_23) rfl rfl) ?_
  show Go p e below s QQ 1 2 (T4.setTop (mkF m 24 #[.val (.long p0), .second, .val (.int p1), .val (.long p2), .second, .val (.long hi), .second, .val (.long lo), .second] [(.ref b4), (.ref b4)]))
  refine gs (fun t => XS.lload X4.here hx rfl (hb hby d1_24) rfl) ?_
  show Go p e below s QQ 1 2 (T4.setTop (mkF m 26 #[.val (.long p0), .second, .val (.int p1), .val (.long p2), .second, .val (.long hi), .second, .val (.long lo), .second] [(.long hi), (.ref b4), (.ref b4)]))
  refine gs (fun t => XS.lload X4.here hx rfl (hb hby d1_26) rfl) ?_
  show Go p e below s QQ 1 2 (T4.setTop (mkF m 28 #[.val (.long p0), .second, .val (.int p1), .val (.long p2), .second, .val (.long hi), .second, .val (.long lo), .second] [(.long lo), (.long hi), (.ref b4), (.ref b4)]))
  obtain ⟨_, _, ⟨T5, L5, k5, n5⟩, -, X5, ⟨Lc5, hQ5, l5, y5, z5⟩, st5⟩ := X4.specialBack hx (y := (⟨"java/util/UUID", "<init>", "(JJ)V"⟩ : MethodName)) rfl hown (mvT hZ (hw _ (List.mem_of_getElem? (i := 11) rfl))) (mvT hZ (hw _ (List.mem_of_getElem? (i := 12) rfl))) (mvT hZ (hw _ (List.mem_of_getElem? (i := 13) rfl))) (by decide) (backOf (W := 1) (rm2 l Z a0 hw [] b4 hi lo h4 n0 ZZ F_mostSigBits_b4 F_leastSigBits_b4 Ex_b4 ge_b4) hZ (hw _ (List.mem_of_getElem? (i := 13) rfl)) (hw _ (List.mem_of_getElem? (i := 10) rfl)) (by decide) (by decide)) (g := (mkF m 28 #[.val (.long p0), .second, .val (.int p1), .val (.long p2), .second, .val (.long hi), .second, .val (.long lo), .second] [(.long lo), (.long hi), (.ref b4), (.ref b4)])) rfl (by rw [hml]; rfl) (Steps.refl _) (a := b4) (argsL := [(.long hi), (.long lo)]) (rest := [(.ref b4)]) (lenOf pd_0 rfl) rfl (by show 2 * 0 + _ ≤ _; exact Nat.le_of_eq rfl) (hb hby d1_28) (fun _ _ => ⟨rfl, e4, (by decide : 1 + 0 ≤ _), (by decide : 2 + 0 ≤ _)⟩)
  dsimp only [Pt.U, Pt.locs, Pt.cells, Pt.slots] at X5 l5 y5 z5 st5 hQ5
  subst l5 y5 z5
  obtain ⟨rfl, N5q, K5, Fa5, Fb5⟩ := hQ5
  replace N0 := Fr.app N0 N5q
  refine gt st5 ?_
  show Go p e below s QQ 1 2 (T5.setTop (mkF m 31 #[.val (.long p0), .second, .val (.int p1), .val (.long p2), .second, .val (.long hi), .second, .val (.long lo), .second] [(.ref b4)]))
  replace Ex_b4 := Ex_b4.keep K5
  replace ZZ := Nat.le_trans ZZ K5.1
  replace KK := KK.trans K5 (allS (Or.inr sz_b4) all0)
  exact goR X5 hx Bd.notSynchronized Bd.returns rfl rfl (hb hby d1_31) (by rw [← hQQ]; exact ⟨b4, rfl, N0, KK, Ex_b4, Fa5, Fb5⟩) (by decide) (by decide)
theorem d4_0 : decode jdk_2758_method_9_code 0 = .ok (.aload_n 0, 1) := by decide +kernel
theorem d4_1 : decode jdk_2758_method_9_code 1 = .ok (.getfield 20, 3) := by decide +kernel
theorem d4_4 : decode jdk_2758_method_9_code 4 = .ok (.lreturn, 1) := by decide +kernel
theorem pn_4 : plainName "java/util/UUID" = true := by first | (simp [plainName, overriddenIn]; done) | decide +kernel
def Qrm4 (Z : State) (r0 : Addr) (q : Int64) (h0 : Heap) (n0 : Nat) (v : Option Value) (h : Heap) (L : List Loc) : Prop := v = some (.long q) ∧ Fr n0 L ∧ h = h0
set_option maxRecDepth 65536 in
set_option maxHeartbeats 40000000 in
theorem rm4 (l : Launch) (Z : State) (a0 : Array Value) (hw : ∀ d ∈ tables_1, d.before a0 Z = true) (ws : List Jvm.Cond) (r0 : Addr) (q : Int64) (h0 : Heap) (n0 : Nat) (Z0 : n0 ≤ h0.size) (F_mostSigBits_r0 : Fld Z h0 r0 "java/util/UUID" "mostSigBits" "J" (.long q)) :
    MetFree l (⟨"java/util/UUID", "getMostSignificantBits", "()J"⟩ : MethodName) (head1 (Jvm.Cond.code (⟨"java/util/UUID", "getMostSignificantBits", "()J"⟩ : MethodName) jdk_2758_method_9_code 1 (some .long) :: ws) ({ frames := 0, cells := 0, slots := 0, locals := 0 } : Room)) (fun a U => a = #[(.ref r0)] ∧ Z.Warmed39 U.vm ∧ U.heap = h0) (fun _ _ _ _ _ => True) (fun _ U o U' => ∃ v L, o = .returned v ∧ Qrm4 Z r0 q h0 n0 v U'.heap L ∧ FrameEnd U o U' L ({ frames := 0, cells := 0, slots := 0, locals := 0 } : Room).cells ({ frames := 0, cells := 0, slots := 0, locals := 0 } : Room).slots) := by
  refine MetFree.of_bodySF (plainFor_of_name pn_4) hisR ?_
  intro p e s m args below meth c s₁ Bd hml0 hP hK
  obtain ⟨rfl, hZ, hh⟩ := hP
  have hx := Bd.exec
  have hby := Bd.bytes
  have hml : c.maxLocals = 1 := hml0
  have hown : s.vm.findClass "java/util/UUID" = some m.cls := findClass_of_methodNamed Bd.named
  have hnm := (name_of_methodNamed Bd.named Bd.method).1
  have X0 : Stand p l e ({ frames := 0, cells := 0, slots := 0, locals := 0 } : Room) s m #[(.ref r0)] below meth c s₁ [] 0 0 := Stand.of_body Bd
  have e0 : s₁.heap = h0 := by rw [← hh, Bd.state]; rfl
  have N0 := Fr.nil n0
  have ZZ := Z0
  show Go p e below s (Qrm4 Z r0 q h0 n0) 0 0 (s₁.setTop (entryFrame m #[(.ref r0)] 1))
  generalize hQQ : (Qrm4 Z r0 q h0 n0) = QQ
  refine gs (fun t k => castTop (g' := (mkF m 0 #[.val (.ref r0)] [])) (by first | (simp [entryFrame, mkF, argsToLocals, Value.category, maxLocals]; done) | rfl) k) ?_
  show Go p e below s QQ 0 0 (s₁.setTop (mkF m 0 #[.val (.ref r0)] []))
  refine gs (fun t => XS.aloadN X0.here hx rfl (hb hby d4_0) rfl rfl) ?_
  show Go p e below s QQ 0 0 (s₁.setTop (mkF m 1 #[.val (.ref r0)] [(.ref r0)]))
  obtain ⟨T6, X6, e6, st6⟩ := getF X0 hx hZ hown (host := "") (Or.inl (hw _ (List.mem_of_getElem? (i := 17) rfl))) Via.refl e0 F_mostSigBits_r0 (g := (mkF m 1 #[.val (.ref r0)] [(.ref r0)])) rfl rfl (hb hby d4_1)
  refine gs st6 ?_
  show Go p e below s QQ 0 0 (T6.setTop (mkF m 4 #[.val (.ref r0)] [(.long q)]))
  exact goJ X6 hx Bd.notSynchronized Bd.returns (hb hby d4_4) (by rw [← hQQ, e6]; exact ⟨rfl, N0, rfl⟩) (by decide) (by decide)
theorem d5_0 : decode jdk_2758_method_8_code 0 = .ok (.aload_n 0, 1) := by decide +kernel
theorem d5_1 : decode jdk_2758_method_8_code 1 = .ok (.getfield 24, 3) := by decide +kernel
theorem d5_4 : decode jdk_2758_method_8_code 4 = .ok (.lreturn, 1) := by decide +kernel
theorem pn_5 : plainName "java/util/UUID" = true := by first | (simp [plainName, overriddenIn]; done) | decide +kernel
def Qrm5 (Z : State) (r0 : Addr) (q : Int64) (h0 : Heap) (n0 : Nat) (v : Option Value) (h : Heap) (L : List Loc) : Prop := v = some (.long q) ∧ Fr n0 L ∧ h = h0
set_option maxRecDepth 65536 in
set_option maxHeartbeats 40000000 in
theorem rm5 (l : Launch) (Z : State) (a0 : Array Value) (hw : ∀ d ∈ tables_1, d.before a0 Z = true) (ws : List Jvm.Cond) (r0 : Addr) (q : Int64) (h0 : Heap) (n0 : Nat) (Z0 : n0 ≤ h0.size) (F_leastSigBits_r0 : Fld Z h0 r0 "java/util/UUID" "leastSigBits" "J" (.long q)) :
    MetFree l (⟨"java/util/UUID", "getLeastSignificantBits", "()J"⟩ : MethodName) (head1 (Jvm.Cond.code (⟨"java/util/UUID", "getLeastSignificantBits", "()J"⟩ : MethodName) jdk_2758_method_8_code 1 (some .long) :: ws) ({ frames := 0, cells := 0, slots := 0, locals := 0 } : Room)) (fun a U => a = #[(.ref r0)] ∧ Z.Warmed39 U.vm ∧ U.heap = h0) (fun _ _ _ _ _ => True) (fun _ U o U' => ∃ v L, o = .returned v ∧ Qrm5 Z r0 q h0 n0 v U'.heap L ∧ FrameEnd U o U' L ({ frames := 0, cells := 0, slots := 0, locals := 0 } : Room).cells ({ frames := 0, cells := 0, slots := 0, locals := 0 } : Room).slots) := by
  refine MetFree.of_bodySF (plainFor_of_name pn_5) hisR ?_
  intro p e s m args below meth c s₁ Bd hml0 hP hK
  obtain ⟨rfl, hZ, hh⟩ := hP
  have hx := Bd.exec
  have hby := Bd.bytes
  have hml : c.maxLocals = 1 := hml0
  have hown : s.vm.findClass "java/util/UUID" = some m.cls := findClass_of_methodNamed Bd.named
  have hnm := (name_of_methodNamed Bd.named Bd.method).1
  have X0 : Stand p l e ({ frames := 0, cells := 0, slots := 0, locals := 0 } : Room) s m #[(.ref r0)] below meth c s₁ [] 0 0 := Stand.of_body Bd
  have e0 : s₁.heap = h0 := by rw [← hh, Bd.state]; rfl
  have N0 := Fr.nil n0
  have ZZ := Z0
  show Go p e below s (Qrm5 Z r0 q h0 n0) 0 0 (s₁.setTop (entryFrame m #[(.ref r0)] 1))
  generalize hQQ : (Qrm5 Z r0 q h0 n0) = QQ
  refine gs (fun t k => castTop (g' := (mkF m 0 #[.val (.ref r0)] [])) (by first | (simp [entryFrame, mkF, argsToLocals, Value.category, maxLocals]; done) | rfl) k) ?_
  show Go p e below s QQ 0 0 (s₁.setTop (mkF m 0 #[.val (.ref r0)] []))
  refine gs (fun t => XS.aloadN X0.here hx rfl (hb hby d5_0) rfl rfl) ?_
  show Go p e below s QQ 0 0 (s₁.setTop (mkF m 1 #[.val (.ref r0)] [(.ref r0)]))
  obtain ⟨T7, X7, e7, st7⟩ := getF X0 hx hZ hown (host := "") (Or.inl (hw _ (List.mem_of_getElem? (i := 19) rfl))) Via.refl e0 F_leastSigBits_r0 (g := (mkF m 1 #[.val (.ref r0)] [(.ref r0)])) rfl rfl (hb hby d5_1)
  refine gs st7 ?_
  show Go p e below s QQ 0 0 (T7.setTop (mkF m 4 #[.val (.ref r0)] [(.long q)]))
  exact goJ X7 hx Bd.notSynchronized Bd.returns (hb hby d5_4) (by rw [← hQQ, e7]; exact ⟨rfl, N0, rfl⟩) (by decide) (by decide)
theorem pn_0 : plainName "com/example/shrike/shrike/util/UuidV7GeneratorOfPinLaw" = true := by first | (simp [plainName, overriddenIn]; done) | decide +kernel
def Qrm0 (Z : State) (p0 : Int64) (p1 : Int32) (p2 : Int64) (h0 : Heap) (n0 : Nat) (v : Option Value) (h : Heap) (L : List Loc) : Prop := v = some (.int 1) ∧ Fr n0 L
set_option maxRecDepth 65536 in
set_option maxHeartbeats 40000000 in
theorem rm0 (l : Launch) (Z : State) (a0 : Array Value) (hw : ∀ d ∈ tables_1, d.before a0 Z = true) (ws : List Jvm.Cond) (p0 : Int64) (p1 : Int32) (p2 : Int64) (h0 : Heap) (n0 : Nat) (Z0 : n0 ≤ h0.size) :
    MetFree l x (head1 (Jvm.Cond.code x code maxLocals ret :: ws) room_1) (fun a U => a = #[(.long p0), (.int p1), (.long p2)] ∧ Z.Warmed39 U.vm ∧ U.heap = h0) (fun _ _ _ _ _ => True) (fun _ U o U' => ∃ v L, o = .returned v ∧ Qrm0 Z p0 p1 p2 h0 n0 v U'.heap L ∧ FrameEnd U o U' L room_1.cells room_1.slots) := by
  refine MetFree.of_bodySF (plainFor_of_name pn_0) hisR ?_
  intro p e s m args below meth c s₁ Bd hml0 hP hK
  obtain ⟨rfl, hZ, hh⟩ := hP
  have hx := Bd.exec
  have hby := Bd.bytes
  have hml : c.maxLocals = 22 := hml0
  have hown : s.vm.findClass "com/example/shrike/shrike/util/UuidV7GeneratorOfPinLaw" = some m.cls := findClass_of_methodNamed Bd.named
  have hnm := (name_of_methodNamed Bd.named Bd.method).1
  have X0 : Stand p l e room_1 s m #[(.long p0), (.int p1), (.long p2)] below meth c s₁ [] 0 0 := Stand.of_body Bd
  have e0 : s₁.heap = h0 := by rw [← hh, Bd.state]; rfl
  have N0 := Fr.nil n0
  have ZZ := Z0
  show Go p e below s (Qrm0 Z p0 p1 p2 h0 n0) room_1.cells room_1.slots (s₁.setTop (entryFrame m #[(.long p0), (.int p1), (.long p2)] maxLocals))
  generalize hQQ : (Qrm0 Z p0 p1 p2 h0 n0) = QQ
  refine gs (fun t k => castTop (g' := (mkF m 0 #[.val (.long p0), .second, .val (.int p1), .val (.long p2), .second, .unset, .unset, .unset, .unset, .unset, .unset, .unset, .unset, .unset, .unset, .unset, .unset, .unset, .unset, .unset, .unset, .unset] [])) (by first | (simp [entryFrame, mkF, argsToLocals, Value.category, maxLocals]; done) | rfl) k) ?_
  show Go p e below s QQ room_1.cells room_1.slots (s₁.setTop (mkF m 0 #[.val (.long p0), .second, .val (.int p1), .val (.long p2), .second, .unset, .unset, .unset, .unset, .unset, .unset, .unset, .unset, .unset, .unset, .unset, .unset, .unset, .unset, .unset, .unset, .unset] []))
  refine gs (fun t => XS.lloadN X0.here hx rfl (hb hby at_0) rfl) ?_
  show Go p e below s QQ room_1.cells room_1.slots (s₁.setTop (mkF m 1 #[.val (.long p0), .second, .val (.int p1), .val (.long p2), .second, .unset, .unset, .unset, .unset, .unset, .unset, .unset, .unset, .unset, .unset, .unset, .unset, .unset, .unset, .unset, .unset, .unset] [(.long p0)]))
  refine gs (fun t => X0.ldc2Long hx hown (mvT hZ (hw _ (List.mem_of_getElem? (i := 0) rfl))) (g := (mkF m 1 #[.val (.long p0), .second, .val (.int p1), .val (.long p2), .second, .unset, .unset, .unset, .unset, .unset, .unset, .unset, .unset, .unset, .unset, .unset, .unset, .unset, .unset, .unset, .unset, .unset] [(.long p0)])) rfl (hb hby at_1) t) ?_
  show Go p e below s QQ room_1.cells room_1.slots (s₁.setTop (mkF m 4 #[.val (.long p0), .second, .val (.int p1), .val (.long p2), .second, .unset, .unset, .unset, .unset, .unset, .unset, .unset, .unset, .unset, .unset, .unset, .unset, .unset, .unset, .unset, .unset, .unset] [(.long (281474976710655 : Int64)), (.long p0)]))
  refine gs (fun t => XS.land X0.here hx rfl (hb hby at_4) rfl) ?_
  show Go p e below s QQ room_1.cells room_1.slots (s₁.setTop (mkF m 5 #[.val (.long p0), .second, .val (.int p1), .val (.long p2), .second, .unset, .unset, .unset, .unset, .unset, .unset, .unset, .unset, .unset, .unset, .unset, .unset, .unset, .unset, .unset, .unset, .unset] [(.long (p0 &&& (281474976710655 : Int64)))]))
  generalize hmm : (p0 &&& (281474976710655 : Int64)) = mm
  show Go p e below s QQ room_1.cells room_1.slots (s₁.setTop (mkF m 5 #[.val (.long p0), .second, .val (.int p1), .val (.long p2), .second, .unset, .unset, .unset, .unset, .unset, .unset, .unset, .unset, .unset, .unset, .unset, .unset, .unset, .unset, .unset, .unset, .unset] [(.long mm)]))
  refine gs (fun t => XS.lstore X0.here hx rfl (hb hby at_5) rfl (l' := #[.val (.long p0), .second, .val (.int p1), .val (.long p2), .second, .val (.long mm), .second, .unset, .unset, .unset, .unset, .unset, .unset, .unset, .unset, .unset, .unset, .unset, .unset, .unset, .unset, .unset]) rfl) ?_
  show Go p e below s QQ room_1.cells room_1.slots (s₁.setTop (mkF m 7 #[.val (.long p0), .second, .val (.int p1), .val (.long p2), .second, .val (.long mm), .second, .unset, .unset, .unset, .unset, .unset, .unset, .unset, .unset, .unset, .unset, .unset, .unset, .unset, .unset, .unset] []))
  refine gs (fun t => XS.iloadN X0.here hx rfl (hb hby at_7) rfl) ?_
  show Go p e below s QQ room_1.cells room_1.slots (s₁.setTop (mkF m 8 #[.val (.long p0), .second, .val (.int p1), .val (.long p2), .second, .val (.long mm), .second, .unset, .unset, .unset, .unset, .unset, .unset, .unset, .unset, .unset, .unset, .unset, .unset, .unset, .unset, .unset] [(.int p1)]))
  refine gs (fun t => XS.sipush X0.here hx rfl (hb hby at_8)) ?_
  show Go p e below s QQ room_1.cells room_1.slots (s₁.setTop (mkF m 11 #[.val (.long p0), .second, .val (.int p1), .val (.long p2), .second, .val (.long mm), .second, .unset, .unset, .unset, .unset, .unset, .unset, .unset, .unset, .unset, .unset, .unset, .unset, .unset, .unset, .unset] [(.int (4095 : Int32)), (.int p1)]))
  refine gs (fun t => XS.iand X0.here hx rfl (hb hby at_11) rfl) ?_
  show Go p e below s QQ room_1.cells room_1.slots (s₁.setTop (mkF m 12 #[.val (.long p0), .second, .val (.int p1), .val (.long p2), .second, .val (.long mm), .second, .unset, .unset, .unset, .unset, .unset, .unset, .unset, .unset, .unset, .unset, .unset, .unset, .unset, .unset, .unset] [(.int (p1 &&& (4095 : Int32)))]))
  generalize haa : (p1 &&& (4095 : Int32)) = aa
  show Go p e below s QQ room_1.cells room_1.slots (s₁.setTop (mkF m 12 #[.val (.long p0), .second, .val (.int p1), .val (.long p2), .second, .val (.long mm), .second, .unset, .unset, .unset, .unset, .unset, .unset, .unset, .unset, .unset, .unset, .unset, .unset, .unset, .unset, .unset] [(.int aa)]))
  refine gs (fun t => XS.istore X0.here hx rfl (hb hby at_12) rfl (l' := #[.val (.long p0), .second, .val (.int p1), .val (.long p2), .second, .val (.long mm), .second, .val (.int aa), .unset, .unset, .unset, .unset, .unset, .unset, .unset, .unset, .unset, .unset, .unset, .unset, .unset, .unset]) rfl) ?_
  show Go p e below s QQ room_1.cells room_1.slots (s₁.setTop (mkF m 14 #[.val (.long p0), .second, .val (.int p1), .val (.long p2), .second, .val (.long mm), .second, .val (.int aa), .unset, .unset, .unset, .unset, .unset, .unset, .unset, .unset, .unset, .unset, .unset, .unset, .unset, .unset] []))
  refine gs (fun t => X0.ldc2Long hx hown (mvT hZ (hw _ (List.mem_of_getElem? (i := 1) rfl))) (g := (mkF m 14 #[.val (.long p0), .second, .val (.int p1), .val (.long p2), .second, .val (.long mm), .second, .val (.int aa), .unset, .unset, .unset, .unset, .unset, .unset, .unset, .unset, .unset, .unset, .unset, .unset, .unset, .unset] [])) rfl (hb hby at_14) t) ?_
  show Go p e below s QQ room_1.cells room_1.slots (s₁.setTop (mkF m 17 #[.val (.long p0), .second, .val (.int p1), .val (.long p2), .second, .val (.long mm), .second, .val (.int aa), .unset, .unset, .unset, .unset, .unset, .unset, .unset, .unset, .unset, .unset, .unset, .unset, .unset, .unset] [(.long (4611686018427387903 : Int64))]))
  refine gs (fun t => XS.lstore X0.here hx rfl (hb hby at_17) rfl (l' := #[.val (.long p0), .second, .val (.int p1), .val (.long p2), .second, .val (.long mm), .second, .val (.int aa), .val (.long (4611686018427387903 : Int64)), .second, .unset, .unset, .unset, .unset, .unset, .unset, .unset, .unset, .unset, .unset, .unset, .unset]) rfl) ?_
  show Go p e below s QQ room_1.cells room_1.slots (s₁.setTop (mkF m 19 #[.val (.long p0), .second, .val (.int p1), .val (.long p2), .second, .val (.long mm), .second, .val (.int aa), .val (.long (4611686018427387903 : Int64)), .second, .unset, .unset, .unset, .unset, .unset, .unset, .unset, .unset, .unset, .unset, .unset, .unset] []))
  refine gs (fun t => XS.lloadN X0.here hx rfl (hb hby at_19) rfl) ?_
  show Go p e below s QQ room_1.cells room_1.slots (s₁.setTop (mkF m 20 #[.val (.long p0), .second, .val (.int p1), .val (.long p2), .second, .val (.long mm), .second, .val (.int aa), .val (.long (4611686018427387903 : Int64)), .second, .unset, .unset, .unset, .unset, .unset, .unset, .unset, .unset, .unset, .unset, .unset, .unset] [(.long p2)]))
  refine gs (fun t => XS.lload X0.here hx rfl (hb hby at_20) rfl) ?_
  show Go p e below s QQ room_1.cells room_1.slots (s₁.setTop (mkF m 22 #[.val (.long p0), .second, .val (.int p1), .val (.long p2), .second, .val (.long mm), .second, .val (.int aa), .val (.long (4611686018427387903 : Int64)), .second, .unset, .unset, .unset, .unset, .unset, .unset, .unset, .unset, .unset, .unset, .unset, .unset] [(.long (4611686018427387903 : Int64)), (.long p2)]))
  refine gs (fun t => XS.land X0.here hx rfl (hb hby at_22) rfl) ?_
  show Go p e below s QQ room_1.cells room_1.slots (s₁.setTop (mkF m 23 #[.val (.long p0), .second, .val (.int p1), .val (.long p2), .second, .val (.long mm), .second, .val (.int aa), .val (.long (4611686018427387903 : Int64)), .second, .unset, .unset, .unset, .unset, .unset, .unset, .unset, .unset, .unset, .unset, .unset, .unset] [(.long (p2 &&& (4611686018427387903 : Int64)))]))
  generalize hbb : (p2 &&& (4611686018427387903 : Int64)) = bb
  show Go p e below s QQ room_1.cells room_1.slots (s₁.setTop (mkF m 23 #[.val (.long p0), .second, .val (.int p1), .val (.long p2), .second, .val (.long mm), .second, .val (.int aa), .val (.long (4611686018427387903 : Int64)), .second, .unset, .unset, .unset, .unset, .unset, .unset, .unset, .unset, .unset, .unset, .unset, .unset] [(.long bb)]))
  refine gs (fun t => XS.lstore X0.here hx rfl (hb hby at_23) rfl (l' := #[.val (.long p0), .second, .val (.int p1), .val (.long p2), .second, .val (.long mm), .second, .val (.int aa), .val (.long (4611686018427387903 : Int64)), .second, .val (.long bb), .second, .unset, .unset, .unset, .unset, .unset, .unset, .unset, .unset, .unset, .unset]) rfl) ?_
  show Go p e below s QQ room_1.cells room_1.slots (s₁.setTop (mkF m 25 #[.val (.long p0), .second, .val (.int p1), .val (.long p2), .second, .val (.long mm), .second, .val (.int aa), .val (.long (4611686018427387903 : Int64)), .second, .val (.long bb), .second, .unset, .unset, .unset, .unset, .unset, .unset, .unset, .unset, .unset, .unset] []))
  refine gs (fun t => XS.lload X0.here hx rfl (hb hby at_25) rfl) ?_
  show Go p e below s QQ room_1.cells room_1.slots (s₁.setTop (mkF m 27 #[.val (.long p0), .second, .val (.int p1), .val (.long p2), .second, .val (.long mm), .second, .val (.int aa), .val (.long (4611686018427387903 : Int64)), .second, .val (.long bb), .second, .unset, .unset, .unset, .unset, .unset, .unset, .unset, .unset, .unset, .unset] [(.long mm)]))
  refine gs (fun t => XS.iload X0.here hx rfl (hb hby at_27) rfl) ?_
  show Go p e below s QQ room_1.cells room_1.slots (s₁.setTop (mkF m 29 #[.val (.long p0), .second, .val (.int p1), .val (.long p2), .second, .val (.long mm), .second, .val (.int aa), .val (.long (4611686018427387903 : Int64)), .second, .val (.long bb), .second, .unset, .unset, .unset, .unset, .unset, .unset, .unset, .unset, .unset, .unset] [(.int aa), (.long mm)]))
  refine gs (fun t => XS.lload X0.here hx rfl (hb hby at_29) rfl) ?_
  show Go p e below s QQ room_1.cells room_1.slots (s₁.setTop (mkF m 31 #[.val (.long p0), .second, .val (.int p1), .val (.long p2), .second, .val (.long mm), .second, .val (.int aa), .val (.long (4611686018427387903 : Int64)), .second, .val (.long bb), .second, .unset, .unset, .unset, .unset, .unset, .unset, .unset, .unset, .unset, .unset] [(.long bb), (.int aa), (.long mm)]))
  obtain ⟨hi, hhi⟩ : ∃ z, (((mm <<< ((16 : Int32) &&& 0x3f).toInt64) ||| (28672 : Int64)) ||| (aa.toInt64)) = z := ⟨_, rfl⟩
  obtain ⟨lo, hlo⟩ : ∃ z, ((-9223372036854775808 : Int64) ||| bb) = z := ⟨_, rfl⟩
  obtain ⟨q1, q2, q3⟩ := own_hi p0 p1 hmm haa hhi
  obtain ⟨q4, q5⟩ := own_lo p2 hbb hlo
  obtain ⟨_, _, ⟨T8, L8, k8, n8⟩, -, X8, ⟨Lc8, hQ8, l8, y8, z8⟩, st8⟩ := Jvm.LawKit.callS X0 hx (y := (⟨"com/example/shrike/shrike/util/UuidV7Generator", "of", "(JIJ)Ljava/util/UUID;"⟩ : MethodName)) hown (mvT hZ (hw _ (List.mem_of_getElem? (i := 2) rfl))) (mvT hZ (hw _ (List.mem_of_getElem? (i := 3) rfl))) (mvT hZ (hw _ (List.mem_of_getElem? (i := 4) rfl))) (mvT hZ (hw _ (List.mem_of_getElem? (i := 5) rfl))) (by decide) (backOf (W := 0) (rm1 l Z a0 hw [] mm aa bb hi lo h0 n0 ZZ hhi hlo) hZ (hw _ (List.mem_of_getElem? (i := 5) rfl)) (hw _ (List.mem_of_getElem? (i := 4) rfl)) (by decide) (by decide)) (g := (mkF m 31 #[.val (.long p0), .second, .val (.int p1), .val (.long p2), .second, .val (.long mm), .second, .val (.int aa), .val (.long (4611686018427387903 : Int64)), .second, .val (.long bb), .second, .unset, .unset, .unset, .unset, .unset, .unset, .unset, .unset, .unset, .unset] [(.long bb), (.int aa), (.long mm)])) rfl (by rw [hml]; rfl) (argsL := [(.long mm), (.int aa), (.long bb)]) (rest := []) (lenOf pd_1 rfl) rfl (by show 2 * 0 + _ ≤ _; exact Nat.le_of_eq rfl) (hb hby at_31) (fun _ _ => ⟨rfl, e0, (by decide : 0 + 1 ≤ _), (by decide : 0 + 2 ≤ _)⟩)
  dsimp only [Pt.U, Pt.locs, Pt.cells, Pt.slots] at X8 l8 y8 z8 st8 hQ8
  subst l8 y8 z8
  obtain ⟨b8, rfl, N8q, K8, Ex8, Fa8, Fb8⟩ := hQ8
  replace N0 := Fr.app N0 N8q
  refine gs st8 ?_
  show Go p e below s QQ room_1.cells room_1.slots (T8.setTop (mkF m 34 #[.val (.long p0), .second, .val (.int p1), .val (.long p2), .second, .val (.long mm), .second, .val (.int aa), .val (.long (4611686018427387903 : Int64)), .second, .val (.long bb), .second, .unset, .unset, .unset, .unset, .unset, .unset, .unset, .unset, .unset, .unset] [(.ref b8)]))
  replace ZZ := Nat.le_trans ZZ K8.1
  refine gs (fun t => XS.astore X8.here hx rfl (hb hby at_34) rfl rfl (l' := #[.val (.long p0), .second, .val (.int p1), .val (.long p2), .second, .val (.long mm), .second, .val (.int aa), .val (.long (4611686018427387903 : Int64)), .second, .val (.long bb), .second, .val (.ref b8), .unset, .unset, .unset, .unset, .unset, .unset, .unset, .unset, .unset]) rfl) ?_
  show Go p e below s QQ room_1.cells room_1.slots (T8.setTop (mkF m 36 #[.val (.long p0), .second, .val (.int p1), .val (.long p2), .second, .val (.long mm), .second, .val (.int aa), .val (.long (4611686018427387903 : Int64)), .second, .val (.long bb), .second, .val (.ref b8), .unset, .unset, .unset, .unset, .unset, .unset, .unset, .unset, .unset] []))
  refine gs (fun t => XS.aload X8.here hx rfl (hb hby at_36) rfl rfl) ?_
  show Go p e below s QQ room_1.cells room_1.slots (T8.setTop (mkF m 38 #[.val (.long p0), .second, .val (.int p1), .val (.long p2), .second, .val (.long mm), .second, .val (.int aa), .val (.long (4611686018427387903 : Int64)), .second, .val (.long bb), .second, .val (.ref b8), .unset, .unset, .unset, .unset, .unset, .unset, .unset, .unset, .unset] [(.ref b8)]))
  obtain ⟨cq9, kq9, q9a, q9b, q9c⟩ := isOf hZ rfl Ex8
  obtain ⟨_, _, ⟨T9, L9, k9, n9⟩, -, X9, ⟨Lc9, hQ9, l9, y9, z9⟩, st9⟩ := X8.virtualBack hx (y := (⟨"java/util/UUID", "getMostSignificantBits", "()J"⟩ : MethodName)) (z := (⟨"java/util/UUID", "getMostSignificantBits", "()J"⟩ : MethodName)) hown (mvT hZ (hw _ (List.mem_of_getElem? (i := 21) rfl))) (mvT hZ (hw _ (List.mem_of_getElem? (i := 22) rfl))) (notFace_of_selects (args := #[]) (mvT hZ (hw _ (List.mem_of_getElem? (i := 24) rfl)))) (mvT hZ (hw _ (List.mem_of_getElem? (i := 24) rfl))) (mvT hZ (hw _ (List.mem_of_getElem? (i := 23) rfl))) (by decide) (backOf (W := 0) (rm4 l Z a0 hw [] b8 hi T8.heap n0 ZZ Fa8) hZ (hw _ (List.mem_of_getElem? (i := 25) rfl)) (hw _ (List.mem_of_getElem? (i := 10) rfl)) (by decide) (by decide)) q9a q9c (g := (mkF m 38 #[.val (.long p0), .second, .val (.int p1), .val (.long p2), .second, .val (.long mm), .second, .val (.int aa), .val (.long (4611686018427387903 : Int64)), .second, .val (.long bb), .second, .val (.ref b8), .unset, .unset, .unset, .unset, .unset, .unset, .unset, .unset, .unset] [(.ref b8)])) rfl (by rw [hml]; rfl) (Steps.refl _) (argsL := []) (rest := []) (lenOf pd_2 rfl) rfl (by show 2 * 0 + _ ≤ _; exact Nat.le_of_eq rfl) (hb hby at_38) (fun _ _ => ⟨rfl, rfl, (by decide : 1 + 0 ≤ _), (by decide : 2 + 0 ≤ _)⟩)
  dsimp only [Pt.U, Pt.locs, Pt.cells, Pt.slots] at X9 l9 y9 z9 st9 hQ9
  subst l9 y9 z9
  obtain ⟨rfl, N9q, e9⟩ := hQ9
  replace N0 := Fr.app N0 N9q
  refine gt st9 ?_
  show Go p e below s QQ room_1.cells room_1.slots (T9.setTop (mkF m 41 #[.val (.long p0), .second, .val (.int p1), .val (.long p2), .second, .val (.long mm), .second, .val (.int aa), .val (.long (4611686018427387903 : Int64)), .second, .val (.long bb), .second, .val (.ref b8), .unset, .unset, .unset, .unset, .unset, .unset, .unset, .unset, .unset] [(.long hi)]))
  refine gs (fun t => XS.lstore X9.here hx rfl (hb hby at_41) rfl (l' := #[.val (.long p0), .second, .val (.int p1), .val (.long p2), .second, .val (.long mm), .second, .val (.int aa), .val (.long (4611686018427387903 : Int64)), .second, .val (.long bb), .second, .val (.ref b8), .val (.long hi), .second, .unset, .unset, .unset, .unset, .unset, .unset, .unset]) rfl) ?_
  show Go p e below s QQ room_1.cells room_1.slots (T9.setTop (mkF m 43 #[.val (.long p0), .second, .val (.int p1), .val (.long p2), .second, .val (.long mm), .second, .val (.int aa), .val (.long (4611686018427387903 : Int64)), .second, .val (.long bb), .second, .val (.ref b8), .val (.long hi), .second, .unset, .unset, .unset, .unset, .unset, .unset, .unset] []))
  refine gs (fun t => XS.aload X9.here hx rfl (hb hby at_43) rfl rfl) ?_
  show Go p e below s QQ room_1.cells room_1.slots (T9.setTop (mkF m 45 #[.val (.long p0), .second, .val (.int p1), .val (.long p2), .second, .val (.long mm), .second, .val (.int aa), .val (.long (4611686018427387903 : Int64)), .second, .val (.long bb), .second, .val (.ref b8), .val (.long hi), .second, .unset, .unset, .unset, .unset, .unset, .unset, .unset] [(.ref b8)]))
  obtain ⟨cq10, kq10, q10a, q10b, q10c⟩ := isOf hZ e9 Ex8
  obtain ⟨_, _, ⟨T10, L10, k10, n10⟩, -, X10, ⟨Lc10, hQ10, l10, y10, z10⟩, st10⟩ := X9.virtualBack hx (y := (⟨"java/util/UUID", "getLeastSignificantBits", "()J"⟩ : MethodName)) (z := (⟨"java/util/UUID", "getLeastSignificantBits", "()J"⟩ : MethodName)) hown (mvT hZ (hw _ (List.mem_of_getElem? (i := 26) rfl))) (mvT hZ (hw _ (List.mem_of_getElem? (i := 27) rfl))) (notFace_of_selects (args := #[]) (mvT hZ (hw _ (List.mem_of_getElem? (i := 29) rfl)))) (mvT hZ (hw _ (List.mem_of_getElem? (i := 29) rfl))) (mvT hZ (hw _ (List.mem_of_getElem? (i := 28) rfl))) (by decide) (backOf (W := 0) (rm5 l Z a0 hw [] b8 lo T8.heap n0 ZZ Fb8) hZ (hw _ (List.mem_of_getElem? (i := 30) rfl)) (hw _ (List.mem_of_getElem? (i := 10) rfl)) (by decide) (by decide)) q10a q10c (g := (mkF m 45 #[.val (.long p0), .second, .val (.int p1), .val (.long p2), .second, .val (.long mm), .second, .val (.int aa), .val (.long (4611686018427387903 : Int64)), .second, .val (.long bb), .second, .val (.ref b8), .val (.long hi), .second, .unset, .unset, .unset, .unset, .unset, .unset, .unset] [(.ref b8)])) rfl (by rw [hml]; rfl) (Steps.refl _) (argsL := []) (rest := []) (lenOf pd_2 rfl) rfl (by show 2 * 0 + _ ≤ _; exact Nat.le_of_eq rfl) (hb hby at_45) (fun _ _ => ⟨rfl, e9, (by decide : 1 + 0 ≤ _), (by decide : 2 + 0 ≤ _)⟩)
  dsimp only [Pt.U, Pt.locs, Pt.cells, Pt.slots] at X10 l10 y10 z10 st10 hQ10
  subst l10 y10 z10
  obtain ⟨rfl, N10q, e10⟩ := hQ10
  replace N0 := Fr.app N0 N10q
  refine gt st10 ?_
  show Go p e below s QQ room_1.cells room_1.slots (T10.setTop (mkF m 48 #[.val (.long p0), .second, .val (.int p1), .val (.long p2), .second, .val (.long mm), .second, .val (.int aa), .val (.long (4611686018427387903 : Int64)), .second, .val (.long bb), .second, .val (.ref b8), .val (.long hi), .second, .unset, .unset, .unset, .unset, .unset, .unset, .unset] [(.long lo)]))
  refine gs (fun t => XS.lstore X10.here hx rfl (hb hby at_48) rfl (l' := #[.val (.long p0), .second, .val (.int p1), .val (.long p2), .second, .val (.long mm), .second, .val (.int aa), .val (.long (4611686018427387903 : Int64)), .second, .val (.long bb), .second, .val (.ref b8), .val (.long hi), .second, .val (.long lo), .second, .unset, .unset, .unset, .unset, .unset]) rfl) ?_
  show Go p e below s QQ room_1.cells room_1.slots (T10.setTop (mkF m 50 #[.val (.long p0), .second, .val (.int p1), .val (.long p2), .second, .val (.long mm), .second, .val (.int aa), .val (.long (4611686018427387903 : Int64)), .second, .val (.long bb), .second, .val (.ref b8), .val (.long hi), .second, .val (.long lo), .second, .unset, .unset, .unset, .unset, .unset] []))
  refine gs (fun t => XS.lload X10.here hx rfl (hb hby at_50) rfl) ?_
  show Go p e below s QQ room_1.cells room_1.slots (T10.setTop (mkF m 52 #[.val (.long p0), .second, .val (.int p1), .val (.long p2), .second, .val (.long mm), .second, .val (.int aa), .val (.long (4611686018427387903 : Int64)), .second, .val (.long bb), .second, .val (.ref b8), .val (.long hi), .second, .val (.long lo), .second, .unset, .unset, .unset, .unset, .unset] [(.long hi)]))
  refine gs (fun t => XS.bipush X10.here hx rfl (hb hby at_52)) ?_
  show Go p e below s QQ room_1.cells room_1.slots (T10.setTop (mkF m 54 #[.val (.long p0), .second, .val (.int p1), .val (.long p2), .second, .val (.long mm), .second, .val (.int aa), .val (.long (4611686018427387903 : Int64)), .second, .val (.long bb), .second, .val (.ref b8), .val (.long hi), .second, .val (.long lo), .second, .unset, .unset, .unset, .unset, .unset] [(.int (16 : Int32)), (.long hi)]))
  refine gs (fun t => XS.lushr X10.here hx rfl (hb hby at_54) rfl) ?_
  show Go p e below s QQ room_1.cells room_1.slots (T10.setTop (mkF m 55 #[.val (.long p0), .second, .val (.int p1), .val (.long p2), .second, .val (.long mm), .second, .val (.int aa), .val (.long (4611686018427387903 : Int64)), .second, .val (.long bb), .second, .val (.ref b8), .val (.long hi), .second, .val (.long lo), .second, .unset, .unset, .unset, .unset, .unset] [(.long ((hi.toUInt64 >>> ((16 : Int32) &&& 0x3f).toInt64.toUInt64).toInt64))]))
  refine gs (fun t => XS.lload X10.here hx rfl (hb hby at_55) rfl) ?_
  show Go p e below s QQ room_1.cells room_1.slots (T10.setTop (mkF m 57 #[.val (.long p0), .second, .val (.int p1), .val (.long p2), .second, .val (.long mm), .second, .val (.int aa), .val (.long (4611686018427387903 : Int64)), .second, .val (.long bb), .second, .val (.ref b8), .val (.long hi), .second, .val (.long lo), .second, .unset, .unset, .unset, .unset, .unset] [(.long mm), (.long ((hi.toUInt64 >>> ((16 : Int32) &&& 0x3f).toInt64.toUInt64).toInt64))]))
  refine gs (fun t => XS.lcmp X10.here hx rfl (hb hby at_57) rfl) ?_
  show Go p e below s QQ room_1.cells room_1.slots (T10.setTop (mkF m 58 #[.val (.long p0), .second, .val (.int p1), .val (.long p2), .second, .val (.long mm), .second, .val (.int aa), .val (.long (4611686018427387903 : Int64)), .second, .val (.long bb), .second, .val (.ref b8), .val (.long hi), .second, .val (.long lo), .second, .unset, .unset, .unset, .unset, .unset] [(.int (lcmpW ((hi.toUInt64 >>> ((16 : Int32) &&& 0x3f).toInt64.toUInt64).toInt64) mm))]))
  refine gs (fun t => XS.ifNo X10.here hx rfl (hb hby at_58) rfl ((if0 _ _).trans (teq ((lw_eq _ _).mpr q1 : (lcmpW ((hi.toUInt64 >>> ((16 : Int32) &&& 0x3f).toInt64.toUInt64).toInt64) mm) = (0 : Int32))).2)) ?_
  show Go p e below s QQ room_1.cells room_1.slots (T10.setTop (mkF m 61 #[.val (.long p0), .second, .val (.int p1), .val (.long p2), .second, .val (.long mm), .second, .val (.int aa), .val (.long (4611686018427387903 : Int64)), .second, .val (.long bb), .second, .val (.ref b8), .val (.long hi), .second, .val (.long lo), .second, .unset, .unset, .unset, .unset, .unset] []))
  refine gs (fun t => XS.iconst X10.here hx rfl (hb hby at_61)) ?_
  show Go p e below s QQ room_1.cells room_1.slots (T10.setTop (mkF m 62 #[.val (.long p0), .second, .val (.int p1), .val (.long p2), .second, .val (.long mm), .second, .val (.int aa), .val (.long (4611686018427387903 : Int64)), .second, .val (.long bb), .second, .val (.ref b8), .val (.long hi), .second, .val (.long lo), .second, .unset, .unset, .unset, .unset, .unset] [(.int (1 : Int32))]))
  refine gs (fun t => XS.goto X10.here hx rfl (pc0 := 62) (pc' := 66) rfl (hb hby at_62) (by decide) (by decide)) ?_
  show Go p e below s QQ room_1.cells room_1.slots (T10.setTop (mkF m 66 #[.val (.long p0), .second, .val (.int p1), .val (.long p2), .second, .val (.long mm), .second, .val (.int aa), .val (.long (4611686018427387903 : Int64)), .second, .val (.long bb), .second, .val (.ref b8), .val (.long hi), .second, .val (.long lo), .second, .unset, .unset, .unset, .unset, .unset] [(.int (1 : Int32))]))
  refine gs (fun t => XS.istore X10.here hx rfl (hb hby at_66) rfl (l' := #[.val (.long p0), .second, .val (.int p1), .val (.long p2), .second, .val (.long mm), .second, .val (.int aa), .val (.long (4611686018427387903 : Int64)), .second, .val (.long bb), .second, .val (.ref b8), .val (.long hi), .second, .val (.long lo), .second, .val (.int (1 : Int32)), .unset, .unset, .unset, .unset]) rfl) ?_
  show Go p e below s QQ room_1.cells room_1.slots (T10.setTop (mkF m 68 #[.val (.long p0), .second, .val (.int p1), .val (.long p2), .second, .val (.long mm), .second, .val (.int aa), .val (.long (4611686018427387903 : Int64)), .second, .val (.long bb), .second, .val (.ref b8), .val (.long hi), .second, .val (.long lo), .second, .val (.int (1 : Int32)), .unset, .unset, .unset, .unset] []))
  refine gs (fun t => XS.lload X10.here hx rfl (hb hby at_68) rfl) ?_
  show Go p e below s QQ room_1.cells room_1.slots (T10.setTop (mkF m 70 #[.val (.long p0), .second, .val (.int p1), .val (.long p2), .second, .val (.long mm), .second, .val (.int aa), .val (.long (4611686018427387903 : Int64)), .second, .val (.long bb), .second, .val (.ref b8), .val (.long hi), .second, .val (.long lo), .second, .val (.int (1 : Int32)), .unset, .unset, .unset, .unset] [(.long hi)]))
  refine gs (fun t => XS.bipush X10.here hx rfl (hb hby at_70)) ?_
  show Go p e below s QQ room_1.cells room_1.slots (T10.setTop (mkF m 72 #[.val (.long p0), .second, .val (.int p1), .val (.long p2), .second, .val (.long mm), .second, .val (.int aa), .val (.long (4611686018427387903 : Int64)), .second, .val (.long bb), .second, .val (.ref b8), .val (.long hi), .second, .val (.long lo), .second, .val (.int (1 : Int32)), .unset, .unset, .unset, .unset] [(.int (12 : Int32)), (.long hi)]))
  refine gs (fun t => XS.lushr X10.here hx rfl (hb hby at_72) rfl) ?_
  show Go p e below s QQ room_1.cells room_1.slots (T10.setTop (mkF m 73 #[.val (.long p0), .second, .val (.int p1), .val (.long p2), .second, .val (.long mm), .second, .val (.int aa), .val (.long (4611686018427387903 : Int64)), .second, .val (.long bb), .second, .val (.ref b8), .val (.long hi), .second, .val (.long lo), .second, .val (.int (1 : Int32)), .unset, .unset, .unset, .unset] [(.long ((hi.toUInt64 >>> ((12 : Int32) &&& 0x3f).toInt64.toUInt64).toInt64))]))
  refine gs (fun t => X10.ldc2Long hx hown (mvT hZ (hw _ (List.mem_of_getElem? (i := 31) rfl))) (g := (mkF m 73 #[.val (.long p0), .second, .val (.int p1), .val (.long p2), .second, .val (.long mm), .second, .val (.int aa), .val (.long (4611686018427387903 : Int64)), .second, .val (.long bb), .second, .val (.ref b8), .val (.long hi), .second, .val (.long lo), .second, .val (.int (1 : Int32)), .unset, .unset, .unset, .unset] [(.long ((hi.toUInt64 >>> ((12 : Int32) &&& 0x3f).toInt64.toUInt64).toInt64))])) rfl (hb hby at_73) t) ?_
  show Go p e below s QQ room_1.cells room_1.slots (T10.setTop (mkF m 76 #[.val (.long p0), .second, .val (.int p1), .val (.long p2), .second, .val (.long mm), .second, .val (.int aa), .val (.long (4611686018427387903 : Int64)), .second, .val (.long bb), .second, .val (.ref b8), .val (.long hi), .second, .val (.long lo), .second, .val (.int (1 : Int32)), .unset, .unset, .unset, .unset] [(.long (15 : Int64)), (.long ((hi.toUInt64 >>> ((12 : Int32) &&& 0x3f).toInt64.toUInt64).toInt64))]))
  refine gs (fun t => XS.land X10.here hx rfl (hb hby at_76) rfl) ?_
  show Go p e below s QQ room_1.cells room_1.slots (T10.setTop (mkF m 77 #[.val (.long p0), .second, .val (.int p1), .val (.long p2), .second, .val (.long mm), .second, .val (.int aa), .val (.long (4611686018427387903 : Int64)), .second, .val (.long bb), .second, .val (.ref b8), .val (.long hi), .second, .val (.long lo), .second, .val (.int (1 : Int32)), .unset, .unset, .unset, .unset] [(.long (((hi.toUInt64 >>> ((12 : Int32) &&& 0x3f).toInt64.toUInt64).toInt64) &&& (15 : Int64)))]))
  refine gs (fun t => X10.ldc2Long hx hown (mvT hZ (hw _ (List.mem_of_getElem? (i := 32) rfl))) (g := (mkF m 77 #[.val (.long p0), .second, .val (.int p1), .val (.long p2), .second, .val (.long mm), .second, .val (.int aa), .val (.long (4611686018427387903 : Int64)), .second, .val (.long bb), .second, .val (.ref b8), .val (.long hi), .second, .val (.long lo), .second, .val (.int (1 : Int32)), .unset, .unset, .unset, .unset] [(.long (((hi.toUInt64 >>> ((12 : Int32) &&& 0x3f).toInt64.toUInt64).toInt64) &&& (15 : Int64)))])) rfl (hb hby at_77) t) ?_
  show Go p e below s QQ room_1.cells room_1.slots (T10.setTop (mkF m 80 #[.val (.long p0), .second, .val (.int p1), .val (.long p2), .second, .val (.long mm), .second, .val (.int aa), .val (.long (4611686018427387903 : Int64)), .second, .val (.long bb), .second, .val (.ref b8), .val (.long hi), .second, .val (.long lo), .second, .val (.int (1 : Int32)), .unset, .unset, .unset, .unset] [(.long (7 : Int64)), (.long (((hi.toUInt64 >>> ((12 : Int32) &&& 0x3f).toInt64.toUInt64).toInt64) &&& (15 : Int64)))]))
  refine gs (fun t => XS.lcmp X10.here hx rfl (hb hby at_80) rfl) ?_
  show Go p e below s QQ room_1.cells room_1.slots (T10.setTop (mkF m 81 #[.val (.long p0), .second, .val (.int p1), .val (.long p2), .second, .val (.long mm), .second, .val (.int aa), .val (.long (4611686018427387903 : Int64)), .second, .val (.long bb), .second, .val (.ref b8), .val (.long hi), .second, .val (.long lo), .second, .val (.int (1 : Int32)), .unset, .unset, .unset, .unset] [(.int (lcmpW (((hi.toUInt64 >>> ((12 : Int32) &&& 0x3f).toInt64.toUInt64).toInt64) &&& (15 : Int64)) (7 : Int64)))]))
  refine gs (fun t => XS.ifNo X10.here hx rfl (hb hby at_81) rfl ((if0 _ _).trans (teq ((lw_eq _ _).mpr q2 : (lcmpW (((hi.toUInt64 >>> ((12 : Int32) &&& 0x3f).toInt64.toUInt64).toInt64) &&& (15 : Int64)) (7 : Int64)) = (0 : Int32))).2)) ?_
  show Go p e below s QQ room_1.cells room_1.slots (T10.setTop (mkF m 84 #[.val (.long p0), .second, .val (.int p1), .val (.long p2), .second, .val (.long mm), .second, .val (.int aa), .val (.long (4611686018427387903 : Int64)), .second, .val (.long bb), .second, .val (.ref b8), .val (.long hi), .second, .val (.long lo), .second, .val (.int (1 : Int32)), .unset, .unset, .unset, .unset] []))
  refine gs (fun t => XS.iconst X10.here hx rfl (hb hby at_84)) ?_
  show Go p e below s QQ room_1.cells room_1.slots (T10.setTop (mkF m 85 #[.val (.long p0), .second, .val (.int p1), .val (.long p2), .second, .val (.long mm), .second, .val (.int aa), .val (.long (4611686018427387903 : Int64)), .second, .val (.long bb), .second, .val (.ref b8), .val (.long hi), .second, .val (.long lo), .second, .val (.int (1 : Int32)), .unset, .unset, .unset, .unset] [(.int (1 : Int32))]))
  refine gs (fun t => XS.goto X10.here hx rfl (pc0 := 85) (pc' := 89) rfl (hb hby at_85) (by decide) (by decide)) ?_
  show Go p e below s QQ room_1.cells room_1.slots (T10.setTop (mkF m 89 #[.val (.long p0), .second, .val (.int p1), .val (.long p2), .second, .val (.long mm), .second, .val (.int aa), .val (.long (4611686018427387903 : Int64)), .second, .val (.long bb), .second, .val (.ref b8), .val (.long hi), .second, .val (.long lo), .second, .val (.int (1 : Int32)), .unset, .unset, .unset, .unset] [(.int (1 : Int32))]))
  refine gs (fun t => XS.istore X10.here hx rfl (hb hby at_89) rfl (l' := #[.val (.long p0), .second, .val (.int p1), .val (.long p2), .second, .val (.long mm), .second, .val (.int aa), .val (.long (4611686018427387903 : Int64)), .second, .val (.long bb), .second, .val (.ref b8), .val (.long hi), .second, .val (.long lo), .second, .val (.int (1 : Int32)), .val (.int (1 : Int32)), .unset, .unset, .unset]) rfl) ?_
  show Go p e below s QQ room_1.cells room_1.slots (T10.setTop (mkF m 91 #[.val (.long p0), .second, .val (.int p1), .val (.long p2), .second, .val (.long mm), .second, .val (.int aa), .val (.long (4611686018427387903 : Int64)), .second, .val (.long bb), .second, .val (.ref b8), .val (.long hi), .second, .val (.long lo), .second, .val (.int (1 : Int32)), .val (.int (1 : Int32)), .unset, .unset, .unset] []))
  refine gs (fun t => XS.lload X10.here hx rfl (hb hby at_91) rfl) ?_
  show Go p e below s QQ room_1.cells room_1.slots (T10.setTop (mkF m 93 #[.val (.long p0), .second, .val (.int p1), .val (.long p2), .second, .val (.long mm), .second, .val (.int aa), .val (.long (4611686018427387903 : Int64)), .second, .val (.long bb), .second, .val (.ref b8), .val (.long hi), .second, .val (.long lo), .second, .val (.int (1 : Int32)), .val (.int (1 : Int32)), .unset, .unset, .unset] [(.long hi)]))
  refine gs (fun t => X10.ldc2Long hx hown (mvT hZ (hw _ (List.mem_of_getElem? (i := 33) rfl))) (g := (mkF m 93 #[.val (.long p0), .second, .val (.int p1), .val (.long p2), .second, .val (.long mm), .second, .val (.int aa), .val (.long (4611686018427387903 : Int64)), .second, .val (.long bb), .second, .val (.ref b8), .val (.long hi), .second, .val (.long lo), .second, .val (.int (1 : Int32)), .val (.int (1 : Int32)), .unset, .unset, .unset] [(.long hi)])) rfl (hb hby at_93) t) ?_
  show Go p e below s QQ room_1.cells room_1.slots (T10.setTop (mkF m 96 #[.val (.long p0), .second, .val (.int p1), .val (.long p2), .second, .val (.long mm), .second, .val (.int aa), .val (.long (4611686018427387903 : Int64)), .second, .val (.long bb), .second, .val (.ref b8), .val (.long hi), .second, .val (.long lo), .second, .val (.int (1 : Int32)), .val (.int (1 : Int32)), .unset, .unset, .unset] [(.long (4095 : Int64)), (.long hi)]))
  refine gs (fun t => XS.land X10.here hx rfl (hb hby at_96) rfl) ?_
  show Go p e below s QQ room_1.cells room_1.slots (T10.setTop (mkF m 97 #[.val (.long p0), .second, .val (.int p1), .val (.long p2), .second, .val (.long mm), .second, .val (.int aa), .val (.long (4611686018427387903 : Int64)), .second, .val (.long bb), .second, .val (.ref b8), .val (.long hi), .second, .val (.long lo), .second, .val (.int (1 : Int32)), .val (.int (1 : Int32)), .unset, .unset, .unset] [(.long (hi &&& (4095 : Int64)))]))
  refine gs (fun t => XS.iload X10.here hx rfl (hb hby at_97) rfl) ?_
  show Go p e below s QQ room_1.cells room_1.slots (T10.setTop (mkF m 99 #[.val (.long p0), .second, .val (.int p1), .val (.long p2), .second, .val (.long mm), .second, .val (.int aa), .val (.long (4611686018427387903 : Int64)), .second, .val (.long bb), .second, .val (.ref b8), .val (.long hi), .second, .val (.long lo), .second, .val (.int (1 : Int32)), .val (.int (1 : Int32)), .unset, .unset, .unset] [(.int aa), (.long (hi &&& (4095 : Int64)))]))
  refine gs (fun t => XS.i2l X10.here hx rfl (hb hby at_99) rfl) ?_
  show Go p e below s QQ room_1.cells room_1.slots (T10.setTop (mkF m 100 #[.val (.long p0), .second, .val (.int p1), .val (.long p2), .second, .val (.long mm), .second, .val (.int aa), .val (.long (4611686018427387903 : Int64)), .second, .val (.long bb), .second, .val (.ref b8), .val (.long hi), .second, .val (.long lo), .second, .val (.int (1 : Int32)), .val (.int (1 : Int32)), .unset, .unset, .unset] [(.long (aa.toInt64)), (.long (hi &&& (4095 : Int64)))]))
  refine gs (fun t => XS.lcmp X10.here hx rfl (hb hby at_100) rfl) ?_
  show Go p e below s QQ room_1.cells room_1.slots (T10.setTop (mkF m 101 #[.val (.long p0), .second, .val (.int p1), .val (.long p2), .second, .val (.long mm), .second, .val (.int aa), .val (.long (4611686018427387903 : Int64)), .second, .val (.long bb), .second, .val (.ref b8), .val (.long hi), .second, .val (.long lo), .second, .val (.int (1 : Int32)), .val (.int (1 : Int32)), .unset, .unset, .unset] [(.int (lcmpW (hi &&& (4095 : Int64)) (aa.toInt64)))]))
  refine gs (fun t => XS.ifNo X10.here hx rfl (hb hby at_101) rfl ((if0 _ _).trans (teq ((lw_eq _ _).mpr q3 : (lcmpW (hi &&& (4095 : Int64)) (aa.toInt64)) = (0 : Int32))).2)) ?_
  show Go p e below s QQ room_1.cells room_1.slots (T10.setTop (mkF m 104 #[.val (.long p0), .second, .val (.int p1), .val (.long p2), .second, .val (.long mm), .second, .val (.int aa), .val (.long (4611686018427387903 : Int64)), .second, .val (.long bb), .second, .val (.ref b8), .val (.long hi), .second, .val (.long lo), .second, .val (.int (1 : Int32)), .val (.int (1 : Int32)), .unset, .unset, .unset] []))
  refine gs (fun t => XS.iconst X10.here hx rfl (hb hby at_104)) ?_
  show Go p e below s QQ room_1.cells room_1.slots (T10.setTop (mkF m 105 #[.val (.long p0), .second, .val (.int p1), .val (.long p2), .second, .val (.long mm), .second, .val (.int aa), .val (.long (4611686018427387903 : Int64)), .second, .val (.long bb), .second, .val (.ref b8), .val (.long hi), .second, .val (.long lo), .second, .val (.int (1 : Int32)), .val (.int (1 : Int32)), .unset, .unset, .unset] [(.int (1 : Int32))]))
  refine gs (fun t => XS.goto X10.here hx rfl (pc0 := 105) (pc' := 109) rfl (hb hby at_105) (by decide) (by decide)) ?_
  show Go p e below s QQ room_1.cells room_1.slots (T10.setTop (mkF m 109 #[.val (.long p0), .second, .val (.int p1), .val (.long p2), .second, .val (.long mm), .second, .val (.int aa), .val (.long (4611686018427387903 : Int64)), .second, .val (.long bb), .second, .val (.ref b8), .val (.long hi), .second, .val (.long lo), .second, .val (.int (1 : Int32)), .val (.int (1 : Int32)), .unset, .unset, .unset] [(.int (1 : Int32))]))
  refine gs (fun t => XS.istore X10.here hx rfl (hb hby at_109) rfl (l' := #[.val (.long p0), .second, .val (.int p1), .val (.long p2), .second, .val (.long mm), .second, .val (.int aa), .val (.long (4611686018427387903 : Int64)), .second, .val (.long bb), .second, .val (.ref b8), .val (.long hi), .second, .val (.long lo), .second, .val (.int (1 : Int32)), .val (.int (1 : Int32)), .val (.int (1 : Int32)), .unset, .unset]) rfl) ?_
  show Go p e below s QQ room_1.cells room_1.slots (T10.setTop (mkF m 111 #[.val (.long p0), .second, .val (.int p1), .val (.long p2), .second, .val (.long mm), .second, .val (.int aa), .val (.long (4611686018427387903 : Int64)), .second, .val (.long bb), .second, .val (.ref b8), .val (.long hi), .second, .val (.long lo), .second, .val (.int (1 : Int32)), .val (.int (1 : Int32)), .val (.int (1 : Int32)), .unset, .unset] []))
  refine gs (fun t => XS.lload X10.here hx rfl (hb hby at_111) rfl) ?_
  show Go p e below s QQ room_1.cells room_1.slots (T10.setTop (mkF m 113 #[.val (.long p0), .second, .val (.int p1), .val (.long p2), .second, .val (.long mm), .second, .val (.int aa), .val (.long (4611686018427387903 : Int64)), .second, .val (.long bb), .second, .val (.ref b8), .val (.long hi), .second, .val (.long lo), .second, .val (.int (1 : Int32)), .val (.int (1 : Int32)), .val (.int (1 : Int32)), .unset, .unset] [(.long lo)]))
  refine gs (fun t => XS.bipush X10.here hx rfl (hb hby at_113)) ?_
  show Go p e below s QQ room_1.cells room_1.slots (T10.setTop (mkF m 115 #[.val (.long p0), .second, .val (.int p1), .val (.long p2), .second, .val (.long mm), .second, .val (.int aa), .val (.long (4611686018427387903 : Int64)), .second, .val (.long bb), .second, .val (.ref b8), .val (.long hi), .second, .val (.long lo), .second, .val (.int (1 : Int32)), .val (.int (1 : Int32)), .val (.int (1 : Int32)), .unset, .unset] [(.int (62 : Int32)), (.long lo)]))
  refine gs (fun t => XS.lushr X10.here hx rfl (hb hby at_115) rfl) ?_
  show Go p e below s QQ room_1.cells room_1.slots (T10.setTop (mkF m 116 #[.val (.long p0), .second, .val (.int p1), .val (.long p2), .second, .val (.long mm), .second, .val (.int aa), .val (.long (4611686018427387903 : Int64)), .second, .val (.long bb), .second, .val (.ref b8), .val (.long hi), .second, .val (.long lo), .second, .val (.int (1 : Int32)), .val (.int (1 : Int32)), .val (.int (1 : Int32)), .unset, .unset] [(.long ((lo.toUInt64 >>> ((62 : Int32) &&& 0x3f).toInt64.toUInt64).toInt64))]))
  refine gs (fun t => X10.ldc2Long hx hown (mvT hZ (hw _ (List.mem_of_getElem? (i := 34) rfl))) (g := (mkF m 116 #[.val (.long p0), .second, .val (.int p1), .val (.long p2), .second, .val (.long mm), .second, .val (.int aa), .val (.long (4611686018427387903 : Int64)), .second, .val (.long bb), .second, .val (.ref b8), .val (.long hi), .second, .val (.long lo), .second, .val (.int (1 : Int32)), .val (.int (1 : Int32)), .val (.int (1 : Int32)), .unset, .unset] [(.long ((lo.toUInt64 >>> ((62 : Int32) &&& 0x3f).toInt64.toUInt64).toInt64))])) rfl (hb hby at_116) t) ?_
  show Go p e below s QQ room_1.cells room_1.slots (T10.setTop (mkF m 119 #[.val (.long p0), .second, .val (.int p1), .val (.long p2), .second, .val (.long mm), .second, .val (.int aa), .val (.long (4611686018427387903 : Int64)), .second, .val (.long bb), .second, .val (.ref b8), .val (.long hi), .second, .val (.long lo), .second, .val (.int (1 : Int32)), .val (.int (1 : Int32)), .val (.int (1 : Int32)), .unset, .unset] [(.long (2 : Int64)), (.long ((lo.toUInt64 >>> ((62 : Int32) &&& 0x3f).toInt64.toUInt64).toInt64))]))
  refine gs (fun t => XS.lcmp X10.here hx rfl (hb hby at_119) rfl) ?_
  show Go p e below s QQ room_1.cells room_1.slots (T10.setTop (mkF m 120 #[.val (.long p0), .second, .val (.int p1), .val (.long p2), .second, .val (.long mm), .second, .val (.int aa), .val (.long (4611686018427387903 : Int64)), .second, .val (.long bb), .second, .val (.ref b8), .val (.long hi), .second, .val (.long lo), .second, .val (.int (1 : Int32)), .val (.int (1 : Int32)), .val (.int (1 : Int32)), .unset, .unset] [(.int (lcmpW ((lo.toUInt64 >>> ((62 : Int32) &&& 0x3f).toInt64.toUInt64).toInt64) (2 : Int64)))]))
  refine gs (fun t => XS.ifNo X10.here hx rfl (hb hby at_120) rfl ((if0 _ _).trans (teq ((lw_eq _ _).mpr q4 : (lcmpW ((lo.toUInt64 >>> ((62 : Int32) &&& 0x3f).toInt64.toUInt64).toInt64) (2 : Int64)) = (0 : Int32))).2)) ?_
  show Go p e below s QQ room_1.cells room_1.slots (T10.setTop (mkF m 123 #[.val (.long p0), .second, .val (.int p1), .val (.long p2), .second, .val (.long mm), .second, .val (.int aa), .val (.long (4611686018427387903 : Int64)), .second, .val (.long bb), .second, .val (.ref b8), .val (.long hi), .second, .val (.long lo), .second, .val (.int (1 : Int32)), .val (.int (1 : Int32)), .val (.int (1 : Int32)), .unset, .unset] []))
  refine gs (fun t => XS.iconst X10.here hx rfl (hb hby at_123)) ?_
  show Go p e below s QQ room_1.cells room_1.slots (T10.setTop (mkF m 124 #[.val (.long p0), .second, .val (.int p1), .val (.long p2), .second, .val (.long mm), .second, .val (.int aa), .val (.long (4611686018427387903 : Int64)), .second, .val (.long bb), .second, .val (.ref b8), .val (.long hi), .second, .val (.long lo), .second, .val (.int (1 : Int32)), .val (.int (1 : Int32)), .val (.int (1 : Int32)), .unset, .unset] [(.int (1 : Int32))]))
  refine gs (fun t => XS.goto X10.here hx rfl (pc0 := 124) (pc' := 128) rfl (hb hby at_124) (by decide) (by decide)) ?_
  show Go p e below s QQ room_1.cells room_1.slots (T10.setTop (mkF m 128 #[.val (.long p0), .second, .val (.int p1), .val (.long p2), .second, .val (.long mm), .second, .val (.int aa), .val (.long (4611686018427387903 : Int64)), .second, .val (.long bb), .second, .val (.ref b8), .val (.long hi), .second, .val (.long lo), .second, .val (.int (1 : Int32)), .val (.int (1 : Int32)), .val (.int (1 : Int32)), .unset, .unset] [(.int (1 : Int32))]))
  refine gs (fun t => XS.istore X10.here hx rfl (hb hby at_128) rfl (l' := #[.val (.long p0), .second, .val (.int p1), .val (.long p2), .second, .val (.long mm), .second, .val (.int aa), .val (.long (4611686018427387903 : Int64)), .second, .val (.long bb), .second, .val (.ref b8), .val (.long hi), .second, .val (.long lo), .second, .val (.int (1 : Int32)), .val (.int (1 : Int32)), .val (.int (1 : Int32)), .val (.int (1 : Int32)), .unset]) rfl) ?_
  show Go p e below s QQ room_1.cells room_1.slots (T10.setTop (mkF m 130 #[.val (.long p0), .second, .val (.int p1), .val (.long p2), .second, .val (.long mm), .second, .val (.int aa), .val (.long (4611686018427387903 : Int64)), .second, .val (.long bb), .second, .val (.ref b8), .val (.long hi), .second, .val (.long lo), .second, .val (.int (1 : Int32)), .val (.int (1 : Int32)), .val (.int (1 : Int32)), .val (.int (1 : Int32)), .unset] []))
  refine gs (fun t => XS.lload X10.here hx rfl (hb hby at_130) rfl) ?_
  show Go p e below s QQ room_1.cells room_1.slots (T10.setTop (mkF m 132 #[.val (.long p0), .second, .val (.int p1), .val (.long p2), .second, .val (.long mm), .second, .val (.int aa), .val (.long (4611686018427387903 : Int64)), .second, .val (.long bb), .second, .val (.ref b8), .val (.long hi), .second, .val (.long lo), .second, .val (.int (1 : Int32)), .val (.int (1 : Int32)), .val (.int (1 : Int32)), .val (.int (1 : Int32)), .unset] [(.long lo)]))
  refine gs (fun t => XS.lload X10.here hx rfl (hb hby at_132) rfl) ?_
  show Go p e below s QQ room_1.cells room_1.slots (T10.setTop (mkF m 134 #[.val (.long p0), .second, .val (.int p1), .val (.long p2), .second, .val (.long mm), .second, .val (.int aa), .val (.long (4611686018427387903 : Int64)), .second, .val (.long bb), .second, .val (.ref b8), .val (.long hi), .second, .val (.long lo), .second, .val (.int (1 : Int32)), .val (.int (1 : Int32)), .val (.int (1 : Int32)), .val (.int (1 : Int32)), .unset] [(.long (4611686018427387903 : Int64)), (.long lo)]))
  refine gs (fun t => XS.land X10.here hx rfl (hb hby at_134) rfl) ?_
  show Go p e below s QQ room_1.cells room_1.slots (T10.setTop (mkF m 135 #[.val (.long p0), .second, .val (.int p1), .val (.long p2), .second, .val (.long mm), .second, .val (.int aa), .val (.long (4611686018427387903 : Int64)), .second, .val (.long bb), .second, .val (.ref b8), .val (.long hi), .second, .val (.long lo), .second, .val (.int (1 : Int32)), .val (.int (1 : Int32)), .val (.int (1 : Int32)), .val (.int (1 : Int32)), .unset] [(.long (lo &&& (4611686018427387903 : Int64)))]))
  refine gs (fun t => XS.lload X10.here hx rfl (hb hby at_135) rfl) ?_
  show Go p e below s QQ room_1.cells room_1.slots (T10.setTop (mkF m 137 #[.val (.long p0), .second, .val (.int p1), .val (.long p2), .second, .val (.long mm), .second, .val (.int aa), .val (.long (4611686018427387903 : Int64)), .second, .val (.long bb), .second, .val (.ref b8), .val (.long hi), .second, .val (.long lo), .second, .val (.int (1 : Int32)), .val (.int (1 : Int32)), .val (.int (1 : Int32)), .val (.int (1 : Int32)), .unset] [(.long bb), (.long (lo &&& (4611686018427387903 : Int64)))]))
  refine gs (fun t => XS.lcmp X10.here hx rfl (hb hby at_137) rfl) ?_
  show Go p e below s QQ room_1.cells room_1.slots (T10.setTop (mkF m 138 #[.val (.long p0), .second, .val (.int p1), .val (.long p2), .second, .val (.long mm), .second, .val (.int aa), .val (.long (4611686018427387903 : Int64)), .second, .val (.long bb), .second, .val (.ref b8), .val (.long hi), .second, .val (.long lo), .second, .val (.int (1 : Int32)), .val (.int (1 : Int32)), .val (.int (1 : Int32)), .val (.int (1 : Int32)), .unset] [(.int (lcmpW (lo &&& (4611686018427387903 : Int64)) bb))]))
  refine gs (fun t => XS.ifNo X10.here hx rfl (hb hby at_138) rfl ((if0 _ _).trans (teq ((lw_eq _ _).mpr q5 : (lcmpW (lo &&& (4611686018427387903 : Int64)) bb) = (0 : Int32))).2)) ?_
  show Go p e below s QQ room_1.cells room_1.slots (T10.setTop (mkF m 141 #[.val (.long p0), .second, .val (.int p1), .val (.long p2), .second, .val (.long mm), .second, .val (.int aa), .val (.long (4611686018427387903 : Int64)), .second, .val (.long bb), .second, .val (.ref b8), .val (.long hi), .second, .val (.long lo), .second, .val (.int (1 : Int32)), .val (.int (1 : Int32)), .val (.int (1 : Int32)), .val (.int (1 : Int32)), .unset] []))
  refine gs (fun t => XS.iconst X10.here hx rfl (hb hby at_141)) ?_
  show Go p e below s QQ room_1.cells room_1.slots (T10.setTop (mkF m 142 #[.val (.long p0), .second, .val (.int p1), .val (.long p2), .second, .val (.long mm), .second, .val (.int aa), .val (.long (4611686018427387903 : Int64)), .second, .val (.long bb), .second, .val (.ref b8), .val (.long hi), .second, .val (.long lo), .second, .val (.int (1 : Int32)), .val (.int (1 : Int32)), .val (.int (1 : Int32)), .val (.int (1 : Int32)), .unset] [(.int (1 : Int32))]))
  refine gs (fun t => XS.goto X10.here hx rfl (pc0 := 142) (pc' := 146) rfl (hb hby at_142) (by decide) (by decide)) ?_
  show Go p e below s QQ room_1.cells room_1.slots (T10.setTop (mkF m 146 #[.val (.long p0), .second, .val (.int p1), .val (.long p2), .second, .val (.long mm), .second, .val (.int aa), .val (.long (4611686018427387903 : Int64)), .second, .val (.long bb), .second, .val (.ref b8), .val (.long hi), .second, .val (.long lo), .second, .val (.int (1 : Int32)), .val (.int (1 : Int32)), .val (.int (1 : Int32)), .val (.int (1 : Int32)), .unset] [(.int (1 : Int32))]))
  refine gs (fun t => XS.istore X10.here hx rfl (hb hby at_146) rfl (l' := #[.val (.long p0), .second, .val (.int p1), .val (.long p2), .second, .val (.long mm), .second, .val (.int aa), .val (.long (4611686018427387903 : Int64)), .second, .val (.long bb), .second, .val (.ref b8), .val (.long hi), .second, .val (.long lo), .second, .val (.int (1 : Int32)), .val (.int (1 : Int32)), .val (.int (1 : Int32)), .val (.int (1 : Int32)), .val (.int (1 : Int32))]) rfl) ?_
  show Go p e below s QQ room_1.cells room_1.slots (T10.setTop (mkF m 148 #[.val (.long p0), .second, .val (.int p1), .val (.long p2), .second, .val (.long mm), .second, .val (.int aa), .val (.long (4611686018427387903 : Int64)), .second, .val (.long bb), .second, .val (.ref b8), .val (.long hi), .second, .val (.long lo), .second, .val (.int (1 : Int32)), .val (.int (1 : Int32)), .val (.int (1 : Int32)), .val (.int (1 : Int32)), .val (.int (1 : Int32))] []))
  refine gs (fun t => XS.iload X10.here hx rfl (hb hby at_148) rfl) ?_
  show Go p e below s QQ room_1.cells room_1.slots (T10.setTop (mkF m 150 #[.val (.long p0), .second, .val (.int p1), .val (.long p2), .second, .val (.long mm), .second, .val (.int aa), .val (.long (4611686018427387903 : Int64)), .second, .val (.long bb), .second, .val (.ref b8), .val (.long hi), .second, .val (.long lo), .second, .val (.int (1 : Int32)), .val (.int (1 : Int32)), .val (.int (1 : Int32)), .val (.int (1 : Int32)), .val (.int (1 : Int32))] [(.int (1 : Int32))]))
  refine gs (fun t => XS.ifNo X10.here hx rfl (hb hby at_150) rfl ((if0 _ _).trans (feq (by decide : ¬ ((1 : Int32) = (0 : Int32)))).1)) ?_
  show Go p e below s QQ room_1.cells room_1.slots (T10.setTop (mkF m 153 #[.val (.long p0), .second, .val (.int p1), .val (.long p2), .second, .val (.long mm), .second, .val (.int aa), .val (.long (4611686018427387903 : Int64)), .second, .val (.long bb), .second, .val (.ref b8), .val (.long hi), .second, .val (.long lo), .second, .val (.int (1 : Int32)), .val (.int (1 : Int32)), .val (.int (1 : Int32)), .val (.int (1 : Int32)), .val (.int (1 : Int32))] []))
  refine gs (fun t => XS.iload X10.here hx rfl (hb hby at_153) rfl) ?_
  show Go p e below s QQ room_1.cells room_1.slots (T10.setTop (mkF m 155 #[.val (.long p0), .second, .val (.int p1), .val (.long p2), .second, .val (.long mm), .second, .val (.int aa), .val (.long (4611686018427387903 : Int64)), .second, .val (.long bb), .second, .val (.ref b8), .val (.long hi), .second, .val (.long lo), .second, .val (.int (1 : Int32)), .val (.int (1 : Int32)), .val (.int (1 : Int32)), .val (.int (1 : Int32)), .val (.int (1 : Int32))] [(.int (1 : Int32))]))
  refine gs (fun t => XS.ifNo X10.here hx rfl (hb hby at_155) rfl ((if0 _ _).trans (feq (by decide : ¬ ((1 : Int32) = (0 : Int32)))).1)) ?_
  show Go p e below s QQ room_1.cells room_1.slots (T10.setTop (mkF m 158 #[.val (.long p0), .second, .val (.int p1), .val (.long p2), .second, .val (.long mm), .second, .val (.int aa), .val (.long (4611686018427387903 : Int64)), .second, .val (.long bb), .second, .val (.ref b8), .val (.long hi), .second, .val (.long lo), .second, .val (.int (1 : Int32)), .val (.int (1 : Int32)), .val (.int (1 : Int32)), .val (.int (1 : Int32)), .val (.int (1 : Int32))] []))
  refine gs (fun t => XS.iload X10.here hx rfl (hb hby at_158) rfl) ?_
  show Go p e below s QQ room_1.cells room_1.slots (T10.setTop (mkF m 160 #[.val (.long p0), .second, .val (.int p1), .val (.long p2), .second, .val (.long mm), .second, .val (.int aa), .val (.long (4611686018427387903 : Int64)), .second, .val (.long bb), .second, .val (.ref b8), .val (.long hi), .second, .val (.long lo), .second, .val (.int (1 : Int32)), .val (.int (1 : Int32)), .val (.int (1 : Int32)), .val (.int (1 : Int32)), .val (.int (1 : Int32))] [(.int (1 : Int32))]))
  refine gs (fun t => XS.ifNo X10.here hx rfl (hb hby at_160) rfl ((if0 _ _).trans (feq (by decide : ¬ ((1 : Int32) = (0 : Int32)))).1)) ?_
  show Go p e below s QQ room_1.cells room_1.slots (T10.setTop (mkF m 163 #[.val (.long p0), .second, .val (.int p1), .val (.long p2), .second, .val (.long mm), .second, .val (.int aa), .val (.long (4611686018427387903 : Int64)), .second, .val (.long bb), .second, .val (.ref b8), .val (.long hi), .second, .val (.long lo), .second, .val (.int (1 : Int32)), .val (.int (1 : Int32)), .val (.int (1 : Int32)), .val (.int (1 : Int32)), .val (.int (1 : Int32))] []))
  refine gs (fun t => XS.iload X10.here hx rfl (hb hby at_163) rfl) ?_
  show Go p e below s QQ room_1.cells room_1.slots (T10.setTop (mkF m 165 #[.val (.long p0), .second, .val (.int p1), .val (.long p2), .second, .val (.long mm), .second, .val (.int aa), .val (.long (4611686018427387903 : Int64)), .second, .val (.long bb), .second, .val (.ref b8), .val (.long hi), .second, .val (.long lo), .second, .val (.int (1 : Int32)), .val (.int (1 : Int32)), .val (.int (1 : Int32)), .val (.int (1 : Int32)), .val (.int (1 : Int32))] [(.int (1 : Int32))]))
  refine gs (fun t => XS.ifNo X10.here hx rfl (hb hby at_165) rfl ((if0 _ _).trans (feq (by decide : ¬ ((1 : Int32) = (0 : Int32)))).1)) ?_
  show Go p e below s QQ room_1.cells room_1.slots (T10.setTop (mkF m 168 #[.val (.long p0), .second, .val (.int p1), .val (.long p2), .second, .val (.long mm), .second, .val (.int aa), .val (.long (4611686018427387903 : Int64)), .second, .val (.long bb), .second, .val (.ref b8), .val (.long hi), .second, .val (.long lo), .second, .val (.int (1 : Int32)), .val (.int (1 : Int32)), .val (.int (1 : Int32)), .val (.int (1 : Int32)), .val (.int (1 : Int32))] []))
  refine gs (fun t => XS.iload X10.here hx rfl (hb hby at_168) rfl) ?_
  show Go p e below s QQ room_1.cells room_1.slots (T10.setTop (mkF m 170 #[.val (.long p0), .second, .val (.int p1), .val (.long p2), .second, .val (.long mm), .second, .val (.int aa), .val (.long (4611686018427387903 : Int64)), .second, .val (.long bb), .second, .val (.ref b8), .val (.long hi), .second, .val (.long lo), .second, .val (.int (1 : Int32)), .val (.int (1 : Int32)), .val (.int (1 : Int32)), .val (.int (1 : Int32)), .val (.int (1 : Int32))] [(.int (1 : Int32))]))
  refine gs (fun t => XS.ifNo X10.here hx rfl (hb hby at_170) rfl ((if0 _ _).trans (feq (by decide : ¬ ((1 : Int32) = (0 : Int32)))).1)) ?_
  show Go p e below s QQ room_1.cells room_1.slots (T10.setTop (mkF m 173 #[.val (.long p0), .second, .val (.int p1), .val (.long p2), .second, .val (.long mm), .second, .val (.int aa), .val (.long (4611686018427387903 : Int64)), .second, .val (.long bb), .second, .val (.ref b8), .val (.long hi), .second, .val (.long lo), .second, .val (.int (1 : Int32)), .val (.int (1 : Int32)), .val (.int (1 : Int32)), .val (.int (1 : Int32)), .val (.int (1 : Int32))] []))
  refine gs (fun t => XS.iconst X10.here hx rfl (hb hby at_173)) ?_
  show Go p e below s QQ room_1.cells room_1.slots (T10.setTop (mkF m 174 #[.val (.long p0), .second, .val (.int p1), .val (.long p2), .second, .val (.long mm), .second, .val (.int aa), .val (.long (4611686018427387903 : Int64)), .second, .val (.long bb), .second, .val (.ref b8), .val (.long hi), .second, .val (.long lo), .second, .val (.int (1 : Int32)), .val (.int (1 : Int32)), .val (.int (1 : Int32)), .val (.int (1 : Int32)), .val (.int (1 : Int32))] [(.int (1 : Int32))]))
  refine gs (fun t => XS.goto X10.here hx rfl (pc0 := 174) (pc' := 178) rfl (hb hby at_174) (by decide) (by decide)) ?_
  show Go p e below s QQ room_1.cells room_1.slots (T10.setTop (mkF m 178 #[.val (.long p0), .second, .val (.int p1), .val (.long p2), .second, .val (.long mm), .second, .val (.int aa), .val (.long (4611686018427387903 : Int64)), .second, .val (.long bb), .second, .val (.ref b8), .val (.long hi), .second, .val (.long lo), .second, .val (.int (1 : Int32)), .val (.int (1 : Int32)), .val (.int (1 : Int32)), .val (.int (1 : Int32)), .val (.int (1 : Int32))] [(.int (1 : Int32))]))
  exact goB X10 hx Bd.notSynchronized Bd.returns (by simp) (w := (1 : Int32)) (by first | rfl | decide) (hb hby at_178) (by rw [← hQQ, e10]; exact ⟨rfl, N0⟩) (by decide) (by decide)
set_option maxRecDepth 65536 in
set_option maxHeartbeats 40000000 in
theorem comes_1 {Post : Tables → Env → Array Value → State → Outcome → State → Prop} (hpost : ∀ tb e args s v u, (limb_1_1.after args s (.returned v) u = true ∧ limb_1_2.after args s (.returned v) u = true ∧ True) → FrameEnd s (.returned v) u (Jvm.fieldLocs frame_1_writes args s ++ Jvm.arrayLocs frame_1_arrays args s ++ Jvm.staticLocs frame_1_statics s) 16 128 → Post tb e args s (.returned v) u) :
    ArmFor flags0 classFile x code maxLocals ret World_1 tables_1 room_1 Calls_1 rest_1 Pre_1 Post := by
  intro l hfl _ _ p e ha hc hk s m args below hf hA hF happ hP
  obtain ⟨hcalls, hrest, hpre⟩ := hP
  obtain ⟨-, -, -, hnamed, -, -, -, hat⟩ := (Spec.applies_iff hf).mp happ
  obtain ⟨hg, hn⟩ := and_e (Cond.before_iff.mp (show (Jvm.Cond.and given_1 narrow_1).before args s = true from hpre))
  obtain ⟨gc, hg0⟩ := and_e hg
  obtain ⟨w0, w1, w2, rfl⟩ : ∃ w0 w1 w2 : Value, args = #[w0, w1, w2] := by
    have hs : args.size = 3 := by simpa [Cond.value, given_1] using gc
    obtain ⟨L⟩ := args
    match L, hs with
    | [w0, w1, w2], _ => exact ⟨w0, w1, w2, rfl⟩
  obtain ⟨ga0, hg1⟩ := and_e hg0
  obtain ⟨i0, ei0⟩ := isL_v ga0
  obtain rfl : w0 = (.long i0) := Option.some.inj ei0
  obtain ⟨ga1, hg2⟩ := and_e hg1
  obtain ⟨i1, ei1⟩ := is_v ga1
  obtain rfl : w1 = (.int i1) := Option.some.inj ei1
  obtain ⟨i2, ei2⟩ := isL_v hg2
  obtain rfl : w2 = (.long i2) := Option.some.inj ei2
  have hw := fun d (hd : d ∈ tables_1) => atoms_spec (ws := Jvm.Cond.code x code maxLocals ret :: tables_1) hat d (List.mem_cons_of_mem _ hd)
  have hfit : Fit s := fun {y c} hc i hi => by
    obtain ⟨ha, rfl⟩ := Array.getElem?_eq_some_iff.mp hc
    have q := List.all_eq_true.mp ((Array.all_eq_true_iff_forall_mem.mp hF) _ (Array.getElem_mem ha)) i (List.mem_range.mpr hi)
    simpa [Array.getElem?_eq_getElem hi] using q
  obtain ⟨n, o, h1, h2, h3, _, L, rfl, ⟨rfl, N⟩, hq⟩ := rm0 l s _ hw tables_1 i0 i1 i2 s.heap s.heap.size (Nat.le_refl _)  p e ha hc hk s m _ below hf ((Spec.applies_iff_loose hf).mp happ).1 ⟨rfl, State.Warmed39.refl s, rfl⟩ trivial
  refine ⟨n, _, h1, h2, h3, hpost _ _ _ _ _ _ ⟨Cond.after_iff.mpr rfl, Cond.after_iff.mpr (eq_i res_at (Term.int_eval (1)) rfl), trivial⟩ ⟨hq.1, hq.2.1, (hq.2.2.sift fun y hy => Or.inr (N y hy)).mono (by decide) (by decide)⟩⟩
theorem main_1_1 : Claimed_1_1 := comes_1 fun _ _ _ _ _ _ h hF => ⟨h.1, hF⟩
theorem main_1_2 : Claimed_1_2 := comes_1 fun _ _ _ _ _ _ h hF => ⟨h.2.1, hF⟩
end Jvm.Pilot.@@N@@
namespace Jvm.Pilot.@@N@@
open Jvm Jvm.ClassFile Sem Op Lib Jvm.Free Jvm.Stand Jvm.Pilot.@@N@@.Jvm.D
/-! MADE BY PROGRAM (witnessworld.py) out of the Statement's table words and the real class files: 11 classes; the members and pool entries that the words name. The judged class is class 1, her method 1. -/
namespace start1
open Jvm.ClassFile
def u (s : String) : CpInfo := .utf8 (stringToUtf16 s)
/-- a pool by its gaps: so many unusable entries, then the entry; so many at the end -/
def gap : Nat → List CpInfo → List CpInfo
  | 0, r => r
  | n + 1, r => .unusable :: gap n r
def poolList (es : List (Nat × CpInfo)) (last : Nat) : List CpInfo := es.foldr (fun e r => gap e.1 (e.2 :: r)) (gap last [])
def pool (es : List (Nat × CpInfo)) (last : Nat) : Array CpInfo := ⟨poolList es last⟩
def fileOf (pool : Array CpInfo) (this : Nat) (attrs : Array Attribute := #[]) (ms : Array MethodInfo := #[]) (fl : Nat := 33) (sup : Nat := 0) (ifs : Array Nat := #[]) (fds : Array FieldInfo := #[]) : ClassFile where
  minorVersion := 0
  majorVersion := 65
  constantPool := pool
  accessFlags := fl
  thisClass := this
  superClass := sup
  interfaces := ifs
  fields := fds
  methods := ms
  attributes := attrs
def plain (name : String) (sup : Option ClassId) : Class where
  name := name
  kind := .ordinary
  loader := none
  accessFlags := 33
  super := sup
  interfaces := #[]
  cf := none
  fields := #[]
  methods := #[]
  instanceTypes := #[]
  staticTypes := #[]
  resolved := #[]
  callSites := []
  init := .initialized
  statics := none
  mirror := none

def pool0 : Array CpInfo := pool [(5, u "<init>"), (0, u "()V"), (1, .class_ 10), (1, u "java/lang/Object")] 113

def k0c0 : Code := { maxStack := 0, maxLocals := 1, code := object_method_1_code, exceptionTable := #[], attributes := #[] }
def k0m0 : Method := { name := "<init>", desc := "()V", sig := { parameters := [], returnType := none }, accessFlags := 1, code := some k0c0 }
/-- java/lang/Object -/
def k0 : Class := { plain "java/lang/Object" none with
  accessFlags := 33
  interfaces := #[]
  cf := some (fileOf pool0 8 #[] #[{ accessFlags := 1, nameIndex := 5, descriptorIndex := 6, attributes := #[] }] 33 0 #[] #[])
  fields := #[]
  methods := #[k0m0]
  instanceTypes := #[]
  staticTypes := #[]
  resolved := Array.replicate 124 none
  statics := none }

def pool1 : Array CpInfo := pool [(2, .class_ 4), (1, u "java/lang/Object"), (0, u "<init>"), (0, u "()V"), (0, .long 281474976710655), (1, .long 4611686018427387903), (1, .methodref 12 13), (0, .class_ 14), (0, .nameAndType 15 16), (0, u "com/example/shrike/shrike/util/UuidV7Generator"), (0, u "of"), (0, u "(JIJ)Ljava/util/UUID;"), (0, .methodref 18 19), (0, .class_ 20), (0, .nameAndType 21 22), (0, u "java/util/UUID"), (0, u "getMostSignificantBits"), (0, u "()J"), (0, .methodref 18 24), (0, .nameAndType 25 22), (0, u "getLeastSignificantBits"), (0, .long 15), (1, .long 7), (1, .long 4095), (1, .long 2), (1, .class_ 35), (0, u "com/example/shrike/shrike/util/UuidV7GeneratorOfPinLaw"), (2, u "law"), (0, u "(JIJ)Z")] 3

def k1m0 : Method := { name := "<init>", desc := "()V", sig := { parameters := [], returnType := none }, accessFlags := 1, code := none }
def k1c1 : Code := { maxStack := 5, maxLocals := 22, code := code, exceptionTable := #[], attributes := #[] }
def k1m1 : Method := { name := "law", desc := "(JIJ)Z", sig := { parameters := [.long, .int, .long], returnType := some .boolean }, accessFlags := 9, code := some k1c1 }
/-- com/example/shrike/shrike/util/UuidV7GeneratorOfPinLaw -/
def k1 : Class := { plain "com/example/shrike/shrike/util/UuidV7GeneratorOfPinLaw" (some 0) with
  accessFlags := 49
  interfaces := #[]
  cf := some (fileOf pool1 34 #[] #[{ accessFlags := 1, nameIndex := 5, descriptorIndex := 6, attributes := #[] }, { accessFlags := 9, nameIndex := 38, descriptorIndex := 39, attributes := #[] }] 49 2 #[] #[])
  fields := #[]
  methods := #[k1m0, k1m1]
  instanceTypes := #[]
  staticTypes := #[]
  resolved := Array.replicate 43 none
  statics := none }

def pool2 : Array CpInfo := pool [(11, u "<init>"), (0, u "()V"), (1, .class_ 16), (1, u "com/example/shrike/shrike/util/UuidV7Generator"), (2, .class_ 20), (0, u "java/lang/Object"), (4, u "lastMillis"), (0, u "J"), (1, u "clock"), (8, u "Ljava/time/InstantSource;"), (1, u "random"), (4, u "Ljava/util/random/RandomGenerator;"), (23, u "randA"), (0, u "I"), (2, u "randB"), (2, u "of"), (0, u "(JIJ)Ljava/util/UUID;"), (2, u "CANONICAL"), (0, u "Ljava/util/regex/Pattern;"), (12, .long 28672), (3, .long 9223372036854775808), (1, .class_ 100), (0, u "java/util/UUID"), (0, .methodref 99 102), (0, .nameAndType 11 103), (0, u "(JJ)V"), (11, u "MAX_MILLIS"), (1, u "RAND_A_LIMIT"), (1, u "RAND_B_LIMIT")] 25

def k2m0 : Method := { name := "<init>", desc := "()V", sig := { parameters := [], returnType := none }, accessFlags := 1, code := none }
def k2c1 : Code := { maxStack := 6, maxLocals := 9, code := prog_21_method_5_code, exceptionTable := #[], attributes := #[] }
def k2m1 : Method := { name := "of", desc := "(JIJ)Ljava/util/UUID;", sig := { parameters := [.long, .int, .long], returnType := some (.object "java/util/UUID") }, accessFlags := 8, code := some k2c1 }
/-- com/example/shrike/shrike/util/UuidV7Generator -/
def k2 : Class := { plain "com/example/shrike/shrike/util/UuidV7Generator" (some 0) with
  accessFlags := 49
  interfaces := #[]
  cf := some (fileOf pool2 14 #[] #[{ accessFlags := 1, nameIndex := 11, descriptorIndex := 12, attributes := #[] }, { accessFlags := 8, nameIndex := 75, descriptorIndex := 76, attributes := #[] }] 49 19 #[] #[{ accessFlags := 26, nameIndex := 79, descriptorIndex := 80, attributes := #[] }, { accessFlags := 26, nameIndex := 115, descriptorIndex := 26, attributes := #[] }, { accessFlags := 26, nameIndex := 117, descriptorIndex := 69, attributes := #[] }, { accessFlags := 26, nameIndex := 119, descriptorIndex := 26, attributes := #[] }, { accessFlags := 18, nameIndex := 28, descriptorIndex := 37, attributes := #[] }, { accessFlags := 18, nameIndex := 39, descriptorIndex := 44, attributes := #[] }, { accessFlags := 2, nameIndex := 25, descriptorIndex := 26, attributes := #[] }, { accessFlags := 2, nameIndex := 68, descriptorIndex := 69, attributes := #[] }, { accessFlags := 2, nameIndex := 72, descriptorIndex := 26, attributes := #[] }])
  fields := #[{ name := "CANONICAL", type := (.object "java/util/regex/Pattern"), accessFlags := 26, slot := 0, constantValue := 0 }, { name := "MAX_MILLIS", type := .long, accessFlags := 26, slot := 1, constantValue := 0 }, { name := "RAND_A_LIMIT", type := .int, accessFlags := 26, slot := 2, constantValue := 0 }, { name := "RAND_B_LIMIT", type := .long, accessFlags := 26, slot := 3, constantValue := 0 }, { name := "clock", type := (.object "java/time/InstantSource"), accessFlags := 18, slot := 0, constantValue := 0 }, { name := "random", type := (.object "java/util/random/RandomGenerator"), accessFlags := 18, slot := 1, constantValue := 0 }, { name := "lastMillis", type := .long, accessFlags := 2, slot := 2, constantValue := 0 }, { name := "randA", type := .int, accessFlags := 2, slot := 3, constantValue := 0 }, { name := "randB", type := .long, accessFlags := 2, slot := 4, constantValue := 0 }]
  methods := #[k2m0, k2m1]
  instanceTypes := #[(.object "java/time/InstantSource"), (.object "java/util/random/RandomGenerator"), .long, .int, .long]
  staticTypes := #[(.object "java/util/regex/Pattern"), .long, .int, .long]
  resolved := Array.replicate 145 none
  statics := none }

def pool3 : Array CpInfo := pool [(1, .class_ 2), (0, u "java/io/Serializable"), (0, .class_ 4), (0, u "java/lang/Object")] 2

/-- java/io/Serializable -/
def k3 : Class := { plain "java/io/Serializable" (some 0) with
  accessFlags := 1537
  interfaces := #[]
  cf := some (fileOf pool3 1 #[] #[] 1537 3 #[] #[])
  fields := #[]
  methods := #[]
  instanceTypes := #[]
  staticTypes := #[]
  resolved := Array.replicate 7 none
  statics := none }

def pool4 : Array CpInfo := pool [(1, .class_ 2), (0, u "java/lang/Comparable"), (0, .class_ 4), (0, u "java/lang/Object")] 7

/-- java/lang/Comparable -/
def k4 : Class := { plain "java/lang/Comparable" (some 0) with
  accessFlags := 1537
  interfaces := #[]
  cf := some (fileOf pool4 1 #[] #[] 1537 3 #[] #[])
  fields := #[]
  methods := #[]
  instanceTypes := #[]
  staticTypes := #[]
  resolved := Array.replicate 12 none
  statics := none }

def pool5 : Array CpInfo := pool [(1, .methodref 2 3), (0, .class_ 4), (0, .nameAndType 5 6), (0, u "java/lang/Object"), (0, u "<init>"), (0, u "()V"), (1, .class_ 10), (1, u "java/util/UUID"), (0, u "$assertionsDisabled"), (0, u "Z"), (7, .fieldref 8 21), (0, .nameAndType 22 23), (0, u "mostSigBits"), (0, u "J"), (0, .fieldref 8 25), (0, .nameAndType 26 23), (0, u "leastSigBits"), (1, .class_ 30), (1, u "java/util/UUID$Holder"), (33, u "NIBBLES"), (0, u "[B"), (18, u "(JJ)V"), (61, u "jla"), (0, u "Ljdk/internal/access/JavaLangAccess;"), (40, .class_ 189), (0, u "java/io/Serializable"), (0, .class_ 191), (0, u "java/lang/Comparable"), (0, u "serialVersionUID"), (50, u "getLeastSignificantBits"), (0, u "()J"), (0, u "getMostSignificantBits")] 20

def k5c0 : Code := { maxStack := 3, maxLocals := 5, code := jdk_2758_method_2_code, exceptionTable := #[], attributes := #[] }
def k5m0 : Method := { name := "<init>", desc := "(JJ)V", sig := { parameters := [.long, .long], returnType := none }, accessFlags := 1, code := some k5c0 }
def k5c1 : Code := { maxStack := 2, maxLocals := 1, code := jdk_2758_method_8_code, exceptionTable := #[], attributes := #[] }
def k5m1 : Method := { name := "getLeastSignificantBits", desc := "()J", sig := { parameters := [], returnType := some .long }, accessFlags := 1, code := some k5c1 }
def k5c2 : Code := { maxStack := 2, maxLocals := 1, code := jdk_2758_method_9_code, exceptionTable := #[], attributes := #[] }
def k5m2 : Method := { name := "getMostSignificantBits", desc := "()J", sig := { parameters := [], returnType := some .long }, accessFlags := 1, code := some k5c2 }
/-- java/util/UUID -/
def k5 : Class := { plain "java/util/UUID" (some 0) with
  accessFlags := 49
  interfaces := #[3, 4]
  cf := some (fileOf pool5 8 #[.nestMembers #[28]] #[{ accessFlags := 1, nameIndex := 5, descriptorIndex := 84, attributes := #[] }, { accessFlags := 1, nameIndex := 243, descriptorIndex := 244, attributes := #[] }, { accessFlags := 1, nameIndex := 245, descriptorIndex := 244, attributes := #[] }] 49 2 #[188, 190] #[{ accessFlags := 26, nameIndex := 192, descriptorIndex := 23, attributes := #[] }, { accessFlags := 18, nameIndex := 22, descriptorIndex := 23, attributes := #[] }, { accessFlags := 18, nameIndex := 26, descriptorIndex := 23, attributes := #[] }, { accessFlags := 26, nameIndex := 146, descriptorIndex := 147, attributes := #[] }, { accessFlags := 26, nameIndex := 64, descriptorIndex := 65, attributes := #[] }, { accessFlags := 4120, nameIndex := 11, descriptorIndex := 12, attributes := #[] }])
  fields := #[{ name := "serialVersionUID", type := .long, accessFlags := 26, slot := 0, constantValue := 0 }, { name := "mostSigBits", type := .long, accessFlags := 18, slot := 0, constantValue := 0 }, { name := "leastSigBits", type := .long, accessFlags := 18, slot := 1, constantValue := 0 }, { name := "jla", type := (.object "jdk/internal/access/JavaLangAccess"), accessFlags := 26, slot := 1, constantValue := 0 }, { name := "NIBBLES", type := (.array .byte), accessFlags := 26, slot := 2, constantValue := 0 }, { name := "$assertionsDisabled", type := .boolean, accessFlags := 4120, slot := 3, constantValue := 0 }]
  methods := #[k5m0, k5m1, k5m2]
  instanceTypes := #[.long, .long]
  staticTypes := #[.long, (.object "jdk/internal/access/JavaLangAccess"), (.array .byte), .boolean]
  resolved := Array.replicate 266 none
  statics := none }

def pool6 : Array CpInfo := pool [(1, u "java/lang/Cloneable"), (0, .class_ 1), (0, u "java/lang/Object"), (0, .class_ 3)] 3

/-- java/lang/Cloneable -/
def k6 : Class := { plain "java/lang/Cloneable" (some 0) with
  accessFlags := 1537
  interfaces := #[]
  cf := some (fileOf pool6 2 #[] #[] 1537 4 #[] #[])
  fields := #[]
  methods := #[]
  instanceTypes := #[]
  staticTypes := #[]
  resolved := Array.replicate 8 none
  statics := none }

/-- the primitive byte -/
def k7 : Class := { plain "byte" none with kind := .primitive 'B', accessFlags := 0x411 }
/-- [B -/
def k8 : Class := { plain "[B" (some 0) with kind := .array 7 .byte, interfaces := #[6, 3], accessFlags := 1041 }

/-- the primitive int -/
def k9 : Class := { plain "int" none with kind := .primitive 'I', accessFlags := 0x411 }
/-- [I -/
def k10 : Class := { plain "[I" (some 0) with kind := .array 9 .int, interfaces := #[6, 3], accessFlags := 1041 }

def heap : Heap := #[]
def classes : Array Class := #[k0, k1, k2, k3, k4, k5, k6, k7, k8, k9, k10]
def interned : List (Array UInt16 × Addr) := []
def slotsUsed : Nat := 0
def theMethod : MethodId := ⟨1, 1⟩
def args0 : Array Value := #[.long 5, .int 7, .long 9]
def aboutOver (below : List Frame) : State where
  vm := { classes := classes, interned := interned.toArray }
  heap := heap
  slotsUsed := slotsUsed
  threads := #[{ frames := .invoking theMethod args0 :: below }]
def below0 : List Frame := [.native { method := ⟨0, 0⟩, args := #[] }]
def about1 : State := aboutOver below0
def p0 : Program := .bare "" "" ""
def e0 : Env := launch0.env 0 0 0
theorem w_frames : about1.frames = Frame.invoking theMethod args0 :: below0 := rfl
set_option maxRecDepth 65536 in
theorem w_args : argsFit about1.vm theMethod args0 = true := by decide +kernel
set_option maxRecDepth 65536 in
theorem w_heap : heapFits about1 = true := by decide +kernel
set_option maxRecDepth 65536 in
theorem w_runnable : about1.curStatus? = some .runnable := by decide +kernel
set_option maxRecDepth 65536 in
theorem w_alone : about1.alone = true := by decide +kernel
set_option maxRecDepth 65536 in
theorem w_named : about1.methodNamed? x = some theMethod := by decide +kernel
set_option maxRecDepth 65536 in
theorem w_hears : about1.hears theMethod below0 = true := by decide +kernel
set_option maxRecDepth 65536 in
theorem w_ripe : about1.ripe theMethod args0 below0 = true := by decide +kernel
theorem w_running : about1.status = .running := rfl
set_option maxRecDepth 65536 in
theorem w_room : about1.hasRoom e0.platform room_1 = true :=
  launch0.hasRoom_least _ room_1 (by decide +kernel) (by decide +kernel) (by decide +kernel) (by decide +kernel) (by decide +kernel) (by decide +kernel)
theorem allAtoms_all (ts : List Jvm.Cond) (a : Array Jvm.Value) (st : Jvm.State) : (allAtoms ts).before a st = ts.all (fun c => c.before a st) := by
  induction ts with
  | nil => rfl
  | cons c t ih =>
    show (Jvm.Cond.and c (allAtoms t)).before a st = _
    rw [Jvm.Cond.before_and, ih, List.all_cons]
def words1 : List Jvm.Cond := Jvm.Cond.code x code maxLocals ret :: tables_1
/-- a 'code' word, met by the world's own term for the bytes: nothing is compared byte by byte -/
theorem code_word {y : MethodName} {bytes : ByteArray} {mx : Nat} {rt : Option FieldType} {a : Array Value} {s : State} {m : MethodId} {meth : Method} {c : Code} (h1 : s.methodNamed? y = some m) (h2 : s.vm.method? m = some meth) (h3 : meth.code = some c) (h4 : c.code = bytes)
    (h5 : (c.maxLocals == mx && c.exceptionTable.isEmpty && decide (c.maxStack ≤ mostOperands) && decide (meth.sig.returnType = rt) && !meth.locks && decide (parseMethodDescriptor y.desc = some meth.sig)) = true) : (Jvm.Cond.code y bytes mx rt).before a s = true := by
  simp only [Bool.and_eq_true, beq_iff_eq, Bool.not_eq_true', decide_eq_true_eq] at h5
  obtain ⟨⟨⟨⟨⟨g1, g2⟩, g3⟩, g4⟩, g5⟩, g6⟩ := h5
  simp [Cond.before, Cond.holds, Cond.value, h1, h2, h3, h4, g1, g2, g3, g4, g5, g6]
def isCode : Jvm.Cond → Bool
  | .code _ _ _ _ => true
  | _ => false
theorem all_split {L : List Jvm.Cond} {P : Jvm.Cond → Bool} (h1 : L.all (fun c => isCode c || P c) = true) (h2 : ∀ c ∈ L.filter isCode, P c = true) : L.all P = true := by
  refine List.all_eq_true.mpr fun c hc => ?_
  have h := List.all_eq_true.mp h1 c hc
  rcases Bool.eq_false_or_eq_true (isCode c) with hi | hi
  · exact h2 c (List.mem_filter.mpr ⟨hc, hi⟩)
  · simpa [hi] using h
set_option maxRecDepth 65536 in
theorem w_c0 : (Jvm.Cond.code x code maxLocals ret).before args0 about1 = true := code_word (m := ⟨1, 1⟩) (meth := k1m1) (c := k1c1) (by decide +kernel) rfl rfl rfl (by decide +kernel)
set_option maxRecDepth 65536 in
theorem w_c1 : (Jvm.Cond.code ({ cls := "com/example/shrike/shrike/util/UuidV7Generator", name := "of", desc := "(JIJ)Ljava/util/UUID;" } : Jvm.MethodName) prog_21_method_5_code (9 : Nat) (Option.some (Jvm.ClassFile.FieldType.object "java/util/UUID"))).before args0 about1 = true := code_word (m := ⟨2, 1⟩) (meth := k2m1) (c := k2c1) (by decide +kernel) rfl rfl rfl (by decide +kernel)
set_option maxRecDepth 65536 in
theorem w_c2 : (Jvm.Cond.code ({ cls := "java/util/UUID", name := "<init>", desc := "(JJ)V" } : Jvm.MethodName) jdk_2758_method_2_code (5 : Nat) (Option.none : Option Jvm.ClassFile.FieldType)).before args0 about1 = true := code_word (m := ⟨5, 0⟩) (meth := k5m0) (c := k5c0) (by decide +kernel) rfl rfl rfl (by decide +kernel)
set_option maxRecDepth 65536 in
theorem w_c3 : (Jvm.Cond.code ({ cls := "java/lang/Object", name := "<init>", desc := "()V" } : Jvm.MethodName) object_method_1_code (1 : Nat) (Option.none : Option Jvm.ClassFile.FieldType)).before args0 about1 = true := code_word (m := ⟨0, 0⟩) (meth := k0m0) (c := k0c0) (by decide +kernel) rfl rfl rfl (by decide +kernel)
set_option maxRecDepth 65536 in
theorem w_c4 : (Jvm.Cond.code ({ cls := "java/util/UUID", name := "getMostSignificantBits", desc := "()J" } : Jvm.MethodName) jdk_2758_method_9_code (1 : Nat) (Option.some Jvm.ClassFile.FieldType.long)).before args0 about1 = true := code_word (m := ⟨5, 2⟩) (meth := k5m2) (c := k5c2) (by decide +kernel) rfl rfl rfl (by decide +kernel)
set_option maxRecDepth 65536 in
theorem w_c5 : (Jvm.Cond.code ({ cls := "java/util/UUID", name := "getLeastSignificantBits", desc := "()J" } : Jvm.MethodName) jdk_2758_method_8_code (1 : Nat) (Option.some Jvm.ClassFile.FieldType.long)).before args0 about1 = true := code_word (m := ⟨5, 1⟩) (meth := k5m1) (c := k5c1) (by decide +kernel) rfl rfl rfl (by decide +kernel)
def codes1 : List Jvm.Cond := [Jvm.Cond.code x code maxLocals ret, Jvm.Cond.code ({ cls := "com/example/shrike/shrike/util/UuidV7Generator", name := "of", desc := "(JIJ)Ljava/util/UUID;" } : Jvm.MethodName) prog_21_method_5_code (9 : Nat) (Option.some (Jvm.ClassFile.FieldType.object "java/util/UUID")), Jvm.Cond.code ({ cls := "java/util/UUID", name := "<init>", desc := "(JJ)V" } : Jvm.MethodName) jdk_2758_method_2_code (5 : Nat) (Option.none : Option Jvm.ClassFile.FieldType), Jvm.Cond.code ({ cls := "java/lang/Object", name := "<init>", desc := "()V" } : Jvm.MethodName) object_method_1_code (1 : Nat) (Option.none : Option Jvm.ClassFile.FieldType), Jvm.Cond.code ({ cls := "java/util/UUID", name := "getMostSignificantBits", desc := "()J" } : Jvm.MethodName) jdk_2758_method_9_code (1 : Nat) (Option.some Jvm.ClassFile.FieldType.long), Jvm.Cond.code ({ cls := "java/util/UUID", name := "getLeastSignificantBits", desc := "()J" } : Jvm.MethodName) jdk_2758_method_8_code (1 : Nat) (Option.some Jvm.ClassFile.FieldType.long)]
set_option maxRecDepth 65536 in
theorem codes_eq : words1.filter isCode = codes1 := rfl
theorem w_codes : ∀ c ∈ words1.filter isCode, c.before args0 about1 = true := by
  rw [codes_eq]
  intro c hc
  simp only [codes1, List.mem_cons, List.not_mem_nil, or_false] at hc
  rcases hc with rfl | rfl | rfl | rfl | rfl | rfl
  · exact w_c0
  · exact w_c1
  · exact w_c2
  · exact w_c3
  · exact w_c4
  · exact w_c5
set_option maxRecDepth 65536 in
theorem w_t1 : (words1.take 24).all (fun c => isCode c || c.before args0 about1) = true := by decide +kernel
set_option maxRecDepth 65536 in
theorem w_t2 : (words1.drop 24).all (fun c => isCode c || c.before args0 about1) = true := by decide +kernel
theorem w_tables : (allAtoms (Jvm.Cond.code x code maxLocals ret :: tables_1)).before args0 about1 = true := by
  rw [allAtoms_all]
  show words1.all (fun c => c.before args0 about1) = true
  refine all_split ?_ w_codes
  rw [← List.take_append_drop 24 words1, List.all_append, w_t1, w_t2]
  rfl
set_option maxRecDepth 65536 in
theorem w_case : (Jvm.Cond.and given_1 narrow_1).before args0 about1 = true := by decide +kernel
theorem w_applies : (headSpec (Jvm.Cond.code x code maxLocals ret :: tables_1) room_1).applies x e0.platform about1 = true :=
  (Spec.applies_iff w_frames).mpr ⟨w_running, w_runnable, w_alone, w_named, w_hears, w_ripe, w_room, w_tables⟩
theorem atStart : AtStart classFile x code maxLocals ret World_1 tables_1 room_1 Calls_1 rest_1 Pre_1 launch0 p0 e0 about1 theMethod args0 below0 :=
  ⟨lists_1, trivial, launch0.admits_env _ _ _, launch0.least_env, fairChoices_fair.cas, fairChoices_fair.clock, w_frames, w_args, w_heap, w_applies, trivial, trivial, w_case⟩
end start1
theorem witness_1 : WitnessClaimed_1 := ⟨start1.p0, start1.e0, start1.about1, start1.theMethod, start1.args0, start1.below0, start1.atStart⟩
end Jvm.Pilot.@@N@@
