import JvmDerived
import JvmDerived.Pilot.@@N@@Statement
import JvmDerived.Pilot.@@N@@Code
set_option linter.unusedVariables false
set_option linter.unusedSimpArgs false
namespace Jvm.RoadKit
open Sem ClassFile Op Lib Jvm.Stand Jvm.Free Jvm.LawKit
section Own
variable {p : Program} {l : Launch} {e : Env} {R : Room} {s : State} {m : MethodId} {args : Array Value} {below : List Frame} {meth : Method} {c : Code} {T : State} {locs : List Loc} {cells slots : Nat} {Z : State} {h h' : Heap} {a b : Addr} {ty : FieldType} {ws : List Addr}
/-- from the state S the run comes to an end that Q allows -/
def Go (p : Program) (e : Env) (below : List Frame) (s : State) (Q : Option Value → Heap → List Loc → Prop) (K N : Nat) (S : State) : Prop :=
  ∃ (t : State) (o : Outcome), Steps p.tables e below S t ∧ t.status = .running ∧ Ended t below o ∧ ∃ v L, o = .returned v ∧ Q v t.heap L ∧ FrameEnd s o t L K N
variable {Q : Option Value → Heap → List Loc → Prop} {K N : Nat} {S S' : State}
theorem gs (h : ∀ t, Steps p.tables e below S' t → Steps p.tables e below S t) (k : Go p e below s Q K N S') : Go p e below s Q K N S := by
  obtain ⟨t, o, a, b⟩ := k
  exact ⟨t, o, h t a, b⟩
theorem gt (h : Steps p.tables e below S S') (k : Go p e below s Q K N S') : Go p e below s Q K N S := gs (fun _ => h.trans) k
theorem goEnd (X : Stand p l e R s m args below meth c T locs cells slots) {v : Option Value} (hlocks : meth.locks = false) (hv : meth.sig.returnType = none → v = none)
    (hs : ∀ fs, (∀ (f : JFrame) (acts : List Action), f.method = m → f.locked = none → f.entered = [] → (doReturn e (T.setTop f) acts v).1 = T.setFrames fs) → Steps p.tables e below S (T.setFrames fs))
    (hQ : Q v T.heap locs) (hk : cells ≤ K) (hn : slots ≤ N) : Go p e below s Q K N S := by
  obtain ⟨fs, hr, hrun, hended, hW, hsame⟩ := X.leave (v := v) hv hlocks
  exact ⟨_, _, hs fs hr, hrun, hended, v, locs, rfl, hQ, ⟨_, rfl⟩, hW, hsame.mono hk hn⟩
theorem goV (X : Stand p l e R s m args below meth c T locs cells slots) (hx : p.tables.exec = Jvm.exec) (hlocks : meth.locks = false) (hret : meth.sig.returnType = none) {pc : Nat} {Ls : Array Slot} (hd : decode c.code pc = .ok (.return_, 1)) (hQ : Q none T.heap locs) (hk : cells ≤ K) (hn : slots ≤ N) :
    Go p e below s Q K N (T.setTop (mkF m pc Ls [])) := goEnd X hlocks (fun _ => rfl) (fun _ hr => X.returnOut hx hret hd hr) hQ hk hn
theorem goW (X : Stand p l e R s m args below meth c T locs cells slots) (hx : p.tables.exec = Jvm.exec) (hlocks : meth.locks = false) {t : FieldType} (hret : meth.sig.returnType = some t) {pc : Nat} {Ls : Array Slot} {w : Value} {i : Instr} {rest : List Value} (hn0 : narrow t w = w)
    (hi : (i = .ireturn ∧ (t = .int ∨ t = .boolean ∨ t = .byte ∨ t = .char ∨ t = .short) ∧ ∃ z, w = .int z) ∨ (i = .lreturn ∧ t = .long ∧ ∃ z, w = .long z) ∨ (i = .dreturn ∧ t = .double ∧ ∃ z, w = .double z) ∨ (i = .freturn ∧ t = .float ∧ ∃ z, w = .float z) ∨ (i = .areturn ∧ t.isReference = true ∧ w.isRef = true))
    (hd : decode c.code pc = .ok (i, 1)) (hQ : Q (some w) T.heap locs) (hk : cells ≤ K) (hn : slots ≤ N) : Go p e below s Q K N (T.setTop (mkF m pc Ls (w :: rest))) :=
  goEnd X hlocks (fun q => by rw [hret] at q; cases q) (fun _ hr => retOut X hx hret hn0 hi hd hr) hQ hk hn
theorem goI (X : Stand p l e R s m args below meth c T locs cells slots) (hx : p.tables.exec = Jvm.exec) (hlocks : meth.locks = false) (hret : meth.sig.returnType = some .int) {pc : Nat} {Ls : Array Slot} {w : Int32} {rest : List Value} (hd : decode c.code pc = .ok (.ireturn, 1)) (hQ : Q (some (.int w)) T.heap locs) (hk : cells ≤ K) (hn : slots ≤ N) :
    Go p e below s Q K N (T.setTop (mkF m pc Ls (.int w :: rest))) := goW X hx hlocks hret rfl (Or.inl ⟨rfl, Or.inl rfl, w, rfl⟩) hd hQ hk hn
theorem goJ (X : Stand p l e R s m args below meth c T locs cells slots) (hx : p.tables.exec = Jvm.exec) (hlocks : meth.locks = false) (hret : meth.sig.returnType = some .long) {pc : Nat} {Ls : Array Slot} {w : Int64} {rest : List Value} (hd : decode c.code pc = .ok (.lreturn, 1)) (hQ : Q (some (.long w)) T.heap locs) (hk : cells ≤ K) (hn : slots ≤ N) :
    Go p e below s Q K N (T.setTop (mkF m pc Ls (.long w :: rest))) := goW X hx hlocks hret rfl (Or.inr (Or.inl ⟨rfl, rfl, w, rfl⟩)) hd hQ hk hn
theorem goR (X : Stand p l e R s m args below meth c T locs cells slots) (hx : p.tables.exec = Jvm.exec) (hlocks : meth.locks = false) {t : FieldType} (hret : meth.sig.returnType = some t) (ht : t.isReference = true) {pc : Nat} {Ls : Array Slot} {w : Value} (hw : w.isRef = true) {rest : List Value} (hd : decode c.code pc = .ok (.areturn, 1)) (hQ : Q (some w) T.heap locs) (hk : cells ≤ K) (hn : slots ≤ N) :
    Go p e below s Q K N (T.setTop (mkF m pc Ls (w :: rest))) :=
  goW X hx hlocks hret (by cases t <;> simp [FieldType.isReference] at ht <;> rfl) (Or.inr (Or.inr (Or.inr (Or.inr ⟨rfl, ht, hw⟩)))) hd hQ hk hn
theorem goB (X : Stand p l e R s m args below meth c T locs cells slots) (hx : p.tables.exec = Jvm.exec) (hlocks : meth.locks = false) {t : FieldType} (hret : meth.sig.returnType = some t) (ht : t = .boolean ∨ t = .byte ∨ t = .char ∨ t = .short) {pc : Nat} {Ls : Array Slot} {z w : Int32} {rest : List Value} (hz : nar t z = w) (hd : decode c.code pc = .ok (.ireturn, 1)) (hQ : Q (some (.int w)) T.heap locs) (hk : cells ≤ K) (hn : slots ≤ N) :
    Go p e below s Q K N (T.setTop (mkF m pc Ls (.int z :: rest))) := by
  subst hz
  exact goEnd X hlocks (fun q => by rw [hret] at q; cases q) (fun _ hr => retN X hx hret ht hd hr) hQ hk hn
/-- an array of n places; the place i holds f i -/
def Arf (Z : State) (h : Heap) (a : Addr) (ty : FieldType) (n : Nat) (f : Nat → Value) : Prop := ∃ c : Cell, Arr Z h a c ty ∧ c.slots.size = n ∧ n < 2 ^ 31 ∧ ∀ i, i < n → c.slots[i]? = some (f i)
def upd (f : Nat → Value) (j : Nat) (v : Value) : Nat → Value := fun i => if i = j then v else f i
variable {n : Nat} {f g : Nat → Value} {sl : Nat} {v : Value}
theorem Arf.lt (F : Arf Z h a ty n f) : a < h.size := by obtain ⟨c, A, -⟩ := F; exact A.lt
theorem Arf.ext (F : Arf Z h a ty n f) (E : Ext h h') : Arf Z h' a ty n f := by obtain ⟨c, A, r⟩ := F; exact ⟨c, A.ext E, r⟩
theorem Arf.other (F : Arf Z h b ty n f) (W : Wr h h' a sl v) (q : b ≠ a) : Arf Z h' b ty n f := by obtain ⟨c, A, r⟩ := F; exact ⟨c, A.other W q, r⟩
theorem Arf.keep (F : Arf Z h a ty n f) (K : Keep h h' ws) (q : a ∉ ws) : Arf Z h' a ty n f := by obtain ⟨c, A, r⟩ := F; exact ⟨c, ⟨K.2.1 a c A.1 q, A.2⟩, r⟩
theorem Arf.congr (F : Arf Z h a ty n f) (q : ∀ i, i < n → f i = g i) : Arf Z h a ty n g := by
  obtain ⟨c, A, r1, r2, r3⟩ := F
  exact ⟨c, A, r1, r2, fun i hi => by rw [← q i hi]; exact r3 i hi⟩
theorem clampLt (z : Int32) : z.toNatClampNeg < 2 ^ 31 := by
  have h1 := z.toInt_lt
  have h2 : z.toNatClampNeg = z.toInt.toNat := rfl
  omega
theorem clampOf {j : Int32} (h0 : 0 ≤ j.toInt) : (j.toNatClampNeg : Int) = j.toInt := by
  have h2 : j.toNatClampNeg = j.toInt.toNat := rfl
  omega
theorem Arf.new {k : ClassId} {z : Int32} (A : Arr Z h a (newA k ty z) ty) : Arf Z h a ty z.toNatClampNeg (fun _ => defaultValue ty) := by
  refine ⟨_, A, sz_new _ _ _, clampLt z, fun i hi => ?_⟩
  simp [newA, hi]
theorem Arf.set (F : Arf Z h a ty n f) {j : Nat} (W : Wr h h' a j v) (hj : j < n) : Arf Z h' a ty n (upd f j v) := by
  obtain ⟨c, A, r1, r2, r3⟩ := F
  refine ⟨_, A.same W, by rw [sz_set]; exact r1, r2, fun i hi => ?_⟩
  by_cases q : i = j
  · subst q
    simp [Cell.setSlot, upd, r1, hi]
  · have q' : ¬ j = i := fun x => q x.symm
    simp [Cell.setSlot, upd, q, Array.getElem?_setIfInBounds_ne q', r3 i hi]
theorem inI {cl : Cell} (S : cl.slots.size = n) {j : Int32} (hj : 0 ≤ j.toInt ∧ j.toInt < n) : ¬ (j < 0 ∨ cl.slots.size ≤ j.toNatClampNeg) := by
  have q := clampOf hj.1
  rintro (h1 | h1)
  · rw [Int32.lt_iff_toInt_lt] at h1
    have : (0 : Int32).toInt = 0 := rfl
    omega
  · omega
theorem stIf (X : Stand p l e R s m args below meth c T locs cells slots) (hx : p.tables.exec = Jvm.exec) (hZ : Z.Warmed39 s.vm) (eT : T.heap = h) (F : Arf Z h a .int n f) {j x : Int32} (hj : 0 ≤ j.toInt ∧ j.toInt < n) {g : JFrame} (hg : g.method = m) {rest : List Value} (hs : g.stack = .int x :: .int j :: .ref a :: rest) (hd : decode c.code g.pc = .ok (.iastore, 1)) :
    ∃ T' h', Stand p l e R s m args below meth c T' (locs ++ [⟨a, j.toNatClampNeg⟩]) cells slots ∧ T'.heap = h' ∧ Wr h h' a j.toNatClampNeg (.int x) ∧ Arf Z h' a .int n (upd f j.toNatClampNeg (.int x)) ∧ ∀ target, Steps p.tables e below (T'.setTop { g with pc := g.pc + 1, stack := rest }) target → Steps p.tables e below (T.setTop g) target := by
  obtain ⟨cl, A, r1, r2, r3⟩ := id F
  obtain ⟨T', h', X', e', W, st⟩ := stI X hx hZ eT A (j := j) (x := x) (inI r1 hj) hg hs hd
  have q := clampOf hj.1
  exact ⟨T', h', X', e', W, F.set W (by omega), st⟩
theorem stJf (X : Stand p l e R s m args below meth c T locs cells slots) (hx : p.tables.exec = Jvm.exec) (hZ : Z.Warmed39 s.vm) (eT : T.heap = h) (F : Arf Z h a .long n f) {j : Int32} {x : Int64} (hj : 0 ≤ j.toInt ∧ j.toInt < n) {g : JFrame} (hg : g.method = m) {rest : List Value} (hs : g.stack = .long x :: .int j :: .ref a :: rest) (hd : decode c.code g.pc = .ok (.lastore, 1)) :
    ∃ T' h', Stand p l e R s m args below meth c T' (locs ++ [⟨a, j.toNatClampNeg⟩]) cells slots ∧ T'.heap = h' ∧ Wr h h' a j.toNatClampNeg (.long x) ∧ Arf Z h' a .long n (upd f j.toNatClampNeg (.long x)) ∧ ∀ target, Steps p.tables e below (T'.setTop { g with pc := g.pc + 1, stack := rest }) target → Steps p.tables e below (T.setTop g) target := by
  obtain ⟨cl, A, r1, r2, r3⟩ := id F
  obtain ⟨T', h', X', e', W, st⟩ := stJ X hx hZ eT A (j := j) (x := x) (inI r1 hj) hg hs hd
  have q := clampOf hj.1
  exact ⟨T', h', X', e', W, F.set W (by omega), st⟩
theorem stBf (X : Stand p l e R s m args below meth c T locs cells slots) (hx : p.tables.exec = Jvm.exec) (hZ : Z.Warmed39 s.vm) (eT : T.heap = h) (F : Arf Z h a .byte n f) {j x : Int32} (hj : 0 ≤ j.toInt ∧ j.toInt < n) {g : JFrame} (hg : g.method = m) {rest : List Value} (hs : g.stack = .int x :: .int j :: .ref a :: rest) (hd : decode c.code g.pc = .ok (.bastore, 1)) :
    ∃ T' h', Stand p l e R s m args below meth c T' (locs ++ [⟨a, j.toNatClampNeg⟩]) cells slots ∧ T'.heap = h' ∧ Wr h h' a j.toNatClampNeg (.int (nar .byte x)) ∧ Arf Z h' a .byte n (upd f j.toNatClampNeg (.int (nar .byte x))) ∧ ∀ target, Steps p.tables e below (T'.setTop { g with pc := g.pc + 1, stack := rest }) target → Steps p.tables e below (T.setTop g) target := by
  obtain ⟨cl, A, r1, r2, r3⟩ := id F
  obtain ⟨T', h', X', e', W, st⟩ := stB X hx hZ eT A (j := j) (x := x) (inI r1 hj) hg hs hd
  have q := clampOf hj.1
  exact ⟨T', h', X', e', W, F.set W (by omega), st⟩
theorem stZf (X : Stand p l e R s m args below meth c T locs cells slots) (hx : p.tables.exec = Jvm.exec) (hZ : Z.Warmed39 s.vm) (eT : T.heap = h) (F : Arf Z h a .boolean n f) {j x : Int32} (hj : 0 ≤ j.toInt ∧ j.toInt < n) {g : JFrame} (hg : g.method = m) {rest : List Value} (hs : g.stack = .int x :: .int j :: .ref a :: rest) (hd : decode c.code g.pc = .ok (.bastore, 1)) :
    ∃ T' h', Stand p l e R s m args below meth c T' (locs ++ [⟨a, j.toNatClampNeg⟩]) cells slots ∧ T'.heap = h' ∧ Wr h h' a j.toNatClampNeg (.int (nar .boolean x)) ∧ Arf Z h' a .boolean n (upd f j.toNatClampNeg (.int (nar .boolean x))) ∧ ∀ target, Steps p.tables e below (T'.setTop { g with pc := g.pc + 1, stack := rest }) target → Steps p.tables e below (T.setTop g) target := by
  obtain ⟨cl, A, r1, r2, r3⟩ := id F
  obtain ⟨T', h', X', e', W, st⟩ := stZ X hx hZ eT A (j := j) (x := x) (inI r1 hj) hg hs hd
  have q := clampOf hj.1
  exact ⟨T', h', X', e', W, F.set W (by omega), st⟩
theorem stCf (X : Stand p l e R s m args below meth c T locs cells slots) (hx : p.tables.exec = Jvm.exec) (hZ : Z.Warmed39 s.vm) (eT : T.heap = h) (F : Arf Z h a .char n f) {j x : Int32} (hj : 0 ≤ j.toInt ∧ j.toInt < n) {g : JFrame} (hg : g.method = m) {rest : List Value} (hs : g.stack = .int x :: .int j :: .ref a :: rest) (hd : decode c.code g.pc = .ok (.castore, 1)) :
    ∃ T' h', Stand p l e R s m args below meth c T' (locs ++ [⟨a, j.toNatClampNeg⟩]) cells slots ∧ T'.heap = h' ∧ Wr h h' a j.toNatClampNeg (.int (nar .char x)) ∧ Arf Z h' a .char n (upd f j.toNatClampNeg (.int (nar .char x))) ∧ ∀ target, Steps p.tables e below (T'.setTop { g with pc := g.pc + 1, stack := rest }) target → Steps p.tables e below (T.setTop g) target := by
  obtain ⟨cl, A, r1, r2, r3⟩ := id F
  obtain ⟨T', h', X', e', W, st⟩ := stC X hx hZ eT A (j := j) (x := x) (inI r1 hj) hg hs hd
  have q := clampOf hj.1
  exact ⟨T', h', X', e', W, F.set W (by omega), st⟩
theorem stRf (X : Stand p l e R s m args below meth c T locs cells slots) (hx : p.tables.exec = Jvm.exec) (hZ : Z.Warmed39 s.vm) (eT : T.heap = h) (F : Arf Z h a ty n f) (hty : ty.isReference = true) {j : Int32} {v : Value} (hv : Sto Z h a v) (hj : 0 ≤ j.toInt ∧ j.toInt < n) {g : JFrame} (hg : g.method = m) {rest : List Value} (hs : g.stack = v :: .int j :: .ref a :: rest) (hd : decode c.code g.pc = .ok (.aastore, 1)) :
    ∃ T' h', Stand p l e R s m args below meth c T' (locs ++ [⟨a, j.toNatClampNeg⟩]) cells slots ∧ T'.heap = h' ∧ Wr h h' a j.toNatClampNeg v ∧ Arf Z h' a ty n (upd f j.toNatClampNeg v) ∧ ∀ target, Steps p.tables e below (T'.setTop { g with pc := g.pc + 1, stack := rest }) target → Steps p.tables e below (T.setTop g) target := by
  obtain ⟨cl, A, r1, r2, r3⟩ := id F
  obtain ⟨T', h', X', e', W, st⟩ := stR X hx hZ eT A (j := j) (v := v) (inI r1 hj) hty hv hg hs hd
  have q := clampOf hj.1
  exact ⟨T', h', X', e', W, F.set W (by omega), st⟩
theorem ldIf (X : Stand p l e R s m args below meth c T locs cells slots) (hx : p.tables.exec = Jvm.exec) (hZ : Z.Warmed39 s.vm) (eT : T.heap = h) (F : Arf Z h a .int n f) {j : Int32} {v : Value} (hj : 0 ≤ j.toInt ∧ j.toInt < n) (hv : f j.toNatClampNeg = v) {g : JFrame} (hg : g.method = m) {rest : List Value} (hs : g.stack = .int j :: .ref a :: rest) (hd : decode c.code g.pc = .ok (.iaload, 1)) :
    ∀ target, Steps p.tables e below (T.setTop { g with pc := g.pc + 1, stack := v :: rest }) target → Steps p.tables e below (T.setTop g) target := by
  obtain ⟨cl, A, r1, r2, r3⟩ := F
  have q := clampOf hj.1
  exact fun t => X.iaload hx (by rw [eT]; exact A.1) (State.isArrayOf_alike hZ.alike A.2.1) A.2.2 (inI r1 hj) (by rw [← hv]; exact r3 _ (by omega)) hg hs hd t
theorem ldJf (X : Stand p l e R s m args below meth c T locs cells slots) (hx : p.tables.exec = Jvm.exec) (hZ : Z.Warmed39 s.vm) (eT : T.heap = h) (F : Arf Z h a .long n f) {j : Int32} {v : Value} (hj : 0 ≤ j.toInt ∧ j.toInt < n) (hv : f j.toNatClampNeg = v) {g : JFrame} (hg : g.method = m) {rest : List Value} (hs : g.stack = .int j :: .ref a :: rest) (hd : decode c.code g.pc = .ok (.laload, 1)) :
    ∀ target, Steps p.tables e below (T.setTop { g with pc := g.pc + 1, stack := v :: rest }) target → Steps p.tables e below (T.setTop g) target := by
  obtain ⟨cl, A, r1, r2, r3⟩ := F
  have q := clampOf hj.1
  exact fun t => X.laload hx (by rw [eT]; exact A.1) (State.isArrayOf_alike hZ.alike A.2.1) A.2.2 (inI r1 hj) (by rw [← hv]; exact r3 _ (by omega)) hg hs hd t
theorem ldCf (X : Stand p l e R s m args below meth c T locs cells slots) (hx : p.tables.exec = Jvm.exec) (hZ : Z.Warmed39 s.vm) (eT : T.heap = h) (F : Arf Z h a .char n f) {j : Int32} {v : Value} (hj : 0 ≤ j.toInt ∧ j.toInt < n) (hv : f j.toNatClampNeg = v) {g : JFrame} (hg : g.method = m) {rest : List Value} (hs : g.stack = .int j :: .ref a :: rest) (hd : decode c.code g.pc = .ok (.caload, 1)) :
    ∀ target, Steps p.tables e below (T.setTop { g with pc := g.pc + 1, stack := v :: rest }) target → Steps p.tables e below (T.setTop g) target := by
  obtain ⟨cl, A, r1, r2, r3⟩ := F
  have q := clampOf hj.1
  exact fun t => X.caload hx (by rw [eT]; exact A.1) (State.isArrayOf_alike hZ.alike A.2.1) A.2.2 (inI r1 hj) (by rw [← hv]; exact r3 _ (by omega)) hg hs hd t
theorem ldBf (X : Stand p l e R s m args below meth c T locs cells slots) (hx : p.tables.exec = Jvm.exec) (hZ : Z.Warmed39 s.vm) (eT : T.heap = h) (F : Arf Z h a .byte n f) {j : Int32} {v : Value} (hj : 0 ≤ j.toInt ∧ j.toInt < n) (hv : f j.toNatClampNeg = v) {g : JFrame} (hg : g.method = m) {rest : List Value} (hs : g.stack = .int j :: .ref a :: rest) (hd : decode c.code g.pc = .ok (.baload, 1)) :
    ∀ target, Steps p.tables e below (T.setTop { g with pc := g.pc + 1, stack := v :: rest }) target → Steps p.tables e below (T.setTop g) target := by
  obtain ⟨cl, A, r1, r2, r3⟩ := F
  have q := clampOf hj.1
  exact fun t => X.baloadBytes hx (by rw [eT]; exact A.1) (State.isArrayOf_alike hZ.alike A.2.1) A.2.2 (inI r1 hj) (by rw [← hv]; exact r3 _ (by omega)) hg hs hd t
theorem ldZf (X : Stand p l e R s m args below meth c T locs cells slots) (hx : p.tables.exec = Jvm.exec) (hZ : Z.Warmed39 s.vm) (eT : T.heap = h) (F : Arf Z h a .boolean n f) {j : Int32} {v : Value} (hj : 0 ≤ j.toInt ∧ j.toInt < n) (hv : f j.toNatClampNeg = v) {g : JFrame} (hg : g.method = m) {rest : List Value} (hs : g.stack = .int j :: .ref a :: rest) (hd : decode c.code g.pc = .ok (.baload, 1)) :
    ∀ target, Steps p.tables e below (T.setTop { g with pc := g.pc + 1, stack := v :: rest }) target → Steps p.tables e below (T.setTop g) target := by
  obtain ⟨cl, A, r1, r2, r3⟩ := F
  have q := clampOf hj.1
  exact fun t => X.baloadBooleans hx (by rw [eT]; exact A.1) (State.isArrayOf_alike hZ.alike A.2.1) A.2.2 (inI r1 hj) (by rw [← hv]; exact r3 _ (by omega)) hg hs hd t
theorem ldRf (X : Stand p l e R s m args below meth c T locs cells slots) (hx : p.tables.exec = Jvm.exec) (hZ : Z.Warmed39 s.vm) (eT : T.heap = h) (F : Arf Z h a ty n f) (hty : ty.isReference = true) {j : Int32} {v : Value} (hj : 0 ≤ j.toInt ∧ j.toInt < n) (hv : f j.toNatClampNeg = v) {g : JFrame} (hg : g.method = m) {rest : List Value} (hs : g.stack = .int j :: .ref a :: rest) (hd : decode c.code g.pc = .ok (.aaload, 1)) :
    ∀ target, Steps p.tables e below (T.setTop { g with pc := g.pc + 1, stack := v :: rest }) target → Steps p.tables e below (T.setTop g) target := by
  obtain ⟨cl, A, r1, r2, r3⟩ := F
  have q := clampOf hj.1
  exact fun t => X.aaload hx (by rw [eT]; exact A.1) (State.isArrayOf_alike hZ.alike A.2.1) hty A.2.2 (inI r1 hj) (by rw [← hv]; exact r3 _ (by omega)) hg hs hd t
theorem lenf (X : Stand p l e R s m args below meth c T locs cells slots) (hx : p.tables.exec = Jvm.exec) (hZ : Z.Warmed39 s.vm) (eT : T.heap = h) (F : Arf Z h a ty n f) {z : Int32} (hz : n.toInt32 = z) {g : JFrame} (hg : g.method = m) {rest : List Value} (hs : g.stack = .ref a :: rest) (hd : decode c.code g.pc = .ok (.arraylength, 1)) :
    ∀ target, Steps p.tables e below (T.setTop { g with pc := g.pc + 1, stack := .int z :: rest }) target → Steps p.tables e below (T.setTop g) target := by
  obtain ⟨cl, A, r1, r2, r3⟩ := F
  subst hz r1
  exact fun t => X.arraylength hx (by rw [eT]; exact A.1) (State.isArrayOf_alike hZ.alike A.2.1) hg hs hd t
theorem toClamp {z : Int32} (q : 0 ≤ z.toInt) : z.toNatClampNeg.toInt32 = z := (back32 (fun h => by rw [Int32.lt_iff_toInt_lt] at h; have : (0 : Int32).toInt = 0 := rfl; omega)).1
/-- an array that takes every object of the class C -/
def Tak (Z : State) (h : Heap) (a : Addr) (C : String) : Prop := ∃ (cell : Cell) (k kc : Class) (comp : ClassId) (t : FieldType), h[a]? = some cell ∧ Z.vm.classes[cell.cls]? = some k ∧ k.kind = .array comp t ∧ Z.vm.classes[comp]? = some kc ∧ Z.vm.findClass C = some comp
variable {C : String}
theorem Tak.ext (F : Tak Z h a C) (E : Ext h h') : Tak Z h' a C := by obtain ⟨cell, k, kc, comp, t, h1, r⟩ := F; exact ⟨cell, k, kc, comp, t, E.2 _ _ h1, r⟩
theorem Tak.wr (F : Tak Z h a C) (W : Wr h h' b sl v) : Tak Z h' a C := by
  obtain ⟨cell, k, kc, comp, t, h1, h2, r⟩ := F
  obtain ⟨c', e1, e2, -⟩ := wr_at W h1
  exact ⟨c', k, kc, comp, t, e1, by rw [e2]; exact h2, r⟩
theorem Tak.keep (F : Tak Z h a C) (K : Keep h h' ws) : Tak Z h' a C := by
  obtain ⟨cell, k, kc, comp, t, h1, h2, r⟩ := F
  obtain ⟨c', e1, e2, -⟩ := K.2.2 _ _ h1
  exact ⟨c', k, kc, comp, t, e1, by rw [e2]; exact h2, r⟩
theorem Tak.sto (F : Tak Z h a C) {y : Addr} (I : Ins Z h y C true) : Sto Z h a (.ref y) := by
  obtain ⟨cell, k, kc, comp, t, h1, h2, h3, h4, h5⟩ := F
  obtain ⟨cv, cT, g1, g2, g3⟩ := I
  cases h5.symm.trans g2
  simp only [Bool.and_eq_true, Bool.not_eq_true'] at g3
  have hv : ∃ kv, Z.vm.classes[cv.cls]? = some kv := by
    cases q : Z.vm.classes[cv.cls]? with
    | some kv => exact ⟨kv, rfl⟩
    | none =>
      by_cases e : cv.cls = comp
      · rw [e, h4] at q; cases q
      · have := g3.2
        simp [Vm.assignable, Vm.assignableAux, e, q] at this
  obtain ⟨kv, hkv⟩ := hv
  exact Or.inr ⟨cell, cv, k, kv, kc, comp, t, y, h1, h2, h3, h4, rfl, g1, g3.1, hkv, g3.2⟩
theorem Tak.of {cA : ClassId} {n : Int32} (A : Arr Z h a (newA cA ty n) ty) (O : Ovr Z cA C) : Tak Z h a C := by
  obtain ⟨k, comp, o1, o2, o3⟩ := O
  obtain ⟨kc, q, -⟩ := Vm.findClass_spec o3
  exact ⟨_, k, kc, comp, _, A.1, o1, o2, q, o3⟩
theorem Tak.ofA {cA : ClassId} {n : Int32} {ty' : FieldType} (A : Arr Z h a (newA cA ty n) ty) (O : OvrA Z cA ty' C) : Tak Z h a C := by
  obtain ⟨k, comp, o1, o2, o3⟩ := O
  obtain ⟨kc, q, -⟩ := Vm.findClass_spec o3
  exact ⟨_, k, kc, comp, _, A.1, o1, o2, q, o3⟩
theorem own_eqI {t : Term} {k : Int32} {args : Array Value} {first s : State} {o : Option Outcome} {idx : List Nat} (h : (Cond.eq t (.int k)).value args first o s idx = some true) : t.eval args first o idx s = some (.int k) := by
  simp only [Cond.value, Term.eval] at h
  cases ht : t.eval args first o idx s with
  | none => simp [ht] at h
  | some x => cases x <;> simp [ht] at h ⊢ <;> exact h
end Own
end Jvm.RoadKit
namespace Jvm.Pilot.@@N@@
open Jvm Jvm.ClassFile Sem Op Lib Jvm.Free Jvm.Stand Jvm.LawKit Jvm.RoadKit Bundle Jvm.Pilot.@@N@@.Jvm.D
theorem pd_0 : parseMethodDescriptor "(Ljava/lang/Enum;)I" = some ⟨[(.object "java/lang/Enum")], some .int⟩ := by decide +kernel
theorem pd_1 : parseMethodDescriptor "(I)Lcom/example/shrike/shrike/job/WorkerDirective;" = some ⟨[.int], some (.object "com/example/shrike/shrike/job/WorkerDirective")⟩ := by decide +kernel
theorem pd_2 : parseMethodDescriptor "(II)I" = some ⟨[.int, .int], some .int⟩ := by decide +kernel
theorem pd_3 : parseMethodDescriptor "(Lcom/example/shrike/shrike/job/WorkerDirective;)Lcom/example/shrike/shrike/job/WorkerDirective;" = some ⟨[(.object "com/example/shrike/shrike/job/WorkerDirective")], some (.object "com/example/shrike/shrike/job/WorkerDirective")⟩ := by decide +kernel
def own_pick (i : Int32) (a b c : Addr) : Addr := if i = 0 then a else if i = 1 then b else c
/-- the class's record has its Class object -/
def own_mir (Z : State) (C : String) (mr : Addr) : Prop := ∃ (c : ClassId) (k : Class), Z.vm.findClass C = some c ∧ Z.vm.classes[c]? = some k ∧ k.mirror = some mr
theorem own_gcls {p : Program} {l : Launch} {e : Env} {R : Room} {s : State} {m : MethodId} {args : Array Value} {below : List Frame} {meth : Method} {c : Code} {T : State} {locs : List Loc} {cells slots : Nat} {Z : State} {h : Heap} {a : Addr} {C : String}
    (X : Stand p l e R s m args below meth c T locs cells slots) (hx : p.tables.exec = Jvm.exec) (hZ : Z.Warmed39 s.vm) {a0 : Array Value} {own : String} {index : Nat} (hown : s.vm.findClass own = some m.cls)
    (w1 : (Jvm.Cond.methodLink own index ⟨"java/lang/Object", "getClass", "()Ljava/lang/Class;"⟩).before a0 Z = true) (w2 : (Jvm.Cond.declares ⟨"java/lang/Object", "getClass", "()Ljava/lang/Class;"⟩).before a0 Z = true) (w4 : (Jvm.Cond.selects C ⟨"java/lang/Object", "getClass", "()Ljava/lang/Class;"⟩ ⟨"java/lang/Object", "getClass", "()Ljava/lang/Class;"⟩).before a0 Z = true)
    (w5 : (Jvm.Cond.instanceMethod ⟨"java/lang/Object", "getClass", "()Ljava/lang/Class;"⟩).before a0 Z = true) (w6 : (Jvm.Cond.native ⟨"java/lang/Object", "getClass", "()Ljava/lang/Class;"⟩).before a0 Z = true) (eT : T.heap = h) (E : Exa Z h a C) {mr : Addr} (M : own_mir Z C mr)
    {g : JFrame} (hg : g.method = m) (hsize : g.locals.size = c.maxLocals) {rest : List Value} (hs : g.stack = .ref a :: rest) (hd : decode c.code g.pc = .ok (.invokevirtual index, 3)) (hf : 1 ≤ R.frames) {W : Nat} (hW : 2 * g.monitorRoom + (rest.map fun v => v.category).sum ≤ W) (hl : W + (nativeFrameWords "java/lang/Object" "getClass" 1 + 11) ≤ R.locals) :
    ∃ T', Stand p l e R s m args below meth c T' locs cells slots ∧ T'.heap = h ∧ ∀ target, Steps p.tables e below (T'.setTop { g with pc := g.pc + 3, stack := .ref mr :: rest }) target → Steps p.tables e below (T.setTop g) target := by
  obtain ⟨cB, kB, i1, i2, i3⟩ := isOf hZ eT E
  obtain ⟨cc, kc, m1, m2, m3⟩ := M
  rw [hZ.alike.findClass] at i1
  cases i1.symm.trans m1
  obtain ⟨k', q, ek⟩ := hZ.alike.2.2 _ _ m2
  obtain ⟨vm', X', st⟩ := X.getClassOf hx hown (mvT hZ w1) (mvT hZ w2) (notFace_of_selects (args := #[]) (mvT hZ w4)) (mvT hZ w4) (mvT hZ w5) (mvT hZ w6) (by rw [hZ.alike.findClass]; exact m1) i3 q (by rw [ek]; exact m3) hg hsize hs hd hf (by omega)
  exact ⟨_, X', eT, st⟩
theorem own_i (x : Int32) {i : Int32} (h : (x &&& (2147483647 : Int32)) % (3 : Int32) = i) : i = 0 ∨ i = 1 ∨ i = 2 := by
  have e1 := c_mask x 2147483647 31 (by decide) (by decide)
  have e2 := c_irem (x &&& 2147483647) 3 3 rfl
  rw [h] at e2
  have k0 : (0 : Int32).toInt = 0 := rfl
  have k1 : (1 : Int32).toInt = 1 := rfl
  have k2 : (2 : Int32).toInt = 2 := rfl
  rw [← Int32.toInt_inj, ← Int32.toInt_inj, ← Int32.toInt_inj, k0, k1, k2]
  omega
theorem d1_0 : decode method_2_code 0 = .ok (.iload_n 0, 1) := by decide +kernel
theorem d1_1 : decode method_2_code 1 = .ok (.ifCond .ne 7, 3) := by decide +kernel
theorem d1_4 : decode method_2_code 4 = .ok (.getstatic 7, 3) := by decide +kernel
theorem d1_7 : decode method_2_code 7 = .ok (.areturn, 1) := by decide +kernel
theorem d1_8 : decode method_2_code 8 = .ok (.iload_n 0, 1) := by decide +kernel
theorem d1_9 : decode method_2_code 9 = .ok (.iconst 1, 1) := by decide +kernel
theorem d1_10 : decode method_2_code 10 = .ok (.if_icmp .ne 7, 3) := by decide +kernel
theorem d1_13 : decode method_2_code 13 = .ok (.getstatic 13, 3) := by decide +kernel
theorem d1_16 : decode method_2_code 16 = .ok (.areturn, 1) := by decide +kernel
theorem d1_17 : decode method_2_code 17 = .ok (.getstatic 16, 3) := by decide +kernel
theorem d1_20 : decode method_2_code 20 = .ok (.areturn, 1) := by decide +kernel
theorem pn_1 : plainName "com/example/shrike/shrike/job/WorkerDirectiveOrStrongerPinLaw" = true := by first | (simp [plainName, overriddenIn]; done) | decide +kernel
def Qrm1 (Z : State) (p0 : Int32) (x_RUNNING : Addr) (x_QUIET : Addr) (x_TERMINATE : Addr) (h0 : Heap) (n0 : Nat) (v : Option Value) (h : Heap) (L : List Loc) : Prop := v = some (.ref (own_pick p0 x_RUNNING x_QUIET x_TERMINATE)) ∧ Fr n0 L ∧ h = h0
set_option maxRecDepth 65536 in
set_option maxHeartbeats 40000000 in
theorem rm1 (l : Launch) (Z : State) (a0 : Array Value) (hw : ∀ d ∈ tables_1, d.before a0 Z = true) (ws : List Jvm.Cond) (p0 : Int32) (x_RUNNING : Addr) (x_QUIET : Addr) (x_TERMINATE : Addr) (h0 : Heap) (n0 : Nat) (Z0 : n0 ≤ h0.size) (OLD : Old Z n0 h0) (S_x_RUNNING : Sta Z Z.heap "com/example/shrike/shrike/job/WorkerDirective" "RUNNING" "Lcom/example/shrike/shrike/job/WorkerDirective;" (.ref x_RUNNING)) (S_x_QUIET : Sta Z Z.heap "com/example/shrike/shrike/job/WorkerDirective" "QUIET" "Lcom/example/shrike/shrike/job/WorkerDirective;" (.ref x_QUIET)) (S_x_TERMINATE : Sta Z Z.heap "com/example/shrike/shrike/job/WorkerDirective" "TERMINATE" "Lcom/example/shrike/shrike/job/WorkerDirective;" (.ref x_TERMINATE)) :
    MetFree l (⟨"com/example/shrike/shrike/job/WorkerDirectiveOrStrongerPinLaw", "pick", "(I)Lcom/example/shrike/shrike/job/WorkerDirective;"⟩ : MethodName) (head1 (Jvm.Cond.code (⟨"com/example/shrike/shrike/job/WorkerDirectiveOrStrongerPinLaw", "pick", "(I)Lcom/example/shrike/shrike/job/WorkerDirective;"⟩ : MethodName) method_2_code 1 (some (.object "com/example/shrike/shrike/job/WorkerDirective")) :: ws) ({ frames := 0, cells := 0, slots := 0, locals := 0 } : Room)) (fun a U => a = #[(.int p0)] ∧ Z.Warmed39 U.vm ∧ U.heap = h0) (fun _ _ _ _ _ => True) (fun _ U o U' => ∃ v L, o = .returned v ∧ Qrm1 Z p0 x_RUNNING x_QUIET x_TERMINATE h0 n0 v U'.heap L ∧ FrameEnd U o U' L ({ frames := 0, cells := 0, slots := 0, locals := 0 } : Room).cells ({ frames := 0, cells := 0, slots := 0, locals := 0 } : Room).slots) := by
  refine MetFree.of_bodySF (plainFor_of_name pn_1) hisR ?_
  intro p e s m args below meth c s₁ Bd hml0 hP hK
  obtain ⟨rfl, hZ, hh⟩ := hP
  have hx := Bd.exec
  have hby := Bd.bytes
  have hml : c.maxLocals = 1 := hml0
  have hown : s.vm.findClass "com/example/shrike/shrike/job/WorkerDirectiveOrStrongerPinLaw" = some m.cls := findClass_of_methodNamed Bd.named
  have hnm := (name_of_methodNamed Bd.named Bd.method).1
  have X0 : Stand p l e ({ frames := 0, cells := 0, slots := 0, locals := 0 } : Room) s m #[(.int p0)] below meth c s₁ [] 0 0 := Stand.of_body Bd
  have e0 : s₁.heap = h0 := by rw [← hh, Bd.state]; rfl
  have N0 := Fr.nil n0
  have ZZ := Z0
  show Go p e below s (Qrm1 Z p0 x_RUNNING x_QUIET x_TERMINATE h0 n0) 0 0 (s₁.setTop (entryFrame m #[(.int p0)] 1))
  generalize hQQ : (Qrm1 Z p0 x_RUNNING x_QUIET x_TERMINATE h0 n0) = QQ
  refine gs (fun t k => castTop (g' := (mkF m 0 #[.val (.int p0)] [])) (by first | (simp [entryFrame, mkF, argsToLocals, Value.category, maxLocals]; done) | rfl) k) ?_
  show Go p e below s QQ 0 0 (s₁.setTop (mkF m 0 #[.val (.int p0)] []))
  refine gs (fun t => XS.iloadN X0.here hx rfl (hb hby d1_0) rfl) ?_
  show Go p e below s QQ 0 0 (s₁.setTop (mkF m 1 #[.val (.int p0)] [(.int p0)]))
  by_cases hc : p0 = (0 : Int32)
  · skip
    refine gs (fun t => XS.ifNo X0.here hx rfl (hb hby d1_1) rfl ((if0 _ _).trans (teq hc).2)) ?_
    show Go p e below s QQ 0 0 (s₁.setTop (mkF m 4 #[.val (.int p0)] []))
    obtain ⟨T1, X1, e1, st1⟩ := getS2 X0 hx hZ hown (host := "") (Or.inl (hw _ (List.mem_of_getElem? (i := 5) rfl))) Via.refl e0 (S_x_RUNNING.ext OLD.2) (g := (mkF m 4 #[.val (.int p0)] [])) rfl (hb hby d1_4)
    refine gs st1 ?_
    show Go p e below s QQ 0 0 (T1.setTop (mkF m 7 #[.val (.int p0)] [(.ref x_RUNNING)]))
    exact goR X1 hx Bd.notSynchronized Bd.returns rfl rfl (hb hby d1_7) (by rw [← hQQ, e1]; exact ⟨by simp [own_pick, hc], N0, rfl⟩) (by decide) (by decide)
  · skip
    refine gs (fun t => XS.ifYes X0.here hx rfl (pc0 := 1) (pc' := 8) rfl (hb hby d1_1) rfl ((if0 _ _).trans (feq hc).2) (by decide) (by decide)) ?_
    show Go p e below s QQ 0 0 (s₁.setTop (mkF m 8 #[.val (.int p0)] []))
    refine gs (fun t => XS.iloadN X0.here hx rfl (hb hby d1_8) rfl) ?_
    show Go p e below s QQ 0 0 (s₁.setTop (mkF m 9 #[.val (.int p0)] [(.int p0)]))
    refine gs (fun t => XS.iconst X0.here hx rfl (hb hby d1_9)) ?_
    show Go p e below s QQ 0 0 (s₁.setTop (mkF m 10 #[.val (.int p0)] [(.int (1 : Int32)), (.int p0)]))
    by_cases hd : p0 = (1 : Int32)
    · skip
      refine gs (fun t => XS.icmpNo X0.here hx rfl (hb hby d1_10) rfl (teq hd).2) ?_
      show Go p e below s QQ 0 0 (s₁.setTop (mkF m 13 #[.val (.int p0)] []))
      obtain ⟨T2, X2, e2, st2⟩ := getS2 X0 hx hZ hown (host := "") (Or.inl (hw _ (List.mem_of_getElem? (i := 34) rfl))) Via.refl e0 (S_x_QUIET.ext OLD.2) (g := (mkF m 13 #[.val (.int p0)] [])) rfl (hb hby d1_13)
      refine gs st2 ?_
      show Go p e below s QQ 0 0 (T2.setTop (mkF m 16 #[.val (.int p0)] [(.ref x_QUIET)]))
      exact goR X2 hx Bd.notSynchronized Bd.returns rfl rfl (hb hby d1_16) (by rw [← hQQ, e2]; exact ⟨by simp [own_pick, hc, hd], N0, rfl⟩) (by decide) (by decide)
    · skip
      refine gs (fun t => XS.icmpYes X0.here hx rfl (pc0 := 10) (pc' := 17) rfl (hb hby d1_10) rfl (feq hd).2 (by decide) (by decide)) ?_
      show Go p e below s QQ 0 0 (s₁.setTop (mkF m 17 #[.val (.int p0)] []))
      obtain ⟨T3, X3, e3, st3⟩ := getS2 X0 hx hZ hown (host := "") (Or.inl (hw _ (List.mem_of_getElem? (i := 32) rfl))) Via.refl e0 (S_x_TERMINATE.ext OLD.2) (g := (mkF m 17 #[.val (.int p0)] [])) rfl (hb hby d1_17)
      refine gs st3 ?_
      show Go p e below s QQ 0 0 (T3.setTop (mkF m 20 #[.val (.int p0)] [(.ref x_TERMINATE)]))
      exact goR X3 hx Bd.notSynchronized Bd.returns rfl rfl (hb hby d1_20) (by rw [← hQQ, e3]; exact ⟨by simp [own_pick, hc, hd], N0, rfl⟩) (by decide) (by decide)
theorem d2_0 : decode jdk_29_method_65_code 0 = .ok (.iload_n 0, 1) := by decide +kernel
theorem d2_1 : decode jdk_29_method_65_code 1 = .ok (.iload_n 1, 1) := by decide +kernel
theorem d2_2 : decode jdk_29_method_65_code 2 = .ok (.if_icmp .lt 7, 3) := by decide +kernel
theorem d2_5 : decode jdk_29_method_65_code 5 = .ok (.iload_n 0, 1) := by decide +kernel
theorem d2_6 : decode jdk_29_method_65_code 6 = .ok (.goto 4, 3) := by decide +kernel
theorem d2_9 : decode jdk_29_method_65_code 9 = .ok (.iload_n 1, 1) := by decide +kernel
theorem d2_10 : decode jdk_29_method_65_code 10 = .ok (.ireturn, 1) := by decide +kernel
def Qrm2 (Z : State) (p0 : Int32) (p1 : Int32) (h0 : Heap) (n0 : Nat) (v : Option Value) (h : Heap) (L : List Loc) : Prop := v = some (.int (if p0 < p1 then p1 else p0)) ∧ Fr n0 L ∧ h = h0
set_option maxRecDepth 65536 in
set_option maxHeartbeats 40000000 in
theorem rm2 (l : Launch) (Z : State) (a0 : Array Value) (hw : ∀ d ∈ tables_1, d.before a0 Z = true) (ws : List Jvm.Cond) (p0 : Int32) (p1 : Int32) (h0 : Heap) (n0 : Nat) (Z0 : n0 ≤ h0.size) :
    MetFree l (⟨"java/lang/Math", "max", "(II)I"⟩ : MethodName) (head1 (Jvm.Cond.code (⟨"java/lang/Math", "max", "(II)I"⟩ : MethodName) jdk_29_method_65_code 2 (some .int) :: ws) ({ frames := 0, cells := 0, slots := 0, locals := 0 } : Room)) (fun a U => a = #[(.int p0), (.int p1)] ∧ Z.Warmed39 U.vm ∧ U.heap = h0) (fun _ _ _ _ _ => True) (fun _ U o U' => ∃ v L, o = .returned v ∧ Qrm2 Z p0 p1 h0 n0 v U'.heap L ∧ FrameEnd U o U' L ({ frames := 0, cells := 0, slots := 0, locals := 0 } : Room).cells ({ frames := 0, cells := 0, slots := 0, locals := 0 } : Room).slots) := by
  refine MetFree.of_bodySF (Jvm.Free.JP.mathPlain rfl (by decide +kernel)) hisR ?_
  intro p e s m args below meth c s₁ Bd hml0 hP hK
  obtain ⟨rfl, hZ, hh⟩ := hP
  have hx := Bd.exec
  have hby := Bd.bytes
  have hml : c.maxLocals = 2 := hml0
  have hown : s.vm.findClass "java/lang/Math" = some m.cls := findClass_of_methodNamed Bd.named
  have hnm := (name_of_methodNamed Bd.named Bd.method).1
  have X0 : Stand p l e ({ frames := 0, cells := 0, slots := 0, locals := 0 } : Room) s m #[(.int p0), (.int p1)] below meth c s₁ [] 0 0 := Stand.of_body Bd
  have e0 : s₁.heap = h0 := by rw [← hh, Bd.state]; rfl
  have N0 := Fr.nil n0
  have ZZ := Z0
  show Go p e below s (Qrm2 Z p0 p1 h0 n0) 0 0 (s₁.setTop (entryFrame m #[(.int p0), (.int p1)] 2))
  generalize hQQ : (Qrm2 Z p0 p1 h0 n0) = QQ
  refine gs (fun t k => castTop (g' := (mkF m 0 #[.val (.int p0), .val (.int p1)] [])) (by first | (simp [entryFrame, mkF, argsToLocals, Value.category, maxLocals]; done) | rfl) k) ?_
  show Go p e below s QQ 0 0 (s₁.setTop (mkF m 0 #[.val (.int p0), .val (.int p1)] []))
  refine gs (fun t => XS.iloadN X0.here hx rfl (hb hby d2_0) rfl) ?_
  show Go p e below s QQ 0 0 (s₁.setTop (mkF m 1 #[.val (.int p0), .val (.int p1)] [(.int p0)]))
  refine gs (fun t => XS.iloadN X0.here hx rfl (hb hby d2_1) rfl) ?_
  show Go p e below s QQ 0 0 (s₁.setTop (mkF m 2 #[.val (.int p0), .val (.int p1)] [(.int p1), (.int p0)]))
  by_cases hc : p0 < p1
  · skip
    refine gs (fun t => XS.icmpYes X0.here hx rfl (pc0 := 2) (pc' := 9) rfl (hb hby d2_2) rfl (tlt hc).1 (by decide) (by decide)) ?_
    show Go p e below s QQ 0 0 (s₁.setTop (mkF m 9 #[.val (.int p0), .val (.int p1)] []))
    refine gs (fun t => XS.iloadN X0.here hx rfl (hb hby d2_9) rfl) ?_
    show Go p e below s QQ 0 0 (s₁.setTop (mkF m 10 #[.val (.int p0), .val (.int p1)] [(.int p1)]))
    exact goI X0 hx Bd.notSynchronized Bd.returns (hb hby d2_10) (by rw [← hQQ, e0]; exact ⟨by simp [hc], N0, rfl⟩) (by decide) (by decide)
  · skip
    refine gs (fun t => XS.icmpNo X0.here hx rfl (hb hby d2_2) rfl (flt hc).1) ?_
    show Go p e below s QQ 0 0 (s₁.setTop (mkF m 5 #[.val (.int p0), .val (.int p1)] []))
    refine gs (fun t => XS.iloadN X0.here hx rfl (hb hby d2_5) rfl) ?_
    show Go p e below s QQ 0 0 (s₁.setTop (mkF m 6 #[.val (.int p0), .val (.int p1)] [(.int p0)]))
    refine gs (fun t => XS.goto X0.here hx rfl (pc0 := 6) (pc' := 10) rfl (hb hby d2_6) (by decide) (by decide)) ?_
    show Go p e below s QQ 0 0 (s₁.setTop (mkF m 10 #[.val (.int p0), .val (.int p1)] [(.int p0)]))
    exact goI X0 hx Bd.notSynchronized Bd.returns (hb hby d2_10) (by rw [← hQQ, e0]; exact ⟨by simp [hc], N0, rfl⟩) (by decide) (by decide)
theorem d4_0 : decode jdk_37_method_8_code 0 = .ok (.aload_n 1, 1) := by decide +kernel
theorem d4_1 : decode jdk_37_method_8_code 1 = .ok (.astore_n 2, 1) := by decide +kernel
theorem d4_2 : decode jdk_37_method_8_code 2 = .ok (.aload_n 0, 1) := by decide +kernel
theorem d4_3 : decode jdk_37_method_8_code 3 = .ok (.astore_n 3, 1) := by decide +kernel
theorem d4_4 : decode jdk_37_method_8_code 4 = .ok (.aload_n 3, 1) := by decide +kernel
theorem d4_5 : decode jdk_37_method_8_code 5 = .ok (.invokevirtual 29, 3) := by decide +kernel
theorem d4_8 : decode jdk_37_method_8_code 8 = .ok (.aload_n 2, 1) := by decide +kernel
theorem d4_9 : decode jdk_37_method_8_code 9 = .ok (.invokevirtual 29, 3) := by decide +kernel
theorem d4_12 : decode jdk_37_method_8_code 12 = .ok (.if_acmp .eq 22, 3) := by decide +kernel
theorem d4_15 : decode jdk_37_method_8_code 15 = .ok (.aload_n 3, 1) := by decide +kernel
theorem d4_16 : decode jdk_37_method_8_code 16 = .ok (.invokevirtual 33, 3) := by decide +kernel
theorem d4_19 : decode jdk_37_method_8_code 19 = .ok (.aload_n 2, 1) := by decide +kernel
theorem d4_20 : decode jdk_37_method_8_code 20 = .ok (.invokevirtual 33, 3) := by decide +kernel
theorem d4_23 : decode jdk_37_method_8_code 23 = .ok (.if_acmp .eq 11, 3) := by decide +kernel
theorem d4_26 : decode jdk_37_method_8_code 26 = .ok (.new 36, 3) := by decide +kernel
theorem d4_29 : decode jdk_37_method_8_code 29 = .ok (.dup, 1) := by decide +kernel
theorem d4_30 : decode jdk_37_method_8_code 30 = .ok (.invokespecial 38, 3) := by decide +kernel
theorem d4_33 : decode jdk_37_method_8_code 33 = .ok (.athrow, 1) := by decide +kernel
theorem d4_34 : decode jdk_37_method_8_code 34 = .ok (.aload_n 3, 1) := by decide +kernel
theorem d4_35 : decode jdk_37_method_8_code 35 = .ok (.getfield 7, 3) := by decide +kernel
theorem d4_38 : decode jdk_37_method_8_code 38 = .ok (.aload_n 2, 1) := by decide +kernel
theorem d4_39 : decode jdk_37_method_8_code 39 = .ok (.getfield 7, 3) := by decide +kernel
theorem d4_42 : decode jdk_37_method_8_code 42 = .ok (.isub, 1) := by decide +kernel
theorem d4_43 : decode jdk_37_method_8_code 43 = .ok (.ireturn, 1) := by decide +kernel
theorem pn_4 : plainName "java/lang/Enum" = true := by first | (simp [plainName, overriddenIn]; done) | decide +kernel
def Qrm4 (Z : State) (r0 : Addr) (r1 : Addr) (o0 : Int32) (o1 : Int32) (mr : Addr) (h0 : Heap) (n0 : Nat) (v : Option Value) (h : Heap) (L : List Loc) : Prop := v = some (.int (o0 - o1)) ∧ Fr n0 L ∧ h = h0
set_option maxRecDepth 65536 in
set_option maxHeartbeats 40000000 in
theorem rm4 (l : Launch) (Z : State) (a0 : Array Value) (hw : ∀ d ∈ tables_1, d.before a0 Z = true) (ws : List Jvm.Cond) (r0 : Addr) (r1 : Addr) (o0 : Int32) (o1 : Int32) (mr : Addr) (h0 : Heap) (n0 : Nat) (Z0 : n0 ≤ h0.size) (F_ordinal_r0 : Fld Z h0 r0 "java/lang/Enum" "ordinal" "I" (.int o0)) (F_ordinal_r1 : Fld Z h0 r1 "java/lang/Enum" "ordinal" "I" (.int o1)) (E_r0 : Exa Z h0 r0 "com/example/shrike/shrike/job/WorkerDirective") (E_r1 : Exa Z h0 r1 "com/example/shrike/shrike/job/WorkerDirective") (MIR : own_mir Z "com/example/shrike/shrike/job/WorkerDirective" mr) :
    MetFree l (⟨"java/lang/Enum", "compareTo", "(Ljava/lang/Enum;)I"⟩ : MethodName) (head1 (Jvm.Cond.code (⟨"java/lang/Enum", "compareTo", "(Ljava/lang/Enum;)I"⟩ : MethodName) jdk_37_method_8_code 4 (some .int) :: ws) ({ frames := 1, cells := 0, slots := 0, locals := 15 } : Room)) (fun a U => a = #[(.ref r0), (.ref r1)] ∧ Z.Warmed39 U.vm ∧ U.heap = h0) (fun _ _ _ _ _ => True) (fun _ U o U' => ∃ v L, o = .returned v ∧ Qrm4 Z r0 r1 o0 o1 mr h0 n0 v U'.heap L ∧ FrameEnd U o U' L ({ frames := 1, cells := 0, slots := 0, locals := 15 } : Room).cells ({ frames := 1, cells := 0, slots := 0, locals := 15 } : Room).slots) := by
  refine MetFree.of_bodySF (plainFor_of_name pn_4) hisR ?_
  intro p e s m args below meth c s₁ Bd hml0 hP hK
  obtain ⟨rfl, hZ, hh⟩ := hP
  have hx := Bd.exec
  have hby := Bd.bytes
  have hml : c.maxLocals = 4 := hml0
  have hown : s.vm.findClass "java/lang/Enum" = some m.cls := findClass_of_methodNamed Bd.named
  have hnm := (name_of_methodNamed Bd.named Bd.method).1
  have X0 : Stand p l e ({ frames := 1, cells := 0, slots := 0, locals := 15 } : Room) s m #[(.ref r0), (.ref r1)] below meth c s₁ [] 0 0 := Stand.of_body Bd
  have e0 : s₁.heap = h0 := by rw [← hh, Bd.state]; rfl
  have N0 := Fr.nil n0
  have ZZ := Z0
  show Go p e below s (Qrm4 Z r0 r1 o0 o1 mr h0 n0) 0 0 (s₁.setTop (entryFrame m #[(.ref r0), (.ref r1)] 4))
  generalize hQQ : (Qrm4 Z r0 r1 o0 o1 mr h0 n0) = QQ
  refine gs (fun t k => castTop (g' := (mkF m 0 #[.val (.ref r0), .val (.ref r1), .unset, .unset] [])) (by first | (simp [entryFrame, mkF, argsToLocals, Value.category, maxLocals]; done) | rfl) k) ?_
  show Go p e below s QQ 0 0 (s₁.setTop (mkF m 0 #[.val (.ref r0), .val (.ref r1), .unset, .unset] []))
  refine gs (fun t => XS.aloadN X0.here hx rfl (hb hby d4_0) rfl rfl) ?_
  show Go p e below s QQ 0 0 (s₁.setTop (mkF m 1 #[.val (.ref r0), .val (.ref r1), .unset, .unset] [(.ref r1)]))
  refine gs (fun t => XS.astoreN X0.here hx rfl (hb hby d4_1) rfl rfl (l' := #[.val (.ref r0), .val (.ref r1), .val (.ref r1), .unset]) rfl) ?_
  show Go p e below s QQ 0 0 (s₁.setTop (mkF m 2 #[.val (.ref r0), .val (.ref r1), .val (.ref r1), .unset] []))
  refine gs (fun t => XS.aloadN X0.here hx rfl (hb hby d4_2) rfl rfl) ?_
  show Go p e below s QQ 0 0 (s₁.setTop (mkF m 3 #[.val (.ref r0), .val (.ref r1), .val (.ref r1), .unset] [(.ref r0)]))
  refine gs (fun t => XS.astoreN X0.here hx rfl (hb hby d4_3) rfl rfl (l' := #[.val (.ref r0), .val (.ref r1), .val (.ref r1), .val (.ref r0)]) rfl) ?_
  show Go p e below s QQ 0 0 (s₁.setTop (mkF m 4 #[.val (.ref r0), .val (.ref r1), .val (.ref r1), .val (.ref r0)] []))
  refine gs (fun t => XS.aloadN X0.here hx rfl (hb hby d4_4) rfl rfl) ?_
  show Go p e below s QQ 0 0 (s₁.setTop (mkF m 5 #[.val (.ref r0), .val (.ref r1), .val (.ref r1), .val (.ref r0)] [(.ref r0)]))
  obtain ⟨T4, X4, e4, st4⟩ := own_gcls X0 hx hZ hown (hw _ (List.mem_of_getElem? (i := 24) rfl)) (hw _ (List.mem_of_getElem? (i := 25) rfl)) (hw _ (List.mem_of_getElem? (i := 27) rfl)) (hw _ (List.mem_of_getElem? (i := 26) rfl)) (hw _ (List.mem_of_getElem? (i := 28) rfl)) e0 E_r0 MIR (g := (mkF m 5 #[.val (.ref r0), .val (.ref r1), .val (.ref r1), .val (.ref r0)] [(.ref r0)])) rfl (by rw [hml]; rfl) rfl (hb hby d4_5) (by decide) (W := 0) (by show 2 * 0 + _ ≤ _; exact Nat.le_of_eq rfl) (by decide)
  refine gs st4 ?_
  show Go p e below s QQ 0 0 (T4.setTop (mkF m 8 #[.val (.ref r0), .val (.ref r1), .val (.ref r1), .val (.ref r0)] [(.ref mr)]))
  refine gs (fun t => XS.aloadN X4.here hx rfl (hb hby d4_8) rfl rfl) ?_
  show Go p e below s QQ 0 0 (T4.setTop (mkF m 9 #[.val (.ref r0), .val (.ref r1), .val (.ref r1), .val (.ref r0)] [(.ref r1), (.ref mr)]))
  obtain ⟨T5, X5, e5, st5⟩ := own_gcls X4 hx hZ hown (hw _ (List.mem_of_getElem? (i := 24) rfl)) (hw _ (List.mem_of_getElem? (i := 25) rfl)) (hw _ (List.mem_of_getElem? (i := 27) rfl)) (hw _ (List.mem_of_getElem? (i := 26) rfl)) (hw _ (List.mem_of_getElem? (i := 28) rfl)) e4 E_r1 MIR (g := (mkF m 9 #[.val (.ref r0), .val (.ref r1), .val (.ref r1), .val (.ref r0)] [(.ref r1), (.ref mr)])) rfl (by rw [hml]; rfl) rfl (hb hby d4_9) (by decide) (W := 1) (by show 2 * 0 + _ ≤ _; exact Nat.le_of_eq rfl) (by decide)
  refine gs st5 ?_
  show Go p e below s QQ 0 0 (T5.setTop (mkF m 12 #[.val (.ref r0), .val (.ref r1), .val (.ref r1), .val (.ref r0)] [(.ref mr), (.ref mr)]))
  refine gs (fun t => Jvm.RoadKit.acmp (g := (mkF m 12 #[.val (.ref r0), .val (.ref r1), .val (.ref r1), .val (.ref r0)] [(.ref mr), (.ref mr)])) X5 hx rfl rfl rfl (pc0 := 12) (pc' := 34) (same := true) rfl (hb hby d4_12) rfl (decide_eq_true rfl) (by decide) (by decide)) ?_
  show Go p e below s QQ 0 0 (T5.setTop (mkF m 34 #[.val (.ref r0), .val (.ref r1), .val (.ref r1), .val (.ref r0)] []))
  refine gs (fun t => XS.aloadN X5.here hx rfl (hb hby d4_34) rfl rfl) ?_
  show Go p e below s QQ 0 0 (T5.setTop (mkF m 35 #[.val (.ref r0), .val (.ref r1), .val (.ref r1), .val (.ref r0)] [(.ref r0)]))
  obtain ⟨T6, X6, e6, st6⟩ := getF X5 hx hZ hown (host := "") (Or.inl (hw _ (List.mem_of_getElem? (i := 30) rfl))) Via.refl e5 F_ordinal_r0 (g := (mkF m 35 #[.val (.ref r0), .val (.ref r1), .val (.ref r1), .val (.ref r0)] [(.ref r0)])) rfl rfl (hb hby d4_35)
  refine gs st6 ?_
  show Go p e below s QQ 0 0 (T6.setTop (mkF m 38 #[.val (.ref r0), .val (.ref r1), .val (.ref r1), .val (.ref r0)] [(.int o0)]))
  refine gs (fun t => XS.aloadN X6.here hx rfl (hb hby d4_38) rfl rfl) ?_
  show Go p e below s QQ 0 0 (T6.setTop (mkF m 39 #[.val (.ref r0), .val (.ref r1), .val (.ref r1), .val (.ref r0)] [(.ref r1), (.int o0)]))
  obtain ⟨T7, X7, e7, st7⟩ := getF X6 hx hZ hown (host := "") (Or.inl (hw _ (List.mem_of_getElem? (i := 30) rfl))) Via.refl e6 F_ordinal_r1 (g := (mkF m 39 #[.val (.ref r0), .val (.ref r1), .val (.ref r1), .val (.ref r0)] [(.ref r1), (.int o0)])) rfl rfl (hb hby d4_39)
  refine gs st7 ?_
  show Go p e below s QQ 0 0 (T7.setTop (mkF m 42 #[.val (.ref r0), .val (.ref r1), .val (.ref r1), .val (.ref r0)] [(.int o1), (.int o0)]))
  refine gs (fun t => XS.isub X7.here hx rfl (hb hby d4_42) rfl) ?_
  show Go p e below s QQ 0 0 (T7.setTop (mkF m 43 #[.val (.ref r0), .val (.ref r1), .val (.ref r1), .val (.ref r0)] [(.int (o0 - o1))]))
  exact goI X7 hx Bd.notSynchronized Bd.returns (hb hby d4_43) (by rw [← hQQ, e7]; exact ⟨rfl, N0, rfl⟩) (by decide) (by decide)
theorem d3_0 : decode prog_10_method_7_code 0 = .ok (.aload_n 1, 1) := by decide +kernel
theorem d3_1 : decode prog_10_method_7_code 1 = .ok (.aload_n 0, 1) := by decide +kernel
theorem d3_2 : decode prog_10_method_7_code 2 = .ok (.invokevirtual 69, 3) := by decide +kernel
theorem d3_5 : decode prog_10_method_7_code 5 = .ok (.ifCond .le 7, 3) := by decide +kernel
theorem d3_8 : decode prog_10_method_7_code 8 = .ok (.aload_n 1, 1) := by decide +kernel
theorem d3_9 : decode prog_10_method_7_code 9 = .ok (.goto 4, 3) := by decide +kernel
theorem d3_12 : decode prog_10_method_7_code 12 = .ok (.aload_n 0, 1) := by decide +kernel
theorem d3_13 : decode prog_10_method_7_code 13 = .ok (.areturn, 1) := by decide +kernel
theorem pn_3 : plainName "com/example/shrike/shrike/job/WorkerDirective" = true := by first | (simp [plainName, overriddenIn]; done) | decide +kernel
def Qrm3 (Z : State) (r0 : Addr) (r1 : Addr) (o0 : Int32) (o1 : Int32) (mr : Addr) (h0 : Heap) (n0 : Nat) (v : Option Value) (h : Heap) (L : List Loc) : Prop := v = some (.ref (if 0 < o1 - o0 then r1 else r0)) ∧ Fr n0 L ∧ h = h0
set_option maxRecDepth 65536 in
set_option maxHeartbeats 40000000 in
theorem rm3 (l : Launch) (Z : State) (a0 : Array Value) (hw : ∀ d ∈ tables_1, d.before a0 Z = true) (ws : List Jvm.Cond) (r0 : Addr) (r1 : Addr) (o0 : Int32) (o1 : Int32) (mr : Addr) (h0 : Heap) (n0 : Nat) (Z0 : n0 ≤ h0.size) (F_ordinal_r0 : Fld Z h0 r0 "java/lang/Enum" "ordinal" "I" (.int o0)) (F_ordinal_r1 : Fld Z h0 r1 "java/lang/Enum" "ordinal" "I" (.int o1)) (E_r0 : Exa Z h0 r0 "com/example/shrike/shrike/job/WorkerDirective") (E_r1 : Exa Z h0 r1 "com/example/shrike/shrike/job/WorkerDirective") (MIR : own_mir Z "com/example/shrike/shrike/job/WorkerDirective" mr) :
    MetFree l (⟨"com/example/shrike/shrike/job/WorkerDirective", "orStronger", "(Lcom/example/shrike/shrike/job/WorkerDirective;)Lcom/example/shrike/shrike/job/WorkerDirective;"⟩ : MethodName) (head1 (Jvm.Cond.code (⟨"com/example/shrike/shrike/job/WorkerDirective", "orStronger", "(Lcom/example/shrike/shrike/job/WorkerDirective;)Lcom/example/shrike/shrike/job/WorkerDirective;"⟩ : MethodName) prog_10_method_7_code 2 (some (.object "com/example/shrike/shrike/job/WorkerDirective")) :: ws) ({ frames := 2, cells := 0, slots := 0, locals := 30 } : Room)) (fun a U => a = #[(.ref r0), (.ref r1)] ∧ Z.Warmed39 U.vm ∧ U.heap = h0) (fun _ _ _ _ _ => True) (fun _ U o U' => ∃ v L, o = .returned v ∧ Qrm3 Z r0 r1 o0 o1 mr h0 n0 v U'.heap L ∧ FrameEnd U o U' L ({ frames := 2, cells := 0, slots := 0, locals := 30 } : Room).cells ({ frames := 2, cells := 0, slots := 0, locals := 30 } : Room).slots) := by
  refine MetFree.of_bodySF (plainFor_of_name pn_3) hisR ?_
  intro p e s m args below meth c s₁ Bd hml0 hP hK
  obtain ⟨rfl, hZ, hh⟩ := hP
  have hx := Bd.exec
  have hby := Bd.bytes
  have hml : c.maxLocals = 2 := hml0
  have hown : s.vm.findClass "com/example/shrike/shrike/job/WorkerDirective" = some m.cls := findClass_of_methodNamed Bd.named
  have hnm := (name_of_methodNamed Bd.named Bd.method).1
  have X0 : Stand p l e ({ frames := 2, cells := 0, slots := 0, locals := 30 } : Room) s m #[(.ref r0), (.ref r1)] below meth c s₁ [] 0 0 := Stand.of_body Bd
  have e0 : s₁.heap = h0 := by rw [← hh, Bd.state]; rfl
  have N0 := Fr.nil n0
  have ZZ := Z0
  show Go p e below s (Qrm3 Z r0 r1 o0 o1 mr h0 n0) 0 0 (s₁.setTop (entryFrame m #[(.ref r0), (.ref r1)] 2))
  generalize hQQ : (Qrm3 Z r0 r1 o0 o1 mr h0 n0) = QQ
  refine gs (fun t k => castTop (g' := (mkF m 0 #[.val (.ref r0), .val (.ref r1)] [])) (by first | (simp [entryFrame, mkF, argsToLocals, Value.category, maxLocals]; done) | rfl) k) ?_
  show Go p e below s QQ 0 0 (s₁.setTop (mkF m 0 #[.val (.ref r0), .val (.ref r1)] []))
  refine gs (fun t => XS.aloadN X0.here hx rfl (hb hby d3_0) rfl rfl) ?_
  show Go p e below s QQ 0 0 (s₁.setTop (mkF m 1 #[.val (.ref r0), .val (.ref r1)] [(.ref r1)]))
  refine gs (fun t => XS.aloadN X0.here hx rfl (hb hby d3_1) rfl rfl) ?_
  show Go p e below s QQ 0 0 (s₁.setTop (mkF m 2 #[.val (.ref r0), .val (.ref r1)] [(.ref r0), (.ref r1)]))
  obtain ⟨cq8, kq8, q8a, q8b, q8c⟩ := isOf hZ e0 E_r1
  obtain ⟨_, _, ⟨T8, L8, k8, n8⟩, -, X8, ⟨Lc8, hQ8, l8, y8, z8⟩, st8⟩ := X0.virtualBackUp hx (owner := "java/lang/Enum") (x := (⟨"com/example/shrike/shrike/job/WorkerDirective", "compareTo", "(Ljava/lang/Enum;)I"⟩ : MethodName)) (y := (⟨"java/lang/Enum", "compareTo", "(Ljava/lang/Enum;)I"⟩ : MethodName)) hown (mvT hZ (hw _ (List.mem_of_getElem? (i := 17) rfl))) (mvT hZ (hw _ (List.mem_of_getElem? (i := 18) rfl))) (mvT hZ (hw _ (List.mem_of_getElem? (i := 19) rfl))) (by decide) (mvT hZ (hw _ (List.mem_of_getElem? (i := 21) rfl))) (mvT hZ (hw _ (List.mem_of_getElem? (i := 20) rfl))) (backOf (W := 0) (rm4 l Z a0 hw [] r1 r0 o1 o0 mr h0 n0 ZZ F_ordinal_r1 F_ordinal_r0 E_r1 E_r0 MIR) hZ (hw _ (List.mem_of_getElem? (i := 23) rfl)) (hw _ (List.mem_of_getElem? (i := 22) rfl)) (by decide) (by decide)) q8a q8c (g := (mkF m 2 #[.val (.ref r0), .val (.ref r1)] [(.ref r0), (.ref r1)])) rfl (by rw [hml]; rfl) (Steps.refl _) (argsL := [(.ref r0)]) (rest := []) (lenOf pd_0 rfl) rfl (by show 2 * 0 + _ ≤ _; exact Nat.le_of_eq rfl) (hb hby d3_2) (fun _ _ => ⟨rfl, e0, (by decide : 0 + 0 ≤ _), (by decide : 0 + 0 ≤ _)⟩)
  dsimp only [Pt.U, Pt.locs, Pt.cells, Pt.slots] at X8 l8 y8 z8 st8 hQ8
  subst l8 y8 z8
  obtain ⟨rfl, N8q, e8⟩ := hQ8
  replace N0 := Fr.app N0 N8q
  refine gt st8 ?_
  show Go p e below s QQ 0 0 (T8.setTop (mkF m 5 #[.val (.ref r0), .val (.ref r1)] [(.int (o1 - o0))]))
  by_cases hc : (0 : Int32) < (o1 - o0)
  · skip
    refine gs (fun t => XS.ifNo X8.here hx rfl (hb hby d3_5) rfl ((if0 _ _).trans (tlt hc).2.2.2)) ?_
    show Go p e below s QQ 0 0 (T8.setTop (mkF m 8 #[.val (.ref r0), .val (.ref r1)] []))
    refine gs (fun t => XS.aloadN X8.here hx rfl (hb hby d3_8) rfl rfl) ?_
    show Go p e below s QQ 0 0 (T8.setTop (mkF m 9 #[.val (.ref r0), .val (.ref r1)] [(.ref r1)]))
    refine gs (fun t => XS.goto X8.here hx rfl (pc0 := 9) (pc' := 13) rfl (hb hby d3_9) (by decide) (by decide)) ?_
    show Go p e below s QQ 0 0 (T8.setTop (mkF m 13 #[.val (.ref r0), .val (.ref r1)] [(.ref r1)]))
    exact goR X8 hx Bd.notSynchronized Bd.returns rfl rfl (hb hby d3_13) (by rw [← hQQ, e8]; exact ⟨by simp [hc], N0, rfl⟩) (by decide) (by decide)
  · skip
    refine gs (fun t => XS.ifYes X8.here hx rfl (pc0 := 5) (pc' := 12) rfl (hb hby d3_5) rfl ((if0 _ _).trans (flt hc).2.2.2) (by decide) (by decide)) ?_
    show Go p e below s QQ 0 0 (T8.setTop (mkF m 12 #[.val (.ref r0), .val (.ref r1)] []))
    refine gs (fun t => XS.aloadN X8.here hx rfl (hb hby d3_12) rfl rfl) ?_
    show Go p e below s QQ 0 0 (T8.setTop (mkF m 13 #[.val (.ref r0), .val (.ref r1)] [(.ref r0)]))
    exact goR X8 hx Bd.notSynchronized Bd.returns rfl rfl (hb hby d3_13) (by rw [← hQQ, e8]; exact ⟨by simp [hc], N0, rfl⟩) (by decide) (by decide)
theorem pn_0 : plainName "com/example/shrike/shrike/job/WorkerDirectiveOrStrongerPinLaw" = true := by first | (simp [plainName, overriddenIn]; done) | decide +kernel
def Qrm0 (Z : State) (p0 : Int32) (p1 : Int32) (x_RUNNING : Addr) (x_QUIET : Addr) (x_TERMINATE : Addr) (mr : Addr) (h0 : Heap) (n0 : Nat) (v : Option Value) (h : Heap) (L : List Loc) : Prop := v = some (.int 1) ∧ Fr n0 L
set_option maxRecDepth 65536 in
set_option maxHeartbeats 40000000 in
theorem rm0 (l : Launch) (Z : State) (a0 : Array Value) (hw : ∀ d ∈ tables_1, d.before a0 Z = true) (ws : List Jvm.Cond) (p0 : Int32) (p1 : Int32) (x_RUNNING : Addr) (x_QUIET : Addr) (x_TERMINATE : Addr) (mr : Addr) (h0 : Heap) (n0 : Nat) (Z0 : n0 ≤ h0.size) (OLD : Old Z n0 h0) (S_x_RUNNING : Sta Z Z.heap "com/example/shrike/shrike/job/WorkerDirective" "RUNNING" "Lcom/example/shrike/shrike/job/WorkerDirective;" (.ref x_RUNNING)) (E_x_RUNNING : Exa Z Z.heap x_RUNNING "com/example/shrike/shrike/job/WorkerDirective") (F_x_RUNNING_ordinal : Fld Z Z.heap x_RUNNING "java/lang/Enum" "ordinal" "I" (.int (0 : Int32))) (S_x_TERMINATE : Sta Z Z.heap "com/example/shrike/shrike/job/WorkerDirective" "TERMINATE" "Lcom/example/shrike/shrike/job/WorkerDirective;" (.ref x_TERMINATE)) (E_x_TERMINATE : Exa Z Z.heap x_TERMINATE "com/example/shrike/shrike/job/WorkerDirective") (S_x_QUIET : Sta Z Z.heap "com/example/shrike/shrike/job/WorkerDirective" "QUIET" "Lcom/example/shrike/shrike/job/WorkerDirective;" (.ref x_QUIET)) (E_x_QUIET : Exa Z Z.heap x_QUIET "com/example/shrike/shrike/job/WorkerDirective") (F_x_QUIET_ordinal : Fld Z Z.heap x_QUIET "java/lang/Enum" "ordinal" "I" (.int (1 : Int32))) (F_x_TERMINATE_ordinal : Fld Z Z.heap x_TERMINATE "java/lang/Enum" "ordinal" "I" (.int (2 : Int32))) (MIR : own_mir Z "com/example/shrike/shrike/job/WorkerDirective" mr) :
    MetFree l x (head1 (Jvm.Cond.code x code maxLocals ret :: ws) room_1) (fun a U => a = #[(.int p0), (.int p1)] ∧ Z.Warmed39 U.vm ∧ U.heap = h0) (fun _ _ _ _ _ => True) (fun _ U o U' => ∃ v L, o = .returned v ∧ Qrm0 Z p0 p1 x_RUNNING x_QUIET x_TERMINATE mr h0 n0 v U'.heap L ∧ FrameEnd U o U' L room_1.cells room_1.slots) := by
  refine MetFree.of_bodySF (plainFor_of_name pn_0) hisR ?_
  intro p e s m args below meth c s₁ Bd hml0 hP hK
  obtain ⟨rfl, hZ, hh⟩ := hP
  have hx := Bd.exec
  have hby := Bd.bytes
  have hml : c.maxLocals = 8 := hml0
  have hown : s.vm.findClass "com/example/shrike/shrike/job/WorkerDirectiveOrStrongerPinLaw" = some m.cls := findClass_of_methodNamed Bd.named
  have hnm := (name_of_methodNamed Bd.named Bd.method).1
  have X0 : Stand p l e room_1 s m #[(.int p0), (.int p1)] below meth c s₁ [] 0 0 := Stand.of_body Bd
  have e0 : s₁.heap = h0 := by rw [← hh, Bd.state]; rfl
  have N0 := Fr.nil n0
  have ZZ := Z0
  show Go p e below s (Qrm0 Z p0 p1 x_RUNNING x_QUIET x_TERMINATE mr h0 n0) room_1.cells room_1.slots (s₁.setTop (entryFrame m #[(.int p0), (.int p1)] maxLocals))
  generalize hQQ : (Qrm0 Z p0 p1 x_RUNNING x_QUIET x_TERMINATE mr h0 n0) = QQ
  refine gs (fun t k => castTop (g' := (mkF m 0 #[.val (.int p0), .val (.int p1), .unset, .unset, .unset, .unset, .unset, .unset] [])) (by first | (simp [entryFrame, mkF, argsToLocals, Value.category, maxLocals]; done) | rfl) k) ?_
  show Go p e below s QQ room_1.cells room_1.slots (s₁.setTop (mkF m 0 #[.val (.int p0), .val (.int p1), .unset, .unset, .unset, .unset, .unset, .unset] []))
  refine gs (fun t => XS.iloadN X0.here hx rfl (hb hby at_0) rfl) ?_
  show Go p e below s QQ room_1.cells room_1.slots (s₁.setTop (mkF m 1 #[.val (.int p0), .val (.int p1), .unset, .unset, .unset, .unset, .unset, .unset] [(.int p0)]))
  refine gs (fun t => X0.ldcInt hx hown (mvT hZ (hw _ (List.mem_of_getElem? (i := 0) rfl))) (g := (mkF m 1 #[.val (.int p0), .val (.int p1), .unset, .unset, .unset, .unset, .unset, .unset] [(.int p0)])) rfl (hb hby at_1) t) ?_
  show Go p e below s QQ room_1.cells room_1.slots (s₁.setTop (mkF m 3 #[.val (.int p0), .val (.int p1), .unset, .unset, .unset, .unset, .unset, .unset] [(.int (2147483647 : Int32)), (.int p0)]))
  refine gs (fun t => XS.iand X0.here hx rfl (hb hby at_3) rfl) ?_
  show Go p e below s QQ room_1.cells room_1.slots (s₁.setTop (mkF m 4 #[.val (.int p0), .val (.int p1), .unset, .unset, .unset, .unset, .unset, .unset] [(.int (p0 &&& (2147483647 : Int32)))]))
  refine gs (fun t => XS.iconst X0.here hx rfl (hb hby at_4)) ?_
  show Go p e below s QQ room_1.cells room_1.slots (s₁.setTop (mkF m 5 #[.val (.int p0), .val (.int p1), .unset, .unset, .unset, .unset, .unset, .unset] [(.int (3 : Int32)), (.int (p0 &&& (2147483647 : Int32)))]))
  refine gs (fun t => iremM X0 hx (g := (mkF m 5 #[.val (.int p0), .val (.int p1), .unset, .unset, .unset, .unset, .unset, .unset] [(.int (3 : Int32)), (.int (p0 &&& (2147483647 : Int32)))])) rfl (hb hby at_5) rfl (by decide)) ?_
  show Go p e below s QQ room_1.cells room_1.slots (s₁.setTop (mkF m 6 #[.val (.int p0), .val (.int p1), .unset, .unset, .unset, .unset, .unset, .unset] [(.int ((p0 &&& (2147483647 : Int32)) % (3 : Int32)))]))
  generalize hi : ((p0 &&& (2147483647 : Int32)) % (3 : Int32)) = i
  show Go p e below s QQ room_1.cells room_1.slots (s₁.setTop (mkF m 6 #[.val (.int p0), .val (.int p1), .unset, .unset, .unset, .unset, .unset, .unset] [(.int i)]))
  refine gs (fun t => XS.istoreN X0.here hx rfl (hb hby at_6) rfl (l' := #[.val (.int p0), .val (.int p1), .val (.int i), .unset, .unset, .unset, .unset, .unset]) rfl) ?_
  show Go p e below s QQ room_1.cells room_1.slots (s₁.setTop (mkF m 7 #[.val (.int p0), .val (.int p1), .val (.int i), .unset, .unset, .unset, .unset, .unset] []))
  refine gs (fun t => XS.iloadN X0.here hx rfl (hb hby at_7) rfl) ?_
  show Go p e below s QQ room_1.cells room_1.slots (s₁.setTop (mkF m 8 #[.val (.int p0), .val (.int p1), .val (.int i), .unset, .unset, .unset, .unset, .unset] [(.int p1)]))
  refine gs (fun t => X0.ldcInt hx hown (mvT hZ (hw _ (List.mem_of_getElem? (i := 0) rfl))) (g := (mkF m 8 #[.val (.int p0), .val (.int p1), .val (.int i), .unset, .unset, .unset, .unset, .unset] [(.int p1)])) rfl (hb hby at_8) t) ?_
  show Go p e below s QQ room_1.cells room_1.slots (s₁.setTop (mkF m 10 #[.val (.int p0), .val (.int p1), .val (.int i), .unset, .unset, .unset, .unset, .unset] [(.int (2147483647 : Int32)), (.int p1)]))
  refine gs (fun t => XS.iand X0.here hx rfl (hb hby at_10) rfl) ?_
  show Go p e below s QQ room_1.cells room_1.slots (s₁.setTop (mkF m 11 #[.val (.int p0), .val (.int p1), .val (.int i), .unset, .unset, .unset, .unset, .unset] [(.int (p1 &&& (2147483647 : Int32)))]))
  refine gs (fun t => XS.iconst X0.here hx rfl (hb hby at_11)) ?_
  show Go p e below s QQ room_1.cells room_1.slots (s₁.setTop (mkF m 12 #[.val (.int p0), .val (.int p1), .val (.int i), .unset, .unset, .unset, .unset, .unset] [(.int (3 : Int32)), (.int (p1 &&& (2147483647 : Int32)))]))
  refine gs (fun t => iremM X0 hx (g := (mkF m 12 #[.val (.int p0), .val (.int p1), .val (.int i), .unset, .unset, .unset, .unset, .unset] [(.int (3 : Int32)), (.int (p1 &&& (2147483647 : Int32)))])) rfl (hb hby at_12) rfl (by decide)) ?_
  show Go p e below s QQ room_1.cells room_1.slots (s₁.setTop (mkF m 13 #[.val (.int p0), .val (.int p1), .val (.int i), .unset, .unset, .unset, .unset, .unset] [(.int ((p1 &&& (2147483647 : Int32)) % (3 : Int32)))]))
  generalize hj : ((p1 &&& (2147483647 : Int32)) % (3 : Int32)) = j
  show Go p e below s QQ room_1.cells room_1.slots (s₁.setTop (mkF m 13 #[.val (.int p0), .val (.int p1), .val (.int i), .unset, .unset, .unset, .unset, .unset] [(.int j)]))
  have hi3 := own_i p0 hi
  have hj3 := own_i p1 hj
  clear hi hj
  refine gs (fun t => XS.istoreN X0.here hx rfl (hb hby at_13) rfl (l' := #[.val (.int p0), .val (.int p1), .val (.int i), .val (.int j), .unset, .unset, .unset, .unset]) rfl) ?_
  show Go p e below s QQ room_1.cells room_1.slots (s₁.setTop (mkF m 14 #[.val (.int p0), .val (.int p1), .val (.int i), .val (.int j), .unset, .unset, .unset, .unset] []))
  refine gs (fun t => XS.iloadN X0.here hx rfl (hb hby at_14) rfl) ?_
  show Go p e below s QQ room_1.cells room_1.slots (s₁.setTop (mkF m 15 #[.val (.int p0), .val (.int p1), .val (.int i), .val (.int j), .unset, .unset, .unset, .unset] [(.int i)]))
  rcases hi3 with rfl | rfl | rfl <;> rcases hj3 with rfl | rfl | rfl
  · skip
    show Go p e below s QQ room_1.cells room_1.slots (s₁.setTop (mkF m 15 #[.val (.int p0), .val (.int p1), .val (.int (0 : Int32)), .val (.int (0 : Int32)), .unset, .unset, .unset, .unset] [(.int (0 : Int32))]))
    obtain ⟨_, _, ⟨T9, L9, k9, n9⟩, -, X9, ⟨Lc9, hQ9, l9, y9, z9⟩, st9⟩ := Jvm.LawKit.callS X0 hx (y := (⟨"com/example/shrike/shrike/job/WorkerDirectiveOrStrongerPinLaw", "pick", "(I)Lcom/example/shrike/shrike/job/WorkerDirective;"⟩ : MethodName)) hown (mvT hZ (hw _ (List.mem_of_getElem? (i := 1) rfl))) (mvT hZ (hw _ (List.mem_of_getElem? (i := 2) rfl))) (mvT hZ (hw _ (List.mem_of_getElem? (i := 3) rfl))) (mvT hZ (hw _ (List.mem_of_getElem? (i := 4) rfl))) (by decide) (backOf (W := 0) (rm1 l Z a0 hw [] (0 : Int32) x_RUNNING x_QUIET x_TERMINATE h0 n0 ZZ OLD S_x_RUNNING S_x_QUIET S_x_TERMINATE) hZ (hw _ (List.mem_of_getElem? (i := 4) rfl)) (hw _ (List.mem_of_getElem? (i := 3) rfl)) (by decide) (by decide)) (g := (mkF m 15 #[.val (.int p0), .val (.int p1), .val (.int (0 : Int32)), .val (.int (0 : Int32)), .unset, .unset, .unset, .unset] [(.int (0 : Int32))])) rfl (by rw [hml]; rfl) (argsL := [(.int (0 : Int32))]) (rest := []) (lenOf pd_1 rfl) rfl (by show 2 * 0 + _ ≤ _; exact Nat.le_of_eq rfl) (hb hby at_15) (fun _ _ => ⟨rfl, e0, (by decide : 0 + 0 ≤ _), (by decide : 0 + 0 ≤ _)⟩)
    dsimp only [Pt.U, Pt.locs, Pt.cells, Pt.slots] at X9 l9 y9 z9 st9 hQ9
    subst l9 y9 z9
    obtain ⟨rfl, N9q, e9⟩ := hQ9
    replace N0 := Fr.app N0 N9q
    refine gs st9 ?_
    show Go p e below s QQ room_1.cells room_1.slots (T9.setTop (mkF m 18 #[.val (.int p0), .val (.int p1), .val (.int (0 : Int32)), .val (.int (0 : Int32)), .unset, .unset, .unset, .unset] [(.ref x_RUNNING)]))
    refine gs (fun t => XS.astore X9.here hx rfl (hb hby at_18) rfl rfl (l' := #[.val (.int p0), .val (.int p1), .val (.int (0 : Int32)), .val (.int (0 : Int32)), .val (.ref x_RUNNING), .unset, .unset, .unset]) rfl) ?_
    show Go p e below s QQ room_1.cells room_1.slots (T9.setTop (mkF m 20 #[.val (.int p0), .val (.int p1), .val (.int (0 : Int32)), .val (.int (0 : Int32)), .val (.ref x_RUNNING), .unset, .unset, .unset] []))
    refine gs (fun t => XS.iloadN X9.here hx rfl (hb hby at_20) rfl) ?_
    show Go p e below s QQ room_1.cells room_1.slots (T9.setTop (mkF m 21 #[.val (.int p0), .val (.int p1), .val (.int (0 : Int32)), .val (.int (0 : Int32)), .val (.ref x_RUNNING), .unset, .unset, .unset] [(.int (0 : Int32))]))
    obtain ⟨_, _, ⟨T10, L10, k10, n10⟩, -, X10, ⟨Lc10, hQ10, l10, y10, z10⟩, st10⟩ := Jvm.LawKit.callS X9 hx (y := (⟨"com/example/shrike/shrike/job/WorkerDirectiveOrStrongerPinLaw", "pick", "(I)Lcom/example/shrike/shrike/job/WorkerDirective;"⟩ : MethodName)) hown (mvT hZ (hw _ (List.mem_of_getElem? (i := 1) rfl))) (mvT hZ (hw _ (List.mem_of_getElem? (i := 2) rfl))) (mvT hZ (hw _ (List.mem_of_getElem? (i := 3) rfl))) (mvT hZ (hw _ (List.mem_of_getElem? (i := 4) rfl))) (by decide) (backOf (W := 0) (rm1 l Z a0 hw [] (0 : Int32) x_RUNNING x_QUIET x_TERMINATE h0 n0 ZZ OLD S_x_RUNNING S_x_QUIET S_x_TERMINATE) hZ (hw _ (List.mem_of_getElem? (i := 4) rfl)) (hw _ (List.mem_of_getElem? (i := 3) rfl)) (by decide) (by decide)) (g := (mkF m 21 #[.val (.int p0), .val (.int p1), .val (.int (0 : Int32)), .val (.int (0 : Int32)), .val (.ref x_RUNNING), .unset, .unset, .unset] [(.int (0 : Int32))])) rfl (by rw [hml]; rfl) (argsL := [(.int (0 : Int32))]) (rest := []) (lenOf pd_1 rfl) rfl (by show 2 * 0 + _ ≤ _; exact Nat.le_of_eq rfl) (hb hby at_21) (fun _ _ => ⟨rfl, e9, (by decide : 0 + 0 ≤ _), (by decide : 0 + 0 ≤ _)⟩)
    dsimp only [Pt.U, Pt.locs, Pt.cells, Pt.slots] at X10 l10 y10 z10 st10 hQ10
    subst l10 y10 z10
    obtain ⟨rfl, N10q, e10⟩ := hQ10
    replace N0 := Fr.app N0 N10q
    refine gs st10 ?_
    show Go p e below s QQ room_1.cells room_1.slots (T10.setTop (mkF m 24 #[.val (.int p0), .val (.int p1), .val (.int (0 : Int32)), .val (.int (0 : Int32)), .val (.ref x_RUNNING), .unset, .unset, .unset] [(.ref x_RUNNING)]))
    refine gs (fun t => XS.astore X10.here hx rfl (hb hby at_24) rfl rfl (l' := #[.val (.int p0), .val (.int p1), .val (.int (0 : Int32)), .val (.int (0 : Int32)), .val (.ref x_RUNNING), .val (.ref x_RUNNING), .unset, .unset]) rfl) ?_
    show Go p e below s QQ room_1.cells room_1.slots (T10.setTop (mkF m 26 #[.val (.int p0), .val (.int p1), .val (.int (0 : Int32)), .val (.int (0 : Int32)), .val (.ref x_RUNNING), .val (.ref x_RUNNING), .unset, .unset] []))
    refine gs (fun t => XS.iloadN X10.here hx rfl (hb hby at_26) rfl) ?_
    show Go p e below s QQ room_1.cells room_1.slots (T10.setTop (mkF m 27 #[.val (.int p0), .val (.int p1), .val (.int (0 : Int32)), .val (.int (0 : Int32)), .val (.ref x_RUNNING), .val (.ref x_RUNNING), .unset, .unset] [(.int (0 : Int32))]))
    refine gs (fun t => XS.iloadN X10.here hx rfl (hb hby at_27) rfl) ?_
    show Go p e below s QQ room_1.cells room_1.slots (T10.setTop (mkF m 28 #[.val (.int p0), .val (.int p1), .val (.int (0 : Int32)), .val (.int (0 : Int32)), .val (.ref x_RUNNING), .val (.ref x_RUNNING), .unset, .unset] [(.int (0 : Int32)), (.int (0 : Int32))]))
    obtain ⟨_, _, ⟨T11, L11, k11, n11⟩, -, X11, ⟨Lc11, hQ11, l11, y11, z11⟩, st11⟩ := Jvm.LawKit.callS X10 hx (y := (⟨"java/lang/Math", "max", "(II)I"⟩ : MethodName)) hown (mvT hZ (hw _ (List.mem_of_getElem? (i := 8) rfl))) (mvT hZ (hw _ (List.mem_of_getElem? (i := 9) rfl))) (mvT hZ (hw _ (List.mem_of_getElem? (i := 10) rfl))) (mvT hZ (hw _ (List.mem_of_getElem? (i := 11) rfl))) (by decide) (backOf (W := 0) (rm2 l Z a0 hw [] (0 : Int32) (0 : Int32) h0 n0 ZZ ) hZ (hw _ (List.mem_of_getElem? (i := 11) rfl)) (hw _ (List.mem_of_getElem? (i := 10) rfl)) (by decide) (by decide)) (g := (mkF m 28 #[.val (.int p0), .val (.int p1), .val (.int (0 : Int32)), .val (.int (0 : Int32)), .val (.ref x_RUNNING), .val (.ref x_RUNNING), .unset, .unset] [(.int (0 : Int32)), (.int (0 : Int32))])) rfl (by rw [hml]; rfl) (argsL := [(.int (0 : Int32)), (.int (0 : Int32))]) (rest := []) (lenOf pd_2 rfl) rfl (by show 2 * 0 + _ ≤ _; exact Nat.le_of_eq rfl) (hb hby at_28) (fun _ _ => ⟨rfl, e10, (by decide : 0 + 0 ≤ _), (by decide : 0 + 0 ≤ _)⟩)
    dsimp only [Pt.U, Pt.locs, Pt.cells, Pt.slots] at X11 l11 y11 z11 st11 hQ11
    subst l11 y11 z11
    obtain ⟨rfl, N11q, e11⟩ := hQ11
    replace N0 := Fr.app N0 N11q
    refine gs st11 ?_
    show Go p e below s QQ room_1.cells room_1.slots (T11.setTop (mkF m 31 #[.val (.int p0), .val (.int p1), .val (.int (0 : Int32)), .val (.int (0 : Int32)), .val (.ref x_RUNNING), .val (.ref x_RUNNING), .unset, .unset] [(.int (0 : Int32))]))
    obtain ⟨_, _, ⟨T12, L12, k12, n12⟩, -, X12, ⟨Lc12, hQ12, l12, y12, z12⟩, st12⟩ := Jvm.LawKit.callS X11 hx (y := (⟨"com/example/shrike/shrike/job/WorkerDirectiveOrStrongerPinLaw", "pick", "(I)Lcom/example/shrike/shrike/job/WorkerDirective;"⟩ : MethodName)) hown (mvT hZ (hw _ (List.mem_of_getElem? (i := 1) rfl))) (mvT hZ (hw _ (List.mem_of_getElem? (i := 2) rfl))) (mvT hZ (hw _ (List.mem_of_getElem? (i := 3) rfl))) (mvT hZ (hw _ (List.mem_of_getElem? (i := 4) rfl))) (by decide) (backOf (W := 0) (rm1 l Z a0 hw [] (0 : Int32) x_RUNNING x_QUIET x_TERMINATE h0 n0 ZZ OLD S_x_RUNNING S_x_QUIET S_x_TERMINATE) hZ (hw _ (List.mem_of_getElem? (i := 4) rfl)) (hw _ (List.mem_of_getElem? (i := 3) rfl)) (by decide) (by decide)) (g := (mkF m 31 #[.val (.int p0), .val (.int p1), .val (.int (0 : Int32)), .val (.int (0 : Int32)), .val (.ref x_RUNNING), .val (.ref x_RUNNING), .unset, .unset] [(.int (0 : Int32))])) rfl (by rw [hml]; rfl) (argsL := [(.int (0 : Int32))]) (rest := []) (lenOf pd_1 rfl) rfl (by show 2 * 0 + _ ≤ _; exact Nat.le_of_eq rfl) (hb hby at_31) (fun _ _ => ⟨rfl, e11, (by decide : 0 + 0 ≤ _), (by decide : 0 + 0 ≤ _)⟩)
    dsimp only [Pt.U, Pt.locs, Pt.cells, Pt.slots] at X12 l12 y12 z12 st12 hQ12
    subst l12 y12 z12
    obtain ⟨rfl, N12q, e12⟩ := hQ12
    replace N0 := Fr.app N0 N12q
    refine gs st12 ?_
    show Go p e below s QQ room_1.cells room_1.slots (T12.setTop (mkF m 34 #[.val (.int p0), .val (.int p1), .val (.int (0 : Int32)), .val (.int (0 : Int32)), .val (.ref x_RUNNING), .val (.ref x_RUNNING), .unset, .unset] [(.ref x_RUNNING)]))
    refine gs (fun t => XS.astore X12.here hx rfl (hb hby at_34) rfl rfl (l' := #[.val (.int p0), .val (.int p1), .val (.int (0 : Int32)), .val (.int (0 : Int32)), .val (.ref x_RUNNING), .val (.ref x_RUNNING), .val (.ref x_RUNNING), .unset]) rfl) ?_
    show Go p e below s QQ room_1.cells room_1.slots (T12.setTop (mkF m 36 #[.val (.int p0), .val (.int p1), .val (.int (0 : Int32)), .val (.int (0 : Int32)), .val (.ref x_RUNNING), .val (.ref x_RUNNING), .val (.ref x_RUNNING), .unset] []))
    refine gs (fun t => XS.aload X12.here hx rfl (hb hby at_36) rfl rfl) ?_
    show Go p e below s QQ room_1.cells room_1.slots (T12.setTop (mkF m 38 #[.val (.int p0), .val (.int p1), .val (.int (0 : Int32)), .val (.int (0 : Int32)), .val (.ref x_RUNNING), .val (.ref x_RUNNING), .val (.ref x_RUNNING), .unset] [(.ref x_RUNNING)]))
    refine gs (fun t => XS.aload X12.here hx rfl (hb hby at_38) rfl rfl) ?_
    show Go p e below s QQ room_1.cells room_1.slots (T12.setTop (mkF m 40 #[.val (.int p0), .val (.int p1), .val (.int (0 : Int32)), .val (.int (0 : Int32)), .val (.ref x_RUNNING), .val (.ref x_RUNNING), .val (.ref x_RUNNING), .unset] [(.ref x_RUNNING), (.ref x_RUNNING)]))
    obtain ⟨cq13, kq13, q13a, q13b, q13c⟩ := isOf hZ e12 (E_x_RUNNING.ext OLD.2)
    obtain ⟨_, _, ⟨T13, L13, k13, n13⟩, -, X13, ⟨Lc13, hQ13, l13, y13, z13⟩, st13⟩ := X12.virtualBack hx (y := (⟨"com/example/shrike/shrike/job/WorkerDirective", "orStronger", "(Lcom/example/shrike/shrike/job/WorkerDirective;)Lcom/example/shrike/shrike/job/WorkerDirective;"⟩ : MethodName)) (z := (⟨"com/example/shrike/shrike/job/WorkerDirective", "orStronger", "(Lcom/example/shrike/shrike/job/WorkerDirective;)Lcom/example/shrike/shrike/job/WorkerDirective;"⟩ : MethodName)) hown (mvT hZ (hw _ (List.mem_of_getElem? (i := 12) rfl))) (mvT hZ (hw _ (List.mem_of_getElem? (i := 13) rfl))) (notFace_of_selects (args := #[]) (mvT hZ (hw _ (List.mem_of_getElem? (i := 15) rfl)))) (mvT hZ (hw _ (List.mem_of_getElem? (i := 15) rfl))) (mvT hZ (hw _ (List.mem_of_getElem? (i := 14) rfl))) (by decide) (backOf (W := 0) (rm3 l Z a0 hw [] x_RUNNING x_RUNNING (0 : Int32) (0 : Int32) mr h0 n0 ZZ (F_x_RUNNING_ordinal.ext OLD.2) (F_x_RUNNING_ordinal.ext OLD.2) (E_x_RUNNING.ext OLD.2) (E_x_RUNNING.ext OLD.2) MIR) hZ (hw _ (List.mem_of_getElem? (i := 16) rfl)) (hw _ (List.mem_of_getElem? (i := 6) rfl)) (by decide) (by decide)) q13a q13c (g := (mkF m 40 #[.val (.int p0), .val (.int p1), .val (.int (0 : Int32)), .val (.int (0 : Int32)), .val (.ref x_RUNNING), .val (.ref x_RUNNING), .val (.ref x_RUNNING), .unset] [(.ref x_RUNNING), (.ref x_RUNNING)])) rfl (by rw [hml]; rfl) (Steps.refl _) (argsL := [(.ref x_RUNNING)]) (rest := []) (lenOf pd_3 rfl) rfl (by show 2 * 0 + _ ≤ _; exact Nat.le_of_eq rfl) (hb hby at_40) (fun _ _ => ⟨rfl, e12, (by decide : 0 + 0 ≤ _), (by decide : 0 + 0 ≤ _)⟩)
    dsimp only [Pt.U, Pt.locs, Pt.cells, Pt.slots] at X13 l13 y13 z13 st13 hQ13
    subst l13 y13 z13
    obtain ⟨rfl, N13q, e13⟩ := hQ13
    replace N0 := Fr.app N0 N13q
    refine gt st13 ?_
    show Go p e below s QQ room_1.cells room_1.slots (T13.setTop (mkF m 43 #[.val (.int p0), .val (.int p1), .val (.int (0 : Int32)), .val (.int (0 : Int32)), .val (.ref x_RUNNING), .val (.ref x_RUNNING), .val (.ref x_RUNNING), .unset] [(.ref x_RUNNING)]))
    refine gs (fun t => XS.astore X13.here hx rfl (hb hby at_43) rfl rfl (l' := #[.val (.int p0), .val (.int p1), .val (.int (0 : Int32)), .val (.int (0 : Int32)), .val (.ref x_RUNNING), .val (.ref x_RUNNING), .val (.ref x_RUNNING), .val (.ref x_RUNNING)]) rfl) ?_
    show Go p e below s QQ room_1.cells room_1.slots (T13.setTop (mkF m 45 #[.val (.int p0), .val (.int p1), .val (.int (0 : Int32)), .val (.int (0 : Int32)), .val (.ref x_RUNNING), .val (.ref x_RUNNING), .val (.ref x_RUNNING), .val (.ref x_RUNNING)] []))
    refine gs (fun t => XS.aload X13.here hx rfl (hb hby at_45) rfl rfl) ?_
    show Go p e below s QQ room_1.cells room_1.slots (T13.setTop (mkF m 47 #[.val (.int p0), .val (.int p1), .val (.int (0 : Int32)), .val (.int (0 : Int32)), .val (.ref x_RUNNING), .val (.ref x_RUNNING), .val (.ref x_RUNNING), .val (.ref x_RUNNING)] [(.ref x_RUNNING)]))
    refine gs (fun t => XS.aload X13.here hx rfl (hb hby at_47) rfl rfl) ?_
    show Go p e below s QQ room_1.cells room_1.slots (T13.setTop (mkF m 49 #[.val (.int p0), .val (.int p1), .val (.int (0 : Int32)), .val (.int (0 : Int32)), .val (.ref x_RUNNING), .val (.ref x_RUNNING), .val (.ref x_RUNNING), .val (.ref x_RUNNING)] [(.ref x_RUNNING), (.ref x_RUNNING)]))
    refine gs (fun t => Jvm.RoadKit.acmp (g := (mkF m 49 #[.val (.int p0), .val (.int p1), .val (.int (0 : Int32)), .val (.int (0 : Int32)), .val (.ref x_RUNNING), .val (.ref x_RUNNING), .val (.ref x_RUNNING), .val (.ref x_RUNNING)] [(.ref x_RUNNING), (.ref x_RUNNING)])) X13 hx rfl rfl rfl (pc0 := 49) (pc' := 52) (same := true) rfl (hb hby at_49) rfl (decide_eq_true rfl) (by decide) (by decide)) ?_
    show Go p e below s QQ room_1.cells room_1.slots (T13.setTop (mkF m 52 #[.val (.int p0), .val (.int p1), .val (.int (0 : Int32)), .val (.int (0 : Int32)), .val (.ref x_RUNNING), .val (.ref x_RUNNING), .val (.ref x_RUNNING), .val (.ref x_RUNNING)] []))
    refine gs (fun t => XS.iconst X13.here hx rfl (hb hby at_52)) ?_
    show Go p e below s QQ room_1.cells room_1.slots (T13.setTop (mkF m 53 #[.val (.int p0), .val (.int p1), .val (.int (0 : Int32)), .val (.int (0 : Int32)), .val (.ref x_RUNNING), .val (.ref x_RUNNING), .val (.ref x_RUNNING), .val (.ref x_RUNNING)] [(.int (1 : Int32))]))
    refine gs (fun t => XS.goto X13.here hx rfl (pc0 := 53) (pc' := 57) rfl (hb hby at_53) (by decide) (by decide)) ?_
    show Go p e below s QQ room_1.cells room_1.slots (T13.setTop (mkF m 57 #[.val (.int p0), .val (.int p1), .val (.int (0 : Int32)), .val (.int (0 : Int32)), .val (.ref x_RUNNING), .val (.ref x_RUNNING), .val (.ref x_RUNNING), .val (.ref x_RUNNING)] [(.int (1 : Int32))]))
    exact goB X13 hx Bd.notSynchronized Bd.returns (by simp) (w := (1 : Int32)) (by first | rfl | decide) (hb hby at_57) (by rw [← hQQ, e13]; exact ⟨rfl, N0⟩) (by decide) (by decide)
  · skip
    show Go p e below s QQ room_1.cells room_1.slots (s₁.setTop (mkF m 15 #[.val (.int p0), .val (.int p1), .val (.int (0 : Int32)), .val (.int (1 : Int32)), .unset, .unset, .unset, .unset] [(.int (0 : Int32))]))
    obtain ⟨_, _, ⟨T14, L14, k14, n14⟩, -, X14, ⟨Lc14, hQ14, l14, y14, z14⟩, st14⟩ := Jvm.LawKit.callS X0 hx (y := (⟨"com/example/shrike/shrike/job/WorkerDirectiveOrStrongerPinLaw", "pick", "(I)Lcom/example/shrike/shrike/job/WorkerDirective;"⟩ : MethodName)) hown (mvT hZ (hw _ (List.mem_of_getElem? (i := 1) rfl))) (mvT hZ (hw _ (List.mem_of_getElem? (i := 2) rfl))) (mvT hZ (hw _ (List.mem_of_getElem? (i := 3) rfl))) (mvT hZ (hw _ (List.mem_of_getElem? (i := 4) rfl))) (by decide) (backOf (W := 0) (rm1 l Z a0 hw [] (0 : Int32) x_RUNNING x_QUIET x_TERMINATE h0 n0 ZZ OLD S_x_RUNNING S_x_QUIET S_x_TERMINATE) hZ (hw _ (List.mem_of_getElem? (i := 4) rfl)) (hw _ (List.mem_of_getElem? (i := 3) rfl)) (by decide) (by decide)) (g := (mkF m 15 #[.val (.int p0), .val (.int p1), .val (.int (0 : Int32)), .val (.int (1 : Int32)), .unset, .unset, .unset, .unset] [(.int (0 : Int32))])) rfl (by rw [hml]; rfl) (argsL := [(.int (0 : Int32))]) (rest := []) (lenOf pd_1 rfl) rfl (by show 2 * 0 + _ ≤ _; exact Nat.le_of_eq rfl) (hb hby at_15) (fun _ _ => ⟨rfl, e0, (by decide : 0 + 0 ≤ _), (by decide : 0 + 0 ≤ _)⟩)
    dsimp only [Pt.U, Pt.locs, Pt.cells, Pt.slots] at X14 l14 y14 z14 st14 hQ14
    subst l14 y14 z14
    obtain ⟨rfl, N14q, e14⟩ := hQ14
    replace N0 := Fr.app N0 N14q
    refine gs st14 ?_
    show Go p e below s QQ room_1.cells room_1.slots (T14.setTop (mkF m 18 #[.val (.int p0), .val (.int p1), .val (.int (0 : Int32)), .val (.int (1 : Int32)), .unset, .unset, .unset, .unset] [(.ref x_RUNNING)]))
    refine gs (fun t => XS.astore X14.here hx rfl (hb hby at_18) rfl rfl (l' := #[.val (.int p0), .val (.int p1), .val (.int (0 : Int32)), .val (.int (1 : Int32)), .val (.ref x_RUNNING), .unset, .unset, .unset]) rfl) ?_
    show Go p e below s QQ room_1.cells room_1.slots (T14.setTop (mkF m 20 #[.val (.int p0), .val (.int p1), .val (.int (0 : Int32)), .val (.int (1 : Int32)), .val (.ref x_RUNNING), .unset, .unset, .unset] []))
    refine gs (fun t => XS.iloadN X14.here hx rfl (hb hby at_20) rfl) ?_
    show Go p e below s QQ room_1.cells room_1.slots (T14.setTop (mkF m 21 #[.val (.int p0), .val (.int p1), .val (.int (0 : Int32)), .val (.int (1 : Int32)), .val (.ref x_RUNNING), .unset, .unset, .unset] [(.int (1 : Int32))]))
    obtain ⟨_, _, ⟨T15, L15, k15, n15⟩, -, X15, ⟨Lc15, hQ15, l15, y15, z15⟩, st15⟩ := Jvm.LawKit.callS X14 hx (y := (⟨"com/example/shrike/shrike/job/WorkerDirectiveOrStrongerPinLaw", "pick", "(I)Lcom/example/shrike/shrike/job/WorkerDirective;"⟩ : MethodName)) hown (mvT hZ (hw _ (List.mem_of_getElem? (i := 1) rfl))) (mvT hZ (hw _ (List.mem_of_getElem? (i := 2) rfl))) (mvT hZ (hw _ (List.mem_of_getElem? (i := 3) rfl))) (mvT hZ (hw _ (List.mem_of_getElem? (i := 4) rfl))) (by decide) (backOf (W := 0) (rm1 l Z a0 hw [] (1 : Int32) x_RUNNING x_QUIET x_TERMINATE h0 n0 ZZ OLD S_x_RUNNING S_x_QUIET S_x_TERMINATE) hZ (hw _ (List.mem_of_getElem? (i := 4) rfl)) (hw _ (List.mem_of_getElem? (i := 3) rfl)) (by decide) (by decide)) (g := (mkF m 21 #[.val (.int p0), .val (.int p1), .val (.int (0 : Int32)), .val (.int (1 : Int32)), .val (.ref x_RUNNING), .unset, .unset, .unset] [(.int (1 : Int32))])) rfl (by rw [hml]; rfl) (argsL := [(.int (1 : Int32))]) (rest := []) (lenOf pd_1 rfl) rfl (by show 2 * 0 + _ ≤ _; exact Nat.le_of_eq rfl) (hb hby at_21) (fun _ _ => ⟨rfl, e14, (by decide : 0 + 0 ≤ _), (by decide : 0 + 0 ≤ _)⟩)
    dsimp only [Pt.U, Pt.locs, Pt.cells, Pt.slots] at X15 l15 y15 z15 st15 hQ15
    subst l15 y15 z15
    obtain ⟨rfl, N15q, e15⟩ := hQ15
    replace N0 := Fr.app N0 N15q
    refine gs st15 ?_
    show Go p e below s QQ room_1.cells room_1.slots (T15.setTop (mkF m 24 #[.val (.int p0), .val (.int p1), .val (.int (0 : Int32)), .val (.int (1 : Int32)), .val (.ref x_RUNNING), .unset, .unset, .unset] [(.ref x_QUIET)]))
    refine gs (fun t => XS.astore X15.here hx rfl (hb hby at_24) rfl rfl (l' := #[.val (.int p0), .val (.int p1), .val (.int (0 : Int32)), .val (.int (1 : Int32)), .val (.ref x_RUNNING), .val (.ref x_QUIET), .unset, .unset]) rfl) ?_
    show Go p e below s QQ room_1.cells room_1.slots (T15.setTop (mkF m 26 #[.val (.int p0), .val (.int p1), .val (.int (0 : Int32)), .val (.int (1 : Int32)), .val (.ref x_RUNNING), .val (.ref x_QUIET), .unset, .unset] []))
    refine gs (fun t => XS.iloadN X15.here hx rfl (hb hby at_26) rfl) ?_
    show Go p e below s QQ room_1.cells room_1.slots (T15.setTop (mkF m 27 #[.val (.int p0), .val (.int p1), .val (.int (0 : Int32)), .val (.int (1 : Int32)), .val (.ref x_RUNNING), .val (.ref x_QUIET), .unset, .unset] [(.int (0 : Int32))]))
    refine gs (fun t => XS.iloadN X15.here hx rfl (hb hby at_27) rfl) ?_
    show Go p e below s QQ room_1.cells room_1.slots (T15.setTop (mkF m 28 #[.val (.int p0), .val (.int p1), .val (.int (0 : Int32)), .val (.int (1 : Int32)), .val (.ref x_RUNNING), .val (.ref x_QUIET), .unset, .unset] [(.int (1 : Int32)), (.int (0 : Int32))]))
    obtain ⟨_, _, ⟨T16, L16, k16, n16⟩, -, X16, ⟨Lc16, hQ16, l16, y16, z16⟩, st16⟩ := Jvm.LawKit.callS X15 hx (y := (⟨"java/lang/Math", "max", "(II)I"⟩ : MethodName)) hown (mvT hZ (hw _ (List.mem_of_getElem? (i := 8) rfl))) (mvT hZ (hw _ (List.mem_of_getElem? (i := 9) rfl))) (mvT hZ (hw _ (List.mem_of_getElem? (i := 10) rfl))) (mvT hZ (hw _ (List.mem_of_getElem? (i := 11) rfl))) (by decide) (backOf (W := 0) (rm2 l Z a0 hw [] (0 : Int32) (1 : Int32) h0 n0 ZZ ) hZ (hw _ (List.mem_of_getElem? (i := 11) rfl)) (hw _ (List.mem_of_getElem? (i := 10) rfl)) (by decide) (by decide)) (g := (mkF m 28 #[.val (.int p0), .val (.int p1), .val (.int (0 : Int32)), .val (.int (1 : Int32)), .val (.ref x_RUNNING), .val (.ref x_QUIET), .unset, .unset] [(.int (1 : Int32)), (.int (0 : Int32))])) rfl (by rw [hml]; rfl) (argsL := [(.int (0 : Int32)), (.int (1 : Int32))]) (rest := []) (lenOf pd_2 rfl) rfl (by show 2 * 0 + _ ≤ _; exact Nat.le_of_eq rfl) (hb hby at_28) (fun _ _ => ⟨rfl, e15, (by decide : 0 + 0 ≤ _), (by decide : 0 + 0 ≤ _)⟩)
    dsimp only [Pt.U, Pt.locs, Pt.cells, Pt.slots] at X16 l16 y16 z16 st16 hQ16
    subst l16 y16 z16
    obtain ⟨rfl, N16q, e16⟩ := hQ16
    replace N0 := Fr.app N0 N16q
    refine gs st16 ?_
    show Go p e below s QQ room_1.cells room_1.slots (T16.setTop (mkF m 31 #[.val (.int p0), .val (.int p1), .val (.int (0 : Int32)), .val (.int (1 : Int32)), .val (.ref x_RUNNING), .val (.ref x_QUIET), .unset, .unset] [(.int (1 : Int32))]))
    obtain ⟨_, _, ⟨T17, L17, k17, n17⟩, -, X17, ⟨Lc17, hQ17, l17, y17, z17⟩, st17⟩ := Jvm.LawKit.callS X16 hx (y := (⟨"com/example/shrike/shrike/job/WorkerDirectiveOrStrongerPinLaw", "pick", "(I)Lcom/example/shrike/shrike/job/WorkerDirective;"⟩ : MethodName)) hown (mvT hZ (hw _ (List.mem_of_getElem? (i := 1) rfl))) (mvT hZ (hw _ (List.mem_of_getElem? (i := 2) rfl))) (mvT hZ (hw _ (List.mem_of_getElem? (i := 3) rfl))) (mvT hZ (hw _ (List.mem_of_getElem? (i := 4) rfl))) (by decide) (backOf (W := 0) (rm1 l Z a0 hw [] (1 : Int32) x_RUNNING x_QUIET x_TERMINATE h0 n0 ZZ OLD S_x_RUNNING S_x_QUIET S_x_TERMINATE) hZ (hw _ (List.mem_of_getElem? (i := 4) rfl)) (hw _ (List.mem_of_getElem? (i := 3) rfl)) (by decide) (by decide)) (g := (mkF m 31 #[.val (.int p0), .val (.int p1), .val (.int (0 : Int32)), .val (.int (1 : Int32)), .val (.ref x_RUNNING), .val (.ref x_QUIET), .unset, .unset] [(.int (1 : Int32))])) rfl (by rw [hml]; rfl) (argsL := [(.int (1 : Int32))]) (rest := []) (lenOf pd_1 rfl) rfl (by show 2 * 0 + _ ≤ _; exact Nat.le_of_eq rfl) (hb hby at_31) (fun _ _ => ⟨rfl, e16, (by decide : 0 + 0 ≤ _), (by decide : 0 + 0 ≤ _)⟩)
    dsimp only [Pt.U, Pt.locs, Pt.cells, Pt.slots] at X17 l17 y17 z17 st17 hQ17
    subst l17 y17 z17
    obtain ⟨rfl, N17q, e17⟩ := hQ17
    replace N0 := Fr.app N0 N17q
    refine gs st17 ?_
    show Go p e below s QQ room_1.cells room_1.slots (T17.setTop (mkF m 34 #[.val (.int p0), .val (.int p1), .val (.int (0 : Int32)), .val (.int (1 : Int32)), .val (.ref x_RUNNING), .val (.ref x_QUIET), .unset, .unset] [(.ref x_QUIET)]))
    refine gs (fun t => XS.astore X17.here hx rfl (hb hby at_34) rfl rfl (l' := #[.val (.int p0), .val (.int p1), .val (.int (0 : Int32)), .val (.int (1 : Int32)), .val (.ref x_RUNNING), .val (.ref x_QUIET), .val (.ref x_QUIET), .unset]) rfl) ?_
    show Go p e below s QQ room_1.cells room_1.slots (T17.setTop (mkF m 36 #[.val (.int p0), .val (.int p1), .val (.int (0 : Int32)), .val (.int (1 : Int32)), .val (.ref x_RUNNING), .val (.ref x_QUIET), .val (.ref x_QUIET), .unset] []))
    refine gs (fun t => XS.aload X17.here hx rfl (hb hby at_36) rfl rfl) ?_
    show Go p e below s QQ room_1.cells room_1.slots (T17.setTop (mkF m 38 #[.val (.int p0), .val (.int p1), .val (.int (0 : Int32)), .val (.int (1 : Int32)), .val (.ref x_RUNNING), .val (.ref x_QUIET), .val (.ref x_QUIET), .unset] [(.ref x_RUNNING)]))
    refine gs (fun t => XS.aload X17.here hx rfl (hb hby at_38) rfl rfl) ?_
    show Go p e below s QQ room_1.cells room_1.slots (T17.setTop (mkF m 40 #[.val (.int p0), .val (.int p1), .val (.int (0 : Int32)), .val (.int (1 : Int32)), .val (.ref x_RUNNING), .val (.ref x_QUIET), .val (.ref x_QUIET), .unset] [(.ref x_QUIET), (.ref x_RUNNING)]))
    obtain ⟨cq18, kq18, q18a, q18b, q18c⟩ := isOf hZ e17 (E_x_RUNNING.ext OLD.2)
    obtain ⟨_, _, ⟨T18, L18, k18, n18⟩, -, X18, ⟨Lc18, hQ18, l18, y18, z18⟩, st18⟩ := X17.virtualBack hx (y := (⟨"com/example/shrike/shrike/job/WorkerDirective", "orStronger", "(Lcom/example/shrike/shrike/job/WorkerDirective;)Lcom/example/shrike/shrike/job/WorkerDirective;"⟩ : MethodName)) (z := (⟨"com/example/shrike/shrike/job/WorkerDirective", "orStronger", "(Lcom/example/shrike/shrike/job/WorkerDirective;)Lcom/example/shrike/shrike/job/WorkerDirective;"⟩ : MethodName)) hown (mvT hZ (hw _ (List.mem_of_getElem? (i := 12) rfl))) (mvT hZ (hw _ (List.mem_of_getElem? (i := 13) rfl))) (notFace_of_selects (args := #[]) (mvT hZ (hw _ (List.mem_of_getElem? (i := 15) rfl)))) (mvT hZ (hw _ (List.mem_of_getElem? (i := 15) rfl))) (mvT hZ (hw _ (List.mem_of_getElem? (i := 14) rfl))) (by decide) (backOf (W := 0) (rm3 l Z a0 hw [] x_RUNNING x_QUIET (0 : Int32) (1 : Int32) mr h0 n0 ZZ (F_x_RUNNING_ordinal.ext OLD.2) (F_x_QUIET_ordinal.ext OLD.2) (E_x_RUNNING.ext OLD.2) (E_x_QUIET.ext OLD.2) MIR) hZ (hw _ (List.mem_of_getElem? (i := 16) rfl)) (hw _ (List.mem_of_getElem? (i := 6) rfl)) (by decide) (by decide)) q18a q18c (g := (mkF m 40 #[.val (.int p0), .val (.int p1), .val (.int (0 : Int32)), .val (.int (1 : Int32)), .val (.ref x_RUNNING), .val (.ref x_QUIET), .val (.ref x_QUIET), .unset] [(.ref x_QUIET), (.ref x_RUNNING)])) rfl (by rw [hml]; rfl) (Steps.refl _) (argsL := [(.ref x_QUIET)]) (rest := []) (lenOf pd_3 rfl) rfl (by show 2 * 0 + _ ≤ _; exact Nat.le_of_eq rfl) (hb hby at_40) (fun _ _ => ⟨rfl, e17, (by decide : 0 + 0 ≤ _), (by decide : 0 + 0 ≤ _)⟩)
    dsimp only [Pt.U, Pt.locs, Pt.cells, Pt.slots] at X18 l18 y18 z18 st18 hQ18
    subst l18 y18 z18
    obtain ⟨rfl, N18q, e18⟩ := hQ18
    replace N0 := Fr.app N0 N18q
    refine gt st18 ?_
    show Go p e below s QQ room_1.cells room_1.slots (T18.setTop (mkF m 43 #[.val (.int p0), .val (.int p1), .val (.int (0 : Int32)), .val (.int (1 : Int32)), .val (.ref x_RUNNING), .val (.ref x_QUIET), .val (.ref x_QUIET), .unset] [(.ref x_QUIET)]))
    refine gs (fun t => XS.astore X18.here hx rfl (hb hby at_43) rfl rfl (l' := #[.val (.int p0), .val (.int p1), .val (.int (0 : Int32)), .val (.int (1 : Int32)), .val (.ref x_RUNNING), .val (.ref x_QUIET), .val (.ref x_QUIET), .val (.ref x_QUIET)]) rfl) ?_
    show Go p e below s QQ room_1.cells room_1.slots (T18.setTop (mkF m 45 #[.val (.int p0), .val (.int p1), .val (.int (0 : Int32)), .val (.int (1 : Int32)), .val (.ref x_RUNNING), .val (.ref x_QUIET), .val (.ref x_QUIET), .val (.ref x_QUIET)] []))
    refine gs (fun t => XS.aload X18.here hx rfl (hb hby at_45) rfl rfl) ?_
    show Go p e below s QQ room_1.cells room_1.slots (T18.setTop (mkF m 47 #[.val (.int p0), .val (.int p1), .val (.int (0 : Int32)), .val (.int (1 : Int32)), .val (.ref x_RUNNING), .val (.ref x_QUIET), .val (.ref x_QUIET), .val (.ref x_QUIET)] [(.ref x_QUIET)]))
    refine gs (fun t => XS.aload X18.here hx rfl (hb hby at_47) rfl rfl) ?_
    show Go p e below s QQ room_1.cells room_1.slots (T18.setTop (mkF m 49 #[.val (.int p0), .val (.int p1), .val (.int (0 : Int32)), .val (.int (1 : Int32)), .val (.ref x_RUNNING), .val (.ref x_QUIET), .val (.ref x_QUIET), .val (.ref x_QUIET)] [(.ref x_QUIET), (.ref x_QUIET)]))
    refine gs (fun t => Jvm.RoadKit.acmp (g := (mkF m 49 #[.val (.int p0), .val (.int p1), .val (.int (0 : Int32)), .val (.int (1 : Int32)), .val (.ref x_RUNNING), .val (.ref x_QUIET), .val (.ref x_QUIET), .val (.ref x_QUIET)] [(.ref x_QUIET), (.ref x_QUIET)])) X18 hx rfl rfl rfl (pc0 := 49) (pc' := 52) (same := true) rfl (hb hby at_49) rfl (decide_eq_true rfl) (by decide) (by decide)) ?_
    show Go p e below s QQ room_1.cells room_1.slots (T18.setTop (mkF m 52 #[.val (.int p0), .val (.int p1), .val (.int (0 : Int32)), .val (.int (1 : Int32)), .val (.ref x_RUNNING), .val (.ref x_QUIET), .val (.ref x_QUIET), .val (.ref x_QUIET)] []))
    refine gs (fun t => XS.iconst X18.here hx rfl (hb hby at_52)) ?_
    show Go p e below s QQ room_1.cells room_1.slots (T18.setTop (mkF m 53 #[.val (.int p0), .val (.int p1), .val (.int (0 : Int32)), .val (.int (1 : Int32)), .val (.ref x_RUNNING), .val (.ref x_QUIET), .val (.ref x_QUIET), .val (.ref x_QUIET)] [(.int (1 : Int32))]))
    refine gs (fun t => XS.goto X18.here hx rfl (pc0 := 53) (pc' := 57) rfl (hb hby at_53) (by decide) (by decide)) ?_
    show Go p e below s QQ room_1.cells room_1.slots (T18.setTop (mkF m 57 #[.val (.int p0), .val (.int p1), .val (.int (0 : Int32)), .val (.int (1 : Int32)), .val (.ref x_RUNNING), .val (.ref x_QUIET), .val (.ref x_QUIET), .val (.ref x_QUIET)] [(.int (1 : Int32))]))
    exact goB X18 hx Bd.notSynchronized Bd.returns (by simp) (w := (1 : Int32)) (by first | rfl | decide) (hb hby at_57) (by rw [← hQQ, e18]; exact ⟨rfl, N0⟩) (by decide) (by decide)
  · skip
    show Go p e below s QQ room_1.cells room_1.slots (s₁.setTop (mkF m 15 #[.val (.int p0), .val (.int p1), .val (.int (0 : Int32)), .val (.int (2 : Int32)), .unset, .unset, .unset, .unset] [(.int (0 : Int32))]))
    obtain ⟨_, _, ⟨T19, L19, k19, n19⟩, -, X19, ⟨Lc19, hQ19, l19, y19, z19⟩, st19⟩ := Jvm.LawKit.callS X0 hx (y := (⟨"com/example/shrike/shrike/job/WorkerDirectiveOrStrongerPinLaw", "pick", "(I)Lcom/example/shrike/shrike/job/WorkerDirective;"⟩ : MethodName)) hown (mvT hZ (hw _ (List.mem_of_getElem? (i := 1) rfl))) (mvT hZ (hw _ (List.mem_of_getElem? (i := 2) rfl))) (mvT hZ (hw _ (List.mem_of_getElem? (i := 3) rfl))) (mvT hZ (hw _ (List.mem_of_getElem? (i := 4) rfl))) (by decide) (backOf (W := 0) (rm1 l Z a0 hw [] (0 : Int32) x_RUNNING x_QUIET x_TERMINATE h0 n0 ZZ OLD S_x_RUNNING S_x_QUIET S_x_TERMINATE) hZ (hw _ (List.mem_of_getElem? (i := 4) rfl)) (hw _ (List.mem_of_getElem? (i := 3) rfl)) (by decide) (by decide)) (g := (mkF m 15 #[.val (.int p0), .val (.int p1), .val (.int (0 : Int32)), .val (.int (2 : Int32)), .unset, .unset, .unset, .unset] [(.int (0 : Int32))])) rfl (by rw [hml]; rfl) (argsL := [(.int (0 : Int32))]) (rest := []) (lenOf pd_1 rfl) rfl (by show 2 * 0 + _ ≤ _; exact Nat.le_of_eq rfl) (hb hby at_15) (fun _ _ => ⟨rfl, e0, (by decide : 0 + 0 ≤ _), (by decide : 0 + 0 ≤ _)⟩)
    dsimp only [Pt.U, Pt.locs, Pt.cells, Pt.slots] at X19 l19 y19 z19 st19 hQ19
    subst l19 y19 z19
    obtain ⟨rfl, N19q, e19⟩ := hQ19
    replace N0 := Fr.app N0 N19q
    refine gs st19 ?_
    show Go p e below s QQ room_1.cells room_1.slots (T19.setTop (mkF m 18 #[.val (.int p0), .val (.int p1), .val (.int (0 : Int32)), .val (.int (2 : Int32)), .unset, .unset, .unset, .unset] [(.ref x_RUNNING)]))
    refine gs (fun t => XS.astore X19.here hx rfl (hb hby at_18) rfl rfl (l' := #[.val (.int p0), .val (.int p1), .val (.int (0 : Int32)), .val (.int (2 : Int32)), .val (.ref x_RUNNING), .unset, .unset, .unset]) rfl) ?_
    show Go p e below s QQ room_1.cells room_1.slots (T19.setTop (mkF m 20 #[.val (.int p0), .val (.int p1), .val (.int (0 : Int32)), .val (.int (2 : Int32)), .val (.ref x_RUNNING), .unset, .unset, .unset] []))
    refine gs (fun t => XS.iloadN X19.here hx rfl (hb hby at_20) rfl) ?_
    show Go p e below s QQ room_1.cells room_1.slots (T19.setTop (mkF m 21 #[.val (.int p0), .val (.int p1), .val (.int (0 : Int32)), .val (.int (2 : Int32)), .val (.ref x_RUNNING), .unset, .unset, .unset] [(.int (2 : Int32))]))
    obtain ⟨_, _, ⟨T20, L20, k20, n20⟩, -, X20, ⟨Lc20, hQ20, l20, y20, z20⟩, st20⟩ := Jvm.LawKit.callS X19 hx (y := (⟨"com/example/shrike/shrike/job/WorkerDirectiveOrStrongerPinLaw", "pick", "(I)Lcom/example/shrike/shrike/job/WorkerDirective;"⟩ : MethodName)) hown (mvT hZ (hw _ (List.mem_of_getElem? (i := 1) rfl))) (mvT hZ (hw _ (List.mem_of_getElem? (i := 2) rfl))) (mvT hZ (hw _ (List.mem_of_getElem? (i := 3) rfl))) (mvT hZ (hw _ (List.mem_of_getElem? (i := 4) rfl))) (by decide) (backOf (W := 0) (rm1 l Z a0 hw [] (2 : Int32) x_RUNNING x_QUIET x_TERMINATE h0 n0 ZZ OLD S_x_RUNNING S_x_QUIET S_x_TERMINATE) hZ (hw _ (List.mem_of_getElem? (i := 4) rfl)) (hw _ (List.mem_of_getElem? (i := 3) rfl)) (by decide) (by decide)) (g := (mkF m 21 #[.val (.int p0), .val (.int p1), .val (.int (0 : Int32)), .val (.int (2 : Int32)), .val (.ref x_RUNNING), .unset, .unset, .unset] [(.int (2 : Int32))])) rfl (by rw [hml]; rfl) (argsL := [(.int (2 : Int32))]) (rest := []) (lenOf pd_1 rfl) rfl (by show 2 * 0 + _ ≤ _; exact Nat.le_of_eq rfl) (hb hby at_21) (fun _ _ => ⟨rfl, e19, (by decide : 0 + 0 ≤ _), (by decide : 0 + 0 ≤ _)⟩)
    dsimp only [Pt.U, Pt.locs, Pt.cells, Pt.slots] at X20 l20 y20 z20 st20 hQ20
    subst l20 y20 z20
    obtain ⟨rfl, N20q, e20⟩ := hQ20
    replace N0 := Fr.app N0 N20q
    refine gs st20 ?_
    show Go p e below s QQ room_1.cells room_1.slots (T20.setTop (mkF m 24 #[.val (.int p0), .val (.int p1), .val (.int (0 : Int32)), .val (.int (2 : Int32)), .val (.ref x_RUNNING), .unset, .unset, .unset] [(.ref x_TERMINATE)]))
    refine gs (fun t => XS.astore X20.here hx rfl (hb hby at_24) rfl rfl (l' := #[.val (.int p0), .val (.int p1), .val (.int (0 : Int32)), .val (.int (2 : Int32)), .val (.ref x_RUNNING), .val (.ref x_TERMINATE), .unset, .unset]) rfl) ?_
    show Go p e below s QQ room_1.cells room_1.slots (T20.setTop (mkF m 26 #[.val (.int p0), .val (.int p1), .val (.int (0 : Int32)), .val (.int (2 : Int32)), .val (.ref x_RUNNING), .val (.ref x_TERMINATE), .unset, .unset] []))
    refine gs (fun t => XS.iloadN X20.here hx rfl (hb hby at_26) rfl) ?_
    show Go p e below s QQ room_1.cells room_1.slots (T20.setTop (mkF m 27 #[.val (.int p0), .val (.int p1), .val (.int (0 : Int32)), .val (.int (2 : Int32)), .val (.ref x_RUNNING), .val (.ref x_TERMINATE), .unset, .unset] [(.int (0 : Int32))]))
    refine gs (fun t => XS.iloadN X20.here hx rfl (hb hby at_27) rfl) ?_
    show Go p e below s QQ room_1.cells room_1.slots (T20.setTop (mkF m 28 #[.val (.int p0), .val (.int p1), .val (.int (0 : Int32)), .val (.int (2 : Int32)), .val (.ref x_RUNNING), .val (.ref x_TERMINATE), .unset, .unset] [(.int (2 : Int32)), (.int (0 : Int32))]))
    obtain ⟨_, _, ⟨T21, L21, k21, n21⟩, -, X21, ⟨Lc21, hQ21, l21, y21, z21⟩, st21⟩ := Jvm.LawKit.callS X20 hx (y := (⟨"java/lang/Math", "max", "(II)I"⟩ : MethodName)) hown (mvT hZ (hw _ (List.mem_of_getElem? (i := 8) rfl))) (mvT hZ (hw _ (List.mem_of_getElem? (i := 9) rfl))) (mvT hZ (hw _ (List.mem_of_getElem? (i := 10) rfl))) (mvT hZ (hw _ (List.mem_of_getElem? (i := 11) rfl))) (by decide) (backOf (W := 0) (rm2 l Z a0 hw [] (0 : Int32) (2 : Int32) h0 n0 ZZ ) hZ (hw _ (List.mem_of_getElem? (i := 11) rfl)) (hw _ (List.mem_of_getElem? (i := 10) rfl)) (by decide) (by decide)) (g := (mkF m 28 #[.val (.int p0), .val (.int p1), .val (.int (0 : Int32)), .val (.int (2 : Int32)), .val (.ref x_RUNNING), .val (.ref x_TERMINATE), .unset, .unset] [(.int (2 : Int32)), (.int (0 : Int32))])) rfl (by rw [hml]; rfl) (argsL := [(.int (0 : Int32)), (.int (2 : Int32))]) (rest := []) (lenOf pd_2 rfl) rfl (by show 2 * 0 + _ ≤ _; exact Nat.le_of_eq rfl) (hb hby at_28) (fun _ _ => ⟨rfl, e20, (by decide : 0 + 0 ≤ _), (by decide : 0 + 0 ≤ _)⟩)
    dsimp only [Pt.U, Pt.locs, Pt.cells, Pt.slots] at X21 l21 y21 z21 st21 hQ21
    subst l21 y21 z21
    obtain ⟨rfl, N21q, e21⟩ := hQ21
    replace N0 := Fr.app N0 N21q
    refine gs st21 ?_
    show Go p e below s QQ room_1.cells room_1.slots (T21.setTop (mkF m 31 #[.val (.int p0), .val (.int p1), .val (.int (0 : Int32)), .val (.int (2 : Int32)), .val (.ref x_RUNNING), .val (.ref x_TERMINATE), .unset, .unset] [(.int (2 : Int32))]))
    obtain ⟨_, _, ⟨T22, L22, k22, n22⟩, -, X22, ⟨Lc22, hQ22, l22, y22, z22⟩, st22⟩ := Jvm.LawKit.callS X21 hx (y := (⟨"com/example/shrike/shrike/job/WorkerDirectiveOrStrongerPinLaw", "pick", "(I)Lcom/example/shrike/shrike/job/WorkerDirective;"⟩ : MethodName)) hown (mvT hZ (hw _ (List.mem_of_getElem? (i := 1) rfl))) (mvT hZ (hw _ (List.mem_of_getElem? (i := 2) rfl))) (mvT hZ (hw _ (List.mem_of_getElem? (i := 3) rfl))) (mvT hZ (hw _ (List.mem_of_getElem? (i := 4) rfl))) (by decide) (backOf (W := 0) (rm1 l Z a0 hw [] (2 : Int32) x_RUNNING x_QUIET x_TERMINATE h0 n0 ZZ OLD S_x_RUNNING S_x_QUIET S_x_TERMINATE) hZ (hw _ (List.mem_of_getElem? (i := 4) rfl)) (hw _ (List.mem_of_getElem? (i := 3) rfl)) (by decide) (by decide)) (g := (mkF m 31 #[.val (.int p0), .val (.int p1), .val (.int (0 : Int32)), .val (.int (2 : Int32)), .val (.ref x_RUNNING), .val (.ref x_TERMINATE), .unset, .unset] [(.int (2 : Int32))])) rfl (by rw [hml]; rfl) (argsL := [(.int (2 : Int32))]) (rest := []) (lenOf pd_1 rfl) rfl (by show 2 * 0 + _ ≤ _; exact Nat.le_of_eq rfl) (hb hby at_31) (fun _ _ => ⟨rfl, e21, (by decide : 0 + 0 ≤ _), (by decide : 0 + 0 ≤ _)⟩)
    dsimp only [Pt.U, Pt.locs, Pt.cells, Pt.slots] at X22 l22 y22 z22 st22 hQ22
    subst l22 y22 z22
    obtain ⟨rfl, N22q, e22⟩ := hQ22
    replace N0 := Fr.app N0 N22q
    refine gs st22 ?_
    show Go p e below s QQ room_1.cells room_1.slots (T22.setTop (mkF m 34 #[.val (.int p0), .val (.int p1), .val (.int (0 : Int32)), .val (.int (2 : Int32)), .val (.ref x_RUNNING), .val (.ref x_TERMINATE), .unset, .unset] [(.ref x_TERMINATE)]))
    refine gs (fun t => XS.astore X22.here hx rfl (hb hby at_34) rfl rfl (l' := #[.val (.int p0), .val (.int p1), .val (.int (0 : Int32)), .val (.int (2 : Int32)), .val (.ref x_RUNNING), .val (.ref x_TERMINATE), .val (.ref x_TERMINATE), .unset]) rfl) ?_
    show Go p e below s QQ room_1.cells room_1.slots (T22.setTop (mkF m 36 #[.val (.int p0), .val (.int p1), .val (.int (0 : Int32)), .val (.int (2 : Int32)), .val (.ref x_RUNNING), .val (.ref x_TERMINATE), .val (.ref x_TERMINATE), .unset] []))
    refine gs (fun t => XS.aload X22.here hx rfl (hb hby at_36) rfl rfl) ?_
    show Go p e below s QQ room_1.cells room_1.slots (T22.setTop (mkF m 38 #[.val (.int p0), .val (.int p1), .val (.int (0 : Int32)), .val (.int (2 : Int32)), .val (.ref x_RUNNING), .val (.ref x_TERMINATE), .val (.ref x_TERMINATE), .unset] [(.ref x_RUNNING)]))
    refine gs (fun t => XS.aload X22.here hx rfl (hb hby at_38) rfl rfl) ?_
    show Go p e below s QQ room_1.cells room_1.slots (T22.setTop (mkF m 40 #[.val (.int p0), .val (.int p1), .val (.int (0 : Int32)), .val (.int (2 : Int32)), .val (.ref x_RUNNING), .val (.ref x_TERMINATE), .val (.ref x_TERMINATE), .unset] [(.ref x_TERMINATE), (.ref x_RUNNING)]))
    obtain ⟨cq23, kq23, q23a, q23b, q23c⟩ := isOf hZ e22 (E_x_RUNNING.ext OLD.2)
    obtain ⟨_, _, ⟨T23, L23, k23, n23⟩, -, X23, ⟨Lc23, hQ23, l23, y23, z23⟩, st23⟩ := X22.virtualBack hx (y := (⟨"com/example/shrike/shrike/job/WorkerDirective", "orStronger", "(Lcom/example/shrike/shrike/job/WorkerDirective;)Lcom/example/shrike/shrike/job/WorkerDirective;"⟩ : MethodName)) (z := (⟨"com/example/shrike/shrike/job/WorkerDirective", "orStronger", "(Lcom/example/shrike/shrike/job/WorkerDirective;)Lcom/example/shrike/shrike/job/WorkerDirective;"⟩ : MethodName)) hown (mvT hZ (hw _ (List.mem_of_getElem? (i := 12) rfl))) (mvT hZ (hw _ (List.mem_of_getElem? (i := 13) rfl))) (notFace_of_selects (args := #[]) (mvT hZ (hw _ (List.mem_of_getElem? (i := 15) rfl)))) (mvT hZ (hw _ (List.mem_of_getElem? (i := 15) rfl))) (mvT hZ (hw _ (List.mem_of_getElem? (i := 14) rfl))) (by decide) (backOf (W := 0) (rm3 l Z a0 hw [] x_RUNNING x_TERMINATE (0 : Int32) (2 : Int32) mr h0 n0 ZZ (F_x_RUNNING_ordinal.ext OLD.2) (F_x_TERMINATE_ordinal.ext OLD.2) (E_x_RUNNING.ext OLD.2) (E_x_TERMINATE.ext OLD.2) MIR) hZ (hw _ (List.mem_of_getElem? (i := 16) rfl)) (hw _ (List.mem_of_getElem? (i := 6) rfl)) (by decide) (by decide)) q23a q23c (g := (mkF m 40 #[.val (.int p0), .val (.int p1), .val (.int (0 : Int32)), .val (.int (2 : Int32)), .val (.ref x_RUNNING), .val (.ref x_TERMINATE), .val (.ref x_TERMINATE), .unset] [(.ref x_TERMINATE), (.ref x_RUNNING)])) rfl (by rw [hml]; rfl) (Steps.refl _) (argsL := [(.ref x_TERMINATE)]) (rest := []) (lenOf pd_3 rfl) rfl (by show 2 * 0 + _ ≤ _; exact Nat.le_of_eq rfl) (hb hby at_40) (fun _ _ => ⟨rfl, e22, (by decide : 0 + 0 ≤ _), (by decide : 0 + 0 ≤ _)⟩)
    dsimp only [Pt.U, Pt.locs, Pt.cells, Pt.slots] at X23 l23 y23 z23 st23 hQ23
    subst l23 y23 z23
    obtain ⟨rfl, N23q, e23⟩ := hQ23
    replace N0 := Fr.app N0 N23q
    refine gt st23 ?_
    show Go p e below s QQ room_1.cells room_1.slots (T23.setTop (mkF m 43 #[.val (.int p0), .val (.int p1), .val (.int (0 : Int32)), .val (.int (2 : Int32)), .val (.ref x_RUNNING), .val (.ref x_TERMINATE), .val (.ref x_TERMINATE), .unset] [(.ref x_TERMINATE)]))
    refine gs (fun t => XS.astore X23.here hx rfl (hb hby at_43) rfl rfl (l' := #[.val (.int p0), .val (.int p1), .val (.int (0 : Int32)), .val (.int (2 : Int32)), .val (.ref x_RUNNING), .val (.ref x_TERMINATE), .val (.ref x_TERMINATE), .val (.ref x_TERMINATE)]) rfl) ?_
    show Go p e below s QQ room_1.cells room_1.slots (T23.setTop (mkF m 45 #[.val (.int p0), .val (.int p1), .val (.int (0 : Int32)), .val (.int (2 : Int32)), .val (.ref x_RUNNING), .val (.ref x_TERMINATE), .val (.ref x_TERMINATE), .val (.ref x_TERMINATE)] []))
    refine gs (fun t => XS.aload X23.here hx rfl (hb hby at_45) rfl rfl) ?_
    show Go p e below s QQ room_1.cells room_1.slots (T23.setTop (mkF m 47 #[.val (.int p0), .val (.int p1), .val (.int (0 : Int32)), .val (.int (2 : Int32)), .val (.ref x_RUNNING), .val (.ref x_TERMINATE), .val (.ref x_TERMINATE), .val (.ref x_TERMINATE)] [(.ref x_TERMINATE)]))
    refine gs (fun t => XS.aload X23.here hx rfl (hb hby at_47) rfl rfl) ?_
    show Go p e below s QQ room_1.cells room_1.slots (T23.setTop (mkF m 49 #[.val (.int p0), .val (.int p1), .val (.int (0 : Int32)), .val (.int (2 : Int32)), .val (.ref x_RUNNING), .val (.ref x_TERMINATE), .val (.ref x_TERMINATE), .val (.ref x_TERMINATE)] [(.ref x_TERMINATE), (.ref x_TERMINATE)]))
    refine gs (fun t => Jvm.RoadKit.acmp (g := (mkF m 49 #[.val (.int p0), .val (.int p1), .val (.int (0 : Int32)), .val (.int (2 : Int32)), .val (.ref x_RUNNING), .val (.ref x_TERMINATE), .val (.ref x_TERMINATE), .val (.ref x_TERMINATE)] [(.ref x_TERMINATE), (.ref x_TERMINATE)])) X23 hx rfl rfl rfl (pc0 := 49) (pc' := 52) (same := true) rfl (hb hby at_49) rfl (decide_eq_true rfl) (by decide) (by decide)) ?_
    show Go p e below s QQ room_1.cells room_1.slots (T23.setTop (mkF m 52 #[.val (.int p0), .val (.int p1), .val (.int (0 : Int32)), .val (.int (2 : Int32)), .val (.ref x_RUNNING), .val (.ref x_TERMINATE), .val (.ref x_TERMINATE), .val (.ref x_TERMINATE)] []))
    refine gs (fun t => XS.iconst X23.here hx rfl (hb hby at_52)) ?_
    show Go p e below s QQ room_1.cells room_1.slots (T23.setTop (mkF m 53 #[.val (.int p0), .val (.int p1), .val (.int (0 : Int32)), .val (.int (2 : Int32)), .val (.ref x_RUNNING), .val (.ref x_TERMINATE), .val (.ref x_TERMINATE), .val (.ref x_TERMINATE)] [(.int (1 : Int32))]))
    refine gs (fun t => XS.goto X23.here hx rfl (pc0 := 53) (pc' := 57) rfl (hb hby at_53) (by decide) (by decide)) ?_
    show Go p e below s QQ room_1.cells room_1.slots (T23.setTop (mkF m 57 #[.val (.int p0), .val (.int p1), .val (.int (0 : Int32)), .val (.int (2 : Int32)), .val (.ref x_RUNNING), .val (.ref x_TERMINATE), .val (.ref x_TERMINATE), .val (.ref x_TERMINATE)] [(.int (1 : Int32))]))
    exact goB X23 hx Bd.notSynchronized Bd.returns (by simp) (w := (1 : Int32)) (by first | rfl | decide) (hb hby at_57) (by rw [← hQQ, e23]; exact ⟨rfl, N0⟩) (by decide) (by decide)
  · skip
    show Go p e below s QQ room_1.cells room_1.slots (s₁.setTop (mkF m 15 #[.val (.int p0), .val (.int p1), .val (.int (1 : Int32)), .val (.int (0 : Int32)), .unset, .unset, .unset, .unset] [(.int (1 : Int32))]))
    obtain ⟨_, _, ⟨T24, L24, k24, n24⟩, -, X24, ⟨Lc24, hQ24, l24, y24, z24⟩, st24⟩ := Jvm.LawKit.callS X0 hx (y := (⟨"com/example/shrike/shrike/job/WorkerDirectiveOrStrongerPinLaw", "pick", "(I)Lcom/example/shrike/shrike/job/WorkerDirective;"⟩ : MethodName)) hown (mvT hZ (hw _ (List.mem_of_getElem? (i := 1) rfl))) (mvT hZ (hw _ (List.mem_of_getElem? (i := 2) rfl))) (mvT hZ (hw _ (List.mem_of_getElem? (i := 3) rfl))) (mvT hZ (hw _ (List.mem_of_getElem? (i := 4) rfl))) (by decide) (backOf (W := 0) (rm1 l Z a0 hw [] (1 : Int32) x_RUNNING x_QUIET x_TERMINATE h0 n0 ZZ OLD S_x_RUNNING S_x_QUIET S_x_TERMINATE) hZ (hw _ (List.mem_of_getElem? (i := 4) rfl)) (hw _ (List.mem_of_getElem? (i := 3) rfl)) (by decide) (by decide)) (g := (mkF m 15 #[.val (.int p0), .val (.int p1), .val (.int (1 : Int32)), .val (.int (0 : Int32)), .unset, .unset, .unset, .unset] [(.int (1 : Int32))])) rfl (by rw [hml]; rfl) (argsL := [(.int (1 : Int32))]) (rest := []) (lenOf pd_1 rfl) rfl (by show 2 * 0 + _ ≤ _; exact Nat.le_of_eq rfl) (hb hby at_15) (fun _ _ => ⟨rfl, e0, (by decide : 0 + 0 ≤ _), (by decide : 0 + 0 ≤ _)⟩)
    dsimp only [Pt.U, Pt.locs, Pt.cells, Pt.slots] at X24 l24 y24 z24 st24 hQ24
    subst l24 y24 z24
    obtain ⟨rfl, N24q, e24⟩ := hQ24
    replace N0 := Fr.app N0 N24q
    refine gs st24 ?_
    show Go p e below s QQ room_1.cells room_1.slots (T24.setTop (mkF m 18 #[.val (.int p0), .val (.int p1), .val (.int (1 : Int32)), .val (.int (0 : Int32)), .unset, .unset, .unset, .unset] [(.ref x_QUIET)]))
    refine gs (fun t => XS.astore X24.here hx rfl (hb hby at_18) rfl rfl (l' := #[.val (.int p0), .val (.int p1), .val (.int (1 : Int32)), .val (.int (0 : Int32)), .val (.ref x_QUIET), .unset, .unset, .unset]) rfl) ?_
    show Go p e below s QQ room_1.cells room_1.slots (T24.setTop (mkF m 20 #[.val (.int p0), .val (.int p1), .val (.int (1 : Int32)), .val (.int (0 : Int32)), .val (.ref x_QUIET), .unset, .unset, .unset] []))
    refine gs (fun t => XS.iloadN X24.here hx rfl (hb hby at_20) rfl) ?_
    show Go p e below s QQ room_1.cells room_1.slots (T24.setTop (mkF m 21 #[.val (.int p0), .val (.int p1), .val (.int (1 : Int32)), .val (.int (0 : Int32)), .val (.ref x_QUIET), .unset, .unset, .unset] [(.int (0 : Int32))]))
    obtain ⟨_, _, ⟨T25, L25, k25, n25⟩, -, X25, ⟨Lc25, hQ25, l25, y25, z25⟩, st25⟩ := Jvm.LawKit.callS X24 hx (y := (⟨"com/example/shrike/shrike/job/WorkerDirectiveOrStrongerPinLaw", "pick", "(I)Lcom/example/shrike/shrike/job/WorkerDirective;"⟩ : MethodName)) hown (mvT hZ (hw _ (List.mem_of_getElem? (i := 1) rfl))) (mvT hZ (hw _ (List.mem_of_getElem? (i := 2) rfl))) (mvT hZ (hw _ (List.mem_of_getElem? (i := 3) rfl))) (mvT hZ (hw _ (List.mem_of_getElem? (i := 4) rfl))) (by decide) (backOf (W := 0) (rm1 l Z a0 hw [] (0 : Int32) x_RUNNING x_QUIET x_TERMINATE h0 n0 ZZ OLD S_x_RUNNING S_x_QUIET S_x_TERMINATE) hZ (hw _ (List.mem_of_getElem? (i := 4) rfl)) (hw _ (List.mem_of_getElem? (i := 3) rfl)) (by decide) (by decide)) (g := (mkF m 21 #[.val (.int p0), .val (.int p1), .val (.int (1 : Int32)), .val (.int (0 : Int32)), .val (.ref x_QUIET), .unset, .unset, .unset] [(.int (0 : Int32))])) rfl (by rw [hml]; rfl) (argsL := [(.int (0 : Int32))]) (rest := []) (lenOf pd_1 rfl) rfl (by show 2 * 0 + _ ≤ _; exact Nat.le_of_eq rfl) (hb hby at_21) (fun _ _ => ⟨rfl, e24, (by decide : 0 + 0 ≤ _), (by decide : 0 + 0 ≤ _)⟩)
    dsimp only [Pt.U, Pt.locs, Pt.cells, Pt.slots] at X25 l25 y25 z25 st25 hQ25
    subst l25 y25 z25
    obtain ⟨rfl, N25q, e25⟩ := hQ25
    replace N0 := Fr.app N0 N25q
    refine gs st25 ?_
    show Go p e below s QQ room_1.cells room_1.slots (T25.setTop (mkF m 24 #[.val (.int p0), .val (.int p1), .val (.int (1 : Int32)), .val (.int (0 : Int32)), .val (.ref x_QUIET), .unset, .unset, .unset] [(.ref x_RUNNING)]))
    refine gs (fun t => XS.astore X25.here hx rfl (hb hby at_24) rfl rfl (l' := #[.val (.int p0), .val (.int p1), .val (.int (1 : Int32)), .val (.int (0 : Int32)), .val (.ref x_QUIET), .val (.ref x_RUNNING), .unset, .unset]) rfl) ?_
    show Go p e below s QQ room_1.cells room_1.slots (T25.setTop (mkF m 26 #[.val (.int p0), .val (.int p1), .val (.int (1 : Int32)), .val (.int (0 : Int32)), .val (.ref x_QUIET), .val (.ref x_RUNNING), .unset, .unset] []))
    refine gs (fun t => XS.iloadN X25.here hx rfl (hb hby at_26) rfl) ?_
    show Go p e below s QQ room_1.cells room_1.slots (T25.setTop (mkF m 27 #[.val (.int p0), .val (.int p1), .val (.int (1 : Int32)), .val (.int (0 : Int32)), .val (.ref x_QUIET), .val (.ref x_RUNNING), .unset, .unset] [(.int (1 : Int32))]))
    refine gs (fun t => XS.iloadN X25.here hx rfl (hb hby at_27) rfl) ?_
    show Go p e below s QQ room_1.cells room_1.slots (T25.setTop (mkF m 28 #[.val (.int p0), .val (.int p1), .val (.int (1 : Int32)), .val (.int (0 : Int32)), .val (.ref x_QUIET), .val (.ref x_RUNNING), .unset, .unset] [(.int (0 : Int32)), (.int (1 : Int32))]))
    obtain ⟨_, _, ⟨T26, L26, k26, n26⟩, -, X26, ⟨Lc26, hQ26, l26, y26, z26⟩, st26⟩ := Jvm.LawKit.callS X25 hx (y := (⟨"java/lang/Math", "max", "(II)I"⟩ : MethodName)) hown (mvT hZ (hw _ (List.mem_of_getElem? (i := 8) rfl))) (mvT hZ (hw _ (List.mem_of_getElem? (i := 9) rfl))) (mvT hZ (hw _ (List.mem_of_getElem? (i := 10) rfl))) (mvT hZ (hw _ (List.mem_of_getElem? (i := 11) rfl))) (by decide) (backOf (W := 0) (rm2 l Z a0 hw [] (1 : Int32) (0 : Int32) h0 n0 ZZ ) hZ (hw _ (List.mem_of_getElem? (i := 11) rfl)) (hw _ (List.mem_of_getElem? (i := 10) rfl)) (by decide) (by decide)) (g := (mkF m 28 #[.val (.int p0), .val (.int p1), .val (.int (1 : Int32)), .val (.int (0 : Int32)), .val (.ref x_QUIET), .val (.ref x_RUNNING), .unset, .unset] [(.int (0 : Int32)), (.int (1 : Int32))])) rfl (by rw [hml]; rfl) (argsL := [(.int (1 : Int32)), (.int (0 : Int32))]) (rest := []) (lenOf pd_2 rfl) rfl (by show 2 * 0 + _ ≤ _; exact Nat.le_of_eq rfl) (hb hby at_28) (fun _ _ => ⟨rfl, e25, (by decide : 0 + 0 ≤ _), (by decide : 0 + 0 ≤ _)⟩)
    dsimp only [Pt.U, Pt.locs, Pt.cells, Pt.slots] at X26 l26 y26 z26 st26 hQ26
    subst l26 y26 z26
    obtain ⟨rfl, N26q, e26⟩ := hQ26
    replace N0 := Fr.app N0 N26q
    refine gs st26 ?_
    show Go p e below s QQ room_1.cells room_1.slots (T26.setTop (mkF m 31 #[.val (.int p0), .val (.int p1), .val (.int (1 : Int32)), .val (.int (0 : Int32)), .val (.ref x_QUIET), .val (.ref x_RUNNING), .unset, .unset] [(.int (1 : Int32))]))
    obtain ⟨_, _, ⟨T27, L27, k27, n27⟩, -, X27, ⟨Lc27, hQ27, l27, y27, z27⟩, st27⟩ := Jvm.LawKit.callS X26 hx (y := (⟨"com/example/shrike/shrike/job/WorkerDirectiveOrStrongerPinLaw", "pick", "(I)Lcom/example/shrike/shrike/job/WorkerDirective;"⟩ : MethodName)) hown (mvT hZ (hw _ (List.mem_of_getElem? (i := 1) rfl))) (mvT hZ (hw _ (List.mem_of_getElem? (i := 2) rfl))) (mvT hZ (hw _ (List.mem_of_getElem? (i := 3) rfl))) (mvT hZ (hw _ (List.mem_of_getElem? (i := 4) rfl))) (by decide) (backOf (W := 0) (rm1 l Z a0 hw [] (1 : Int32) x_RUNNING x_QUIET x_TERMINATE h0 n0 ZZ OLD S_x_RUNNING S_x_QUIET S_x_TERMINATE) hZ (hw _ (List.mem_of_getElem? (i := 4) rfl)) (hw _ (List.mem_of_getElem? (i := 3) rfl)) (by decide) (by decide)) (g := (mkF m 31 #[.val (.int p0), .val (.int p1), .val (.int (1 : Int32)), .val (.int (0 : Int32)), .val (.ref x_QUIET), .val (.ref x_RUNNING), .unset, .unset] [(.int (1 : Int32))])) rfl (by rw [hml]; rfl) (argsL := [(.int (1 : Int32))]) (rest := []) (lenOf pd_1 rfl) rfl (by show 2 * 0 + _ ≤ _; exact Nat.le_of_eq rfl) (hb hby at_31) (fun _ _ => ⟨rfl, e26, (by decide : 0 + 0 ≤ _), (by decide : 0 + 0 ≤ _)⟩)
    dsimp only [Pt.U, Pt.locs, Pt.cells, Pt.slots] at X27 l27 y27 z27 st27 hQ27
    subst l27 y27 z27
    obtain ⟨rfl, N27q, e27⟩ := hQ27
    replace N0 := Fr.app N0 N27q
    refine gs st27 ?_
    show Go p e below s QQ room_1.cells room_1.slots (T27.setTop (mkF m 34 #[.val (.int p0), .val (.int p1), .val (.int (1 : Int32)), .val (.int (0 : Int32)), .val (.ref x_QUIET), .val (.ref x_RUNNING), .unset, .unset] [(.ref x_QUIET)]))
    refine gs (fun t => XS.astore X27.here hx rfl (hb hby at_34) rfl rfl (l' := #[.val (.int p0), .val (.int p1), .val (.int (1 : Int32)), .val (.int (0 : Int32)), .val (.ref x_QUIET), .val (.ref x_RUNNING), .val (.ref x_QUIET), .unset]) rfl) ?_
    show Go p e below s QQ room_1.cells room_1.slots (T27.setTop (mkF m 36 #[.val (.int p0), .val (.int p1), .val (.int (1 : Int32)), .val (.int (0 : Int32)), .val (.ref x_QUIET), .val (.ref x_RUNNING), .val (.ref x_QUIET), .unset] []))
    refine gs (fun t => XS.aload X27.here hx rfl (hb hby at_36) rfl rfl) ?_
    show Go p e below s QQ room_1.cells room_1.slots (T27.setTop (mkF m 38 #[.val (.int p0), .val (.int p1), .val (.int (1 : Int32)), .val (.int (0 : Int32)), .val (.ref x_QUIET), .val (.ref x_RUNNING), .val (.ref x_QUIET), .unset] [(.ref x_QUIET)]))
    refine gs (fun t => XS.aload X27.here hx rfl (hb hby at_38) rfl rfl) ?_
    show Go p e below s QQ room_1.cells room_1.slots (T27.setTop (mkF m 40 #[.val (.int p0), .val (.int p1), .val (.int (1 : Int32)), .val (.int (0 : Int32)), .val (.ref x_QUIET), .val (.ref x_RUNNING), .val (.ref x_QUIET), .unset] [(.ref x_RUNNING), (.ref x_QUIET)]))
    obtain ⟨cq28, kq28, q28a, q28b, q28c⟩ := isOf hZ e27 (E_x_QUIET.ext OLD.2)
    obtain ⟨_, _, ⟨T28, L28, k28, n28⟩, -, X28, ⟨Lc28, hQ28, l28, y28, z28⟩, st28⟩ := X27.virtualBack hx (y := (⟨"com/example/shrike/shrike/job/WorkerDirective", "orStronger", "(Lcom/example/shrike/shrike/job/WorkerDirective;)Lcom/example/shrike/shrike/job/WorkerDirective;"⟩ : MethodName)) (z := (⟨"com/example/shrike/shrike/job/WorkerDirective", "orStronger", "(Lcom/example/shrike/shrike/job/WorkerDirective;)Lcom/example/shrike/shrike/job/WorkerDirective;"⟩ : MethodName)) hown (mvT hZ (hw _ (List.mem_of_getElem? (i := 12) rfl))) (mvT hZ (hw _ (List.mem_of_getElem? (i := 13) rfl))) (notFace_of_selects (args := #[]) (mvT hZ (hw _ (List.mem_of_getElem? (i := 15) rfl)))) (mvT hZ (hw _ (List.mem_of_getElem? (i := 15) rfl))) (mvT hZ (hw _ (List.mem_of_getElem? (i := 14) rfl))) (by decide) (backOf (W := 0) (rm3 l Z a0 hw [] x_QUIET x_RUNNING (1 : Int32) (0 : Int32) mr h0 n0 ZZ (F_x_QUIET_ordinal.ext OLD.2) (F_x_RUNNING_ordinal.ext OLD.2) (E_x_QUIET.ext OLD.2) (E_x_RUNNING.ext OLD.2) MIR) hZ (hw _ (List.mem_of_getElem? (i := 16) rfl)) (hw _ (List.mem_of_getElem? (i := 6) rfl)) (by decide) (by decide)) q28a q28c (g := (mkF m 40 #[.val (.int p0), .val (.int p1), .val (.int (1 : Int32)), .val (.int (0 : Int32)), .val (.ref x_QUIET), .val (.ref x_RUNNING), .val (.ref x_QUIET), .unset] [(.ref x_RUNNING), (.ref x_QUIET)])) rfl (by rw [hml]; rfl) (Steps.refl _) (argsL := [(.ref x_RUNNING)]) (rest := []) (lenOf pd_3 rfl) rfl (by show 2 * 0 + _ ≤ _; exact Nat.le_of_eq rfl) (hb hby at_40) (fun _ _ => ⟨rfl, e27, (by decide : 0 + 0 ≤ _), (by decide : 0 + 0 ≤ _)⟩)
    dsimp only [Pt.U, Pt.locs, Pt.cells, Pt.slots] at X28 l28 y28 z28 st28 hQ28
    subst l28 y28 z28
    obtain ⟨rfl, N28q, e28⟩ := hQ28
    replace N0 := Fr.app N0 N28q
    refine gt st28 ?_
    show Go p e below s QQ room_1.cells room_1.slots (T28.setTop (mkF m 43 #[.val (.int p0), .val (.int p1), .val (.int (1 : Int32)), .val (.int (0 : Int32)), .val (.ref x_QUIET), .val (.ref x_RUNNING), .val (.ref x_QUIET), .unset] [(.ref x_QUIET)]))
    refine gs (fun t => XS.astore X28.here hx rfl (hb hby at_43) rfl rfl (l' := #[.val (.int p0), .val (.int p1), .val (.int (1 : Int32)), .val (.int (0 : Int32)), .val (.ref x_QUIET), .val (.ref x_RUNNING), .val (.ref x_QUIET), .val (.ref x_QUIET)]) rfl) ?_
    show Go p e below s QQ room_1.cells room_1.slots (T28.setTop (mkF m 45 #[.val (.int p0), .val (.int p1), .val (.int (1 : Int32)), .val (.int (0 : Int32)), .val (.ref x_QUIET), .val (.ref x_RUNNING), .val (.ref x_QUIET), .val (.ref x_QUIET)] []))
    refine gs (fun t => XS.aload X28.here hx rfl (hb hby at_45) rfl rfl) ?_
    show Go p e below s QQ room_1.cells room_1.slots (T28.setTop (mkF m 47 #[.val (.int p0), .val (.int p1), .val (.int (1 : Int32)), .val (.int (0 : Int32)), .val (.ref x_QUIET), .val (.ref x_RUNNING), .val (.ref x_QUIET), .val (.ref x_QUIET)] [(.ref x_QUIET)]))
    refine gs (fun t => XS.aload X28.here hx rfl (hb hby at_47) rfl rfl) ?_
    show Go p e below s QQ room_1.cells room_1.slots (T28.setTop (mkF m 49 #[.val (.int p0), .val (.int p1), .val (.int (1 : Int32)), .val (.int (0 : Int32)), .val (.ref x_QUIET), .val (.ref x_RUNNING), .val (.ref x_QUIET), .val (.ref x_QUIET)] [(.ref x_QUIET), (.ref x_QUIET)]))
    refine gs (fun t => Jvm.RoadKit.acmp (g := (mkF m 49 #[.val (.int p0), .val (.int p1), .val (.int (1 : Int32)), .val (.int (0 : Int32)), .val (.ref x_QUIET), .val (.ref x_RUNNING), .val (.ref x_QUIET), .val (.ref x_QUIET)] [(.ref x_QUIET), (.ref x_QUIET)])) X28 hx rfl rfl rfl (pc0 := 49) (pc' := 52) (same := true) rfl (hb hby at_49) rfl (decide_eq_true rfl) (by decide) (by decide)) ?_
    show Go p e below s QQ room_1.cells room_1.slots (T28.setTop (mkF m 52 #[.val (.int p0), .val (.int p1), .val (.int (1 : Int32)), .val (.int (0 : Int32)), .val (.ref x_QUIET), .val (.ref x_RUNNING), .val (.ref x_QUIET), .val (.ref x_QUIET)] []))
    refine gs (fun t => XS.iconst X28.here hx rfl (hb hby at_52)) ?_
    show Go p e below s QQ room_1.cells room_1.slots (T28.setTop (mkF m 53 #[.val (.int p0), .val (.int p1), .val (.int (1 : Int32)), .val (.int (0 : Int32)), .val (.ref x_QUIET), .val (.ref x_RUNNING), .val (.ref x_QUIET), .val (.ref x_QUIET)] [(.int (1 : Int32))]))
    refine gs (fun t => XS.goto X28.here hx rfl (pc0 := 53) (pc' := 57) rfl (hb hby at_53) (by decide) (by decide)) ?_
    show Go p e below s QQ room_1.cells room_1.slots (T28.setTop (mkF m 57 #[.val (.int p0), .val (.int p1), .val (.int (1 : Int32)), .val (.int (0 : Int32)), .val (.ref x_QUIET), .val (.ref x_RUNNING), .val (.ref x_QUIET), .val (.ref x_QUIET)] [(.int (1 : Int32))]))
    exact goB X28 hx Bd.notSynchronized Bd.returns (by simp) (w := (1 : Int32)) (by first | rfl | decide) (hb hby at_57) (by rw [← hQQ, e28]; exact ⟨rfl, N0⟩) (by decide) (by decide)
  · skip
    show Go p e below s QQ room_1.cells room_1.slots (s₁.setTop (mkF m 15 #[.val (.int p0), .val (.int p1), .val (.int (1 : Int32)), .val (.int (1 : Int32)), .unset, .unset, .unset, .unset] [(.int (1 : Int32))]))
    obtain ⟨_, _, ⟨T29, L29, k29, n29⟩, -, X29, ⟨Lc29, hQ29, l29, y29, z29⟩, st29⟩ := Jvm.LawKit.callS X0 hx (y := (⟨"com/example/shrike/shrike/job/WorkerDirectiveOrStrongerPinLaw", "pick", "(I)Lcom/example/shrike/shrike/job/WorkerDirective;"⟩ : MethodName)) hown (mvT hZ (hw _ (List.mem_of_getElem? (i := 1) rfl))) (mvT hZ (hw _ (List.mem_of_getElem? (i := 2) rfl))) (mvT hZ (hw _ (List.mem_of_getElem? (i := 3) rfl))) (mvT hZ (hw _ (List.mem_of_getElem? (i := 4) rfl))) (by decide) (backOf (W := 0) (rm1 l Z a0 hw [] (1 : Int32) x_RUNNING x_QUIET x_TERMINATE h0 n0 ZZ OLD S_x_RUNNING S_x_QUIET S_x_TERMINATE) hZ (hw _ (List.mem_of_getElem? (i := 4) rfl)) (hw _ (List.mem_of_getElem? (i := 3) rfl)) (by decide) (by decide)) (g := (mkF m 15 #[.val (.int p0), .val (.int p1), .val (.int (1 : Int32)), .val (.int (1 : Int32)), .unset, .unset, .unset, .unset] [(.int (1 : Int32))])) rfl (by rw [hml]; rfl) (argsL := [(.int (1 : Int32))]) (rest := []) (lenOf pd_1 rfl) rfl (by show 2 * 0 + _ ≤ _; exact Nat.le_of_eq rfl) (hb hby at_15) (fun _ _ => ⟨rfl, e0, (by decide : 0 + 0 ≤ _), (by decide : 0 + 0 ≤ _)⟩)
    dsimp only [Pt.U, Pt.locs, Pt.cells, Pt.slots] at X29 l29 y29 z29 st29 hQ29
    subst l29 y29 z29
    obtain ⟨rfl, N29q, e29⟩ := hQ29
    replace N0 := Fr.app N0 N29q
    refine gs st29 ?_
    show Go p e below s QQ room_1.cells room_1.slots (T29.setTop (mkF m 18 #[.val (.int p0), .val (.int p1), .val (.int (1 : Int32)), .val (.int (1 : Int32)), .unset, .unset, .unset, .unset] [(.ref x_QUIET)]))
    refine gs (fun t => XS.astore X29.here hx rfl (hb hby at_18) rfl rfl (l' := #[.val (.int p0), .val (.int p1), .val (.int (1 : Int32)), .val (.int (1 : Int32)), .val (.ref x_QUIET), .unset, .unset, .unset]) rfl) ?_
    show Go p e below s QQ room_1.cells room_1.slots (T29.setTop (mkF m 20 #[.val (.int p0), .val (.int p1), .val (.int (1 : Int32)), .val (.int (1 : Int32)), .val (.ref x_QUIET), .unset, .unset, .unset] []))
    refine gs (fun t => XS.iloadN X29.here hx rfl (hb hby at_20) rfl) ?_
    show Go p e below s QQ room_1.cells room_1.slots (T29.setTop (mkF m 21 #[.val (.int p0), .val (.int p1), .val (.int (1 : Int32)), .val (.int (1 : Int32)), .val (.ref x_QUIET), .unset, .unset, .unset] [(.int (1 : Int32))]))
    obtain ⟨_, _, ⟨T30, L30, k30, n30⟩, -, X30, ⟨Lc30, hQ30, l30, y30, z30⟩, st30⟩ := Jvm.LawKit.callS X29 hx (y := (⟨"com/example/shrike/shrike/job/WorkerDirectiveOrStrongerPinLaw", "pick", "(I)Lcom/example/shrike/shrike/job/WorkerDirective;"⟩ : MethodName)) hown (mvT hZ (hw _ (List.mem_of_getElem? (i := 1) rfl))) (mvT hZ (hw _ (List.mem_of_getElem? (i := 2) rfl))) (mvT hZ (hw _ (List.mem_of_getElem? (i := 3) rfl))) (mvT hZ (hw _ (List.mem_of_getElem? (i := 4) rfl))) (by decide) (backOf (W := 0) (rm1 l Z a0 hw [] (1 : Int32) x_RUNNING x_QUIET x_TERMINATE h0 n0 ZZ OLD S_x_RUNNING S_x_QUIET S_x_TERMINATE) hZ (hw _ (List.mem_of_getElem? (i := 4) rfl)) (hw _ (List.mem_of_getElem? (i := 3) rfl)) (by decide) (by decide)) (g := (mkF m 21 #[.val (.int p0), .val (.int p1), .val (.int (1 : Int32)), .val (.int (1 : Int32)), .val (.ref x_QUIET), .unset, .unset, .unset] [(.int (1 : Int32))])) rfl (by rw [hml]; rfl) (argsL := [(.int (1 : Int32))]) (rest := []) (lenOf pd_1 rfl) rfl (by show 2 * 0 + _ ≤ _; exact Nat.le_of_eq rfl) (hb hby at_21) (fun _ _ => ⟨rfl, e29, (by decide : 0 + 0 ≤ _), (by decide : 0 + 0 ≤ _)⟩)
    dsimp only [Pt.U, Pt.locs, Pt.cells, Pt.slots] at X30 l30 y30 z30 st30 hQ30
    subst l30 y30 z30
    obtain ⟨rfl, N30q, e30⟩ := hQ30
    replace N0 := Fr.app N0 N30q
    refine gs st30 ?_
    show Go p e below s QQ room_1.cells room_1.slots (T30.setTop (mkF m 24 #[.val (.int p0), .val (.int p1), .val (.int (1 : Int32)), .val (.int (1 : Int32)), .val (.ref x_QUIET), .unset, .unset, .unset] [(.ref x_QUIET)]))
    refine gs (fun t => XS.astore X30.here hx rfl (hb hby at_24) rfl rfl (l' := #[.val (.int p0), .val (.int p1), .val (.int (1 : Int32)), .val (.int (1 : Int32)), .val (.ref x_QUIET), .val (.ref x_QUIET), .unset, .unset]) rfl) ?_
    show Go p e below s QQ room_1.cells room_1.slots (T30.setTop (mkF m 26 #[.val (.int p0), .val (.int p1), .val (.int (1 : Int32)), .val (.int (1 : Int32)), .val (.ref x_QUIET), .val (.ref x_QUIET), .unset, .unset] []))
    refine gs (fun t => XS.iloadN X30.here hx rfl (hb hby at_26) rfl) ?_
    show Go p e below s QQ room_1.cells room_1.slots (T30.setTop (mkF m 27 #[.val (.int p0), .val (.int p1), .val (.int (1 : Int32)), .val (.int (1 : Int32)), .val (.ref x_QUIET), .val (.ref x_QUIET), .unset, .unset] [(.int (1 : Int32))]))
    refine gs (fun t => XS.iloadN X30.here hx rfl (hb hby at_27) rfl) ?_
    show Go p e below s QQ room_1.cells room_1.slots (T30.setTop (mkF m 28 #[.val (.int p0), .val (.int p1), .val (.int (1 : Int32)), .val (.int (1 : Int32)), .val (.ref x_QUIET), .val (.ref x_QUIET), .unset, .unset] [(.int (1 : Int32)), (.int (1 : Int32))]))
    obtain ⟨_, _, ⟨T31, L31, k31, n31⟩, -, X31, ⟨Lc31, hQ31, l31, y31, z31⟩, st31⟩ := Jvm.LawKit.callS X30 hx (y := (⟨"java/lang/Math", "max", "(II)I"⟩ : MethodName)) hown (mvT hZ (hw _ (List.mem_of_getElem? (i := 8) rfl))) (mvT hZ (hw _ (List.mem_of_getElem? (i := 9) rfl))) (mvT hZ (hw _ (List.mem_of_getElem? (i := 10) rfl))) (mvT hZ (hw _ (List.mem_of_getElem? (i := 11) rfl))) (by decide) (backOf (W := 0) (rm2 l Z a0 hw [] (1 : Int32) (1 : Int32) h0 n0 ZZ ) hZ (hw _ (List.mem_of_getElem? (i := 11) rfl)) (hw _ (List.mem_of_getElem? (i := 10) rfl)) (by decide) (by decide)) (g := (mkF m 28 #[.val (.int p0), .val (.int p1), .val (.int (1 : Int32)), .val (.int (1 : Int32)), .val (.ref x_QUIET), .val (.ref x_QUIET), .unset, .unset] [(.int (1 : Int32)), (.int (1 : Int32))])) rfl (by rw [hml]; rfl) (argsL := [(.int (1 : Int32)), (.int (1 : Int32))]) (rest := []) (lenOf pd_2 rfl) rfl (by show 2 * 0 + _ ≤ _; exact Nat.le_of_eq rfl) (hb hby at_28) (fun _ _ => ⟨rfl, e30, (by decide : 0 + 0 ≤ _), (by decide : 0 + 0 ≤ _)⟩)
    dsimp only [Pt.U, Pt.locs, Pt.cells, Pt.slots] at X31 l31 y31 z31 st31 hQ31
    subst l31 y31 z31
    obtain ⟨rfl, N31q, e31⟩ := hQ31
    replace N0 := Fr.app N0 N31q
    refine gs st31 ?_
    show Go p e below s QQ room_1.cells room_1.slots (T31.setTop (mkF m 31 #[.val (.int p0), .val (.int p1), .val (.int (1 : Int32)), .val (.int (1 : Int32)), .val (.ref x_QUIET), .val (.ref x_QUIET), .unset, .unset] [(.int (1 : Int32))]))
    obtain ⟨_, _, ⟨T32, L32, k32, n32⟩, -, X32, ⟨Lc32, hQ32, l32, y32, z32⟩, st32⟩ := Jvm.LawKit.callS X31 hx (y := (⟨"com/example/shrike/shrike/job/WorkerDirectiveOrStrongerPinLaw", "pick", "(I)Lcom/example/shrike/shrike/job/WorkerDirective;"⟩ : MethodName)) hown (mvT hZ (hw _ (List.mem_of_getElem? (i := 1) rfl))) (mvT hZ (hw _ (List.mem_of_getElem? (i := 2) rfl))) (mvT hZ (hw _ (List.mem_of_getElem? (i := 3) rfl))) (mvT hZ (hw _ (List.mem_of_getElem? (i := 4) rfl))) (by decide) (backOf (W := 0) (rm1 l Z a0 hw [] (1 : Int32) x_RUNNING x_QUIET x_TERMINATE h0 n0 ZZ OLD S_x_RUNNING S_x_QUIET S_x_TERMINATE) hZ (hw _ (List.mem_of_getElem? (i := 4) rfl)) (hw _ (List.mem_of_getElem? (i := 3) rfl)) (by decide) (by decide)) (g := (mkF m 31 #[.val (.int p0), .val (.int p1), .val (.int (1 : Int32)), .val (.int (1 : Int32)), .val (.ref x_QUIET), .val (.ref x_QUIET), .unset, .unset] [(.int (1 : Int32))])) rfl (by rw [hml]; rfl) (argsL := [(.int (1 : Int32))]) (rest := []) (lenOf pd_1 rfl) rfl (by show 2 * 0 + _ ≤ _; exact Nat.le_of_eq rfl) (hb hby at_31) (fun _ _ => ⟨rfl, e31, (by decide : 0 + 0 ≤ _), (by decide : 0 + 0 ≤ _)⟩)
    dsimp only [Pt.U, Pt.locs, Pt.cells, Pt.slots] at X32 l32 y32 z32 st32 hQ32
    subst l32 y32 z32
    obtain ⟨rfl, N32q, e32⟩ := hQ32
    replace N0 := Fr.app N0 N32q
    refine gs st32 ?_
    show Go p e below s QQ room_1.cells room_1.slots (T32.setTop (mkF m 34 #[.val (.int p0), .val (.int p1), .val (.int (1 : Int32)), .val (.int (1 : Int32)), .val (.ref x_QUIET), .val (.ref x_QUIET), .unset, .unset] [(.ref x_QUIET)]))
    refine gs (fun t => XS.astore X32.here hx rfl (hb hby at_34) rfl rfl (l' := #[.val (.int p0), .val (.int p1), .val (.int (1 : Int32)), .val (.int (1 : Int32)), .val (.ref x_QUIET), .val (.ref x_QUIET), .val (.ref x_QUIET), .unset]) rfl) ?_
    show Go p e below s QQ room_1.cells room_1.slots (T32.setTop (mkF m 36 #[.val (.int p0), .val (.int p1), .val (.int (1 : Int32)), .val (.int (1 : Int32)), .val (.ref x_QUIET), .val (.ref x_QUIET), .val (.ref x_QUIET), .unset] []))
    refine gs (fun t => XS.aload X32.here hx rfl (hb hby at_36) rfl rfl) ?_
    show Go p e below s QQ room_1.cells room_1.slots (T32.setTop (mkF m 38 #[.val (.int p0), .val (.int p1), .val (.int (1 : Int32)), .val (.int (1 : Int32)), .val (.ref x_QUIET), .val (.ref x_QUIET), .val (.ref x_QUIET), .unset] [(.ref x_QUIET)]))
    refine gs (fun t => XS.aload X32.here hx rfl (hb hby at_38) rfl rfl) ?_
    show Go p e below s QQ room_1.cells room_1.slots (T32.setTop (mkF m 40 #[.val (.int p0), .val (.int p1), .val (.int (1 : Int32)), .val (.int (1 : Int32)), .val (.ref x_QUIET), .val (.ref x_QUIET), .val (.ref x_QUIET), .unset] [(.ref x_QUIET), (.ref x_QUIET)]))
    obtain ⟨cq33, kq33, q33a, q33b, q33c⟩ := isOf hZ e32 (E_x_QUIET.ext OLD.2)
    obtain ⟨_, _, ⟨T33, L33, k33, n33⟩, -, X33, ⟨Lc33, hQ33, l33, y33, z33⟩, st33⟩ := X32.virtualBack hx (y := (⟨"com/example/shrike/shrike/job/WorkerDirective", "orStronger", "(Lcom/example/shrike/shrike/job/WorkerDirective;)Lcom/example/shrike/shrike/job/WorkerDirective;"⟩ : MethodName)) (z := (⟨"com/example/shrike/shrike/job/WorkerDirective", "orStronger", "(Lcom/example/shrike/shrike/job/WorkerDirective;)Lcom/example/shrike/shrike/job/WorkerDirective;"⟩ : MethodName)) hown (mvT hZ (hw _ (List.mem_of_getElem? (i := 12) rfl))) (mvT hZ (hw _ (List.mem_of_getElem? (i := 13) rfl))) (notFace_of_selects (args := #[]) (mvT hZ (hw _ (List.mem_of_getElem? (i := 15) rfl)))) (mvT hZ (hw _ (List.mem_of_getElem? (i := 15) rfl))) (mvT hZ (hw _ (List.mem_of_getElem? (i := 14) rfl))) (by decide) (backOf (W := 0) (rm3 l Z a0 hw [] x_QUIET x_QUIET (1 : Int32) (1 : Int32) mr h0 n0 ZZ (F_x_QUIET_ordinal.ext OLD.2) (F_x_QUIET_ordinal.ext OLD.2) (E_x_QUIET.ext OLD.2) (E_x_QUIET.ext OLD.2) MIR) hZ (hw _ (List.mem_of_getElem? (i := 16) rfl)) (hw _ (List.mem_of_getElem? (i := 6) rfl)) (by decide) (by decide)) q33a q33c (g := (mkF m 40 #[.val (.int p0), .val (.int p1), .val (.int (1 : Int32)), .val (.int (1 : Int32)), .val (.ref x_QUIET), .val (.ref x_QUIET), .val (.ref x_QUIET), .unset] [(.ref x_QUIET), (.ref x_QUIET)])) rfl (by rw [hml]; rfl) (Steps.refl _) (argsL := [(.ref x_QUIET)]) (rest := []) (lenOf pd_3 rfl) rfl (by show 2 * 0 + _ ≤ _; exact Nat.le_of_eq rfl) (hb hby at_40) (fun _ _ => ⟨rfl, e32, (by decide : 0 + 0 ≤ _), (by decide : 0 + 0 ≤ _)⟩)
    dsimp only [Pt.U, Pt.locs, Pt.cells, Pt.slots] at X33 l33 y33 z33 st33 hQ33
    subst l33 y33 z33
    obtain ⟨rfl, N33q, e33⟩ := hQ33
    replace N0 := Fr.app N0 N33q
    refine gt st33 ?_
    show Go p e below s QQ room_1.cells room_1.slots (T33.setTop (mkF m 43 #[.val (.int p0), .val (.int p1), .val (.int (1 : Int32)), .val (.int (1 : Int32)), .val (.ref x_QUIET), .val (.ref x_QUIET), .val (.ref x_QUIET), .unset] [(.ref x_QUIET)]))
    refine gs (fun t => XS.astore X33.here hx rfl (hb hby at_43) rfl rfl (l' := #[.val (.int p0), .val (.int p1), .val (.int (1 : Int32)), .val (.int (1 : Int32)), .val (.ref x_QUIET), .val (.ref x_QUIET), .val (.ref x_QUIET), .val (.ref x_QUIET)]) rfl) ?_
    show Go p e below s QQ room_1.cells room_1.slots (T33.setTop (mkF m 45 #[.val (.int p0), .val (.int p1), .val (.int (1 : Int32)), .val (.int (1 : Int32)), .val (.ref x_QUIET), .val (.ref x_QUIET), .val (.ref x_QUIET), .val (.ref x_QUIET)] []))
    refine gs (fun t => XS.aload X33.here hx rfl (hb hby at_45) rfl rfl) ?_
    show Go p e below s QQ room_1.cells room_1.slots (T33.setTop (mkF m 47 #[.val (.int p0), .val (.int p1), .val (.int (1 : Int32)), .val (.int (1 : Int32)), .val (.ref x_QUIET), .val (.ref x_QUIET), .val (.ref x_QUIET), .val (.ref x_QUIET)] [(.ref x_QUIET)]))
    refine gs (fun t => XS.aload X33.here hx rfl (hb hby at_47) rfl rfl) ?_
    show Go p e below s QQ room_1.cells room_1.slots (T33.setTop (mkF m 49 #[.val (.int p0), .val (.int p1), .val (.int (1 : Int32)), .val (.int (1 : Int32)), .val (.ref x_QUIET), .val (.ref x_QUIET), .val (.ref x_QUIET), .val (.ref x_QUIET)] [(.ref x_QUIET), (.ref x_QUIET)]))
    refine gs (fun t => Jvm.RoadKit.acmp (g := (mkF m 49 #[.val (.int p0), .val (.int p1), .val (.int (1 : Int32)), .val (.int (1 : Int32)), .val (.ref x_QUIET), .val (.ref x_QUIET), .val (.ref x_QUIET), .val (.ref x_QUIET)] [(.ref x_QUIET), (.ref x_QUIET)])) X33 hx rfl rfl rfl (pc0 := 49) (pc' := 52) (same := true) rfl (hb hby at_49) rfl (decide_eq_true rfl) (by decide) (by decide)) ?_
    show Go p e below s QQ room_1.cells room_1.slots (T33.setTop (mkF m 52 #[.val (.int p0), .val (.int p1), .val (.int (1 : Int32)), .val (.int (1 : Int32)), .val (.ref x_QUIET), .val (.ref x_QUIET), .val (.ref x_QUIET), .val (.ref x_QUIET)] []))
    refine gs (fun t => XS.iconst X33.here hx rfl (hb hby at_52)) ?_
    show Go p e below s QQ room_1.cells room_1.slots (T33.setTop (mkF m 53 #[.val (.int p0), .val (.int p1), .val (.int (1 : Int32)), .val (.int (1 : Int32)), .val (.ref x_QUIET), .val (.ref x_QUIET), .val (.ref x_QUIET), .val (.ref x_QUIET)] [(.int (1 : Int32))]))
    refine gs (fun t => XS.goto X33.here hx rfl (pc0 := 53) (pc' := 57) rfl (hb hby at_53) (by decide) (by decide)) ?_
    show Go p e below s QQ room_1.cells room_1.slots (T33.setTop (mkF m 57 #[.val (.int p0), .val (.int p1), .val (.int (1 : Int32)), .val (.int (1 : Int32)), .val (.ref x_QUIET), .val (.ref x_QUIET), .val (.ref x_QUIET), .val (.ref x_QUIET)] [(.int (1 : Int32))]))
    exact goB X33 hx Bd.notSynchronized Bd.returns (by simp) (w := (1 : Int32)) (by first | rfl | decide) (hb hby at_57) (by rw [← hQQ, e33]; exact ⟨rfl, N0⟩) (by decide) (by decide)
  · skip
    show Go p e below s QQ room_1.cells room_1.slots (s₁.setTop (mkF m 15 #[.val (.int p0), .val (.int p1), .val (.int (1 : Int32)), .val (.int (2 : Int32)), .unset, .unset, .unset, .unset] [(.int (1 : Int32))]))
    obtain ⟨_, _, ⟨T34, L34, k34, n34⟩, -, X34, ⟨Lc34, hQ34, l34, y34, z34⟩, st34⟩ := Jvm.LawKit.callS X0 hx (y := (⟨"com/example/shrike/shrike/job/WorkerDirectiveOrStrongerPinLaw", "pick", "(I)Lcom/example/shrike/shrike/job/WorkerDirective;"⟩ : MethodName)) hown (mvT hZ (hw _ (List.mem_of_getElem? (i := 1) rfl))) (mvT hZ (hw _ (List.mem_of_getElem? (i := 2) rfl))) (mvT hZ (hw _ (List.mem_of_getElem? (i := 3) rfl))) (mvT hZ (hw _ (List.mem_of_getElem? (i := 4) rfl))) (by decide) (backOf (W := 0) (rm1 l Z a0 hw [] (1 : Int32) x_RUNNING x_QUIET x_TERMINATE h0 n0 ZZ OLD S_x_RUNNING S_x_QUIET S_x_TERMINATE) hZ (hw _ (List.mem_of_getElem? (i := 4) rfl)) (hw _ (List.mem_of_getElem? (i := 3) rfl)) (by decide) (by decide)) (g := (mkF m 15 #[.val (.int p0), .val (.int p1), .val (.int (1 : Int32)), .val (.int (2 : Int32)), .unset, .unset, .unset, .unset] [(.int (1 : Int32))])) rfl (by rw [hml]; rfl) (argsL := [(.int (1 : Int32))]) (rest := []) (lenOf pd_1 rfl) rfl (by show 2 * 0 + _ ≤ _; exact Nat.le_of_eq rfl) (hb hby at_15) (fun _ _ => ⟨rfl, e0, (by decide : 0 + 0 ≤ _), (by decide : 0 + 0 ≤ _)⟩)
    dsimp only [Pt.U, Pt.locs, Pt.cells, Pt.slots] at X34 l34 y34 z34 st34 hQ34
    subst l34 y34 z34
    obtain ⟨rfl, N34q, e34⟩ := hQ34
    replace N0 := Fr.app N0 N34q
    refine gs st34 ?_
    show Go p e below s QQ room_1.cells room_1.slots (T34.setTop (mkF m 18 #[.val (.int p0), .val (.int p1), .val (.int (1 : Int32)), .val (.int (2 : Int32)), .unset, .unset, .unset, .unset] [(.ref x_QUIET)]))
    refine gs (fun t => XS.astore X34.here hx rfl (hb hby at_18) rfl rfl (l' := #[.val (.int p0), .val (.int p1), .val (.int (1 : Int32)), .val (.int (2 : Int32)), .val (.ref x_QUIET), .unset, .unset, .unset]) rfl) ?_
    show Go p e below s QQ room_1.cells room_1.slots (T34.setTop (mkF m 20 #[.val (.int p0), .val (.int p1), .val (.int (1 : Int32)), .val (.int (2 : Int32)), .val (.ref x_QUIET), .unset, .unset, .unset] []))
    refine gs (fun t => XS.iloadN X34.here hx rfl (hb hby at_20) rfl) ?_
    show Go p e below s QQ room_1.cells room_1.slots (T34.setTop (mkF m 21 #[.val (.int p0), .val (.int p1), .val (.int (1 : Int32)), .val (.int (2 : Int32)), .val (.ref x_QUIET), .unset, .unset, .unset] [(.int (2 : Int32))]))
    obtain ⟨_, _, ⟨T35, L35, k35, n35⟩, -, X35, ⟨Lc35, hQ35, l35, y35, z35⟩, st35⟩ := Jvm.LawKit.callS X34 hx (y := (⟨"com/example/shrike/shrike/job/WorkerDirectiveOrStrongerPinLaw", "pick", "(I)Lcom/example/shrike/shrike/job/WorkerDirective;"⟩ : MethodName)) hown (mvT hZ (hw _ (List.mem_of_getElem? (i := 1) rfl))) (mvT hZ (hw _ (List.mem_of_getElem? (i := 2) rfl))) (mvT hZ (hw _ (List.mem_of_getElem? (i := 3) rfl))) (mvT hZ (hw _ (List.mem_of_getElem? (i := 4) rfl))) (by decide) (backOf (W := 0) (rm1 l Z a0 hw [] (2 : Int32) x_RUNNING x_QUIET x_TERMINATE h0 n0 ZZ OLD S_x_RUNNING S_x_QUIET S_x_TERMINATE) hZ (hw _ (List.mem_of_getElem? (i := 4) rfl)) (hw _ (List.mem_of_getElem? (i := 3) rfl)) (by decide) (by decide)) (g := (mkF m 21 #[.val (.int p0), .val (.int p1), .val (.int (1 : Int32)), .val (.int (2 : Int32)), .val (.ref x_QUIET), .unset, .unset, .unset] [(.int (2 : Int32))])) rfl (by rw [hml]; rfl) (argsL := [(.int (2 : Int32))]) (rest := []) (lenOf pd_1 rfl) rfl (by show 2 * 0 + _ ≤ _; exact Nat.le_of_eq rfl) (hb hby at_21) (fun _ _ => ⟨rfl, e34, (by decide : 0 + 0 ≤ _), (by decide : 0 + 0 ≤ _)⟩)
    dsimp only [Pt.U, Pt.locs, Pt.cells, Pt.slots] at X35 l35 y35 z35 st35 hQ35
    subst l35 y35 z35
    obtain ⟨rfl, N35q, e35⟩ := hQ35
    replace N0 := Fr.app N0 N35q
    refine gs st35 ?_
    show Go p e below s QQ room_1.cells room_1.slots (T35.setTop (mkF m 24 #[.val (.int p0), .val (.int p1), .val (.int (1 : Int32)), .val (.int (2 : Int32)), .val (.ref x_QUIET), .unset, .unset, .unset] [(.ref x_TERMINATE)]))
    refine gs (fun t => XS.astore X35.here hx rfl (hb hby at_24) rfl rfl (l' := #[.val (.int p0), .val (.int p1), .val (.int (1 : Int32)), .val (.int (2 : Int32)), .val (.ref x_QUIET), .val (.ref x_TERMINATE), .unset, .unset]) rfl) ?_
    show Go p e below s QQ room_1.cells room_1.slots (T35.setTop (mkF m 26 #[.val (.int p0), .val (.int p1), .val (.int (1 : Int32)), .val (.int (2 : Int32)), .val (.ref x_QUIET), .val (.ref x_TERMINATE), .unset, .unset] []))
    refine gs (fun t => XS.iloadN X35.here hx rfl (hb hby at_26) rfl) ?_
    show Go p e below s QQ room_1.cells room_1.slots (T35.setTop (mkF m 27 #[.val (.int p0), .val (.int p1), .val (.int (1 : Int32)), .val (.int (2 : Int32)), .val (.ref x_QUIET), .val (.ref x_TERMINATE), .unset, .unset] [(.int (1 : Int32))]))
    refine gs (fun t => XS.iloadN X35.here hx rfl (hb hby at_27) rfl) ?_
    show Go p e below s QQ room_1.cells room_1.slots (T35.setTop (mkF m 28 #[.val (.int p0), .val (.int p1), .val (.int (1 : Int32)), .val (.int (2 : Int32)), .val (.ref x_QUIET), .val (.ref x_TERMINATE), .unset, .unset] [(.int (2 : Int32)), (.int (1 : Int32))]))
    obtain ⟨_, _, ⟨T36, L36, k36, n36⟩, -, X36, ⟨Lc36, hQ36, l36, y36, z36⟩, st36⟩ := Jvm.LawKit.callS X35 hx (y := (⟨"java/lang/Math", "max", "(II)I"⟩ : MethodName)) hown (mvT hZ (hw _ (List.mem_of_getElem? (i := 8) rfl))) (mvT hZ (hw _ (List.mem_of_getElem? (i := 9) rfl))) (mvT hZ (hw _ (List.mem_of_getElem? (i := 10) rfl))) (mvT hZ (hw _ (List.mem_of_getElem? (i := 11) rfl))) (by decide) (backOf (W := 0) (rm2 l Z a0 hw [] (1 : Int32) (2 : Int32) h0 n0 ZZ ) hZ (hw _ (List.mem_of_getElem? (i := 11) rfl)) (hw _ (List.mem_of_getElem? (i := 10) rfl)) (by decide) (by decide)) (g := (mkF m 28 #[.val (.int p0), .val (.int p1), .val (.int (1 : Int32)), .val (.int (2 : Int32)), .val (.ref x_QUIET), .val (.ref x_TERMINATE), .unset, .unset] [(.int (2 : Int32)), (.int (1 : Int32))])) rfl (by rw [hml]; rfl) (argsL := [(.int (1 : Int32)), (.int (2 : Int32))]) (rest := []) (lenOf pd_2 rfl) rfl (by show 2 * 0 + _ ≤ _; exact Nat.le_of_eq rfl) (hb hby at_28) (fun _ _ => ⟨rfl, e35, (by decide : 0 + 0 ≤ _), (by decide : 0 + 0 ≤ _)⟩)
    dsimp only [Pt.U, Pt.locs, Pt.cells, Pt.slots] at X36 l36 y36 z36 st36 hQ36
    subst l36 y36 z36
    obtain ⟨rfl, N36q, e36⟩ := hQ36
    replace N0 := Fr.app N0 N36q
    refine gs st36 ?_
    show Go p e below s QQ room_1.cells room_1.slots (T36.setTop (mkF m 31 #[.val (.int p0), .val (.int p1), .val (.int (1 : Int32)), .val (.int (2 : Int32)), .val (.ref x_QUIET), .val (.ref x_TERMINATE), .unset, .unset] [(.int (2 : Int32))]))
    obtain ⟨_, _, ⟨T37, L37, k37, n37⟩, -, X37, ⟨Lc37, hQ37, l37, y37, z37⟩, st37⟩ := Jvm.LawKit.callS X36 hx (y := (⟨"com/example/shrike/shrike/job/WorkerDirectiveOrStrongerPinLaw", "pick", "(I)Lcom/example/shrike/shrike/job/WorkerDirective;"⟩ : MethodName)) hown (mvT hZ (hw _ (List.mem_of_getElem? (i := 1) rfl))) (mvT hZ (hw _ (List.mem_of_getElem? (i := 2) rfl))) (mvT hZ (hw _ (List.mem_of_getElem? (i := 3) rfl))) (mvT hZ (hw _ (List.mem_of_getElem? (i := 4) rfl))) (by decide) (backOf (W := 0) (rm1 l Z a0 hw [] (2 : Int32) x_RUNNING x_QUIET x_TERMINATE h0 n0 ZZ OLD S_x_RUNNING S_x_QUIET S_x_TERMINATE) hZ (hw _ (List.mem_of_getElem? (i := 4) rfl)) (hw _ (List.mem_of_getElem? (i := 3) rfl)) (by decide) (by decide)) (g := (mkF m 31 #[.val (.int p0), .val (.int p1), .val (.int (1 : Int32)), .val (.int (2 : Int32)), .val (.ref x_QUIET), .val (.ref x_TERMINATE), .unset, .unset] [(.int (2 : Int32))])) rfl (by rw [hml]; rfl) (argsL := [(.int (2 : Int32))]) (rest := []) (lenOf pd_1 rfl) rfl (by show 2 * 0 + _ ≤ _; exact Nat.le_of_eq rfl) (hb hby at_31) (fun _ _ => ⟨rfl, e36, (by decide : 0 + 0 ≤ _), (by decide : 0 + 0 ≤ _)⟩)
    dsimp only [Pt.U, Pt.locs, Pt.cells, Pt.slots] at X37 l37 y37 z37 st37 hQ37
    subst l37 y37 z37
    obtain ⟨rfl, N37q, e37⟩ := hQ37
    replace N0 := Fr.app N0 N37q
    refine gs st37 ?_
    show Go p e below s QQ room_1.cells room_1.slots (T37.setTop (mkF m 34 #[.val (.int p0), .val (.int p1), .val (.int (1 : Int32)), .val (.int (2 : Int32)), .val (.ref x_QUIET), .val (.ref x_TERMINATE), .unset, .unset] [(.ref x_TERMINATE)]))
    refine gs (fun t => XS.astore X37.here hx rfl (hb hby at_34) rfl rfl (l' := #[.val (.int p0), .val (.int p1), .val (.int (1 : Int32)), .val (.int (2 : Int32)), .val (.ref x_QUIET), .val (.ref x_TERMINATE), .val (.ref x_TERMINATE), .unset]) rfl) ?_
    show Go p e below s QQ room_1.cells room_1.slots (T37.setTop (mkF m 36 #[.val (.int p0), .val (.int p1), .val (.int (1 : Int32)), .val (.int (2 : Int32)), .val (.ref x_QUIET), .val (.ref x_TERMINATE), .val (.ref x_TERMINATE), .unset] []))
    refine gs (fun t => XS.aload X37.here hx rfl (hb hby at_36) rfl rfl) ?_
    show Go p e below s QQ room_1.cells room_1.slots (T37.setTop (mkF m 38 #[.val (.int p0), .val (.int p1), .val (.int (1 : Int32)), .val (.int (2 : Int32)), .val (.ref x_QUIET), .val (.ref x_TERMINATE), .val (.ref x_TERMINATE), .unset] [(.ref x_QUIET)]))
    refine gs (fun t => XS.aload X37.here hx rfl (hb hby at_38) rfl rfl) ?_
    show Go p e below s QQ room_1.cells room_1.slots (T37.setTop (mkF m 40 #[.val (.int p0), .val (.int p1), .val (.int (1 : Int32)), .val (.int (2 : Int32)), .val (.ref x_QUIET), .val (.ref x_TERMINATE), .val (.ref x_TERMINATE), .unset] [(.ref x_TERMINATE), (.ref x_QUIET)]))
    obtain ⟨cq38, kq38, q38a, q38b, q38c⟩ := isOf hZ e37 (E_x_QUIET.ext OLD.2)
    obtain ⟨_, _, ⟨T38, L38, k38, n38⟩, -, X38, ⟨Lc38, hQ38, l38, y38, z38⟩, st38⟩ := X37.virtualBack hx (y := (⟨"com/example/shrike/shrike/job/WorkerDirective", "orStronger", "(Lcom/example/shrike/shrike/job/WorkerDirective;)Lcom/example/shrike/shrike/job/WorkerDirective;"⟩ : MethodName)) (z := (⟨"com/example/shrike/shrike/job/WorkerDirective", "orStronger", "(Lcom/example/shrike/shrike/job/WorkerDirective;)Lcom/example/shrike/shrike/job/WorkerDirective;"⟩ : MethodName)) hown (mvT hZ (hw _ (List.mem_of_getElem? (i := 12) rfl))) (mvT hZ (hw _ (List.mem_of_getElem? (i := 13) rfl))) (notFace_of_selects (args := #[]) (mvT hZ (hw _ (List.mem_of_getElem? (i := 15) rfl)))) (mvT hZ (hw _ (List.mem_of_getElem? (i := 15) rfl))) (mvT hZ (hw _ (List.mem_of_getElem? (i := 14) rfl))) (by decide) (backOf (W := 0) (rm3 l Z a0 hw [] x_QUIET x_TERMINATE (1 : Int32) (2 : Int32) mr h0 n0 ZZ (F_x_QUIET_ordinal.ext OLD.2) (F_x_TERMINATE_ordinal.ext OLD.2) (E_x_QUIET.ext OLD.2) (E_x_TERMINATE.ext OLD.2) MIR) hZ (hw _ (List.mem_of_getElem? (i := 16) rfl)) (hw _ (List.mem_of_getElem? (i := 6) rfl)) (by decide) (by decide)) q38a q38c (g := (mkF m 40 #[.val (.int p0), .val (.int p1), .val (.int (1 : Int32)), .val (.int (2 : Int32)), .val (.ref x_QUIET), .val (.ref x_TERMINATE), .val (.ref x_TERMINATE), .unset] [(.ref x_TERMINATE), (.ref x_QUIET)])) rfl (by rw [hml]; rfl) (Steps.refl _) (argsL := [(.ref x_TERMINATE)]) (rest := []) (lenOf pd_3 rfl) rfl (by show 2 * 0 + _ ≤ _; exact Nat.le_of_eq rfl) (hb hby at_40) (fun _ _ => ⟨rfl, e37, (by decide : 0 + 0 ≤ _), (by decide : 0 + 0 ≤ _)⟩)
    dsimp only [Pt.U, Pt.locs, Pt.cells, Pt.slots] at X38 l38 y38 z38 st38 hQ38
    subst l38 y38 z38
    obtain ⟨rfl, N38q, e38⟩ := hQ38
    replace N0 := Fr.app N0 N38q
    refine gt st38 ?_
    show Go p e below s QQ room_1.cells room_1.slots (T38.setTop (mkF m 43 #[.val (.int p0), .val (.int p1), .val (.int (1 : Int32)), .val (.int (2 : Int32)), .val (.ref x_QUIET), .val (.ref x_TERMINATE), .val (.ref x_TERMINATE), .unset] [(.ref x_TERMINATE)]))
    refine gs (fun t => XS.astore X38.here hx rfl (hb hby at_43) rfl rfl (l' := #[.val (.int p0), .val (.int p1), .val (.int (1 : Int32)), .val (.int (2 : Int32)), .val (.ref x_QUIET), .val (.ref x_TERMINATE), .val (.ref x_TERMINATE), .val (.ref x_TERMINATE)]) rfl) ?_
    show Go p e below s QQ room_1.cells room_1.slots (T38.setTop (mkF m 45 #[.val (.int p0), .val (.int p1), .val (.int (1 : Int32)), .val (.int (2 : Int32)), .val (.ref x_QUIET), .val (.ref x_TERMINATE), .val (.ref x_TERMINATE), .val (.ref x_TERMINATE)] []))
    refine gs (fun t => XS.aload X38.here hx rfl (hb hby at_45) rfl rfl) ?_
    show Go p e below s QQ room_1.cells room_1.slots (T38.setTop (mkF m 47 #[.val (.int p0), .val (.int p1), .val (.int (1 : Int32)), .val (.int (2 : Int32)), .val (.ref x_QUIET), .val (.ref x_TERMINATE), .val (.ref x_TERMINATE), .val (.ref x_TERMINATE)] [(.ref x_TERMINATE)]))
    refine gs (fun t => XS.aload X38.here hx rfl (hb hby at_47) rfl rfl) ?_
    show Go p e below s QQ room_1.cells room_1.slots (T38.setTop (mkF m 49 #[.val (.int p0), .val (.int p1), .val (.int (1 : Int32)), .val (.int (2 : Int32)), .val (.ref x_QUIET), .val (.ref x_TERMINATE), .val (.ref x_TERMINATE), .val (.ref x_TERMINATE)] [(.ref x_TERMINATE), (.ref x_TERMINATE)]))
    refine gs (fun t => Jvm.RoadKit.acmp (g := (mkF m 49 #[.val (.int p0), .val (.int p1), .val (.int (1 : Int32)), .val (.int (2 : Int32)), .val (.ref x_QUIET), .val (.ref x_TERMINATE), .val (.ref x_TERMINATE), .val (.ref x_TERMINATE)] [(.ref x_TERMINATE), (.ref x_TERMINATE)])) X38 hx rfl rfl rfl (pc0 := 49) (pc' := 52) (same := true) rfl (hb hby at_49) rfl (decide_eq_true rfl) (by decide) (by decide)) ?_
    show Go p e below s QQ room_1.cells room_1.slots (T38.setTop (mkF m 52 #[.val (.int p0), .val (.int p1), .val (.int (1 : Int32)), .val (.int (2 : Int32)), .val (.ref x_QUIET), .val (.ref x_TERMINATE), .val (.ref x_TERMINATE), .val (.ref x_TERMINATE)] []))
    refine gs (fun t => XS.iconst X38.here hx rfl (hb hby at_52)) ?_
    show Go p e below s QQ room_1.cells room_1.slots (T38.setTop (mkF m 53 #[.val (.int p0), .val (.int p1), .val (.int (1 : Int32)), .val (.int (2 : Int32)), .val (.ref x_QUIET), .val (.ref x_TERMINATE), .val (.ref x_TERMINATE), .val (.ref x_TERMINATE)] [(.int (1 : Int32))]))
    refine gs (fun t => XS.goto X38.here hx rfl (pc0 := 53) (pc' := 57) rfl (hb hby at_53) (by decide) (by decide)) ?_
    show Go p e below s QQ room_1.cells room_1.slots (T38.setTop (mkF m 57 #[.val (.int p0), .val (.int p1), .val (.int (1 : Int32)), .val (.int (2 : Int32)), .val (.ref x_QUIET), .val (.ref x_TERMINATE), .val (.ref x_TERMINATE), .val (.ref x_TERMINATE)] [(.int (1 : Int32))]))
    exact goB X38 hx Bd.notSynchronized Bd.returns (by simp) (w := (1 : Int32)) (by first | rfl | decide) (hb hby at_57) (by rw [← hQQ, e38]; exact ⟨rfl, N0⟩) (by decide) (by decide)
  · skip
    show Go p e below s QQ room_1.cells room_1.slots (s₁.setTop (mkF m 15 #[.val (.int p0), .val (.int p1), .val (.int (2 : Int32)), .val (.int (0 : Int32)), .unset, .unset, .unset, .unset] [(.int (2 : Int32))]))
    obtain ⟨_, _, ⟨T39, L39, k39, n39⟩, -, X39, ⟨Lc39, hQ39, l39, y39, z39⟩, st39⟩ := Jvm.LawKit.callS X0 hx (y := (⟨"com/example/shrike/shrike/job/WorkerDirectiveOrStrongerPinLaw", "pick", "(I)Lcom/example/shrike/shrike/job/WorkerDirective;"⟩ : MethodName)) hown (mvT hZ (hw _ (List.mem_of_getElem? (i := 1) rfl))) (mvT hZ (hw _ (List.mem_of_getElem? (i := 2) rfl))) (mvT hZ (hw _ (List.mem_of_getElem? (i := 3) rfl))) (mvT hZ (hw _ (List.mem_of_getElem? (i := 4) rfl))) (by decide) (backOf (W := 0) (rm1 l Z a0 hw [] (2 : Int32) x_RUNNING x_QUIET x_TERMINATE h0 n0 ZZ OLD S_x_RUNNING S_x_QUIET S_x_TERMINATE) hZ (hw _ (List.mem_of_getElem? (i := 4) rfl)) (hw _ (List.mem_of_getElem? (i := 3) rfl)) (by decide) (by decide)) (g := (mkF m 15 #[.val (.int p0), .val (.int p1), .val (.int (2 : Int32)), .val (.int (0 : Int32)), .unset, .unset, .unset, .unset] [(.int (2 : Int32))])) rfl (by rw [hml]; rfl) (argsL := [(.int (2 : Int32))]) (rest := []) (lenOf pd_1 rfl) rfl (by show 2 * 0 + _ ≤ _; exact Nat.le_of_eq rfl) (hb hby at_15) (fun _ _ => ⟨rfl, e0, (by decide : 0 + 0 ≤ _), (by decide : 0 + 0 ≤ _)⟩)
    dsimp only [Pt.U, Pt.locs, Pt.cells, Pt.slots] at X39 l39 y39 z39 st39 hQ39
    subst l39 y39 z39
    obtain ⟨rfl, N39q, e39⟩ := hQ39
    replace N0 := Fr.app N0 N39q
    refine gs st39 ?_
    show Go p e below s QQ room_1.cells room_1.slots (T39.setTop (mkF m 18 #[.val (.int p0), .val (.int p1), .val (.int (2 : Int32)), .val (.int (0 : Int32)), .unset, .unset, .unset, .unset] [(.ref x_TERMINATE)]))
    refine gs (fun t => XS.astore X39.here hx rfl (hb hby at_18) rfl rfl (l' := #[.val (.int p0), .val (.int p1), .val (.int (2 : Int32)), .val (.int (0 : Int32)), .val (.ref x_TERMINATE), .unset, .unset, .unset]) rfl) ?_
    show Go p e below s QQ room_1.cells room_1.slots (T39.setTop (mkF m 20 #[.val (.int p0), .val (.int p1), .val (.int (2 : Int32)), .val (.int (0 : Int32)), .val (.ref x_TERMINATE), .unset, .unset, .unset] []))
    refine gs (fun t => XS.iloadN X39.here hx rfl (hb hby at_20) rfl) ?_
    show Go p e below s QQ room_1.cells room_1.slots (T39.setTop (mkF m 21 #[.val (.int p0), .val (.int p1), .val (.int (2 : Int32)), .val (.int (0 : Int32)), .val (.ref x_TERMINATE), .unset, .unset, .unset] [(.int (0 : Int32))]))
    obtain ⟨_, _, ⟨T40, L40, k40, n40⟩, -, X40, ⟨Lc40, hQ40, l40, y40, z40⟩, st40⟩ := Jvm.LawKit.callS X39 hx (y := (⟨"com/example/shrike/shrike/job/WorkerDirectiveOrStrongerPinLaw", "pick", "(I)Lcom/example/shrike/shrike/job/WorkerDirective;"⟩ : MethodName)) hown (mvT hZ (hw _ (List.mem_of_getElem? (i := 1) rfl))) (mvT hZ (hw _ (List.mem_of_getElem? (i := 2) rfl))) (mvT hZ (hw _ (List.mem_of_getElem? (i := 3) rfl))) (mvT hZ (hw _ (List.mem_of_getElem? (i := 4) rfl))) (by decide) (backOf (W := 0) (rm1 l Z a0 hw [] (0 : Int32) x_RUNNING x_QUIET x_TERMINATE h0 n0 ZZ OLD S_x_RUNNING S_x_QUIET S_x_TERMINATE) hZ (hw _ (List.mem_of_getElem? (i := 4) rfl)) (hw _ (List.mem_of_getElem? (i := 3) rfl)) (by decide) (by decide)) (g := (mkF m 21 #[.val (.int p0), .val (.int p1), .val (.int (2 : Int32)), .val (.int (0 : Int32)), .val (.ref x_TERMINATE), .unset, .unset, .unset] [(.int (0 : Int32))])) rfl (by rw [hml]; rfl) (argsL := [(.int (0 : Int32))]) (rest := []) (lenOf pd_1 rfl) rfl (by show 2 * 0 + _ ≤ _; exact Nat.le_of_eq rfl) (hb hby at_21) (fun _ _ => ⟨rfl, e39, (by decide : 0 + 0 ≤ _), (by decide : 0 + 0 ≤ _)⟩)
    dsimp only [Pt.U, Pt.locs, Pt.cells, Pt.slots] at X40 l40 y40 z40 st40 hQ40
    subst l40 y40 z40
    obtain ⟨rfl, N40q, e40⟩ := hQ40
    replace N0 := Fr.app N0 N40q
    refine gs st40 ?_
    show Go p e below s QQ room_1.cells room_1.slots (T40.setTop (mkF m 24 #[.val (.int p0), .val (.int p1), .val (.int (2 : Int32)), .val (.int (0 : Int32)), .val (.ref x_TERMINATE), .unset, .unset, .unset] [(.ref x_RUNNING)]))
    refine gs (fun t => XS.astore X40.here hx rfl (hb hby at_24) rfl rfl (l' := #[.val (.int p0), .val (.int p1), .val (.int (2 : Int32)), .val (.int (0 : Int32)), .val (.ref x_TERMINATE), .val (.ref x_RUNNING), .unset, .unset]) rfl) ?_
    show Go p e below s QQ room_1.cells room_1.slots (T40.setTop (mkF m 26 #[.val (.int p0), .val (.int p1), .val (.int (2 : Int32)), .val (.int (0 : Int32)), .val (.ref x_TERMINATE), .val (.ref x_RUNNING), .unset, .unset] []))
    refine gs (fun t => XS.iloadN X40.here hx rfl (hb hby at_26) rfl) ?_
    show Go p e below s QQ room_1.cells room_1.slots (T40.setTop (mkF m 27 #[.val (.int p0), .val (.int p1), .val (.int (2 : Int32)), .val (.int (0 : Int32)), .val (.ref x_TERMINATE), .val (.ref x_RUNNING), .unset, .unset] [(.int (2 : Int32))]))
    refine gs (fun t => XS.iloadN X40.here hx rfl (hb hby at_27) rfl) ?_
    show Go p e below s QQ room_1.cells room_1.slots (T40.setTop (mkF m 28 #[.val (.int p0), .val (.int p1), .val (.int (2 : Int32)), .val (.int (0 : Int32)), .val (.ref x_TERMINATE), .val (.ref x_RUNNING), .unset, .unset] [(.int (0 : Int32)), (.int (2 : Int32))]))
    obtain ⟨_, _, ⟨T41, L41, k41, n41⟩, -, X41, ⟨Lc41, hQ41, l41, y41, z41⟩, st41⟩ := Jvm.LawKit.callS X40 hx (y := (⟨"java/lang/Math", "max", "(II)I"⟩ : MethodName)) hown (mvT hZ (hw _ (List.mem_of_getElem? (i := 8) rfl))) (mvT hZ (hw _ (List.mem_of_getElem? (i := 9) rfl))) (mvT hZ (hw _ (List.mem_of_getElem? (i := 10) rfl))) (mvT hZ (hw _ (List.mem_of_getElem? (i := 11) rfl))) (by decide) (backOf (W := 0) (rm2 l Z a0 hw [] (2 : Int32) (0 : Int32) h0 n0 ZZ ) hZ (hw _ (List.mem_of_getElem? (i := 11) rfl)) (hw _ (List.mem_of_getElem? (i := 10) rfl)) (by decide) (by decide)) (g := (mkF m 28 #[.val (.int p0), .val (.int p1), .val (.int (2 : Int32)), .val (.int (0 : Int32)), .val (.ref x_TERMINATE), .val (.ref x_RUNNING), .unset, .unset] [(.int (0 : Int32)), (.int (2 : Int32))])) rfl (by rw [hml]; rfl) (argsL := [(.int (2 : Int32)), (.int (0 : Int32))]) (rest := []) (lenOf pd_2 rfl) rfl (by show 2 * 0 + _ ≤ _; exact Nat.le_of_eq rfl) (hb hby at_28) (fun _ _ => ⟨rfl, e40, (by decide : 0 + 0 ≤ _), (by decide : 0 + 0 ≤ _)⟩)
    dsimp only [Pt.U, Pt.locs, Pt.cells, Pt.slots] at X41 l41 y41 z41 st41 hQ41
    subst l41 y41 z41
    obtain ⟨rfl, N41q, e41⟩ := hQ41
    replace N0 := Fr.app N0 N41q
    refine gs st41 ?_
    show Go p e below s QQ room_1.cells room_1.slots (T41.setTop (mkF m 31 #[.val (.int p0), .val (.int p1), .val (.int (2 : Int32)), .val (.int (0 : Int32)), .val (.ref x_TERMINATE), .val (.ref x_RUNNING), .unset, .unset] [(.int (2 : Int32))]))
    obtain ⟨_, _, ⟨T42, L42, k42, n42⟩, -, X42, ⟨Lc42, hQ42, l42, y42, z42⟩, st42⟩ := Jvm.LawKit.callS X41 hx (y := (⟨"com/example/shrike/shrike/job/WorkerDirectiveOrStrongerPinLaw", "pick", "(I)Lcom/example/shrike/shrike/job/WorkerDirective;"⟩ : MethodName)) hown (mvT hZ (hw _ (List.mem_of_getElem? (i := 1) rfl))) (mvT hZ (hw _ (List.mem_of_getElem? (i := 2) rfl))) (mvT hZ (hw _ (List.mem_of_getElem? (i := 3) rfl))) (mvT hZ (hw _ (List.mem_of_getElem? (i := 4) rfl))) (by decide) (backOf (W := 0) (rm1 l Z a0 hw [] (2 : Int32) x_RUNNING x_QUIET x_TERMINATE h0 n0 ZZ OLD S_x_RUNNING S_x_QUIET S_x_TERMINATE) hZ (hw _ (List.mem_of_getElem? (i := 4) rfl)) (hw _ (List.mem_of_getElem? (i := 3) rfl)) (by decide) (by decide)) (g := (mkF m 31 #[.val (.int p0), .val (.int p1), .val (.int (2 : Int32)), .val (.int (0 : Int32)), .val (.ref x_TERMINATE), .val (.ref x_RUNNING), .unset, .unset] [(.int (2 : Int32))])) rfl (by rw [hml]; rfl) (argsL := [(.int (2 : Int32))]) (rest := []) (lenOf pd_1 rfl) rfl (by show 2 * 0 + _ ≤ _; exact Nat.le_of_eq rfl) (hb hby at_31) (fun _ _ => ⟨rfl, e41, (by decide : 0 + 0 ≤ _), (by decide : 0 + 0 ≤ _)⟩)
    dsimp only [Pt.U, Pt.locs, Pt.cells, Pt.slots] at X42 l42 y42 z42 st42 hQ42
    subst l42 y42 z42
    obtain ⟨rfl, N42q, e42⟩ := hQ42
    replace N0 := Fr.app N0 N42q
    refine gs st42 ?_
    show Go p e below s QQ room_1.cells room_1.slots (T42.setTop (mkF m 34 #[.val (.int p0), .val (.int p1), .val (.int (2 : Int32)), .val (.int (0 : Int32)), .val (.ref x_TERMINATE), .val (.ref x_RUNNING), .unset, .unset] [(.ref x_TERMINATE)]))
    refine gs (fun t => XS.astore X42.here hx rfl (hb hby at_34) rfl rfl (l' := #[.val (.int p0), .val (.int p1), .val (.int (2 : Int32)), .val (.int (0 : Int32)), .val (.ref x_TERMINATE), .val (.ref x_RUNNING), .val (.ref x_TERMINATE), .unset]) rfl) ?_
    show Go p e below s QQ room_1.cells room_1.slots (T42.setTop (mkF m 36 #[.val (.int p0), .val (.int p1), .val (.int (2 : Int32)), .val (.int (0 : Int32)), .val (.ref x_TERMINATE), .val (.ref x_RUNNING), .val (.ref x_TERMINATE), .unset] []))
    refine gs (fun t => XS.aload X42.here hx rfl (hb hby at_36) rfl rfl) ?_
    show Go p e below s QQ room_1.cells room_1.slots (T42.setTop (mkF m 38 #[.val (.int p0), .val (.int p1), .val (.int (2 : Int32)), .val (.int (0 : Int32)), .val (.ref x_TERMINATE), .val (.ref x_RUNNING), .val (.ref x_TERMINATE), .unset] [(.ref x_TERMINATE)]))
    refine gs (fun t => XS.aload X42.here hx rfl (hb hby at_38) rfl rfl) ?_
    show Go p e below s QQ room_1.cells room_1.slots (T42.setTop (mkF m 40 #[.val (.int p0), .val (.int p1), .val (.int (2 : Int32)), .val (.int (0 : Int32)), .val (.ref x_TERMINATE), .val (.ref x_RUNNING), .val (.ref x_TERMINATE), .unset] [(.ref x_RUNNING), (.ref x_TERMINATE)]))
    obtain ⟨cq43, kq43, q43a, q43b, q43c⟩ := isOf hZ e42 (E_x_TERMINATE.ext OLD.2)
    obtain ⟨_, _, ⟨T43, L43, k43, n43⟩, -, X43, ⟨Lc43, hQ43, l43, y43, z43⟩, st43⟩ := X42.virtualBack hx (y := (⟨"com/example/shrike/shrike/job/WorkerDirective", "orStronger", "(Lcom/example/shrike/shrike/job/WorkerDirective;)Lcom/example/shrike/shrike/job/WorkerDirective;"⟩ : MethodName)) (z := (⟨"com/example/shrike/shrike/job/WorkerDirective", "orStronger", "(Lcom/example/shrike/shrike/job/WorkerDirective;)Lcom/example/shrike/shrike/job/WorkerDirective;"⟩ : MethodName)) hown (mvT hZ (hw _ (List.mem_of_getElem? (i := 12) rfl))) (mvT hZ (hw _ (List.mem_of_getElem? (i := 13) rfl))) (notFace_of_selects (args := #[]) (mvT hZ (hw _ (List.mem_of_getElem? (i := 15) rfl)))) (mvT hZ (hw _ (List.mem_of_getElem? (i := 15) rfl))) (mvT hZ (hw _ (List.mem_of_getElem? (i := 14) rfl))) (by decide) (backOf (W := 0) (rm3 l Z a0 hw [] x_TERMINATE x_RUNNING (2 : Int32) (0 : Int32) mr h0 n0 ZZ (F_x_TERMINATE_ordinal.ext OLD.2) (F_x_RUNNING_ordinal.ext OLD.2) (E_x_TERMINATE.ext OLD.2) (E_x_RUNNING.ext OLD.2) MIR) hZ (hw _ (List.mem_of_getElem? (i := 16) rfl)) (hw _ (List.mem_of_getElem? (i := 6) rfl)) (by decide) (by decide)) q43a q43c (g := (mkF m 40 #[.val (.int p0), .val (.int p1), .val (.int (2 : Int32)), .val (.int (0 : Int32)), .val (.ref x_TERMINATE), .val (.ref x_RUNNING), .val (.ref x_TERMINATE), .unset] [(.ref x_RUNNING), (.ref x_TERMINATE)])) rfl (by rw [hml]; rfl) (Steps.refl _) (argsL := [(.ref x_RUNNING)]) (rest := []) (lenOf pd_3 rfl) rfl (by show 2 * 0 + _ ≤ _; exact Nat.le_of_eq rfl) (hb hby at_40) (fun _ _ => ⟨rfl, e42, (by decide : 0 + 0 ≤ _), (by decide : 0 + 0 ≤ _)⟩)
    dsimp only [Pt.U, Pt.locs, Pt.cells, Pt.slots] at X43 l43 y43 z43 st43 hQ43
    subst l43 y43 z43
    obtain ⟨rfl, N43q, e43⟩ := hQ43
    replace N0 := Fr.app N0 N43q
    refine gt st43 ?_
    show Go p e below s QQ room_1.cells room_1.slots (T43.setTop (mkF m 43 #[.val (.int p0), .val (.int p1), .val (.int (2 : Int32)), .val (.int (0 : Int32)), .val (.ref x_TERMINATE), .val (.ref x_RUNNING), .val (.ref x_TERMINATE), .unset] [(.ref x_TERMINATE)]))
    refine gs (fun t => XS.astore X43.here hx rfl (hb hby at_43) rfl rfl (l' := #[.val (.int p0), .val (.int p1), .val (.int (2 : Int32)), .val (.int (0 : Int32)), .val (.ref x_TERMINATE), .val (.ref x_RUNNING), .val (.ref x_TERMINATE), .val (.ref x_TERMINATE)]) rfl) ?_
    show Go p e below s QQ room_1.cells room_1.slots (T43.setTop (mkF m 45 #[.val (.int p0), .val (.int p1), .val (.int (2 : Int32)), .val (.int (0 : Int32)), .val (.ref x_TERMINATE), .val (.ref x_RUNNING), .val (.ref x_TERMINATE), .val (.ref x_TERMINATE)] []))
    refine gs (fun t => XS.aload X43.here hx rfl (hb hby at_45) rfl rfl) ?_
    show Go p e below s QQ room_1.cells room_1.slots (T43.setTop (mkF m 47 #[.val (.int p0), .val (.int p1), .val (.int (2 : Int32)), .val (.int (0 : Int32)), .val (.ref x_TERMINATE), .val (.ref x_RUNNING), .val (.ref x_TERMINATE), .val (.ref x_TERMINATE)] [(.ref x_TERMINATE)]))
    refine gs (fun t => XS.aload X43.here hx rfl (hb hby at_47) rfl rfl) ?_
    show Go p e below s QQ room_1.cells room_1.slots (T43.setTop (mkF m 49 #[.val (.int p0), .val (.int p1), .val (.int (2 : Int32)), .val (.int (0 : Int32)), .val (.ref x_TERMINATE), .val (.ref x_RUNNING), .val (.ref x_TERMINATE), .val (.ref x_TERMINATE)] [(.ref x_TERMINATE), (.ref x_TERMINATE)]))
    refine gs (fun t => Jvm.RoadKit.acmp (g := (mkF m 49 #[.val (.int p0), .val (.int p1), .val (.int (2 : Int32)), .val (.int (0 : Int32)), .val (.ref x_TERMINATE), .val (.ref x_RUNNING), .val (.ref x_TERMINATE), .val (.ref x_TERMINATE)] [(.ref x_TERMINATE), (.ref x_TERMINATE)])) X43 hx rfl rfl rfl (pc0 := 49) (pc' := 52) (same := true) rfl (hb hby at_49) rfl (decide_eq_true rfl) (by decide) (by decide)) ?_
    show Go p e below s QQ room_1.cells room_1.slots (T43.setTop (mkF m 52 #[.val (.int p0), .val (.int p1), .val (.int (2 : Int32)), .val (.int (0 : Int32)), .val (.ref x_TERMINATE), .val (.ref x_RUNNING), .val (.ref x_TERMINATE), .val (.ref x_TERMINATE)] []))
    refine gs (fun t => XS.iconst X43.here hx rfl (hb hby at_52)) ?_
    show Go p e below s QQ room_1.cells room_1.slots (T43.setTop (mkF m 53 #[.val (.int p0), .val (.int p1), .val (.int (2 : Int32)), .val (.int (0 : Int32)), .val (.ref x_TERMINATE), .val (.ref x_RUNNING), .val (.ref x_TERMINATE), .val (.ref x_TERMINATE)] [(.int (1 : Int32))]))
    refine gs (fun t => XS.goto X43.here hx rfl (pc0 := 53) (pc' := 57) rfl (hb hby at_53) (by decide) (by decide)) ?_
    show Go p e below s QQ room_1.cells room_1.slots (T43.setTop (mkF m 57 #[.val (.int p0), .val (.int p1), .val (.int (2 : Int32)), .val (.int (0 : Int32)), .val (.ref x_TERMINATE), .val (.ref x_RUNNING), .val (.ref x_TERMINATE), .val (.ref x_TERMINATE)] [(.int (1 : Int32))]))
    exact goB X43 hx Bd.notSynchronized Bd.returns (by simp) (w := (1 : Int32)) (by first | rfl | decide) (hb hby at_57) (by rw [← hQQ, e43]; exact ⟨rfl, N0⟩) (by decide) (by decide)
  · skip
    show Go p e below s QQ room_1.cells room_1.slots (s₁.setTop (mkF m 15 #[.val (.int p0), .val (.int p1), .val (.int (2 : Int32)), .val (.int (1 : Int32)), .unset, .unset, .unset, .unset] [(.int (2 : Int32))]))
    obtain ⟨_, _, ⟨T44, L44, k44, n44⟩, -, X44, ⟨Lc44, hQ44, l44, y44, z44⟩, st44⟩ := Jvm.LawKit.callS X0 hx (y := (⟨"com/example/shrike/shrike/job/WorkerDirectiveOrStrongerPinLaw", "pick", "(I)Lcom/example/shrike/shrike/job/WorkerDirective;"⟩ : MethodName)) hown (mvT hZ (hw _ (List.mem_of_getElem? (i := 1) rfl))) (mvT hZ (hw _ (List.mem_of_getElem? (i := 2) rfl))) (mvT hZ (hw _ (List.mem_of_getElem? (i := 3) rfl))) (mvT hZ (hw _ (List.mem_of_getElem? (i := 4) rfl))) (by decide) (backOf (W := 0) (rm1 l Z a0 hw [] (2 : Int32) x_RUNNING x_QUIET x_TERMINATE h0 n0 ZZ OLD S_x_RUNNING S_x_QUIET S_x_TERMINATE) hZ (hw _ (List.mem_of_getElem? (i := 4) rfl)) (hw _ (List.mem_of_getElem? (i := 3) rfl)) (by decide) (by decide)) (g := (mkF m 15 #[.val (.int p0), .val (.int p1), .val (.int (2 : Int32)), .val (.int (1 : Int32)), .unset, .unset, .unset, .unset] [(.int (2 : Int32))])) rfl (by rw [hml]; rfl) (argsL := [(.int (2 : Int32))]) (rest := []) (lenOf pd_1 rfl) rfl (by show 2 * 0 + _ ≤ _; exact Nat.le_of_eq rfl) (hb hby at_15) (fun _ _ => ⟨rfl, e0, (by decide : 0 + 0 ≤ _), (by decide : 0 + 0 ≤ _)⟩)
    dsimp only [Pt.U, Pt.locs, Pt.cells, Pt.slots] at X44 l44 y44 z44 st44 hQ44
    subst l44 y44 z44
    obtain ⟨rfl, N44q, e44⟩ := hQ44
    replace N0 := Fr.app N0 N44q
    refine gs st44 ?_
    show Go p e below s QQ room_1.cells room_1.slots (T44.setTop (mkF m 18 #[.val (.int p0), .val (.int p1), .val (.int (2 : Int32)), .val (.int (1 : Int32)), .unset, .unset, .unset, .unset] [(.ref x_TERMINATE)]))
    refine gs (fun t => XS.astore X44.here hx rfl (hb hby at_18) rfl rfl (l' := #[.val (.int p0), .val (.int p1), .val (.int (2 : Int32)), .val (.int (1 : Int32)), .val (.ref x_TERMINATE), .unset, .unset, .unset]) rfl) ?_
    show Go p e below s QQ room_1.cells room_1.slots (T44.setTop (mkF m 20 #[.val (.int p0), .val (.int p1), .val (.int (2 : Int32)), .val (.int (1 : Int32)), .val (.ref x_TERMINATE), .unset, .unset, .unset] []))
    refine gs (fun t => XS.iloadN X44.here hx rfl (hb hby at_20) rfl) ?_
    show Go p e below s QQ room_1.cells room_1.slots (T44.setTop (mkF m 21 #[.val (.int p0), .val (.int p1), .val (.int (2 : Int32)), .val (.int (1 : Int32)), .val (.ref x_TERMINATE), .unset, .unset, .unset] [(.int (1 : Int32))]))
    obtain ⟨_, _, ⟨T45, L45, k45, n45⟩, -, X45, ⟨Lc45, hQ45, l45, y45, z45⟩, st45⟩ := Jvm.LawKit.callS X44 hx (y := (⟨"com/example/shrike/shrike/job/WorkerDirectiveOrStrongerPinLaw", "pick", "(I)Lcom/example/shrike/shrike/job/WorkerDirective;"⟩ : MethodName)) hown (mvT hZ (hw _ (List.mem_of_getElem? (i := 1) rfl))) (mvT hZ (hw _ (List.mem_of_getElem? (i := 2) rfl))) (mvT hZ (hw _ (List.mem_of_getElem? (i := 3) rfl))) (mvT hZ (hw _ (List.mem_of_getElem? (i := 4) rfl))) (by decide) (backOf (W := 0) (rm1 l Z a0 hw [] (1 : Int32) x_RUNNING x_QUIET x_TERMINATE h0 n0 ZZ OLD S_x_RUNNING S_x_QUIET S_x_TERMINATE) hZ (hw _ (List.mem_of_getElem? (i := 4) rfl)) (hw _ (List.mem_of_getElem? (i := 3) rfl)) (by decide) (by decide)) (g := (mkF m 21 #[.val (.int p0), .val (.int p1), .val (.int (2 : Int32)), .val (.int (1 : Int32)), .val (.ref x_TERMINATE), .unset, .unset, .unset] [(.int (1 : Int32))])) rfl (by rw [hml]; rfl) (argsL := [(.int (1 : Int32))]) (rest := []) (lenOf pd_1 rfl) rfl (by show 2 * 0 + _ ≤ _; exact Nat.le_of_eq rfl) (hb hby at_21) (fun _ _ => ⟨rfl, e44, (by decide : 0 + 0 ≤ _), (by decide : 0 + 0 ≤ _)⟩)
    dsimp only [Pt.U, Pt.locs, Pt.cells, Pt.slots] at X45 l45 y45 z45 st45 hQ45
    subst l45 y45 z45
    obtain ⟨rfl, N45q, e45⟩ := hQ45
    replace N0 := Fr.app N0 N45q
    refine gs st45 ?_
    show Go p e below s QQ room_1.cells room_1.slots (T45.setTop (mkF m 24 #[.val (.int p0), .val (.int p1), .val (.int (2 : Int32)), .val (.int (1 : Int32)), .val (.ref x_TERMINATE), .unset, .unset, .unset] [(.ref x_QUIET)]))
    refine gs (fun t => XS.astore X45.here hx rfl (hb hby at_24) rfl rfl (l' := #[.val (.int p0), .val (.int p1), .val (.int (2 : Int32)), .val (.int (1 : Int32)), .val (.ref x_TERMINATE), .val (.ref x_QUIET), .unset, .unset]) rfl) ?_
    show Go p e below s QQ room_1.cells room_1.slots (T45.setTop (mkF m 26 #[.val (.int p0), .val (.int p1), .val (.int (2 : Int32)), .val (.int (1 : Int32)), .val (.ref x_TERMINATE), .val (.ref x_QUIET), .unset, .unset] []))
    refine gs (fun t => XS.iloadN X45.here hx rfl (hb hby at_26) rfl) ?_
    show Go p e below s QQ room_1.cells room_1.slots (T45.setTop (mkF m 27 #[.val (.int p0), .val (.int p1), .val (.int (2 : Int32)), .val (.int (1 : Int32)), .val (.ref x_TERMINATE), .val (.ref x_QUIET), .unset, .unset] [(.int (2 : Int32))]))
    refine gs (fun t => XS.iloadN X45.here hx rfl (hb hby at_27) rfl) ?_
    show Go p e below s QQ room_1.cells room_1.slots (T45.setTop (mkF m 28 #[.val (.int p0), .val (.int p1), .val (.int (2 : Int32)), .val (.int (1 : Int32)), .val (.ref x_TERMINATE), .val (.ref x_QUIET), .unset, .unset] [(.int (1 : Int32)), (.int (2 : Int32))]))
    obtain ⟨_, _, ⟨T46, L46, k46, n46⟩, -, X46, ⟨Lc46, hQ46, l46, y46, z46⟩, st46⟩ := Jvm.LawKit.callS X45 hx (y := (⟨"java/lang/Math", "max", "(II)I"⟩ : MethodName)) hown (mvT hZ (hw _ (List.mem_of_getElem? (i := 8) rfl))) (mvT hZ (hw _ (List.mem_of_getElem? (i := 9) rfl))) (mvT hZ (hw _ (List.mem_of_getElem? (i := 10) rfl))) (mvT hZ (hw _ (List.mem_of_getElem? (i := 11) rfl))) (by decide) (backOf (W := 0) (rm2 l Z a0 hw [] (2 : Int32) (1 : Int32) h0 n0 ZZ ) hZ (hw _ (List.mem_of_getElem? (i := 11) rfl)) (hw _ (List.mem_of_getElem? (i := 10) rfl)) (by decide) (by decide)) (g := (mkF m 28 #[.val (.int p0), .val (.int p1), .val (.int (2 : Int32)), .val (.int (1 : Int32)), .val (.ref x_TERMINATE), .val (.ref x_QUIET), .unset, .unset] [(.int (1 : Int32)), (.int (2 : Int32))])) rfl (by rw [hml]; rfl) (argsL := [(.int (2 : Int32)), (.int (1 : Int32))]) (rest := []) (lenOf pd_2 rfl) rfl (by show 2 * 0 + _ ≤ _; exact Nat.le_of_eq rfl) (hb hby at_28) (fun _ _ => ⟨rfl, e45, (by decide : 0 + 0 ≤ _), (by decide : 0 + 0 ≤ _)⟩)
    dsimp only [Pt.U, Pt.locs, Pt.cells, Pt.slots] at X46 l46 y46 z46 st46 hQ46
    subst l46 y46 z46
    obtain ⟨rfl, N46q, e46⟩ := hQ46
    replace N0 := Fr.app N0 N46q
    refine gs st46 ?_
    show Go p e below s QQ room_1.cells room_1.slots (T46.setTop (mkF m 31 #[.val (.int p0), .val (.int p1), .val (.int (2 : Int32)), .val (.int (1 : Int32)), .val (.ref x_TERMINATE), .val (.ref x_QUIET), .unset, .unset] [(.int (2 : Int32))]))
    obtain ⟨_, _, ⟨T47, L47, k47, n47⟩, -, X47, ⟨Lc47, hQ47, l47, y47, z47⟩, st47⟩ := Jvm.LawKit.callS X46 hx (y := (⟨"com/example/shrike/shrike/job/WorkerDirectiveOrStrongerPinLaw", "pick", "(I)Lcom/example/shrike/shrike/job/WorkerDirective;"⟩ : MethodName)) hown (mvT hZ (hw _ (List.mem_of_getElem? (i := 1) rfl))) (mvT hZ (hw _ (List.mem_of_getElem? (i := 2) rfl))) (mvT hZ (hw _ (List.mem_of_getElem? (i := 3) rfl))) (mvT hZ (hw _ (List.mem_of_getElem? (i := 4) rfl))) (by decide) (backOf (W := 0) (rm1 l Z a0 hw [] (2 : Int32) x_RUNNING x_QUIET x_TERMINATE h0 n0 ZZ OLD S_x_RUNNING S_x_QUIET S_x_TERMINATE) hZ (hw _ (List.mem_of_getElem? (i := 4) rfl)) (hw _ (List.mem_of_getElem? (i := 3) rfl)) (by decide) (by decide)) (g := (mkF m 31 #[.val (.int p0), .val (.int p1), .val (.int (2 : Int32)), .val (.int (1 : Int32)), .val (.ref x_TERMINATE), .val (.ref x_QUIET), .unset, .unset] [(.int (2 : Int32))])) rfl (by rw [hml]; rfl) (argsL := [(.int (2 : Int32))]) (rest := []) (lenOf pd_1 rfl) rfl (by show 2 * 0 + _ ≤ _; exact Nat.le_of_eq rfl) (hb hby at_31) (fun _ _ => ⟨rfl, e46, (by decide : 0 + 0 ≤ _), (by decide : 0 + 0 ≤ _)⟩)
    dsimp only [Pt.U, Pt.locs, Pt.cells, Pt.slots] at X47 l47 y47 z47 st47 hQ47
    subst l47 y47 z47
    obtain ⟨rfl, N47q, e47⟩ := hQ47
    replace N0 := Fr.app N0 N47q
    refine gs st47 ?_
    show Go p e below s QQ room_1.cells room_1.slots (T47.setTop (mkF m 34 #[.val (.int p0), .val (.int p1), .val (.int (2 : Int32)), .val (.int (1 : Int32)), .val (.ref x_TERMINATE), .val (.ref x_QUIET), .unset, .unset] [(.ref x_TERMINATE)]))
    refine gs (fun t => XS.astore X47.here hx rfl (hb hby at_34) rfl rfl (l' := #[.val (.int p0), .val (.int p1), .val (.int (2 : Int32)), .val (.int (1 : Int32)), .val (.ref x_TERMINATE), .val (.ref x_QUIET), .val (.ref x_TERMINATE), .unset]) rfl) ?_
    show Go p e below s QQ room_1.cells room_1.slots (T47.setTop (mkF m 36 #[.val (.int p0), .val (.int p1), .val (.int (2 : Int32)), .val (.int (1 : Int32)), .val (.ref x_TERMINATE), .val (.ref x_QUIET), .val (.ref x_TERMINATE), .unset] []))
    refine gs (fun t => XS.aload X47.here hx rfl (hb hby at_36) rfl rfl) ?_
    show Go p e below s QQ room_1.cells room_1.slots (T47.setTop (mkF m 38 #[.val (.int p0), .val (.int p1), .val (.int (2 : Int32)), .val (.int (1 : Int32)), .val (.ref x_TERMINATE), .val (.ref x_QUIET), .val (.ref x_TERMINATE), .unset] [(.ref x_TERMINATE)]))
    refine gs (fun t => XS.aload X47.here hx rfl (hb hby at_38) rfl rfl) ?_
    show Go p e below s QQ room_1.cells room_1.slots (T47.setTop (mkF m 40 #[.val (.int p0), .val (.int p1), .val (.int (2 : Int32)), .val (.int (1 : Int32)), .val (.ref x_TERMINATE), .val (.ref x_QUIET), .val (.ref x_TERMINATE), .unset] [(.ref x_QUIET), (.ref x_TERMINATE)]))
    obtain ⟨cq48, kq48, q48a, q48b, q48c⟩ := isOf hZ e47 (E_x_TERMINATE.ext OLD.2)
    obtain ⟨_, _, ⟨T48, L48, k48, n48⟩, -, X48, ⟨Lc48, hQ48, l48, y48, z48⟩, st48⟩ := X47.virtualBack hx (y := (⟨"com/example/shrike/shrike/job/WorkerDirective", "orStronger", "(Lcom/example/shrike/shrike/job/WorkerDirective;)Lcom/example/shrike/shrike/job/WorkerDirective;"⟩ : MethodName)) (z := (⟨"com/example/shrike/shrike/job/WorkerDirective", "orStronger", "(Lcom/example/shrike/shrike/job/WorkerDirective;)Lcom/example/shrike/shrike/job/WorkerDirective;"⟩ : MethodName)) hown (mvT hZ (hw _ (List.mem_of_getElem? (i := 12) rfl))) (mvT hZ (hw _ (List.mem_of_getElem? (i := 13) rfl))) (notFace_of_selects (args := #[]) (mvT hZ (hw _ (List.mem_of_getElem? (i := 15) rfl)))) (mvT hZ (hw _ (List.mem_of_getElem? (i := 15) rfl))) (mvT hZ (hw _ (List.mem_of_getElem? (i := 14) rfl))) (by decide) (backOf (W := 0) (rm3 l Z a0 hw [] x_TERMINATE x_QUIET (2 : Int32) (1 : Int32) mr h0 n0 ZZ (F_x_TERMINATE_ordinal.ext OLD.2) (F_x_QUIET_ordinal.ext OLD.2) (E_x_TERMINATE.ext OLD.2) (E_x_QUIET.ext OLD.2) MIR) hZ (hw _ (List.mem_of_getElem? (i := 16) rfl)) (hw _ (List.mem_of_getElem? (i := 6) rfl)) (by decide) (by decide)) q48a q48c (g := (mkF m 40 #[.val (.int p0), .val (.int p1), .val (.int (2 : Int32)), .val (.int (1 : Int32)), .val (.ref x_TERMINATE), .val (.ref x_QUIET), .val (.ref x_TERMINATE), .unset] [(.ref x_QUIET), (.ref x_TERMINATE)])) rfl (by rw [hml]; rfl) (Steps.refl _) (argsL := [(.ref x_QUIET)]) (rest := []) (lenOf pd_3 rfl) rfl (by show 2 * 0 + _ ≤ _; exact Nat.le_of_eq rfl) (hb hby at_40) (fun _ _ => ⟨rfl, e47, (by decide : 0 + 0 ≤ _), (by decide : 0 + 0 ≤ _)⟩)
    dsimp only [Pt.U, Pt.locs, Pt.cells, Pt.slots] at X48 l48 y48 z48 st48 hQ48
    subst l48 y48 z48
    obtain ⟨rfl, N48q, e48⟩ := hQ48
    replace N0 := Fr.app N0 N48q
    refine gt st48 ?_
    show Go p e below s QQ room_1.cells room_1.slots (T48.setTop (mkF m 43 #[.val (.int p0), .val (.int p1), .val (.int (2 : Int32)), .val (.int (1 : Int32)), .val (.ref x_TERMINATE), .val (.ref x_QUIET), .val (.ref x_TERMINATE), .unset] [(.ref x_TERMINATE)]))
    refine gs (fun t => XS.astore X48.here hx rfl (hb hby at_43) rfl rfl (l' := #[.val (.int p0), .val (.int p1), .val (.int (2 : Int32)), .val (.int (1 : Int32)), .val (.ref x_TERMINATE), .val (.ref x_QUIET), .val (.ref x_TERMINATE), .val (.ref x_TERMINATE)]) rfl) ?_
    show Go p e below s QQ room_1.cells room_1.slots (T48.setTop (mkF m 45 #[.val (.int p0), .val (.int p1), .val (.int (2 : Int32)), .val (.int (1 : Int32)), .val (.ref x_TERMINATE), .val (.ref x_QUIET), .val (.ref x_TERMINATE), .val (.ref x_TERMINATE)] []))
    refine gs (fun t => XS.aload X48.here hx rfl (hb hby at_45) rfl rfl) ?_
    show Go p e below s QQ room_1.cells room_1.slots (T48.setTop (mkF m 47 #[.val (.int p0), .val (.int p1), .val (.int (2 : Int32)), .val (.int (1 : Int32)), .val (.ref x_TERMINATE), .val (.ref x_QUIET), .val (.ref x_TERMINATE), .val (.ref x_TERMINATE)] [(.ref x_TERMINATE)]))
    refine gs (fun t => XS.aload X48.here hx rfl (hb hby at_47) rfl rfl) ?_
    show Go p e below s QQ room_1.cells room_1.slots (T48.setTop (mkF m 49 #[.val (.int p0), .val (.int p1), .val (.int (2 : Int32)), .val (.int (1 : Int32)), .val (.ref x_TERMINATE), .val (.ref x_QUIET), .val (.ref x_TERMINATE), .val (.ref x_TERMINATE)] [(.ref x_TERMINATE), (.ref x_TERMINATE)]))
    refine gs (fun t => Jvm.RoadKit.acmp (g := (mkF m 49 #[.val (.int p0), .val (.int p1), .val (.int (2 : Int32)), .val (.int (1 : Int32)), .val (.ref x_TERMINATE), .val (.ref x_QUIET), .val (.ref x_TERMINATE), .val (.ref x_TERMINATE)] [(.ref x_TERMINATE), (.ref x_TERMINATE)])) X48 hx rfl rfl rfl (pc0 := 49) (pc' := 52) (same := true) rfl (hb hby at_49) rfl (decide_eq_true rfl) (by decide) (by decide)) ?_
    show Go p e below s QQ room_1.cells room_1.slots (T48.setTop (mkF m 52 #[.val (.int p0), .val (.int p1), .val (.int (2 : Int32)), .val (.int (1 : Int32)), .val (.ref x_TERMINATE), .val (.ref x_QUIET), .val (.ref x_TERMINATE), .val (.ref x_TERMINATE)] []))
    refine gs (fun t => XS.iconst X48.here hx rfl (hb hby at_52)) ?_
    show Go p e below s QQ room_1.cells room_1.slots (T48.setTop (mkF m 53 #[.val (.int p0), .val (.int p1), .val (.int (2 : Int32)), .val (.int (1 : Int32)), .val (.ref x_TERMINATE), .val (.ref x_QUIET), .val (.ref x_TERMINATE), .val (.ref x_TERMINATE)] [(.int (1 : Int32))]))
    refine gs (fun t => XS.goto X48.here hx rfl (pc0 := 53) (pc' := 57) rfl (hb hby at_53) (by decide) (by decide)) ?_
    show Go p e below s QQ room_1.cells room_1.slots (T48.setTop (mkF m 57 #[.val (.int p0), .val (.int p1), .val (.int (2 : Int32)), .val (.int (1 : Int32)), .val (.ref x_TERMINATE), .val (.ref x_QUIET), .val (.ref x_TERMINATE), .val (.ref x_TERMINATE)] [(.int (1 : Int32))]))
    exact goB X48 hx Bd.notSynchronized Bd.returns (by simp) (w := (1 : Int32)) (by first | rfl | decide) (hb hby at_57) (by rw [← hQQ, e48]; exact ⟨rfl, N0⟩) (by decide) (by decide)
  · skip
    show Go p e below s QQ room_1.cells room_1.slots (s₁.setTop (mkF m 15 #[.val (.int p0), .val (.int p1), .val (.int (2 : Int32)), .val (.int (2 : Int32)), .unset, .unset, .unset, .unset] [(.int (2 : Int32))]))
    obtain ⟨_, _, ⟨T49, L49, k49, n49⟩, -, X49, ⟨Lc49, hQ49, l49, y49, z49⟩, st49⟩ := Jvm.LawKit.callS X0 hx (y := (⟨"com/example/shrike/shrike/job/WorkerDirectiveOrStrongerPinLaw", "pick", "(I)Lcom/example/shrike/shrike/job/WorkerDirective;"⟩ : MethodName)) hown (mvT hZ (hw _ (List.mem_of_getElem? (i := 1) rfl))) (mvT hZ (hw _ (List.mem_of_getElem? (i := 2) rfl))) (mvT hZ (hw _ (List.mem_of_getElem? (i := 3) rfl))) (mvT hZ (hw _ (List.mem_of_getElem? (i := 4) rfl))) (by decide) (backOf (W := 0) (rm1 l Z a0 hw [] (2 : Int32) x_RUNNING x_QUIET x_TERMINATE h0 n0 ZZ OLD S_x_RUNNING S_x_QUIET S_x_TERMINATE) hZ (hw _ (List.mem_of_getElem? (i := 4) rfl)) (hw _ (List.mem_of_getElem? (i := 3) rfl)) (by decide) (by decide)) (g := (mkF m 15 #[.val (.int p0), .val (.int p1), .val (.int (2 : Int32)), .val (.int (2 : Int32)), .unset, .unset, .unset, .unset] [(.int (2 : Int32))])) rfl (by rw [hml]; rfl) (argsL := [(.int (2 : Int32))]) (rest := []) (lenOf pd_1 rfl) rfl (by show 2 * 0 + _ ≤ _; exact Nat.le_of_eq rfl) (hb hby at_15) (fun _ _ => ⟨rfl, e0, (by decide : 0 + 0 ≤ _), (by decide : 0 + 0 ≤ _)⟩)
    dsimp only [Pt.U, Pt.locs, Pt.cells, Pt.slots] at X49 l49 y49 z49 st49 hQ49
    subst l49 y49 z49
    obtain ⟨rfl, N49q, e49⟩ := hQ49
    replace N0 := Fr.app N0 N49q
    refine gs st49 ?_
    show Go p e below s QQ room_1.cells room_1.slots (T49.setTop (mkF m 18 #[.val (.int p0), .val (.int p1), .val (.int (2 : Int32)), .val (.int (2 : Int32)), .unset, .unset, .unset, .unset] [(.ref x_TERMINATE)]))
    refine gs (fun t => XS.astore X49.here hx rfl (hb hby at_18) rfl rfl (l' := #[.val (.int p0), .val (.int p1), .val (.int (2 : Int32)), .val (.int (2 : Int32)), .val (.ref x_TERMINATE), .unset, .unset, .unset]) rfl) ?_
    show Go p e below s QQ room_1.cells room_1.slots (T49.setTop (mkF m 20 #[.val (.int p0), .val (.int p1), .val (.int (2 : Int32)), .val (.int (2 : Int32)), .val (.ref x_TERMINATE), .unset, .unset, .unset] []))
    refine gs (fun t => XS.iloadN X49.here hx rfl (hb hby at_20) rfl) ?_
    show Go p e below s QQ room_1.cells room_1.slots (T49.setTop (mkF m 21 #[.val (.int p0), .val (.int p1), .val (.int (2 : Int32)), .val (.int (2 : Int32)), .val (.ref x_TERMINATE), .unset, .unset, .unset] [(.int (2 : Int32))]))
    obtain ⟨_, _, ⟨T50, L50, k50, n50⟩, -, X50, ⟨Lc50, hQ50, l50, y50, z50⟩, st50⟩ := Jvm.LawKit.callS X49 hx (y := (⟨"com/example/shrike/shrike/job/WorkerDirectiveOrStrongerPinLaw", "pick", "(I)Lcom/example/shrike/shrike/job/WorkerDirective;"⟩ : MethodName)) hown (mvT hZ (hw _ (List.mem_of_getElem? (i := 1) rfl))) (mvT hZ (hw _ (List.mem_of_getElem? (i := 2) rfl))) (mvT hZ (hw _ (List.mem_of_getElem? (i := 3) rfl))) (mvT hZ (hw _ (List.mem_of_getElem? (i := 4) rfl))) (by decide) (backOf (W := 0) (rm1 l Z a0 hw [] (2 : Int32) x_RUNNING x_QUIET x_TERMINATE h0 n0 ZZ OLD S_x_RUNNING S_x_QUIET S_x_TERMINATE) hZ (hw _ (List.mem_of_getElem? (i := 4) rfl)) (hw _ (List.mem_of_getElem? (i := 3) rfl)) (by decide) (by decide)) (g := (mkF m 21 #[.val (.int p0), .val (.int p1), .val (.int (2 : Int32)), .val (.int (2 : Int32)), .val (.ref x_TERMINATE), .unset, .unset, .unset] [(.int (2 : Int32))])) rfl (by rw [hml]; rfl) (argsL := [(.int (2 : Int32))]) (rest := []) (lenOf pd_1 rfl) rfl (by show 2 * 0 + _ ≤ _; exact Nat.le_of_eq rfl) (hb hby at_21) (fun _ _ => ⟨rfl, e49, (by decide : 0 + 0 ≤ _), (by decide : 0 + 0 ≤ _)⟩)
    dsimp only [Pt.U, Pt.locs, Pt.cells, Pt.slots] at X50 l50 y50 z50 st50 hQ50
    subst l50 y50 z50
    obtain ⟨rfl, N50q, e50⟩ := hQ50
    replace N0 := Fr.app N0 N50q
    refine gs st50 ?_
    show Go p e below s QQ room_1.cells room_1.slots (T50.setTop (mkF m 24 #[.val (.int p0), .val (.int p1), .val (.int (2 : Int32)), .val (.int (2 : Int32)), .val (.ref x_TERMINATE), .unset, .unset, .unset] [(.ref x_TERMINATE)]))
    refine gs (fun t => XS.astore X50.here hx rfl (hb hby at_24) rfl rfl (l' := #[.val (.int p0), .val (.int p1), .val (.int (2 : Int32)), .val (.int (2 : Int32)), .val (.ref x_TERMINATE), .val (.ref x_TERMINATE), .unset, .unset]) rfl) ?_
    show Go p e below s QQ room_1.cells room_1.slots (T50.setTop (mkF m 26 #[.val (.int p0), .val (.int p1), .val (.int (2 : Int32)), .val (.int (2 : Int32)), .val (.ref x_TERMINATE), .val (.ref x_TERMINATE), .unset, .unset] []))
    refine gs (fun t => XS.iloadN X50.here hx rfl (hb hby at_26) rfl) ?_
    show Go p e below s QQ room_1.cells room_1.slots (T50.setTop (mkF m 27 #[.val (.int p0), .val (.int p1), .val (.int (2 : Int32)), .val (.int (2 : Int32)), .val (.ref x_TERMINATE), .val (.ref x_TERMINATE), .unset, .unset] [(.int (2 : Int32))]))
    refine gs (fun t => XS.iloadN X50.here hx rfl (hb hby at_27) rfl) ?_
    show Go p e below s QQ room_1.cells room_1.slots (T50.setTop (mkF m 28 #[.val (.int p0), .val (.int p1), .val (.int (2 : Int32)), .val (.int (2 : Int32)), .val (.ref x_TERMINATE), .val (.ref x_TERMINATE), .unset, .unset] [(.int (2 : Int32)), (.int (2 : Int32))]))
    obtain ⟨_, _, ⟨T51, L51, k51, n51⟩, -, X51, ⟨Lc51, hQ51, l51, y51, z51⟩, st51⟩ := Jvm.LawKit.callS X50 hx (y := (⟨"java/lang/Math", "max", "(II)I"⟩ : MethodName)) hown (mvT hZ (hw _ (List.mem_of_getElem? (i := 8) rfl))) (mvT hZ (hw _ (List.mem_of_getElem? (i := 9) rfl))) (mvT hZ (hw _ (List.mem_of_getElem? (i := 10) rfl))) (mvT hZ (hw _ (List.mem_of_getElem? (i := 11) rfl))) (by decide) (backOf (W := 0) (rm2 l Z a0 hw [] (2 : Int32) (2 : Int32) h0 n0 ZZ ) hZ (hw _ (List.mem_of_getElem? (i := 11) rfl)) (hw _ (List.mem_of_getElem? (i := 10) rfl)) (by decide) (by decide)) (g := (mkF m 28 #[.val (.int p0), .val (.int p1), .val (.int (2 : Int32)), .val (.int (2 : Int32)), .val (.ref x_TERMINATE), .val (.ref x_TERMINATE), .unset, .unset] [(.int (2 : Int32)), (.int (2 : Int32))])) rfl (by rw [hml]; rfl) (argsL := [(.int (2 : Int32)), (.int (2 : Int32))]) (rest := []) (lenOf pd_2 rfl) rfl (by show 2 * 0 + _ ≤ _; exact Nat.le_of_eq rfl) (hb hby at_28) (fun _ _ => ⟨rfl, e50, (by decide : 0 + 0 ≤ _), (by decide : 0 + 0 ≤ _)⟩)
    dsimp only [Pt.U, Pt.locs, Pt.cells, Pt.slots] at X51 l51 y51 z51 st51 hQ51
    subst l51 y51 z51
    obtain ⟨rfl, N51q, e51⟩ := hQ51
    replace N0 := Fr.app N0 N51q
    refine gs st51 ?_
    show Go p e below s QQ room_1.cells room_1.slots (T51.setTop (mkF m 31 #[.val (.int p0), .val (.int p1), .val (.int (2 : Int32)), .val (.int (2 : Int32)), .val (.ref x_TERMINATE), .val (.ref x_TERMINATE), .unset, .unset] [(.int (2 : Int32))]))
    obtain ⟨_, _, ⟨T52, L52, k52, n52⟩, -, X52, ⟨Lc52, hQ52, l52, y52, z52⟩, st52⟩ := Jvm.LawKit.callS X51 hx (y := (⟨"com/example/shrike/shrike/job/WorkerDirectiveOrStrongerPinLaw", "pick", "(I)Lcom/example/shrike/shrike/job/WorkerDirective;"⟩ : MethodName)) hown (mvT hZ (hw _ (List.mem_of_getElem? (i := 1) rfl))) (mvT hZ (hw _ (List.mem_of_getElem? (i := 2) rfl))) (mvT hZ (hw _ (List.mem_of_getElem? (i := 3) rfl))) (mvT hZ (hw _ (List.mem_of_getElem? (i := 4) rfl))) (by decide) (backOf (W := 0) (rm1 l Z a0 hw [] (2 : Int32) x_RUNNING x_QUIET x_TERMINATE h0 n0 ZZ OLD S_x_RUNNING S_x_QUIET S_x_TERMINATE) hZ (hw _ (List.mem_of_getElem? (i := 4) rfl)) (hw _ (List.mem_of_getElem? (i := 3) rfl)) (by decide) (by decide)) (g := (mkF m 31 #[.val (.int p0), .val (.int p1), .val (.int (2 : Int32)), .val (.int (2 : Int32)), .val (.ref x_TERMINATE), .val (.ref x_TERMINATE), .unset, .unset] [(.int (2 : Int32))])) rfl (by rw [hml]; rfl) (argsL := [(.int (2 : Int32))]) (rest := []) (lenOf pd_1 rfl) rfl (by show 2 * 0 + _ ≤ _; exact Nat.le_of_eq rfl) (hb hby at_31) (fun _ _ => ⟨rfl, e51, (by decide : 0 + 0 ≤ _), (by decide : 0 + 0 ≤ _)⟩)
    dsimp only [Pt.U, Pt.locs, Pt.cells, Pt.slots] at X52 l52 y52 z52 st52 hQ52
    subst l52 y52 z52
    obtain ⟨rfl, N52q, e52⟩ := hQ52
    replace N0 := Fr.app N0 N52q
    refine gs st52 ?_
    show Go p e below s QQ room_1.cells room_1.slots (T52.setTop (mkF m 34 #[.val (.int p0), .val (.int p1), .val (.int (2 : Int32)), .val (.int (2 : Int32)), .val (.ref x_TERMINATE), .val (.ref x_TERMINATE), .unset, .unset] [(.ref x_TERMINATE)]))
    refine gs (fun t => XS.astore X52.here hx rfl (hb hby at_34) rfl rfl (l' := #[.val (.int p0), .val (.int p1), .val (.int (2 : Int32)), .val (.int (2 : Int32)), .val (.ref x_TERMINATE), .val (.ref x_TERMINATE), .val (.ref x_TERMINATE), .unset]) rfl) ?_
    show Go p e below s QQ room_1.cells room_1.slots (T52.setTop (mkF m 36 #[.val (.int p0), .val (.int p1), .val (.int (2 : Int32)), .val (.int (2 : Int32)), .val (.ref x_TERMINATE), .val (.ref x_TERMINATE), .val (.ref x_TERMINATE), .unset] []))
    refine gs (fun t => XS.aload X52.here hx rfl (hb hby at_36) rfl rfl) ?_
    show Go p e below s QQ room_1.cells room_1.slots (T52.setTop (mkF m 38 #[.val (.int p0), .val (.int p1), .val (.int (2 : Int32)), .val (.int (2 : Int32)), .val (.ref x_TERMINATE), .val (.ref x_TERMINATE), .val (.ref x_TERMINATE), .unset] [(.ref x_TERMINATE)]))
    refine gs (fun t => XS.aload X52.here hx rfl (hb hby at_38) rfl rfl) ?_
    show Go p e below s QQ room_1.cells room_1.slots (T52.setTop (mkF m 40 #[.val (.int p0), .val (.int p1), .val (.int (2 : Int32)), .val (.int (2 : Int32)), .val (.ref x_TERMINATE), .val (.ref x_TERMINATE), .val (.ref x_TERMINATE), .unset] [(.ref x_TERMINATE), (.ref x_TERMINATE)]))
    obtain ⟨cq53, kq53, q53a, q53b, q53c⟩ := isOf hZ e52 (E_x_TERMINATE.ext OLD.2)
    obtain ⟨_, _, ⟨T53, L53, k53, n53⟩, -, X53, ⟨Lc53, hQ53, l53, y53, z53⟩, st53⟩ := X52.virtualBack hx (y := (⟨"com/example/shrike/shrike/job/WorkerDirective", "orStronger", "(Lcom/example/shrike/shrike/job/WorkerDirective;)Lcom/example/shrike/shrike/job/WorkerDirective;"⟩ : MethodName)) (z := (⟨"com/example/shrike/shrike/job/WorkerDirective", "orStronger", "(Lcom/example/shrike/shrike/job/WorkerDirective;)Lcom/example/shrike/shrike/job/WorkerDirective;"⟩ : MethodName)) hown (mvT hZ (hw _ (List.mem_of_getElem? (i := 12) rfl))) (mvT hZ (hw _ (List.mem_of_getElem? (i := 13) rfl))) (notFace_of_selects (args := #[]) (mvT hZ (hw _ (List.mem_of_getElem? (i := 15) rfl)))) (mvT hZ (hw _ (List.mem_of_getElem? (i := 15) rfl))) (mvT hZ (hw _ (List.mem_of_getElem? (i := 14) rfl))) (by decide) (backOf (W := 0) (rm3 l Z a0 hw [] x_TERMINATE x_TERMINATE (2 : Int32) (2 : Int32) mr h0 n0 ZZ (F_x_TERMINATE_ordinal.ext OLD.2) (F_x_TERMINATE_ordinal.ext OLD.2) (E_x_TERMINATE.ext OLD.2) (E_x_TERMINATE.ext OLD.2) MIR) hZ (hw _ (List.mem_of_getElem? (i := 16) rfl)) (hw _ (List.mem_of_getElem? (i := 6) rfl)) (by decide) (by decide)) q53a q53c (g := (mkF m 40 #[.val (.int p0), .val (.int p1), .val (.int (2 : Int32)), .val (.int (2 : Int32)), .val (.ref x_TERMINATE), .val (.ref x_TERMINATE), .val (.ref x_TERMINATE), .unset] [(.ref x_TERMINATE), (.ref x_TERMINATE)])) rfl (by rw [hml]; rfl) (Steps.refl _) (argsL := [(.ref x_TERMINATE)]) (rest := []) (lenOf pd_3 rfl) rfl (by show 2 * 0 + _ ≤ _; exact Nat.le_of_eq rfl) (hb hby at_40) (fun _ _ => ⟨rfl, e52, (by decide : 0 + 0 ≤ _), (by decide : 0 + 0 ≤ _)⟩)
    dsimp only [Pt.U, Pt.locs, Pt.cells, Pt.slots] at X53 l53 y53 z53 st53 hQ53
    subst l53 y53 z53
    obtain ⟨rfl, N53q, e53⟩ := hQ53
    replace N0 := Fr.app N0 N53q
    refine gt st53 ?_
    show Go p e below s QQ room_1.cells room_1.slots (T53.setTop (mkF m 43 #[.val (.int p0), .val (.int p1), .val (.int (2 : Int32)), .val (.int (2 : Int32)), .val (.ref x_TERMINATE), .val (.ref x_TERMINATE), .val (.ref x_TERMINATE), .unset] [(.ref x_TERMINATE)]))
    refine gs (fun t => XS.astore X53.here hx rfl (hb hby at_43) rfl rfl (l' := #[.val (.int p0), .val (.int p1), .val (.int (2 : Int32)), .val (.int (2 : Int32)), .val (.ref x_TERMINATE), .val (.ref x_TERMINATE), .val (.ref x_TERMINATE), .val (.ref x_TERMINATE)]) rfl) ?_
    show Go p e below s QQ room_1.cells room_1.slots (T53.setTop (mkF m 45 #[.val (.int p0), .val (.int p1), .val (.int (2 : Int32)), .val (.int (2 : Int32)), .val (.ref x_TERMINATE), .val (.ref x_TERMINATE), .val (.ref x_TERMINATE), .val (.ref x_TERMINATE)] []))
    refine gs (fun t => XS.aload X53.here hx rfl (hb hby at_45) rfl rfl) ?_
    show Go p e below s QQ room_1.cells room_1.slots (T53.setTop (mkF m 47 #[.val (.int p0), .val (.int p1), .val (.int (2 : Int32)), .val (.int (2 : Int32)), .val (.ref x_TERMINATE), .val (.ref x_TERMINATE), .val (.ref x_TERMINATE), .val (.ref x_TERMINATE)] [(.ref x_TERMINATE)]))
    refine gs (fun t => XS.aload X53.here hx rfl (hb hby at_47) rfl rfl) ?_
    show Go p e below s QQ room_1.cells room_1.slots (T53.setTop (mkF m 49 #[.val (.int p0), .val (.int p1), .val (.int (2 : Int32)), .val (.int (2 : Int32)), .val (.ref x_TERMINATE), .val (.ref x_TERMINATE), .val (.ref x_TERMINATE), .val (.ref x_TERMINATE)] [(.ref x_TERMINATE), (.ref x_TERMINATE)]))
    refine gs (fun t => Jvm.RoadKit.acmp (g := (mkF m 49 #[.val (.int p0), .val (.int p1), .val (.int (2 : Int32)), .val (.int (2 : Int32)), .val (.ref x_TERMINATE), .val (.ref x_TERMINATE), .val (.ref x_TERMINATE), .val (.ref x_TERMINATE)] [(.ref x_TERMINATE), (.ref x_TERMINATE)])) X53 hx rfl rfl rfl (pc0 := 49) (pc' := 52) (same := true) rfl (hb hby at_49) rfl (decide_eq_true rfl) (by decide) (by decide)) ?_
    show Go p e below s QQ room_1.cells room_1.slots (T53.setTop (mkF m 52 #[.val (.int p0), .val (.int p1), .val (.int (2 : Int32)), .val (.int (2 : Int32)), .val (.ref x_TERMINATE), .val (.ref x_TERMINATE), .val (.ref x_TERMINATE), .val (.ref x_TERMINATE)] []))
    refine gs (fun t => XS.iconst X53.here hx rfl (hb hby at_52)) ?_
    show Go p e below s QQ room_1.cells room_1.slots (T53.setTop (mkF m 53 #[.val (.int p0), .val (.int p1), .val (.int (2 : Int32)), .val (.int (2 : Int32)), .val (.ref x_TERMINATE), .val (.ref x_TERMINATE), .val (.ref x_TERMINATE), .val (.ref x_TERMINATE)] [(.int (1 : Int32))]))
    refine gs (fun t => XS.goto X53.here hx rfl (pc0 := 53) (pc' := 57) rfl (hb hby at_53) (by decide) (by decide)) ?_
    show Go p e below s QQ room_1.cells room_1.slots (T53.setTop (mkF m 57 #[.val (.int p0), .val (.int p1), .val (.int (2 : Int32)), .val (.int (2 : Int32)), .val (.ref x_TERMINATE), .val (.ref x_TERMINATE), .val (.ref x_TERMINATE), .val (.ref x_TERMINATE)] [(.int (1 : Int32))]))
    exact goB X53 hx Bd.notSynchronized Bd.returns (by simp) (w := (1 : Int32)) (by first | rfl | decide) (hb hby at_57) (by rw [← hQQ, e53]; exact ⟨rfl, N0⟩) (by decide) (by decide)
set_option maxRecDepth 65536 in
set_option maxHeartbeats 40000000 in
theorem comes_1 {Post : Tables → Env → Array Value → State → Outcome → State → Prop} (hpost : ∀ tb e args s v u, (limb_1_1.after args s (.returned v) u = true ∧ limb_1_2.after args s (.returned v) u = true ∧ True) → FrameEnd s (.returned v) u (Jvm.fieldLocs frame_1_writes args s ++ Jvm.arrayLocs frame_1_arrays args s ++ Jvm.staticLocs frame_1_statics s) 0 0 → Post tb e args s (.returned v) u) :
    ArmFor flags0 classFile x code maxLocals ret World_1 tables_1 room_1 Calls_1 rest_1 Pre_1 Post := by
  intro l hfl _ _ p e ha hc hk s m args below hf hA hF happ hP
  obtain ⟨hcalls, hrest, hpre⟩ := hP
  obtain ⟨-, -, -, hnamed, -, -, -, hat⟩ := (Spec.applies_iff hf).mp happ
  obtain ⟨hg, hn⟩ := and_e (Cond.before_iff.mp (show (Jvm.Cond.and given_1 narrow_1).before args s = true from hpre))
  obtain ⟨gc, hg0⟩ := and_e hg
  obtain ⟨w0, w1, rfl⟩ : ∃ w0 w1 : Value, args = #[w0, w1] := by
    have hs : args.size = 2 := by simpa [Cond.value, given_1] using gc
    obtain ⟨L⟩ := args
    match L, hs with
    | [w0, w1], _ => exact ⟨w0, w1, rfl⟩
  obtain ⟨ga0, hg1⟩ := and_e hg0
  obtain ⟨i0, ei0⟩ := is_v ga0
  obtain rfl : w0 = (.int i0) := Option.some.inj ei0
  obtain ⟨i1, ei1⟩ := is_v hg1
  obtain rfl : w1 = (.int i1) := Option.some.inj ei1
  have hw := fun d (hd : d ∈ tables_1) => atoms_spec (ws := Jvm.Cond.code x code maxLocals ret :: tables_1) hat d (List.mem_cons_of_mem _ hd)
  have hfit : Fit s := fun {y c} hc i hi => by
    obtain ⟨ha, rfl⟩ := Array.getElem?_eq_some_iff.mp hc
    have q := List.all_eq_true.mp ((Array.all_eq_true_iff_forall_mem.mp hF) _ (Array.getElem_mem ha)) i (List.mem_range.mpr hi)
    simpa [Array.getElem?_eq_getElem hi] using q
  obtain ⟨na1, nb1⟩ := and_e hn
  obtain ⟨na2, nb2⟩ := and_e nb1
  obtain ⟨na3, nb3⟩ := and_e nb2
  obtain ⟨na4, nb4⟩ := and_e nb3
  obtain ⟨na5, nb5⟩ := and_e nb4
  obtain ⟨x_RUNNING, ev_x_RUNNING⟩ := exa_v na1
  have S_x_RUNNING := Sta.start ev_x_RUNNING (Or.inr ⟨(hw _ (List.mem_of_getElem? (i := 6) rfl)), (hw _ (List.mem_of_getElem? (i := 7) rfl))⟩)
  have E_x_RUNNING := Exa.start ev_x_RUNNING na1
  have F_x_RUNNING_ordinal := Fld.start ((fld_at ev_x_RUNNING).symm.trans (own_eqI na2))
  obtain ⟨x_TERMINATE, ev_x_TERMINATE⟩ := exa_v na3
  have S_x_TERMINATE := Sta.start ev_x_TERMINATE (Or.inr ⟨(hw _ (List.mem_of_getElem? (i := 6) rfl)), (hw _ (List.mem_of_getElem? (i := 33) rfl))⟩)
  have E_x_TERMINATE := Exa.start ev_x_TERMINATE na3
  obtain ⟨x_QUIET, ev_x_QUIET⟩ := exa_v na4
  have S_x_QUIET := Sta.start ev_x_QUIET (Or.inr ⟨(hw _ (List.mem_of_getElem? (i := 6) rfl)), (hw _ (List.mem_of_getElem? (i := 35) rfl))⟩)
  have E_x_QUIET := Exa.start ev_x_QUIET na4
  have F_x_QUIET_ordinal := Fld.start ((fld_at ev_x_QUIET).symm.trans (own_eqI na5))
  have F_x_TERMINATE_ordinal := Fld.start ((fld_at ev_x_TERMINATE).symm.trans (own_eqI nb5))
  obtain ⟨⟨mc, mk, mr, mir1, mir2, mir3⟩, -⟩ := hcalls
  have MIR : own_mir s "com/example/shrike/shrike/job/WorkerDirective" mr := ⟨mc, mk, mir1, mir2, mir3.1⟩
  obtain ⟨n, o, h1, h2, h3, _, L, rfl, ⟨rfl, N⟩, hq⟩ := rm0 l s _ hw tables_1 i0 i1 x_RUNNING x_QUIET x_TERMINATE mr s.heap s.heap.size (Nat.le_refl _) (Old.start s) S_x_RUNNING E_x_RUNNING F_x_RUNNING_ordinal S_x_TERMINATE E_x_TERMINATE S_x_QUIET E_x_QUIET F_x_QUIET_ordinal F_x_TERMINATE_ordinal MIR p e ha hc hk s m _ below hf ((Spec.applies_iff_loose hf).mp happ).1 ⟨rfl, State.Warmed39.refl s, rfl⟩ trivial
  refine ⟨n, _, h1, h2, h3, hpost _ _ _ _ _ _ ⟨Cond.after_iff.mpr rfl, Cond.after_iff.mpr (eq_i res_at (Term.int_eval (1)) rfl), trivial⟩ ⟨hq.1, hq.2.1, (hq.2.2.sift fun y hy => Or.inr (N y hy)).mono (by decide) (by decide)⟩⟩
theorem main_1_1 : Claimed_1_1 := comes_1 fun _ _ _ _ _ _ h hF => ⟨h.1, hF⟩
theorem main_1_2 : Claimed_1_2 := comes_1 fun _ _ _ _ _ _ h hF => ⟨h.2.1, hF⟩
end Jvm.Pilot.@@N@@
namespace Jvm.Pilot.@@N@@
open Jvm Jvm.ClassFile Sem Op Lib Jvm.Free Jvm.Stand Jvm.Pilot.@@N@@.Jvm.D
/-! MADE BY PROGRAM (witnessworld.py) out of the Statement's table words and the real class files: 14 classes; the members and pool entries that the words name. The judged class is class 1, her method 2. -/
namespace start1
open Jvm.ClassFile
def u (s : String) : CpInfo := .utf8 (stringToUtf16 s)
/-- a pool by its gaps: so many unusable entries, then the entry; so many at the end -/
def gap : Nat → List CpInfo → List CpInfo
  | 0, r => r
  | n + 1, r => .unusable :: gap n r
def poolList (es : List (Nat × CpInfo)) (last : Nat) : List CpInfo := es.foldr (fun e r => gap e.1 (e.2 :: r)) (gap last [])
def pool (es : List (Nat × CpInfo)) (last : Nat) : Array CpInfo := ⟨poolList es last⟩
def fileOf (pool : Array CpInfo) (this : Nat) (attrs : Array Attribute := #[]) (ms : Array MethodInfo := #[]) (fl : Nat := 33) (sup : Nat := 0) (ifs : Array Nat := #[]) (fds : Array FieldInfo := #[]) : ClassFile where
  minorVersion := 0
  majorVersion := 65
  constantPool := pool
  accessFlags := fl
  thisClass := this
  superClass := sup
  interfaces := ifs
  fields := fds
  methods := ms
  attributes := attrs
def plain (name : String) (sup : Option ClassId) : Class where
  name := name
  kind := .ordinary
  loader := none
  accessFlags := 33
  super := sup
  interfaces := #[]
  cf := none
  fields := #[]
  methods := #[]
  instanceTypes := #[]
  staticTypes := #[]
  resolved := #[]
  callSites := []
  init := .initialized
  statics := none
  mirror := none

def pool0 : Array CpInfo := pool [(5, u "<init>"), (0, u "()V"), (1, .class_ 10), (1, u "java/lang/Object"), (0, u "getClass"), (0, u "()Ljava/lang/Class;")] 111

def k0m0 : Method := { name := "<init>", desc := "()V", sig := { parameters := [], returnType := none }, accessFlags := 1, code := none }
def k0m1 : Method := { name := "getClass", desc := "()Ljava/lang/Class;", sig := { parameters := [], returnType := some (.object "java/lang/Class") }, accessFlags := 273, code := none }
/-- java/lang/Object -/
def k0 : Class := { plain "java/lang/Object" none with
  accessFlags := 33
  interfaces := #[]
  cf := some (fileOf pool0 8 #[] #[{ accessFlags := 1, nameIndex := 5, descriptorIndex := 6, attributes := #[] }, { accessFlags := 273, nameIndex := 11, descriptorIndex := 12, attributes := #[] }] 33 0 #[] #[])
  fields := #[]
  methods := #[k0m0, k0m1]
  instanceTypes := #[]
  staticTypes := #[]
  resolved := Array.replicate 124 none
  statics := none }

def pool1 : Array CpInfo := pool [(2, .class_ 4), (1, u "java/lang/Object"), (0, u "<init>"), (0, u "()V"), (0, .fieldref 8 9), (0, .class_ 10), (0, .nameAndType 11 12), (0, u "com/example/shrike/shrike/job/WorkerDirective"), (0, u "RUNNING"), (0, u "Lcom/example/shrike/shrike/job/WorkerDirective;"), (0, .fieldref 8 14), (0, .nameAndType 15 12), (0, u "QUIET"), (0, .fieldref 8 17), (0, .nameAndType 18 12), (0, u "TERMINATE"), (0, .integer 2147483647), (0, .methodref 21 22), (0, .class_ 23), (0, .nameAndType 24 25), (0, u "com/example/shrike/shrike/job/WorkerDirectiveOrStrongerPinLaw"), (0, u "pick"), (0, u "(I)Lcom/example/shrike/shrike/job/WorkerDirective;"), (0, .methodref 27 28), (0, .class_ 29), (0, .nameAndType 30 31), (0, u "java/lang/Math"), (0, u "max"), (0, u "(II)I"), (0, .methodref 8 33), (0, .nameAndType 34 35), (0, u "orStronger"), (0, u "(Lcom/example/shrike/shrike/job/WorkerDirective;)Lcom/example/shrike/shrike/job/WorkerDirective;"), (3, u "law"), (0, u "(II)Z")] 2

def k1m0 : Method := { name := "<init>", desc := "()V", sig := { parameters := [], returnType := none }, accessFlags := 2, code := none }
def k1c1 : Code := { maxStack := 2, maxLocals := 1, code := method_2_code, exceptionTable := #[], attributes := #[] }
def k1m1 : Method := { name := "pick", desc := "(I)Lcom/example/shrike/shrike/job/WorkerDirective;", sig := { parameters := [.int], returnType := some (.object "com/example/shrike/shrike/job/WorkerDirective") }, accessFlags := 10, code := some k1c1 }
def k1c2 : Code := { maxStack := 2, maxLocals := 8, code := code, exceptionTable := #[], attributes := #[] }
def k1m2 : Method := { name := "law", desc := "(II)Z", sig := { parameters := [.int, .int], returnType := some .boolean }, accessFlags := 9, code := some k1c2 }
/-- com/example/shrike/shrike/job/WorkerDirectiveOrStrongerPinLaw -/
def k1 : Class := { plain "com/example/shrike/shrike/job/WorkerDirectiveOrStrongerPinLaw" (some 0) with
  accessFlags := 49
  interfaces := #[]
  cf := some (fileOf pool1 21 #[] #[{ accessFlags := 2, nameIndex := 5, descriptorIndex := 6, attributes := #[] }, { accessFlags := 10, nameIndex := 24, descriptorIndex := 25, attributes := #[] }, { accessFlags := 9, nameIndex := 39, descriptorIndex := 40, attributes := #[] }] 49 2 #[] #[])
  fields := #[]
  methods := #[k1m0, k1m1, k1m2]
  instanceTypes := #[]
  staticTypes := #[]
  resolved := Array.replicate 43 none
  statics := none }

def pool2 : Array CpInfo := pool [(1, .class_ 2), (0, u "java/lang/constant/Constable"), (0, .class_ 4), (0, u "java/lang/Object")] 6

/-- java/lang/constant/Constable -/
def k2 : Class := { plain "java/lang/constant/Constable" (some 0) with
  accessFlags := 1537
  interfaces := #[]
  cf := some (fileOf pool2 1 #[] #[] 1537 3 #[] #[])
  fields := #[]
  methods := #[]
  instanceTypes := #[]
  staticTypes := #[]
  resolved := Array.replicate 11 none
  statics := none }

def pool3 : Array CpInfo := pool [(1, .class_ 2), (0, u "java/lang/Comparable"), (0, .class_ 4), (0, u "java/lang/Object")] 7

/-- java/lang/Comparable -/
def k3 : Class := { plain "java/lang/Comparable" (some 0) with
  accessFlags := 1537
  interfaces := #[]
  cf := some (fileOf pool3 1 #[] #[] 1537 3 #[] #[])
  fields := #[]
  methods := #[]
  instanceTypes := #[]
  staticTypes := #[]
  resolved := Array.replicate 12 none
  statics := none }

def pool4 : Array CpInfo := pool [(1, .class_ 2), (0, u "java/io/Serializable"), (0, .class_ 4), (0, u "java/lang/Object")] 2

/-- java/io/Serializable -/
def k4 : Class := { plain "java/io/Serializable" (some 0) with
  accessFlags := 1537
  interfaces := #[]
  cf := some (fileOf pool4 1 #[] #[] 1537 3 #[] #[])
  fields := #[]
  methods := #[]
  instanceTypes := #[]
  staticTypes := #[]
  resolved := Array.replicate 7 none
  statics := none }

def pool5 : Array CpInfo := pool [(2, .class_ 4), (1, u "java/lang/Enum"), (0, u "name"), (0, u "Ljava/lang/String;"), (0, .fieldref 2 8), (0, .nameAndType 9 10), (0, u "ordinal"), (0, u "I"), (1, .class_ 14), (1, u "java/lang/Object"), (4, u "hash"), (9, .methodref 12 30), (0, .nameAndType 31 32), (0, u "getClass"), (0, u "()Ljava/lang/Class;"), (70, u "compareTo"), (0, u "(Ljava/lang/Enum;)I"), (1, .class_ 108), (1, u "java/lang/Enum$EnumDesc"), (2, .class_ 112), (0, u "java/lang/constant/Constable"), (0, .class_ 114), (0, u "java/lang/Comparable"), (0, .class_ 116), (0, u "java/io/Serializable")] 87

def k5c0 : Code := { maxStack := 2, maxLocals := 4, code := jdk_37_method_8_code, exceptionTable := #[], attributes := #[] }
def k5m0 : Method := { name := "compareTo", desc := "(Ljava/lang/Enum;)I", sig := { parameters := [(.object "java/lang/Enum")], returnType := some .int }, accessFlags := 17, code := some k5c0 }
/-- java/lang/Enum -/
def k5 : Class := { plain "java/lang/Enum" (some 0) with
  accessFlags := 1057
  interfaces := #[2, 3, 4]
  cf := some (fileOf pool5 2 #[.nestMembers #[106]] #[{ accessFlags := 17, nameIndex := 103, descriptorIndex := 104, attributes := #[] }] 1057 12 #[111, 113, 115] #[{ accessFlags := 18, nameIndex := 5, descriptorIndex := 6, attributes := #[] }, { accessFlags := 18, nameIndex := 9, descriptorIndex := 10, attributes := #[] }, { accessFlags := 2, nameIndex := 19, descriptorIndex := 10, attributes := #[] }])
  fields := #[{ name := "name", type := (.object "java/lang/String"), accessFlags := 18, slot := 0, constantValue := 0 }, { name := "ordinal", type := .int, accessFlags := 18, slot := 1, constantValue := 0 }, { name := "hash", type := .int, accessFlags := 2, slot := 2, constantValue := 0 }]
  methods := #[k5m0]
  instanceTypes := #[(.object "java/lang/String"), .int, .int]
  staticTypes := #[]
  resolved := Array.replicate 204 none
  statics := none }

def pool6 : Array CpInfo := pool [(1, .class_ 2), (0, u "com/example/shrike/shrike/job/WorkerDirective"), (2, u "RUNNING"), (0, u "Lcom/example/shrike/shrike/job/WorkerDirective;"), (2, u "QUIET"), (2, u "TERMINATE"), (2, u "$VALUES"), (0, u "[Lcom/example/shrike/shrike/job/WorkerDirective;"), (6, .class_ 25), (1, u "java/lang/Enum"), (43, .methodref 1 70), (0, .nameAndType 71 72), (0, u "compareTo"), (0, u "(Ljava/lang/Enum;)I"), (18, u "orStronger"), (0, u "(Lcom/example/shrike/shrike/job/WorkerDirective;)Lcom/example/shrike/shrike/job/WorkerDirective;")] 4

def k6c0 : Code := { maxStack := 2, maxLocals := 2, code := prog_10_method_7_code, exceptionTable := #[], attributes := #[] }
def k6m0 : Method := { name := "orStronger", desc := "(Lcom/example/shrike/shrike/job/WorkerDirective;)Lcom/example/shrike/shrike/job/WorkerDirective;", sig := { parameters := [(.object "com/example/shrike/shrike/job/WorkerDirective")], returnType := some (.object "com/example/shrike/shrike/job/WorkerDirective") }, accessFlags := 1, code := some k6c0 }
/-- com/example/shrike/shrike/job/WorkerDirective -/
def k6 : Class := { plain "com/example/shrike/shrike/job/WorkerDirective" (some 5) with
  accessFlags := 16433
  interfaces := #[]
  cf := some (fileOf pool6 1 #[] #[{ accessFlags := 1, nameIndex := 91, descriptorIndex := 92, attributes := #[] }] 16433 23 #[] #[{ accessFlags := 16409, nameIndex := 5, descriptorIndex := 6, attributes := #[] }, { accessFlags := 16409, nameIndex := 9, descriptorIndex := 6, attributes := #[] }, { accessFlags := 16409, nameIndex := 12, descriptorIndex := 6, attributes := #[] }, { accessFlags := 4122, nameIndex := 15, descriptorIndex := 16, attributes := #[] }])
  fields := #[{ name := "RUNNING", type := (.object "com/example/shrike/shrike/job/WorkerDirective"), accessFlags := 16409, slot := 0, constantValue := 0 }, { name := "QUIET", type := (.object "com/example/shrike/shrike/job/WorkerDirective"), accessFlags := 16409, slot := 1, constantValue := 0 }, { name := "TERMINATE", type := (.object "com/example/shrike/shrike/job/WorkerDirective"), accessFlags := 16409, slot := 2, constantValue := 0 }, { name := "$VALUES", type := (.array (.object "com/example/shrike/shrike/job/WorkerDirective")), accessFlags := 4122, slot := 3, constantValue := 0 }]
  methods := #[k6m0]
  instanceTypes := #[(.object "java/lang/String"), .int, .int]
  staticTypes := #[(.object "com/example/shrike/shrike/job/WorkerDirective"), (.object "com/example/shrike/shrike/job/WorkerDirective"), (.object "com/example/shrike/shrike/job/WorkerDirective"), (.array (.object "com/example/shrike/shrike/job/WorkerDirective"))]
  resolved := Array.replicate 97 none
  mirror := some 1
  statics := some 0 }

def pool7 : Array CpInfo := pool [(1, .class_ 2), (0, u "java/lang/Math"), (1, .class_ 6), (1, u "java/lang/Object"), (0, u "<init>"), (0, u "()V"), (89, .class_ 100), (1, u "java/lang/Math$RandomNumberGeneratorHolder"), (71, u "negativeZeroFloatBits"), (0, u "J"), (2, u "negativeZeroDoubleBits"), (21, u "max"), (46, u "$assertionsDisabled"), (0, u "Z"), (88, u "(II)I"), (2, u "twoToTheDoubleScaleDown"), (0, u "D"), (4, u "twoToTheDoubleScaleUp"), (9, u "E"), (3, u "PI"), (2, u "TAU"), (2, u "DEGREES_TO_RADIANS"), (0, u "RADIANS_TO_DEGREES")] 94

def k7m0 : Method := { name := "<init>", desc := "()V", sig := { parameters := [], returnType := none }, accessFlags := 2, code := none }
def k7c1 : Code := { maxStack := 2, maxLocals := 2, code := jdk_29_method_65_code, exceptionTable := #[], attributes := #[] }
def k7m1 : Method := { name := "max", desc := "(II)I", sig := { parameters := [.int, .int], returnType := some .int }, accessFlags := 9, code := some k7c1 }
/-- java/lang/Math -/
def k7 : Class := { plain "java/lang/Math" (some 0) with
  accessFlags := 49
  interfaces := #[]
  cf := some (fileOf pool7 1 #[.nestMembers #[98]] #[{ accessFlags := 2, nameIndex := 7, descriptorIndex := 8, attributes := #[] }, { accessFlags := 9, nameIndex := 198, descriptorIndex := 335, attributes := #[] }] 49 4 #[] #[{ accessFlags := 25, nameIndex := 354, descriptorIndex := 339, attributes := #[] }, { accessFlags := 25, nameIndex := 358, descriptorIndex := 339, attributes := #[] }, { accessFlags := 25, nameIndex := 361, descriptorIndex := 339, attributes := #[] }, { accessFlags := 26, nameIndex := 364, descriptorIndex := 339, attributes := #[] }, { accessFlags := 26, nameIndex := 365, descriptorIndex := 339, attributes := #[] }, { accessFlags := 26, nameIndex := 172, descriptorIndex := 173, attributes := #[] }, { accessFlags := 26, nameIndex := 176, descriptorIndex := 173, attributes := #[] }, { accessFlags := 8, nameIndex := 344, descriptorIndex := 339, attributes := #[] }, { accessFlags := 8, nameIndex := 338, descriptorIndex := 339, attributes := #[] }, { accessFlags := 4120, nameIndex := 245, descriptorIndex := 246, attributes := #[] }])
  fields := #[{ name := "E", type := .double, accessFlags := 25, slot := 0, constantValue := 0 }, { name := "PI", type := .double, accessFlags := 25, slot := 1, constantValue := 0 }, { name := "TAU", type := .double, accessFlags := 25, slot := 2, constantValue := 0 }, { name := "DEGREES_TO_RADIANS", type := .double, accessFlags := 26, slot := 3, constantValue := 0 }, { name := "RADIANS_TO_DEGREES", type := .double, accessFlags := 26, slot := 4, constantValue := 0 }, { name := "negativeZeroFloatBits", type := .long, accessFlags := 26, slot := 5, constantValue := 0 }, { name := "negativeZeroDoubleBits", type := .long, accessFlags := 26, slot := 6, constantValue := 0 }, { name := "twoToTheDoubleScaleUp", type := .double, accessFlags := 8, slot := 7, constantValue := 0 }, { name := "twoToTheDoubleScaleDown", type := .double, accessFlags := 8, slot := 8, constantValue := 0 }, { name := "$assertionsDisabled", type := .boolean, accessFlags := 4120, slot := 9, constantValue := 0 }]
  methods := #[k7m0, k7m1]
  instanceTypes := #[]
  staticTypes := #[.double, .double, .double, .double, .double, .long, .long, .double, .double, .boolean]
  resolved := Array.replicate 460 none
  statics := none }

def pool8 : Array CpInfo := pool [(1, u "java/lang/Class"), (0, .class_ 1), (0, u "java/lang/Object"), (0, .class_ 3)] 0

/-- java/lang/Class -/
def k8 : Class := { plain "java/lang/Class" (some 0) with
  accessFlags := 49
  interfaces := #[]
  cf := some (fileOf pool8 2 #[] #[] 49 4 #[] #[])
  fields := #[]
  methods := #[]
  instanceTypes := #[]
  staticTypes := #[]
  resolved := Array.replicate 5 none
  statics := none }

def pool9 : Array CpInfo := pool [(1, u "java/lang/Cloneable"), (0, .class_ 1), (0, u "java/lang/Object"), (0, .class_ 3)] 3

/-- java/lang/Cloneable -/
def k9 : Class := { plain "java/lang/Cloneable" (some 0) with
  accessFlags := 1537
  interfaces := #[]
  cf := some (fileOf pool9 2 #[] #[] 1537 4 #[] #[])
  fields := #[]
  methods := #[]
  instanceTypes := #[]
  staticTypes := #[]
  resolved := Array.replicate 8 none
  statics := none }

/-- the primitive byte -/
def k10 : Class := { plain "byte" none with kind := .primitive 'B', accessFlags := 0x411 }
/-- [B -/
def k11 : Class := { plain "[B" (some 0) with kind := .array 10 .byte, interfaces := #[9, 4], accessFlags := 1041 }

/-- the primitive int -/
def k12 : Class := { plain "int" none with kind := .primitive 'I', accessFlags := 0x411 }
/-- [I -/
def k13 : Class := { plain "[I" (some 0) with kind := .array 12 .int, interfaces := #[9, 4], accessFlags := 1041 }

def heap : Heap := #[{ cls := 6, slots := #[.ref 2, .ref 3, .ref 4, .null], vm := .statics 6 },
  { cls := 8, slots := #[], vm := .mirror 6 },
  { cls := 6, slots := #[.null, .int 0, .int 0], vm := .none },
  { cls := 6, slots := #[.null, .int 1, .int 0], vm := .none },
  { cls := 6, slots := #[.null, .int 2, .int 0], vm := .none }]
def classes : Array Class := #[k0, k1, k2, k3, k4, k5, k6, k7, k8, k9, k10, k11, k12, k13]
def interned : List (Array UInt16 × Addr) := []
def slotsUsed : Nat := 13
def theMethod : MethodId := ⟨1, 2⟩
def args0 : Array Value := #[.int 1, .int 1]
def aboutOver (below : List Frame) : State where
  vm := { classes := classes, interned := interned.toArray }
  heap := heap
  slotsUsed := slotsUsed
  threads := #[{ frames := .invoking theMethod args0 :: below }]
def below0 : List Frame := [.native { method := ⟨0, 0⟩, args := #[] }]
def about1 : State := aboutOver below0
def p0 : Program := .bare "" "" ""
def e0 : Env := launch0.env 0 0 0
theorem w_frames : about1.frames = Frame.invoking theMethod args0 :: below0 := rfl
set_option maxRecDepth 65536 in
theorem w_args : argsFit about1.vm theMethod args0 = true := by decide +kernel
set_option maxRecDepth 65536 in
theorem w_heap : heapFits about1 = true := by decide +kernel
set_option maxRecDepth 65536 in
theorem w_runnable : about1.curStatus? = some .runnable := by decide +kernel
set_option maxRecDepth 65536 in
theorem w_alone : about1.alone = true := by decide +kernel
set_option maxRecDepth 65536 in
theorem w_named : about1.methodNamed? x = some theMethod := by decide +kernel
set_option maxRecDepth 65536 in
theorem w_hears : about1.hears theMethod below0 = true := by decide +kernel
set_option maxRecDepth 65536 in
theorem w_ripe : about1.ripe theMethod args0 below0 = true := by decide +kernel
theorem w_running : about1.status = .running := rfl
set_option maxRecDepth 65536 in
theorem w_room : about1.hasRoom e0.platform room_1 = true :=
  launch0.hasRoom_least _ room_1 (by decide +kernel) (by decide +kernel) (by decide +kernel) (by decide +kernel) (by decide +kernel) (by decide +kernel)
theorem allAtoms_all (ts : List Jvm.Cond) (a : Array Jvm.Value) (st : Jvm.State) : (allAtoms ts).before a st = ts.all (fun c => c.before a st) := by
  induction ts with
  | nil => rfl
  | cons c t ih =>
    show (Jvm.Cond.and c (allAtoms t)).before a st = _
    rw [Jvm.Cond.before_and, ih, List.all_cons]
def words1 : List Jvm.Cond := Jvm.Cond.code x code maxLocals ret :: tables_1
/-- a 'code' word, met by the world's own term for the bytes: nothing is compared byte by byte -/
theorem code_word {y : MethodName} {bytes : ByteArray} {mx : Nat} {rt : Option FieldType} {a : Array Value} {s : State} {m : MethodId} {meth : Method} {c : Code} (h1 : s.methodNamed? y = some m) (h2 : s.vm.method? m = some meth) (h3 : meth.code = some c) (h4 : c.code = bytes)
    (h5 : (c.maxLocals == mx && c.exceptionTable.isEmpty && decide (c.maxStack ≤ mostOperands) && decide (meth.sig.returnType = rt) && !meth.locks && decide (parseMethodDescriptor y.desc = some meth.sig)) = true) : (Jvm.Cond.code y bytes mx rt).before a s = true := by
  simp only [Bool.and_eq_true, beq_iff_eq, Bool.not_eq_true', decide_eq_true_eq] at h5
  obtain ⟨⟨⟨⟨⟨g1, g2⟩, g3⟩, g4⟩, g5⟩, g6⟩ := h5
  simp [Cond.before, Cond.holds, Cond.value, h1, h2, h3, h4, g1, g2, g3, g4, g5, g6]
def isCode : Jvm.Cond → Bool
  | .code _ _ _ _ => true
  | _ => false
theorem all_split {L : List Jvm.Cond} {P : Jvm.Cond → Bool} (h1 : L.all (fun c => isCode c || P c) = true) (h2 : ∀ c ∈ L.filter isCode, P c = true) : L.all P = true := by
  refine List.all_eq_true.mpr fun c hc => ?_
  have h := List.all_eq_true.mp h1 c hc
  rcases Bool.eq_false_or_eq_true (isCode c) with hi | hi
  · exact h2 c (List.mem_filter.mpr ⟨hc, hi⟩)
  · simpa [hi] using h
set_option maxRecDepth 65536 in
theorem w_c0 : (Jvm.Cond.code x code maxLocals ret).before args0 about1 = true := code_word (m := ⟨1, 2⟩) (meth := k1m2) (c := k1c2) (by decide +kernel) rfl rfl rfl (by decide +kernel)
set_option maxRecDepth 65536 in
theorem w_c1 : (Jvm.Cond.code ({ cls := "com/example/shrike/shrike/job/WorkerDirectiveOrStrongerPinLaw", name := "pick", desc := "(I)Lcom/example/shrike/shrike/job/WorkerDirective;" } : Jvm.MethodName) method_2_code (1 : Nat) (Option.some (Jvm.ClassFile.FieldType.object "com/example/shrike/shrike/job/WorkerDirective"))).before args0 about1 = true := code_word (m := ⟨1, 1⟩) (meth := k1m1) (c := k1c1) (by decide +kernel) rfl rfl rfl (by decide +kernel)
set_option maxRecDepth 65536 in
theorem w_c2 : (Jvm.Cond.code ({ cls := "java/lang/Math", name := "max", desc := "(II)I" } : Jvm.MethodName) jdk_29_method_65_code (2 : Nat) (Option.some Jvm.ClassFile.FieldType.int)).before args0 about1 = true := code_word (m := ⟨7, 1⟩) (meth := k7m1) (c := k7c1) (by decide +kernel) rfl rfl rfl (by decide +kernel)
set_option maxRecDepth 65536 in
theorem w_c3 : (Jvm.Cond.code ({ cls := "com/example/shrike/shrike/job/WorkerDirective", name := "orStronger", desc := "(Lcom/example/shrike/shrike/job/WorkerDirective;)Lcom/example/shrike/shrike/job/WorkerDirective;" } : Jvm.MethodName) prog_10_method_7_code (2 : Nat) (Option.some (Jvm.ClassFile.FieldType.object "com/example/shrike/shrike/job/WorkerDirective"))).before args0 about1 = true := code_word (m := ⟨6, 0⟩) (meth := k6m0) (c := k6c0) (by decide +kernel) rfl rfl rfl (by decide +kernel)
set_option maxRecDepth 65536 in
theorem w_c4 : (Jvm.Cond.code ({ cls := "java/lang/Enum", name := "compareTo", desc := "(Ljava/lang/Enum;)I" } : Jvm.MethodName) jdk_37_method_8_code (4 : Nat) (Option.some Jvm.ClassFile.FieldType.int)).before args0 about1 = true := code_word (m := ⟨5, 0⟩) (meth := k5m0) (c := k5c0) (by decide +kernel) rfl rfl rfl (by decide +kernel)
def codes1 : List Jvm.Cond := [Jvm.Cond.code x code maxLocals ret, Jvm.Cond.code ({ cls := "com/example/shrike/shrike/job/WorkerDirectiveOrStrongerPinLaw", name := "pick", desc := "(I)Lcom/example/shrike/shrike/job/WorkerDirective;" } : Jvm.MethodName) method_2_code (1 : Nat) (Option.some (Jvm.ClassFile.FieldType.object "com/example/shrike/shrike/job/WorkerDirective")), Jvm.Cond.code ({ cls := "java/lang/Math", name := "max", desc := "(II)I" } : Jvm.MethodName) jdk_29_method_65_code (2 : Nat) (Option.some Jvm.ClassFile.FieldType.int), Jvm.Cond.code ({ cls := "com/example/shrike/shrike/job/WorkerDirective", name := "orStronger", desc := "(Lcom/example/shrike/shrike/job/WorkerDirective;)Lcom/example/shrike/shrike/job/WorkerDirective;" } : Jvm.MethodName) prog_10_method_7_code (2 : Nat) (Option.some (Jvm.ClassFile.FieldType.object "com/example/shrike/shrike/job/WorkerDirective")), Jvm.Cond.code ({ cls := "java/lang/Enum", name := "compareTo", desc := "(Ljava/lang/Enum;)I" } : Jvm.MethodName) jdk_37_method_8_code (4 : Nat) (Option.some Jvm.ClassFile.FieldType.int)]
set_option maxRecDepth 65536 in
theorem codes_eq : words1.filter isCode = codes1 := rfl
theorem w_codes : ∀ c ∈ words1.filter isCode, c.before args0 about1 = true := by
  rw [codes_eq]
  intro c hc
  simp only [codes1, List.mem_cons, List.not_mem_nil, or_false] at hc
  rcases hc with rfl | rfl | rfl | rfl | rfl
  · exact w_c0
  · exact w_c1
  · exact w_c2
  · exact w_c3
  · exact w_c4
set_option maxRecDepth 65536 in
theorem w_t1 : (words1.take 24).all (fun c => isCode c || c.before args0 about1) = true := by decide +kernel
set_option maxRecDepth 65536 in
theorem w_t2 : (words1.drop 24).all (fun c => isCode c || c.before args0 about1) = true := by decide +kernel
theorem w_tables : (allAtoms (Jvm.Cond.code x code maxLocals ret :: tables_1)).before args0 about1 = true := by
  rw [allAtoms_all]
  show words1.all (fun c => c.before args0 about1) = true
  refine all_split ?_ w_codes
  rw [← List.take_append_drop 24 words1, List.all_append, w_t1, w_t2]
  rfl
set_option maxRecDepth 65536 in
theorem w_case : (Jvm.Cond.and given_1 narrow_1).before args0 about1 = true := by decide +kernel
theorem w_applies : (headSpec (Jvm.Cond.code x code maxLocals ret :: tables_1) room_1).applies x e0.platform about1 = true :=
  (Spec.applies_iff w_frames).mpr ⟨w_running, w_runnable, w_alone, w_named, w_hears, w_ripe, w_room, w_tables⟩
theorem atStart : AtStart classFile x code maxLocals ret World_1 tables_1 room_1 Calls_1 rest_1 Pre_1 launch0 p0 e0 about1 theMethod args0 below0 :=
  ⟨lists_1, trivial, launch0.admits_env _ _ _, launch0.least_env, fairChoices_fair.cas, fairChoices_fair.clock, w_frames, w_args, w_heap, w_applies, ⟨⟨6, k6, 1, by decide +kernel, rfl, rfl, _, rfl, rfl⟩, trivial⟩, trivial, w_case⟩
end start1
theorem witness_1 : WitnessClaimed_1 := ⟨start1.p0, start1.e0, start1.about1, start1.theMethod, start1.args0, start1.below0, start1.atStart⟩
end Jvm.Pilot.@@N@@
