import JvmDerived
import JvmDerived.Pilot.@@N@@Statement
import JvmDerived.Pilot.@@N@@Code
set_option linter.unusedVariables false
set_option linter.unusedSimpArgs false
namespace Jvm.RoadKit
open Sem ClassFile Op Lib Jvm.Stand Jvm.Free Jvm.LawKit
section Own
variable {p : Program} {l : Launch} {e : Env} {R : Room} {s : State} {m : MethodId} {args : Array Value} {below : List Frame} {meth : Method} {c : Code} {T : State} {locs : List Loc} {cells slots : Nat} {Z : State} {h h' : Heap} {a b : Addr} {ty : FieldType} {ws : List Addr}
/-- from the state S the run comes to an end that Q allows -/
def Go (p : Program) (e : Env) (below : List Frame) (s : State) (Q : Option Value → Heap → List Loc → Prop) (K N : Nat) (S : State) : Prop :=
  ∃ (t : State) (o : Outcome), Steps p.tables e below S t ∧ t.status = .running ∧ Ended t below o ∧ ∃ v L, o = .returned v ∧ Q v t.heap L ∧ FrameEnd s o t L K N
variable {Q : Option Value → Heap → List Loc → Prop} {K N : Nat} {S S' : State}
theorem gs (h : ∀ t, Steps p.tables e below S' t → Steps p.tables e below S t) (k : Go p e below s Q K N S') : Go p e below s Q K N S := by
  obtain ⟨t, o, a, b⟩ := k
  exact ⟨t, o, h t a, b⟩
theorem gt (h : Steps p.tables e below S S') (k : Go p e below s Q K N S') : Go p e below s Q K N S := gs (fun _ => h.trans) k
theorem goEnd (X : Stand p l e R s m args below meth c T locs cells slots) {v : Option Value} (hlocks : meth.locks = false) (hv : meth.sig.returnType = none → v = none)
    (hs : ∀ fs, (∀ (f : JFrame) (acts : List Action), f.method = m → f.locked = none → f.entered = [] → (doReturn e (T.setTop f) acts v).1 = T.setFrames fs) → Steps p.tables e below S (T.setFrames fs))
    (hQ : Q v T.heap locs) (hk : cells ≤ K) (hn : slots ≤ N) : Go p e below s Q K N S := by
  obtain ⟨fs, hr, hrun, hended, hW, hsame⟩ := X.leave (v := v) hv hlocks
  exact ⟨_, _, hs fs hr, hrun, hended, v, locs, rfl, hQ, ⟨_, rfl⟩, hW, hsame.mono hk hn⟩
theorem goV (X : Stand p l e R s m args below meth c T locs cells slots) (hx : p.tables.exec = Jvm.exec) (hlocks : meth.locks = false) (hret : meth.sig.returnType = none) {pc : Nat} {Ls : Array Slot} (hd : decode c.code pc = .ok (.return_, 1)) (hQ : Q none T.heap locs) (hk : cells ≤ K) (hn : slots ≤ N) :
    Go p e below s Q K N (T.setTop (mkF m pc Ls [])) := goEnd X hlocks (fun _ => rfl) (fun _ hr => X.returnOut hx hret hd hr) hQ hk hn
theorem goW (X : Stand p l e R s m args below meth c T locs cells slots) (hx : p.tables.exec = Jvm.exec) (hlocks : meth.locks = false) {t : FieldType} (hret : meth.sig.returnType = some t) {pc : Nat} {Ls : Array Slot} {w : Value} {i : Instr} {rest : List Value} (hn0 : narrow t w = w)
    (hi : (i = .ireturn ∧ (t = .int ∨ t = .boolean ∨ t = .byte ∨ t = .char ∨ t = .short) ∧ ∃ z, w = .int z) ∨ (i = .lreturn ∧ t = .long ∧ ∃ z, w = .long z) ∨ (i = .dreturn ∧ t = .double ∧ ∃ z, w = .double z) ∨ (i = .freturn ∧ t = .float ∧ ∃ z, w = .float z) ∨ (i = .areturn ∧ t.isReference = true ∧ w.isRef = true))
    (hd : decode c.code pc = .ok (i, 1)) (hQ : Q (some w) T.heap locs) (hk : cells ≤ K) (hn : slots ≤ N) : Go p e below s Q K N (T.setTop (mkF m pc Ls (w :: rest))) :=
  goEnd X hlocks (fun q => by rw [hret] at q; cases q) (fun _ hr => retOut X hx hret hn0 hi hd hr) hQ hk hn
theorem goI (X : Stand p l e R s m args below meth c T locs cells slots) (hx : p.tables.exec = Jvm.exec) (hlocks : meth.locks = false) (hret : meth.sig.returnType = some .int) {pc : Nat} {Ls : Array Slot} {w : Int32} {rest : List Value} (hd : decode c.code pc = .ok (.ireturn, 1)) (hQ : Q (some (.int w)) T.heap locs) (hk : cells ≤ K) (hn : slots ≤ N) :
    Go p e below s Q K N (T.setTop (mkF m pc Ls (.int w :: rest))) := goW X hx hlocks hret rfl (Or.inl ⟨rfl, Or.inl rfl, w, rfl⟩) hd hQ hk hn
theorem goJ (X : Stand p l e R s m args below meth c T locs cells slots) (hx : p.tables.exec = Jvm.exec) (hlocks : meth.locks = false) (hret : meth.sig.returnType = some .long) {pc : Nat} {Ls : Array Slot} {w : Int64} {rest : List Value} (hd : decode c.code pc = .ok (.lreturn, 1)) (hQ : Q (some (.long w)) T.heap locs) (hk : cells ≤ K) (hn : slots ≤ N) :
    Go p e below s Q K N (T.setTop (mkF m pc Ls (.long w :: rest))) := goW X hx hlocks hret rfl (Or.inr (Or.inl ⟨rfl, rfl, w, rfl⟩)) hd hQ hk hn
theorem goR (X : Stand p l e R s m args below meth c T locs cells slots) (hx : p.tables.exec = Jvm.exec) (hlocks : meth.locks = false) {t : FieldType} (hret : meth.sig.returnType = some t) (ht : t.isReference = true) {pc : Nat} {Ls : Array Slot} {w : Value} (hw : w.isRef = true) {rest : List Value} (hd : decode c.code pc = .ok (.areturn, 1)) (hQ : Q (some w) T.heap locs) (hk : cells ≤ K) (hn : slots ≤ N) :
    Go p e below s Q K N (T.setTop (mkF m pc Ls (w :: rest))) :=
  goW X hx hlocks hret (by cases t <;> simp [FieldType.isReference] at ht <;> rfl) (Or.inr (Or.inr (Or.inr (Or.inr ⟨rfl, ht, hw⟩)))) hd hQ hk hn
theorem goB (X : Stand p l e R s m args below meth c T locs cells slots) (hx : p.tables.exec = Jvm.exec) (hlocks : meth.locks = false) {t : FieldType} (hret : meth.sig.returnType = some t) (ht : t = .boolean ∨ t = .byte ∨ t = .char ∨ t = .short) {pc : Nat} {Ls : Array Slot} {z w : Int32} {rest : List Value} (hz : nar t z = w) (hd : decode c.code pc = .ok (.ireturn, 1)) (hQ : Q (some (.int w)) T.heap locs) (hk : cells ≤ K) (hn : slots ≤ N) :
    Go p e below s Q K N (T.setTop (mkF m pc Ls (.int z :: rest))) := by
  subst hz
  exact goEnd X hlocks (fun q => by rw [hret] at q; cases q) (fun _ hr => retN X hx hret ht hd hr) hQ hk hn
/-- an array of n places; the place i holds f i -/
def Arf (Z : State) (h : Heap) (a : Addr) (ty : FieldType) (n : Nat) (f : Nat → Value) : Prop := ∃ c : Cell, Arr Z h a c ty ∧ c.slots.size = n ∧ n < 2 ^ 31 ∧ ∀ i, i < n → c.slots[i]? = some (f i)
def updv (f : Nat → Value) (j : Nat) (v : Value) : Nat → Value := fun i => if i = j then v else f i
variable {n : Nat} {f g : Nat → Value} {sl : Nat} {v : Value}
theorem Arf.lt (F : Arf Z h a ty n f) : a < h.size := by obtain ⟨c, A, -⟩ := F; exact A.lt
theorem Arf.ext (F : Arf Z h a ty n f) (E : Ext h h') : Arf Z h' a ty n f := by obtain ⟨c, A, r⟩ := F; exact ⟨c, A.ext E, r⟩
theorem Arf.other (F : Arf Z h b ty n f) (W : Wr h h' a sl v) (q : b ≠ a) : Arf Z h' b ty n f := by obtain ⟨c, A, r⟩ := F; exact ⟨c, A.other W q, r⟩
theorem Arf.keep (F : Arf Z h a ty n f) (K : Keep h h' ws) (q : a ∉ ws) : Arf Z h' a ty n f := by obtain ⟨c, A, r⟩ := F; exact ⟨c, ⟨K.2.1 a c A.1 q, A.2⟩, r⟩
theorem Arf.congr (F : Arf Z h a ty n f) (q : ∀ i, i < n → f i = g i) : Arf Z h a ty n g := by
  obtain ⟨c, A, r1, r2, r3⟩ := F
  exact ⟨c, A, r1, r2, fun i hi => by rw [← q i hi]; exact r3 i hi⟩
theorem clampLt (z : Int32) : z.toNatClampNeg < 2 ^ 31 := by
  have h1 := z.toInt_lt
  have h2 : z.toNatClampNeg = z.toInt.toNat := rfl
  omega
theorem clampOf {j : Int32} (h0 : 0 ≤ j.toInt) : (j.toNatClampNeg : Int) = j.toInt := by
  have h2 : j.toNatClampNeg = j.toInt.toNat := rfl
  omega
theorem Arf.new {k : ClassId} {z : Int32} (A : Arr Z h a (newA k ty z) ty) : Arf Z h a ty z.toNatClampNeg (fun _ => defaultValue ty) := by
  refine ⟨_, A, sz_new _ _ _, clampLt z, fun i hi => ?_⟩
  simp [newA, hi]
theorem Arf.set (F : Arf Z h a ty n f) {j : Nat} (W : Wr h h' a j v) (hj : j < n) : Arf Z h' a ty n (updv f j v) := by
  obtain ⟨c, A, r1, r2, r3⟩ := F
  refine ⟨_, A.same W, by rw [sz_set]; exact r1, r2, fun i hi => ?_⟩
  by_cases q : i = j
  · subst q
    simp [Cell.setSlot, updv, r1, hi]
  · have q' : ¬ j = i := fun x => q x.symm
    simp [Cell.setSlot, updv, q, Array.getElem?_setIfInBounds_ne q', r3 i hi]
theorem inI {cl : Cell} (S : cl.slots.size = n) {j : Int32} (hj : 0 ≤ j.toInt ∧ j.toInt < n) : ¬ (j < 0 ∨ cl.slots.size ≤ j.toNatClampNeg) := by
  have q := clampOf hj.1
  rintro (h1 | h1)
  · rw [Int32.lt_iff_toInt_lt] at h1
    have : (0 : Int32).toInt = 0 := rfl
    omega
  · omega
theorem stIf (X : Stand p l e R s m args below meth c T locs cells slots) (hx : p.tables.exec = Jvm.exec) (hZ : Z.Warmed39 s.vm) (eT : T.heap = h) (F : Arf Z h a .int n f) {j x : Int32} (hj : 0 ≤ j.toInt ∧ j.toInt < n) {g : JFrame} (hg : g.method = m) {rest : List Value} (hs : g.stack = .int x :: .int j :: .ref a :: rest) (hd : decode c.code g.pc = .ok (.iastore, 1)) :
    ∃ T' h', Stand p l e R s m args below meth c T' (locs ++ [⟨a, j.toNatClampNeg⟩]) cells slots ∧ T'.heap = h' ∧ Wr h h' a j.toNatClampNeg (.int x) ∧ Arf Z h' a .int n (updv f j.toNatClampNeg (.int x)) ∧ ∀ target, Steps p.tables e below (T'.setTop { g with pc := g.pc + 1, stack := rest }) target → Steps p.tables e below (T.setTop g) target := by
  obtain ⟨cl, A, r1, r2, r3⟩ := id F
  obtain ⟨T', h', X', e', W, st⟩ := stI X hx hZ eT A (j := j) (x := x) (inI r1 hj) hg hs hd
  have q := clampOf hj.1
  exact ⟨T', h', X', e', W, F.set W (by omega), st⟩
theorem stJf (X : Stand p l e R s m args below meth c T locs cells slots) (hx : p.tables.exec = Jvm.exec) (hZ : Z.Warmed39 s.vm) (eT : T.heap = h) (F : Arf Z h a .long n f) {j : Int32} {x : Int64} (hj : 0 ≤ j.toInt ∧ j.toInt < n) {g : JFrame} (hg : g.method = m) {rest : List Value} (hs : g.stack = .long x :: .int j :: .ref a :: rest) (hd : decode c.code g.pc = .ok (.lastore, 1)) :
    ∃ T' h', Stand p l e R s m args below meth c T' (locs ++ [⟨a, j.toNatClampNeg⟩]) cells slots ∧ T'.heap = h' ∧ Wr h h' a j.toNatClampNeg (.long x) ∧ Arf Z h' a .long n (updv f j.toNatClampNeg (.long x)) ∧ ∀ target, Steps p.tables e below (T'.setTop { g with pc := g.pc + 1, stack := rest }) target → Steps p.tables e below (T.setTop g) target := by
  obtain ⟨cl, A, r1, r2, r3⟩ := id F
  obtain ⟨T', h', X', e', W, st⟩ := stJ X hx hZ eT A (j := j) (x := x) (inI r1 hj) hg hs hd
  have q := clampOf hj.1
  exact ⟨T', h', X', e', W, F.set W (by omega), st⟩
theorem stBf (X : Stand p l e R s m args below meth c T locs cells slots) (hx : p.tables.exec = Jvm.exec) (hZ : Z.Warmed39 s.vm) (eT : T.heap = h) (F : Arf Z h a .byte n f) {j x : Int32} (hj : 0 ≤ j.toInt ∧ j.toInt < n) {g : JFrame} (hg : g.method = m) {rest : List Value} (hs : g.stack = .int x :: .int j :: .ref a :: rest) (hd : decode c.code g.pc = .ok (.bastore, 1)) :
    ∃ T' h', Stand p l e R s m args below meth c T' (locs ++ [⟨a, j.toNatClampNeg⟩]) cells slots ∧ T'.heap = h' ∧ Wr h h' a j.toNatClampNeg (.int (nar .byte x)) ∧ Arf Z h' a .byte n (updv f j.toNatClampNeg (.int (nar .byte x))) ∧ ∀ target, Steps p.tables e below (T'.setTop { g with pc := g.pc + 1, stack := rest }) target → Steps p.tables e below (T.setTop g) target := by
  obtain ⟨cl, A, r1, r2, r3⟩ := id F
  obtain ⟨T', h', X', e', W, st⟩ := stB X hx hZ eT A (j := j) (x := x) (inI r1 hj) hg hs hd
  have q := clampOf hj.1
  exact ⟨T', h', X', e', W, F.set W (by omega), st⟩
theorem stZf (X : Stand p l e R s m args below meth c T locs cells slots) (hx : p.tables.exec = Jvm.exec) (hZ : Z.Warmed39 s.vm) (eT : T.heap = h) (F : Arf Z h a .boolean n f) {j x : Int32} (hj : 0 ≤ j.toInt ∧ j.toInt < n) {g : JFrame} (hg : g.method = m) {rest : List Value} (hs : g.stack = .int x :: .int j :: .ref a :: rest) (hd : decode c.code g.pc = .ok (.bastore, 1)) :
    ∃ T' h', Stand p l e R s m args below meth c T' (locs ++ [⟨a, j.toNatClampNeg⟩]) cells slots ∧ T'.heap = h' ∧ Wr h h' a j.toNatClampNeg (.int (nar .boolean x)) ∧ Arf Z h' a .boolean n (updv f j.toNatClampNeg (.int (nar .boolean x))) ∧ ∀ target, Steps p.tables e below (T'.setTop { g with pc := g.pc + 1, stack := rest }) target → Steps p.tables e below (T.setTop g) target := by
  obtain ⟨cl, A, r1, r2, r3⟩ := id F
  obtain ⟨T', h', X', e', W, st⟩ := stZ X hx hZ eT A (j := j) (x := x) (inI r1 hj) hg hs hd
  have q := clampOf hj.1
  exact ⟨T', h', X', e', W, F.set W (by omega), st⟩
theorem stCf (X : Stand p l e R s m args below meth c T locs cells slots) (hx : p.tables.exec = Jvm.exec) (hZ : Z.Warmed39 s.vm) (eT : T.heap = h) (F : Arf Z h a .char n f) {j x : Int32} (hj : 0 ≤ j.toInt ∧ j.toInt < n) {g : JFrame} (hg : g.method = m) {rest : List Value} (hs : g.stack = .int x :: .int j :: .ref a :: rest) (hd : decode c.code g.pc = .ok (.castore, 1)) :
    ∃ T' h', Stand p l e R s m args below meth c T' (locs ++ [⟨a, j.toNatClampNeg⟩]) cells slots ∧ T'.heap = h' ∧ Wr h h' a j.toNatClampNeg (.int (nar .char x)) ∧ Arf Z h' a .char n (updv f j.toNatClampNeg (.int (nar .char x))) ∧ ∀ target, Steps p.tables e below (T'.setTop { g with pc := g.pc + 1, stack := rest }) target → Steps p.tables e below (T.setTop g) target := by
  obtain ⟨cl, A, r1, r2, r3⟩ := id F
  obtain ⟨T', h', X', e', W, st⟩ := stC X hx hZ eT A (j := j) (x := x) (inI r1 hj) hg hs hd
  have q := clampOf hj.1
  exact ⟨T', h', X', e', W, F.set W (by omega), st⟩
theorem stRf (X : Stand p l e R s m args below meth c T locs cells slots) (hx : p.tables.exec = Jvm.exec) (hZ : Z.Warmed39 s.vm) (eT : T.heap = h) (F : Arf Z h a ty n f) (hty : ty.isReference = true) {j : Int32} {v : Value} (hv : Sto Z h a v) (hj : 0 ≤ j.toInt ∧ j.toInt < n) {g : JFrame} (hg : g.method = m) {rest : List Value} (hs : g.stack = v :: .int j :: .ref a :: rest) (hd : decode c.code g.pc = .ok (.aastore, 1)) :
    ∃ T' h', Stand p l e R s m args below meth c T' (locs ++ [⟨a, j.toNatClampNeg⟩]) cells slots ∧ T'.heap = h' ∧ Wr h h' a j.toNatClampNeg v ∧ Arf Z h' a ty n (updv f j.toNatClampNeg v) ∧ ∀ target, Steps p.tables e below (T'.setTop { g with pc := g.pc + 1, stack := rest }) target → Steps p.tables e below (T.setTop g) target := by
  obtain ⟨cl, A, r1, r2, r3⟩ := id F
  obtain ⟨T', h', X', e', W, st⟩ := stR X hx hZ eT A (j := j) (v := v) (inI r1 hj) hty hv hg hs hd
  have q := clampOf hj.1
  exact ⟨T', h', X', e', W, F.set W (by omega), st⟩
theorem ldIf (X : Stand p l e R s m args below meth c T locs cells slots) (hx : p.tables.exec = Jvm.exec) (hZ : Z.Warmed39 s.vm) (eT : T.heap = h) (F : Arf Z h a .int n f) {j : Int32} {v : Value} (hj : 0 ≤ j.toInt ∧ j.toInt < n) (hv : f j.toNatClampNeg = v) {g : JFrame} (hg : g.method = m) {rest : List Value} (hs : g.stack = .int j :: .ref a :: rest) (hd : decode c.code g.pc = .ok (.iaload, 1)) :
    ∀ target, Steps p.tables e below (T.setTop { g with pc := g.pc + 1, stack := v :: rest }) target → Steps p.tables e below (T.setTop g) target := by
  obtain ⟨cl, A, r1, r2, r3⟩ := F
  have q := clampOf hj.1
  exact fun t => X.iaload hx (by rw [eT]; exact A.1) (State.isArrayOf_alike hZ.alike A.2.1) A.2.2 (inI r1 hj) (by rw [← hv]; exact r3 _ (by omega)) hg hs hd t
theorem ldJf (X : Stand p l e R s m args below meth c T locs cells slots) (hx : p.tables.exec = Jvm.exec) (hZ : Z.Warmed39 s.vm) (eT : T.heap = h) (F : Arf Z h a .long n f) {j : Int32} {v : Value} (hj : 0 ≤ j.toInt ∧ j.toInt < n) (hv : f j.toNatClampNeg = v) {g : JFrame} (hg : g.method = m) {rest : List Value} (hs : g.stack = .int j :: .ref a :: rest) (hd : decode c.code g.pc = .ok (.laload, 1)) :
    ∀ target, Steps p.tables e below (T.setTop { g with pc := g.pc + 1, stack := v :: rest }) target → Steps p.tables e below (T.setTop g) target := by
  obtain ⟨cl, A, r1, r2, r3⟩ := F
  have q := clampOf hj.1
  exact fun t => X.laload hx (by rw [eT]; exact A.1) (State.isArrayOf_alike hZ.alike A.2.1) A.2.2 (inI r1 hj) (by rw [← hv]; exact r3 _ (by omega)) hg hs hd t
theorem ldCf (X : Stand p l e R s m args below meth c T locs cells slots) (hx : p.tables.exec = Jvm.exec) (hZ : Z.Warmed39 s.vm) (eT : T.heap = h) (F : Arf Z h a .char n f) {j : Int32} {v : Value} (hj : 0 ≤ j.toInt ∧ j.toInt < n) (hv : f j.toNatClampNeg = v) {g : JFrame} (hg : g.method = m) {rest : List Value} (hs : g.stack = .int j :: .ref a :: rest) (hd : decode c.code g.pc = .ok (.caload, 1)) :
    ∀ target, Steps p.tables e below (T.setTop { g with pc := g.pc + 1, stack := v :: rest }) target → Steps p.tables e below (T.setTop g) target := by
  obtain ⟨cl, A, r1, r2, r3⟩ := F
  have q := clampOf hj.1
  exact fun t => X.caload hx (by rw [eT]; exact A.1) (State.isArrayOf_alike hZ.alike A.2.1) A.2.2 (inI r1 hj) (by rw [← hv]; exact r3 _ (by omega)) hg hs hd t
theorem ldBf (X : Stand p l e R s m args below meth c T locs cells slots) (hx : p.tables.exec = Jvm.exec) (hZ : Z.Warmed39 s.vm) (eT : T.heap = h) (F : Arf Z h a .byte n f) {j : Int32} {v : Value} (hj : 0 ≤ j.toInt ∧ j.toInt < n) (hv : f j.toNatClampNeg = v) {g : JFrame} (hg : g.method = m) {rest : List Value} (hs : g.stack = .int j :: .ref a :: rest) (hd : decode c.code g.pc = .ok (.baload, 1)) :
    ∀ target, Steps p.tables e below (T.setTop { g with pc := g.pc + 1, stack := v :: rest }) target → Steps p.tables e below (T.setTop g) target := by
  obtain ⟨cl, A, r1, r2, r3⟩ := F
  have q := clampOf hj.1
  exact fun t => X.baloadBytes hx (by rw [eT]; exact A.1) (State.isArrayOf_alike hZ.alike A.2.1) A.2.2 (inI r1 hj) (by rw [← hv]; exact r3 _ (by omega)) hg hs hd t
theorem ldZf (X : Stand p l e R s m args below meth c T locs cells slots) (hx : p.tables.exec = Jvm.exec) (hZ : Z.Warmed39 s.vm) (eT : T.heap = h) (F : Arf Z h a .boolean n f) {j : Int32} {v : Value} (hj : 0 ≤ j.toInt ∧ j.toInt < n) (hv : f j.toNatClampNeg = v) {g : JFrame} (hg : g.method = m) {rest : List Value} (hs : g.stack = .int j :: .ref a :: rest) (hd : decode c.code g.pc = .ok (.baload, 1)) :
    ∀ target, Steps p.tables e below (T.setTop { g with pc := g.pc + 1, stack := v :: rest }) target → Steps p.tables e below (T.setTop g) target := by
  obtain ⟨cl, A, r1, r2, r3⟩ := F
  have q := clampOf hj.1
  exact fun t => X.baloadBooleans hx (by rw [eT]; exact A.1) (State.isArrayOf_alike hZ.alike A.2.1) A.2.2 (inI r1 hj) (by rw [← hv]; exact r3 _ (by omega)) hg hs hd t
theorem ldRf (X : Stand p l e R s m args below meth c T locs cells slots) (hx : p.tables.exec = Jvm.exec) (hZ : Z.Warmed39 s.vm) (eT : T.heap = h) (F : Arf Z h a ty n f) (hty : ty.isReference = true) {j : Int32} {v : Value} (hj : 0 ≤ j.toInt ∧ j.toInt < n) (hv : f j.toNatClampNeg = v) {g : JFrame} (hg : g.method = m) {rest : List Value} (hs : g.stack = .int j :: .ref a :: rest) (hd : decode c.code g.pc = .ok (.aaload, 1)) :
    ∀ target, Steps p.tables e below (T.setTop { g with pc := g.pc + 1, stack := v :: rest }) target → Steps p.tables e below (T.setTop g) target := by
  obtain ⟨cl, A, r1, r2, r3⟩ := F
  have q := clampOf hj.1
  exact fun t => X.aaload hx (by rw [eT]; exact A.1) (State.isArrayOf_alike hZ.alike A.2.1) hty A.2.2 (inI r1 hj) (by rw [← hv]; exact r3 _ (by omega)) hg hs hd t
theorem lenf (X : Stand p l e R s m args below meth c T locs cells slots) (hx : p.tables.exec = Jvm.exec) (hZ : Z.Warmed39 s.vm) (eT : T.heap = h) (F : Arf Z h a ty n f) {z : Int32} (hz : n.toInt32 = z) {g : JFrame} (hg : g.method = m) {rest : List Value} (hs : g.stack = .ref a :: rest) (hd : decode c.code g.pc = .ok (.arraylength, 1)) :
    ∀ target, Steps p.tables e below (T.setTop { g with pc := g.pc + 1, stack := .int z :: rest }) target → Steps p.tables e below (T.setTop g) target := by
  obtain ⟨cl, A, r1, r2, r3⟩ := F
  subst hz r1
  exact fun t => X.arraylength hx (by rw [eT]; exact A.1) (State.isArrayOf_alike hZ.alike A.2.1) hg hs hd t
theorem toClamp {z : Int32} (q : 0 ≤ z.toInt) : z.toNatClampNeg.toInt32 = z := (back32 (fun h => by rw [Int32.lt_iff_toInt_lt] at h; have : (0 : Int32).toInt = 0 := rfl; omega)).1
theorem refCat {v : Value} (h : v.isRef = true) : v.category = 1 := by rcases ref_cases h with rfl | ⟨_, rfl⟩ <;> rfl
/-- an array that takes every object of the class C -/
def Tak (Z : State) (h : Heap) (a : Addr) (C : String) : Prop := ∃ (cell : Cell) (k kc : Class) (comp : ClassId) (t : FieldType), h[a]? = some cell ∧ Z.vm.classes[cell.cls]? = some k ∧ k.kind = .array comp t ∧ Z.vm.classes[comp]? = some kc ∧ Z.vm.findClass C = some comp
variable {C : String}
theorem Tak.ext (F : Tak Z h a C) (E : Ext h h') : Tak Z h' a C := by obtain ⟨cell, k, kc, comp, t, h1, r⟩ := F; exact ⟨cell, k, kc, comp, t, E.2 _ _ h1, r⟩
theorem Tak.wr (F : Tak Z h a C) (W : Wr h h' b sl v) : Tak Z h' a C := by
  obtain ⟨cell, k, kc, comp, t, h1, h2, r⟩ := F
  obtain ⟨c', e1, e2, -⟩ := wr_at W h1
  exact ⟨c', k, kc, comp, t, e1, by rw [e2]; exact h2, r⟩
theorem Tak.keep (F : Tak Z h a C) (K : Keep h h' ws) : Tak Z h' a C := by
  obtain ⟨cell, k, kc, comp, t, h1, h2, r⟩ := F
  obtain ⟨c', e1, e2, -⟩ := K.2.2 _ _ h1
  exact ⟨c', k, kc, comp, t, e1, by rw [e2]; exact h2, r⟩
theorem Tak.sto (F : Tak Z h a C) {y : Addr} (I : Ins Z h y C true) : Sto Z h a (.ref y) := by
  obtain ⟨cell, k, kc, comp, t, h1, h2, h3, h4, h5⟩ := F
  obtain ⟨cv, cT, g1, g2, g3⟩ := I
  cases h5.symm.trans g2
  simp only [Bool.and_eq_true, Bool.not_eq_true'] at g3
  have hv : ∃ kv, Z.vm.classes[cv.cls]? = some kv := by
    cases q : Z.vm.classes[cv.cls]? with
    | some kv => exact ⟨kv, rfl⟩
    | none =>
      by_cases e : cv.cls = comp
      · rw [e, h4] at q; cases q
      · have := g3.2
        simp [Vm.assignable, Vm.assignableAux, e, q] at this
  obtain ⟨kv, hkv⟩ := hv
  exact Or.inr ⟨cell, cv, k, kv, kc, comp, t, y, h1, h2, h3, h4, rfl, g1, g3.1, hkv, g3.2⟩
theorem Tak.of {cA : ClassId} {n : Int32} (A : Arr Z h a (newA cA ty n) ty) (O : Ovr Z cA C) : Tak Z h a C := by
  obtain ⟨k, comp, o1, o2, o3⟩ := O
  obtain ⟨kc, q, -⟩ := Vm.findClass_spec o3
  exact ⟨_, k, kc, comp, _, A.1, o1, o2, q, o3⟩
theorem Tak.ofA {cA : ClassId} {n : Int32} {ty' : FieldType} (A : Arr Z h a (newA cA ty n) ty) (O : OvrA Z cA ty' C) : Tak Z h a C := by
  obtain ⟨k, comp, o1, o2, o3⟩ := O
  obtain ⟨kc, q, -⟩ := Vm.findClass_spec o3
  exact ⟨_, k, kc, comp, _, A.1, o1, o2, q, o3⟩
theorem own_eqI {t : Term} {k : Int32} {args : Array Value} {first s : State} {o : Option Outcome} {idx : List Nat} (h : (Cond.eq t (.int k)).value args first o s idx = some true) : t.eval args first o idx s = some (.int k) := by
  simp only [Cond.value, Term.eval] at h
  cases ht : t.eval args first o idx s with
  | none => simp [ht] at h
  | some x => cases x <;> simp [ht] at h ⊢ <;> exact h
end Own
end Jvm.RoadKit
namespace Jvm.Pilot.@@N@@
open Jvm Jvm.ClassFile Sem Op Lib Jvm.Free Jvm.Stand Jvm.LawKit Jvm.RoadKit Bundle Jvm.Pilot.@@N@@.Jvm.D
theorem pd_0 : parseMethodDescriptor "()B" = some ⟨[], some .byte⟩ := by decide +kernel
theorem pd_1 : parseMethodDescriptor "(IILjava/util/function/BiFunction;)I" = some ⟨[.int, .int, (.object "java/util/function/BiFunction")], some .int⟩ := by decide +kernel
theorem pd_2 : parseMethodDescriptor "(II)V" = some ⟨[.int, .int], none⟩ := by decide +kernel
theorem pd_3 : parseMethodDescriptor "()Z" = some ⟨[], some .boolean⟩ := by decide +kernel
theorem pd_4 : parseMethodDescriptor "([BI)C" = some ⟨[(.array .byte), .int], some .char⟩ := by decide +kernel
theorem pd_5 : parseMethodDescriptor "(I)Lcom/example/mean_drift/meandrift/Formula$Comparison;" = some ⟨[.int], some (.object "com/example/mean_drift/meandrift/Formula$Comparison")⟩ := by decide +kernel
theorem pd_6 : parseMethodDescriptor "()Ljava/lang/String;" = some ⟨[], some (.object "java/lang/String")⟩ := by decide +kernel
theorem pd_7 : parseMethodDescriptor "()I" = some ⟨[], some .int⟩ := by decide +kernel
theorem pd_8 : parseMethodDescriptor "(I)C" = some ⟨[.int], some .char⟩ := by decide +kernel
theorem own_shr0 (z : Int32) : z >>> ((0 : Int32) &&& 31) = z := by
  have e := c_ishr z 0 0 (by decide)
  rw [← Int32.toInt_inj, e]
  simp
theorem own_char (x : Int32) : nar .char (x &&& (255 : Int32)) = x &&& (255 : Int32) := i2c_mask x
def own_pick (i : Int32) (a b c d : Addr) : Addr := if i = 0 then a else if i = 1 then b else if i = 2 then c else d
theorem own_i (x : Int32) {i : Int32} (h : (x &&& (3 : Int32)) = i) : i = 0 ∨ i = 1 ∨ i = 2 ∨ i = 3 := by
  have e1 := c_mask x 3 2 (by decide) (by decide)
  rw [h] at e1
  have k0 : (0 : Int32).toInt = 0 := rfl
  have k1 : (1 : Int32).toInt = 1 := rfl
  have k2 : (2 : Int32).toInt = 2 := rfl
  have k3 : (3 : Int32).toInt = 3 := rfl
  rw [← Int32.toInt_inj, ← Int32.toInt_inj, ← Int32.toInt_inj, ← Int32.toInt_inj, k0, k1, k2, k3]
  omega
/-- a byte[] of the start with n places -/
theorem own_arr {Z : State} {args : Array Value} {t : Term} {a : Addr} {c : Cell} {n : Nat} {z : Int32} (hz : z.toInt = n) (ea : t.eval args Z none [] Z = some (.ref a)) (A : Arr Z Z.heap a c .byte) (h : (Jvm.Cond.eq (.length t) (.int z)).value args Z none Z [] = some true) : Arf Z Z.heap a .byte n (fun i => (c.slots[i]?).getD .null) := by
  have hat := A.fin (Vm.Alike.refl Z.vm)
  have h6 := own_eqI h
  have hsz : c.slots.size = n := by
    simp only [Term.eval, ea, hat, Option.bind_eq_bind, Option.bind_some] at h6
    split at h6
    · rename_i hlt
      have q : c.slots.size.toInt32 = z := by simpa using h6
      have q2 := congrArg Int32.toInt q
      rw [len_toInt hlt] at q2
      omega
    · simp at h6
  have hl := z.toInt_lt
  exact ⟨c, A, hsz, by omega, fun i hi => by show c.slots[i]? = some ((c.slots[i]?).getD .null); rw [Array.getElem?_eq_getElem (by omega)]; rfl⟩
theorem own_elem {Z : State} {args : Array Value} {t : Term} {a : Addr} {c : Cell} {j : Nat} {z b : Int32} (hz : z.toNatClampNeg = j) (hn : ¬ z < 0) (ea : t.eval args Z none [] Z = some (.ref a)) (A : Arr Z Z.heap a c .byte) (h : (Jvm.Cond.eq (.elem t (.int z)) (.int b)).value args Z none Z [] = some true) : (c.slots[j]?).getD .null = .int b := by
  have e := own_eqI h
  rw [elem_f ea rfl (A.fin (Vm.Alike.refl Z.vm)) hn, hz] at e
  rw [e]; rfl
theorem d4_0 : decode jdk_42_method_152_code 0 = .ok (.getstatic 38, 3) := by decide +kernel
theorem d4_3 : decode jdk_42_method_152_code 3 = .ok (.ifCond .eq 10, 3) := by decide +kernel
theorem d4_6 : decode jdk_42_method_152_code 6 = .ok (.aload_n 0, 1) := by decide +kernel
theorem d4_7 : decode jdk_42_method_152_code 7 = .ok (.getfield 15, 3) := by decide +kernel
theorem d4_10 : decode jdk_42_method_152_code 10 = .ok (.goto 4, 3) := by decide +kernel
theorem d4_13 : decode jdk_42_method_152_code 13 = .ok (.iconst 1, 1) := by decide +kernel
theorem d4_14 : decode jdk_42_method_152_code 14 = .ok (.ireturn, 1) := by decide +kernel
theorem pn_4 : plainName "java/lang/String" = true := by first | (simp [plainName, overriddenIn]; done) | decide +kernel
def QrmCoder (Z : State) (r0 : Addr) (vb : Addr) (cs : Int32) (h0 : Heap) (n0 : Nat) (v : Option Value) (h : Heap) (L : List Loc) : Prop := v = some (.int 0) ∧ Fr n0 L ∧ h = h0
set_option maxRecDepth 65536 in
set_option maxHeartbeats 40000000 in
theorem rmCoder (l : Launch) (Z : State) (a0 : Array Value) (hw : ∀ d ∈ tables_1, d.before a0 Z = true) (ws : List Jvm.Cond) (r0 : Addr) (vb : Addr) (cs : Int32) (h0 : Heap) (n0 : Nat) (Z0 : n0 ≤ h0.size) (OLD : Old Z n0 h0) (CS : Sta Z Z.heap "java/lang/String" "COMPACT_STRINGS" "Z" (.int cs)) (hcs : ¬ (cs = (0 : Int32))) (F_value_r0 : Fld Z h0 r0 "java/lang/String" "value" "[B" (.ref vb)) (F_coder_r0 : Fld Z h0 r0 "java/lang/String" "coder" "B" (.int (0 : Int32))) :
    MetFree l (⟨"java/lang/String", "coder", "()B"⟩ : MethodName) (head1 (Jvm.Cond.code (⟨"java/lang/String", "coder", "()B"⟩ : MethodName) jdk_42_method_152_code 1 (some .byte) :: ws) ({ frames := 0, cells := 0, slots := 0, locals := 0 } : Room)) (fun a U => a = #[(.ref r0)] ∧ Z.Warmed39 U.vm ∧ U.heap = h0) (fun _ _ _ _ _ => True) (fun _ U o U' => ∃ v L, o = .returned v ∧ QrmCoder Z r0 vb cs h0 n0 v U'.heap L ∧ FrameEnd U o U' L ({ frames := 0, cells := 0, slots := 0, locals := 0 } : Room).cells ({ frames := 0, cells := 0, slots := 0, locals := 0 } : Room).slots) := by
  refine MetFree.of_bodySF (plainFor_of_name pn_4) hisR ?_
  intro p e s m args below meth c s₁ Bd hml0 hP hK
  obtain ⟨rfl, hZ, hh⟩ := hP
  have hx := Bd.exec
  have hby := Bd.bytes
  have hml : c.maxLocals = 1 := hml0
  have hown : s.vm.findClass "java/lang/String" = some m.cls := findClass_of_methodNamed Bd.named
  have hnm := (name_of_methodNamed Bd.named Bd.method).1
  have X0 : Stand p l e ({ frames := 0, cells := 0, slots := 0, locals := 0 } : Room) s m #[(.ref r0)] below meth c s₁ [] 0 0 := Stand.of_body Bd
  have e0 : s₁.heap = h0 := by rw [← hh, Bd.state]; rfl
  have N0 := Fr.nil n0
  have ZZ := Z0
  show Go p e below s (QrmCoder Z r0 vb cs h0 n0) 0 0 (s₁.setTop (entryFrame m #[(.ref r0)] 1))
  generalize hQQ : (QrmCoder Z r0 vb cs h0 n0) = QQ
  refine gs (fun t k => castTop (g' := (mkF m 0 #[.val (.ref r0)] [])) (by first | (simp [entryFrame, mkF, argsToLocals, Value.category, maxLocals]; done) | rfl) k) ?_
  show Go p e below s QQ 0 0 (s₁.setTop (mkF m 0 #[.val (.ref r0)] []))
  obtain ⟨T1, X1, e1, st1⟩ := getS2 X0 hx hZ hown (host := "") (Or.inl (hw _ (List.mem_of_getElem? (i := 27) rfl))) Via.refl e0 (CS.ext OLD.2) (g := (mkF m 0 #[.val (.ref r0)] [])) rfl (hb hby d4_0)
  refine gs st1 ?_
  show Go p e below s QQ 0 0 (T1.setTop (mkF m 3 #[.val (.ref r0)] [(.int cs)]))
  refine gs (fun t => XS.ifNo X1.here hx rfl (hb hby d4_3) rfl ((if0 _ _).trans (feq (hcs : ¬ (cs = (0 : Int32)))).1)) ?_
  show Go p e below s QQ 0 0 (T1.setTop (mkF m 6 #[.val (.ref r0)] []))
  refine gs (fun t => XS.aloadN X1.here hx rfl (hb hby d4_6) rfl rfl) ?_
  show Go p e below s QQ 0 0 (T1.setTop (mkF m 7 #[.val (.ref r0)] [(.ref r0)]))
  obtain ⟨T2, X2, e2, st2⟩ := getF X1 hx hZ hown (host := "") (Or.inl (hw _ (List.mem_of_getElem? (i := 28) rfl))) Via.refl e1 F_coder_r0 (g := (mkF m 7 #[.val (.ref r0)] [(.ref r0)])) rfl rfl (hb hby d4_7)
  refine gs st2 ?_
  show Go p e below s QQ 0 0 (T2.setTop (mkF m 10 #[.val (.ref r0)] [(.int (0 : Int32))]))
  refine gs (fun t => XS.goto X2.here hx rfl (pc0 := 10) (pc' := 14) rfl (hb hby d4_10) (by decide) (by decide)) ?_
  show Go p e below s QQ 0 0 (T2.setTop (mkF m 14 #[.val (.ref r0)] [(.int (0 : Int32))]))
  exact goB X2 hx Bd.notSynchronized Bd.returns (by simp) (w := (0 : Int32)) (by first | rfl | decide) (hb hby d4_14) (by rw [← hQQ, e2]; exact ⟨rfl, N0, rfl⟩) (by decide) (by decide)
theorem d3_0 : decode jdk_42_method_54_code 0 = .ok (.aload_n 0, 1) := by decide +kernel
theorem d3_1 : decode jdk_42_method_54_code 1 = .ok (.getfield 9, 3) := by decide +kernel
theorem d3_4 : decode jdk_42_method_54_code 4 = .ok (.arraylength, 1) := by decide +kernel
theorem d3_5 : decode jdk_42_method_54_code 5 = .ok (.aload_n 0, 1) := by decide +kernel
theorem d3_6 : decode jdk_42_method_54_code 6 = .ok (.invokevirtual 335, 3) := by decide +kernel
theorem d3_9 : decode jdk_42_method_54_code 9 = .ok (.ishr, 1) := by decide +kernel
theorem d3_10 : decode jdk_42_method_54_code 10 = .ok (.ireturn, 1) := by decide +kernel
theorem pn_3 : plainName "java/lang/String" = true := by first | (simp [plainName, overriddenIn]; done) | decide +kernel
def QrmLen (Z : State) (r0 : Addr) (vb : Addr) (cs : Int32) (nn : Nat) (fb : Nat → Value) (z : Int32) (h0 : Heap) (n0 : Nat) (v : Option Value) (h : Heap) (L : List Loc) : Prop := v = some (.int z) ∧ Fr n0 L ∧ h = h0
set_option maxRecDepth 65536 in
set_option maxHeartbeats 40000000 in
theorem rmLen (l : Launch) (Z : State) (a0 : Array Value) (hw : ∀ d ∈ tables_1, d.before a0 Z = true) (ws : List Jvm.Cond) (r0 : Addr) (vb : Addr) (cs : Int32) (nn : Nat) (fb : Nat → Value) (z : Int32) (h0 : Heap) (n0 : Nat) (Z0 : n0 ≤ h0.size) (OLD : Old Z n0 h0) (CS : Sta Z Z.heap "java/lang/String" "COMPACT_STRINGS" "Z" (.int cs)) (hcs : ¬ (cs = (0 : Int32))) (F_value_r0 : Fld Z h0 r0 "java/lang/String" "value" "[B" (.ref vb)) (F_coder_r0 : Fld Z h0 r0 "java/lang/String" "coder" "B" (.int (0 : Int32))) (E_r0 : Exa Z h0 r0 "java/lang/String") (V_vb : Arf Z h0 vb .byte nn fb) (hz : nn.toInt32 = z) :
    MetFree l (⟨"java/lang/String", "length", "()I"⟩ : MethodName) (head1 (Jvm.Cond.code (⟨"java/lang/String", "length", "()I"⟩ : MethodName) jdk_42_method_54_code 1 (some .int) :: ws) ({ frames := 1, cells := 0, slots := 0, locals := 13 } : Room)) (fun a U => a = #[(.ref r0)] ∧ Z.Warmed39 U.vm ∧ U.heap = h0) (fun _ _ _ _ _ => True) (fun _ U o U' => ∃ v L, o = .returned v ∧ QrmLen Z r0 vb cs nn fb z h0 n0 v U'.heap L ∧ FrameEnd U o U' L ({ frames := 1, cells := 0, slots := 0, locals := 13 } : Room).cells ({ frames := 1, cells := 0, slots := 0, locals := 13 } : Room).slots) := by
  refine MetFree.of_bodySF (plainFor_of_name pn_3) hisR ?_
  intro p e s m args below meth c s₁ Bd hml0 hP hK
  obtain ⟨rfl, hZ, hh⟩ := hP
  have hx := Bd.exec
  have hby := Bd.bytes
  have hml : c.maxLocals = 1 := hml0
  have hown : s.vm.findClass "java/lang/String" = some m.cls := findClass_of_methodNamed Bd.named
  have hnm := (name_of_methodNamed Bd.named Bd.method).1
  have X0 : Stand p l e ({ frames := 1, cells := 0, slots := 0, locals := 13 } : Room) s m #[(.ref r0)] below meth c s₁ [] 0 0 := Stand.of_body Bd
  have e0 : s₁.heap = h0 := by rw [← hh, Bd.state]; rfl
  have N0 := Fr.nil n0
  have ZZ := Z0
  show Go p e below s (QrmLen Z r0 vb cs nn fb z h0 n0) 0 0 (s₁.setTop (entryFrame m #[(.ref r0)] 1))
  generalize hQQ : (QrmLen Z r0 vb cs nn fb z h0 n0) = QQ
  refine gs (fun t k => castTop (g' := (mkF m 0 #[.val (.ref r0)] [])) (by first | (simp [entryFrame, mkF, argsToLocals, Value.category, maxLocals]; done) | rfl) k) ?_
  show Go p e below s QQ 0 0 (s₁.setTop (mkF m 0 #[.val (.ref r0)] []))
  refine gs (fun t => XS.aloadN X0.here hx rfl (hb hby d3_0) rfl rfl) ?_
  show Go p e below s QQ 0 0 (s₁.setTop (mkF m 1 #[.val (.ref r0)] [(.ref r0)]))
  obtain ⟨T3, X3, e3, st3⟩ := getF X0 hx hZ hown (host := "") (Or.inl (hw _ (List.mem_of_getElem? (i := 20) rfl))) Via.refl e0 F_value_r0 (g := (mkF m 1 #[.val (.ref r0)] [(.ref r0)])) rfl rfl (hb hby d3_1)
  refine gs st3 ?_
  show Go p e below s QQ 0 0 (T3.setTop (mkF m 4 #[.val (.ref r0)] [(.ref vb)]))
  refine gs (fun t => lenf X3 hx hZ e3 V_vb (z := z) hz (g := (mkF m 4 #[.val (.ref r0)] [(.ref vb)])) rfl rfl (hb hby d3_4) t) ?_
  show Go p e below s QQ 0 0 (T3.setTop (mkF m 5 #[.val (.ref r0)] [(.int z)]))
  refine gs (fun t => XS.aloadN X3.here hx rfl (hb hby d3_5) rfl rfl) ?_
  show Go p e below s QQ 0 0 (T3.setTop (mkF m 6 #[.val (.ref r0)] [(.ref r0), (.int z)]))
  obtain ⟨cq4, kq4, q4a, q4b, q4c⟩ := isOf hZ e3 E_r0
  obtain ⟨_, _, ⟨T4, L4, k4, n4⟩, -, X4, ⟨Lc4, hQ4, l4, y4, z4⟩, st4⟩ := X3.virtualBack hx (y := (⟨"java/lang/String", "coder", "()B"⟩ : MethodName)) (z := (⟨"java/lang/String", "coder", "()B"⟩ : MethodName)) hown (mvT hZ (hw _ (List.mem_of_getElem? (i := 22) rfl))) (mvT hZ (hw _ (List.mem_of_getElem? (i := 23) rfl))) (notFace_of_selects (args := #[]) (mvT hZ (hw _ (List.mem_of_getElem? (i := 25) rfl)))) (mvT hZ (hw _ (List.mem_of_getElem? (i := 25) rfl))) (mvT hZ (hw _ (List.mem_of_getElem? (i := 24) rfl))) (by decide) (backOf (W := 1) (rmCoder l Z a0 hw [] r0 vb cs h0 n0 ZZ OLD CS hcs F_value_r0 F_coder_r0) hZ (hw _ (List.mem_of_getElem? (i := 26) rfl)) (hw _ (List.mem_of_getElem? (i := 18) rfl)) (by decide) (by decide)) q4a q4c (g := (mkF m 6 #[.val (.ref r0)] [(.ref r0), (.int z)])) rfl (by rw [hml]; rfl) (Steps.refl _) (argsL := []) (rest := [(.int z)]) (lenOf pd_0 rfl) rfl (by show 2 * 0 + _ ≤ _; exact Nat.le_of_eq rfl) (hb hby d3_6) (fun _ _ => ⟨rfl, e3, (by decide : 0 + 0 ≤ _), (by decide : 0 + 0 ≤ _)⟩)
  dsimp only [Pt.U, Pt.locs, Pt.cells, Pt.slots] at X4 l4 y4 z4 st4 hQ4
  subst l4 y4 z4
  obtain ⟨rfl, N4q, e4⟩ := hQ4
  replace N0 := Fr.app N0 N4q
  refine gt st4 ?_
  show Go p e below s QQ 0 0 (T4.setTop (mkF m 9 #[.val (.ref r0)] [(.int (0 : Int32)), (.int z)]))
  refine gs (fun t => XS.ishr X4.here hx rfl (hb hby d3_9) rfl) ?_
  show Go p e below s QQ 0 0 (T4.setTop (mkF m 10 #[.val (.ref r0)] [(.int (z >>> ((0 : Int32) &&& 31)))]))
  rw [show (z >>> ((0 : Int32) &&& 31)) = z from own_shr0 z]
  show Go p e below s QQ 0 0 (T4.setTop (mkF m 10 #[.val (.ref r0)] [(.int z)]))
  exact goI X4 hx Bd.notSynchronized Bd.returns (hb hby d3_10) (by rw [← hQQ, e4]; exact ⟨rfl, N0, rfl⟩) (by decide) (by decide)
theorem d10_0 : decode jdk_41_method_11_code 0 = .ok (.iload_n 0, 1) := by decide +kernel
theorem d10_1 : decode jdk_41_method_11_code 1 = .ok (.ifCond .lt 8, 3) := by decide +kernel
theorem d10_4 : decode jdk_41_method_11_code 4 = .ok (.iload_n 0, 1) := by decide +kernel
theorem d10_5 : decode jdk_41_method_11_code 5 = .ok (.iload_n 1, 1) := by decide +kernel
theorem d10_6 : decode jdk_41_method_11_code 6 = .ok (.if_icmp .lt 10, 3) := by decide +kernel
theorem d10_9 : decode jdk_41_method_11_code 9 = .ok (.aload_n 2, 1) := by decide +kernel
theorem d10_10 : decode jdk_41_method_11_code 10 = .ok (.iload_n 0, 1) := by decide +kernel
theorem d10_11 : decode jdk_41_method_11_code 11 = .ok (.iload_n 1, 1) := by decide +kernel
theorem d10_12 : decode jdk_41_method_11_code 12 = .ok (.invokestatic 95, 3) := by decide +kernel
theorem d10_15 : decode jdk_41_method_11_code 15 = .ok (.athrow, 1) := by decide +kernel
theorem d10_16 : decode jdk_41_method_11_code 16 = .ok (.iload_n 0, 1) := by decide +kernel
theorem d10_17 : decode jdk_41_method_11_code 17 = .ok (.ireturn, 1) := by decide +kernel
theorem pn_10 : plainName "jdk/internal/util/Preconditions" = true := by first | (simp [plainName, overriddenIn]; done) | decide +kernel
def QrmCk1 (Z : State) (p0 : Int32) (p1 : Int32) (p2 : Value) (h0 : Heap) (n0 : Nat) (v : Option Value) (h : Heap) (L : List Loc) : Prop := v = some (.int p0) ∧ Fr n0 L ∧ h = h0
set_option maxRecDepth 65536 in
set_option maxHeartbeats 40000000 in
theorem rmCk1 (l : Launch) (Z : State) (a0 : Array Value) (hw : ∀ d ∈ tables_1, d.before a0 Z = true) (ws : List Jvm.Cond) (p0 : Int32) (p1 : Int32) (p2 : Value) (h0 : Heap) (n0 : Nat) (Z0 : n0 ≤ h0.size) (hk1 : ¬ (p0 < (0 : Int32))) (hk2 : p0 < p1) (hr2 : p2.isRef = true) :
    MetFree l (⟨"jdk/internal/util/Preconditions", "checkIndex", "(IILjava/util/function/BiFunction;)I"⟩ : MethodName) (head1 (Jvm.Cond.code (⟨"jdk/internal/util/Preconditions", "checkIndex", "(IILjava/util/function/BiFunction;)I"⟩ : MethodName) jdk_41_method_11_code 3 (some .int) :: ws) ({ frames := 0, cells := 0, slots := 0, locals := 0 } : Room)) (fun a U => a = #[(.int p0), (.int p1), p2] ∧ Z.Warmed39 U.vm ∧ U.heap = h0) (fun _ _ _ _ _ => True) (fun _ U o U' => ∃ v L, o = .returned v ∧ QrmCk1 Z p0 p1 p2 h0 n0 v U'.heap L ∧ FrameEnd U o U' L ({ frames := 0, cells := 0, slots := 0, locals := 0 } : Room).cells ({ frames := 0, cells := 0, slots := 0, locals := 0 } : Room).slots) := by
  refine MetFree.of_bodySF (plainFor_of_name pn_10) hisR ?_
  intro p e s m args below meth c s₁ Bd hml0 hP hK
  obtain ⟨rfl, hZ, hh⟩ := hP
  have hx := Bd.exec
  have hby := Bd.bytes
  have hml : c.maxLocals = 3 := hml0
  have hown : s.vm.findClass "jdk/internal/util/Preconditions" = some m.cls := findClass_of_methodNamed Bd.named
  have hnm := (name_of_methodNamed Bd.named Bd.method).1
  have X0 : Stand p l e ({ frames := 0, cells := 0, slots := 0, locals := 0 } : Room) s m #[(.int p0), (.int p1), p2] below meth c s₁ [] 0 0 := Stand.of_body Bd
  have e0 : s₁.heap = h0 := by rw [← hh, Bd.state]; rfl
  have N0 := Fr.nil n0
  have ZZ := Z0
  show Go p e below s (QrmCk1 Z p0 p1 p2 h0 n0) 0 0 (s₁.setTop (entryFrame m #[(.int p0), (.int p1), p2] 3))
  generalize hQQ : (QrmCk1 Z p0 p1 p2 h0 n0) = QQ
  refine gs (fun t k => castTop (g' := (mkF m 0 #[.val (.int p0), .val (.int p1), .val p2] [])) (by rcases ref_cases hr2 with rfl | ⟨_, rfl⟩ <;> simp [entryFrame, mkF, argsToLocals, Value.category]) k) ?_
  show Go p e below s QQ 0 0 (s₁.setTop (mkF m 0 #[.val (.int p0), .val (.int p1), .val p2] []))
  refine gs (fun t => XS.iloadN X0.here hx rfl (hb hby d10_0) rfl) ?_
  show Go p e below s QQ 0 0 (s₁.setTop (mkF m 1 #[.val (.int p0), .val (.int p1), .val p2] [(.int p0)]))
  refine gs (fun t => XS.ifNo X0.here hx rfl (hb hby d10_1) rfl ((if0 _ _).trans (flt (hk1 : ¬ (p0 < (0 : Int32)))).1)) ?_
  show Go p e below s QQ 0 0 (s₁.setTop (mkF m 4 #[.val (.int p0), .val (.int p1), .val p2] []))
  refine gs (fun t => XS.iloadN X0.here hx rfl (hb hby d10_4) rfl) ?_
  show Go p e below s QQ 0 0 (s₁.setTop (mkF m 5 #[.val (.int p0), .val (.int p1), .val p2] [(.int p0)]))
  refine gs (fun t => XS.iloadN X0.here hx rfl (hb hby d10_5) rfl) ?_
  show Go p e below s QQ 0 0 (s₁.setTop (mkF m 6 #[.val (.int p0), .val (.int p1), .val p2] [(.int p1), (.int p0)]))
  refine gs (fun t => XS.icmpYes X0.here hx rfl (pc0 := 6) (pc' := 16) rfl (hb hby d10_6) rfl (tlt (hk2 : p0 < p1)).1 (by decide) (by decide)) ?_
  show Go p e below s QQ 0 0 (s₁.setTop (mkF m 16 #[.val (.int p0), .val (.int p1), .val p2] []))
  refine gs (fun t => XS.iloadN X0.here hx rfl (hb hby d10_16) rfl) ?_
  show Go p e below s QQ 0 0 (s₁.setTop (mkF m 17 #[.val (.int p0), .val (.int p1), .val p2] [(.int p0)]))
  exact goI X0 hx Bd.notSynchronized Bd.returns (hb hby d10_17) (by rw [← hQQ, e0]; exact ⟨rfl, N0, rfl⟩) (by decide) (by decide)
theorem d9_0 : decode jdk_42_method_155_code 0 = .ok (.iload_n 0, 1) := by decide +kernel
theorem d9_1 : decode jdk_42_method_155_code 1 = .ok (.iload_n 1, 1) := by decide +kernel
theorem d9_2 : decode jdk_42_method_155_code 2 = .ok (.getstatic 1053, 3) := by decide +kernel
theorem d9_5 : decode jdk_42_method_155_code 5 = .ok (.invokestatic 1059, 3) := by decide +kernel
theorem d9_8 : decode jdk_42_method_155_code 8 = .ok (.pop, 1) := by decide +kernel
theorem d9_9 : decode jdk_42_method_155_code 9 = .ok (.return_, 1) := by decide +kernel
theorem pn_9 : plainName "java/lang/String" = true := by first | (simp [plainName, overriddenIn]; done) | decide +kernel
def QrmCk2 (Z : State) (p0 : Int32) (p1 : Int32) (cs : Int32) (fmt : Value) (h0 : Heap) (n0 : Nat) (v : Option Value) (h : Heap) (L : List Loc) : Prop := v = none ∧ Fr n0 L ∧ h = h0
set_option maxRecDepth 65536 in
set_option maxHeartbeats 40000000 in
theorem rmCk2 (l : Launch) (Z : State) (a0 : Array Value) (hw : ∀ d ∈ tables_1, d.before a0 Z = true) (ws : List Jvm.Cond) (p0 : Int32) (p1 : Int32) (cs : Int32) (fmt : Value) (h0 : Heap) (n0 : Nat) (Z0 : n0 ≤ h0.size) (OLD : Old Z n0 h0) (CS : Sta Z Z.heap "java/lang/String" "COMPACT_STRINGS" "Z" (.int cs)) (hcs : ¬ (cs = (0 : Int32))) (SI : Sta Z Z.heap "jdk/internal/util/Preconditions" "SIOOBE_FORMATTER" "Ljava/util/function/BiFunction;" fmt) (hfmt : fmt.isRef = true) (hk1 : ¬ (p0 < (0 : Int32))) (hk2 : p0 < p1) :
    MetFree l (⟨"java/lang/String", "checkIndex", "(II)V"⟩ : MethodName) (head1 (Jvm.Cond.code (⟨"java/lang/String", "checkIndex", "(II)V"⟩ : MethodName) jdk_42_method_155_code 2 none :: ws) ({ frames := 1, cells := 0, slots := 0, locals := 14 } : Room)) (fun a U => a = #[(.int p0), (.int p1)] ∧ Z.Warmed39 U.vm ∧ U.heap = h0) (fun _ _ _ _ _ => True) (fun _ U o U' => ∃ v L, o = .returned v ∧ QrmCk2 Z p0 p1 cs fmt h0 n0 v U'.heap L ∧ FrameEnd U o U' L ({ frames := 1, cells := 0, slots := 0, locals := 14 } : Room).cells ({ frames := 1, cells := 0, slots := 0, locals := 14 } : Room).slots) := by
  refine MetFree.of_bodySF (plainFor_of_name pn_9) hisR ?_
  intro p e s m args below meth c s₁ Bd hml0 hP hK
  obtain ⟨rfl, hZ, hh⟩ := hP
  have hx := Bd.exec
  have hby := Bd.bytes
  have hml : c.maxLocals = 2 := hml0
  have hown : s.vm.findClass "java/lang/String" = some m.cls := findClass_of_methodNamed Bd.named
  have hnm := (name_of_methodNamed Bd.named Bd.method).1
  have X0 : Stand p l e ({ frames := 1, cells := 0, slots := 0, locals := 14 } : Room) s m #[(.int p0), (.int p1)] below meth c s₁ [] 0 0 := Stand.of_body Bd
  have e0 : s₁.heap = h0 := by rw [← hh, Bd.state]; rfl
  have N0 := Fr.nil n0
  have ZZ := Z0
  show Go p e below s (QrmCk2 Z p0 p1 cs fmt h0 n0) 0 0 (s₁.setTop (entryFrame m #[(.int p0), (.int p1)] 2))
  generalize hQQ : (QrmCk2 Z p0 p1 cs fmt h0 n0) = QQ
  refine gs (fun t k => castTop (g' := (mkF m 0 #[.val (.int p0), .val (.int p1)] [])) (by first | (simp [entryFrame, mkF, argsToLocals, Value.category, maxLocals]; done) | rfl) k) ?_
  show Go p e below s QQ 0 0 (s₁.setTop (mkF m 0 #[.val (.int p0), .val (.int p1)] []))
  refine gs (fun t => XS.iloadN X0.here hx rfl (hb hby d9_0) rfl) ?_
  show Go p e below s QQ 0 0 (s₁.setTop (mkF m 1 #[.val (.int p0), .val (.int p1)] [(.int p0)]))
  refine gs (fun t => XS.iloadN X0.here hx rfl (hb hby d9_1) rfl) ?_
  show Go p e below s QQ 0 0 (s₁.setTop (mkF m 2 #[.val (.int p0), .val (.int p1)] [(.int p1), (.int p0)]))
  obtain ⟨T5, X5, e5, st5⟩ := getS2 X0 hx hZ hown (host := "") (Or.inl (hw _ (List.mem_of_getElem? (i := 57) rfl))) Via.refl e0 (SI.ext OLD.2) (g := (mkF m 2 #[.val (.int p0), .val (.int p1)] [(.int p1), (.int p0)])) rfl (hb hby d9_2)
  refine gs st5 ?_
  show Go p e below s QQ 0 0 (T5.setTop (mkF m 5 #[.val (.int p0), .val (.int p1)] [fmt, (.int p1), (.int p0)]))
  obtain ⟨_, _, ⟨T6, L6, k6, n6⟩, -, X6, ⟨Lc6, hQ6, l6, y6, z6⟩, st6⟩ := Jvm.LawKit.callS X5 hx (y := (⟨"jdk/internal/util/Preconditions", "checkIndex", "(IILjava/util/function/BiFunction;)I"⟩ : MethodName)) hown (mvT hZ (hw _ (List.mem_of_getElem? (i := 59) rfl))) (mvT hZ (hw _ (List.mem_of_getElem? (i := 60) rfl))) (mvT hZ (hw _ (List.mem_of_getElem? (i := 58) rfl))) (mvT hZ (hw _ (List.mem_of_getElem? (i := 61) rfl))) (by decide) (backOf (W := 0) (rmCk1 l Z a0 hw [] p0 p1 fmt h0 n0 ZZ hk1 hk2 hfmt) hZ (hw _ (List.mem_of_getElem? (i := 61) rfl)) (hw _ (List.mem_of_getElem? (i := 58) rfl)) (by decide) (by decide)) (g := (mkF m 5 #[.val (.int p0), .val (.int p1)] [fmt, (.int p1), (.int p0)])) rfl (by rw [hml]; rfl) (argsL := [(.int p0), (.int p1), fmt]) (rest := []) (lenOf pd_1 rfl) rfl (by show 2 * 0 + _ ≤ _; exact Nat.le_of_eq rfl) (hb hby d9_5) (fun _ _ => ⟨rfl, e5, (by decide : 0 + 0 ≤ _), (by decide : 0 + 0 ≤ _)⟩)
  dsimp only [Pt.U, Pt.locs, Pt.cells, Pt.slots] at X6 l6 y6 z6 st6 hQ6
  subst l6 y6 z6
  obtain ⟨rfl, N6q, e6⟩ := hQ6
  replace N0 := Fr.app N0 N6q
  refine gs st6 ?_
  show Go p e below s QQ 0 0 (T6.setTop (mkF m 8 #[.val (.int p0), .val (.int p1)] [(.int p0)]))
  refine gs (fun t => XS.pop X6.here hx rfl (hb hby d9_8) rfl rfl) ?_
  show Go p e below s QQ 0 0 (T6.setTop (mkF m 9 #[.val (.int p0), .val (.int p1)] []))
  exact goV X6 hx Bd.notSynchronized Bd.returns (hb hby d9_9) (by rw [← hQQ, e6]; exact ⟨rfl, N0, rfl⟩) (by decide) (by decide)
theorem d7_0 : decode jdk_42_method_154_code 0 = .ok (.getstatic 38, 3) := by decide +kernel
theorem d7_3 : decode jdk_42_method_154_code 3 = .ok (.ifCond .eq 14, 3) := by decide +kernel
theorem d7_6 : decode jdk_42_method_154_code 6 = .ok (.aload_n 0, 1) := by decide +kernel
theorem d7_7 : decode jdk_42_method_154_code 7 = .ok (.getfield 15, 3) := by decide +kernel
theorem d7_10 : decode jdk_42_method_154_code 10 = .ok (.ifCond .ne 7, 3) := by decide +kernel
theorem d7_13 : decode jdk_42_method_154_code 13 = .ok (.iconst 1, 1) := by decide +kernel
theorem d7_14 : decode jdk_42_method_154_code 14 = .ok (.goto 4, 3) := by decide +kernel
theorem d7_17 : decode jdk_42_method_154_code 17 = .ok (.iconst 0, 1) := by decide +kernel
theorem d7_18 : decode jdk_42_method_154_code 18 = .ok (.ireturn, 1) := by decide +kernel
theorem pn_7 : plainName "java/lang/String" = true := by first | (simp [plainName, overriddenIn]; done) | decide +kernel
def QrmL1 (Z : State) (r0 : Addr) (vb : Addr) (cs : Int32) (h0 : Heap) (n0 : Nat) (v : Option Value) (h : Heap) (L : List Loc) : Prop := v = some (.int 1) ∧ Fr n0 L ∧ h = h0
set_option maxRecDepth 65536 in
set_option maxHeartbeats 40000000 in
theorem rmL1 (l : Launch) (Z : State) (a0 : Array Value) (hw : ∀ d ∈ tables_1, d.before a0 Z = true) (ws : List Jvm.Cond) (r0 : Addr) (vb : Addr) (cs : Int32) (h0 : Heap) (n0 : Nat) (Z0 : n0 ≤ h0.size) (OLD : Old Z n0 h0) (CS : Sta Z Z.heap "java/lang/String" "COMPACT_STRINGS" "Z" (.int cs)) (hcs : ¬ (cs = (0 : Int32))) (F_value_r0 : Fld Z h0 r0 "java/lang/String" "value" "[B" (.ref vb)) (F_coder_r0 : Fld Z h0 r0 "java/lang/String" "coder" "B" (.int (0 : Int32))) :
    MetFree l (⟨"java/lang/String", "isLatin1", "()Z"⟩ : MethodName) (head1 (Jvm.Cond.code (⟨"java/lang/String", "isLatin1", "()Z"⟩ : MethodName) jdk_42_method_154_code 1 (some .boolean) :: ws) ({ frames := 0, cells := 0, slots := 0, locals := 0 } : Room)) (fun a U => a = #[(.ref r0)] ∧ Z.Warmed39 U.vm ∧ U.heap = h0) (fun _ _ _ _ _ => True) (fun _ U o U' => ∃ v L, o = .returned v ∧ QrmL1 Z r0 vb cs h0 n0 v U'.heap L ∧ FrameEnd U o U' L ({ frames := 0, cells := 0, slots := 0, locals := 0 } : Room).cells ({ frames := 0, cells := 0, slots := 0, locals := 0 } : Room).slots) := by
  refine MetFree.of_bodySF (plainFor_of_name pn_7) hisR ?_
  intro p e s m args below meth c s₁ Bd hml0 hP hK
  obtain ⟨rfl, hZ, hh⟩ := hP
  have hx := Bd.exec
  have hby := Bd.bytes
  have hml : c.maxLocals = 1 := hml0
  have hown : s.vm.findClass "java/lang/String" = some m.cls := findClass_of_methodNamed Bd.named
  have hnm := (name_of_methodNamed Bd.named Bd.method).1
  have X0 : Stand p l e ({ frames := 0, cells := 0, slots := 0, locals := 0 } : Room) s m #[(.ref r0)] below meth c s₁ [] 0 0 := Stand.of_body Bd
  have e0 : s₁.heap = h0 := by rw [← hh, Bd.state]; rfl
  have N0 := Fr.nil n0
  have ZZ := Z0
  show Go p e below s (QrmL1 Z r0 vb cs h0 n0) 0 0 (s₁.setTop (entryFrame m #[(.ref r0)] 1))
  generalize hQQ : (QrmL1 Z r0 vb cs h0 n0) = QQ
  refine gs (fun t k => castTop (g' := (mkF m 0 #[.val (.ref r0)] [])) (by first | (simp [entryFrame, mkF, argsToLocals, Value.category, maxLocals]; done) | rfl) k) ?_
  show Go p e below s QQ 0 0 (s₁.setTop (mkF m 0 #[.val (.ref r0)] []))
  obtain ⟨T7, X7, e7, st7⟩ := getS2 X0 hx hZ hown (host := "") (Or.inl (hw _ (List.mem_of_getElem? (i := 27) rfl))) Via.refl e0 (CS.ext OLD.2) (g := (mkF m 0 #[.val (.ref r0)] [])) rfl (hb hby d7_0)
  refine gs st7 ?_
  show Go p e below s QQ 0 0 (T7.setTop (mkF m 3 #[.val (.ref r0)] [(.int cs)]))
  refine gs (fun t => XS.ifNo X7.here hx rfl (hb hby d7_3) rfl ((if0 _ _).trans (feq (hcs : ¬ (cs = (0 : Int32)))).1)) ?_
  show Go p e below s QQ 0 0 (T7.setTop (mkF m 6 #[.val (.ref r0)] []))
  refine gs (fun t => XS.aloadN X7.here hx rfl (hb hby d7_6) rfl rfl) ?_
  show Go p e below s QQ 0 0 (T7.setTop (mkF m 7 #[.val (.ref r0)] [(.ref r0)]))
  obtain ⟨T8, X8, e8, st8⟩ := getF X7 hx hZ hown (host := "") (Or.inl (hw _ (List.mem_of_getElem? (i := 28) rfl))) Via.refl e7 F_coder_r0 (g := (mkF m 7 #[.val (.ref r0)] [(.ref r0)])) rfl rfl (hb hby d7_7)
  refine gs st8 ?_
  show Go p e below s QQ 0 0 (T8.setTop (mkF m 10 #[.val (.ref r0)] [(.int (0 : Int32))]))
  refine gs (fun t => XS.ifNo X8.here hx rfl (hb hby d7_10) rfl ((if0 _ _).trans (teq (by decide : (0 : Int32) = (0 : Int32))).2)) ?_
  show Go p e below s QQ 0 0 (T8.setTop (mkF m 13 #[.val (.ref r0)] []))
  refine gs (fun t => XS.iconst X8.here hx rfl (hb hby d7_13)) ?_
  show Go p e below s QQ 0 0 (T8.setTop (mkF m 14 #[.val (.ref r0)] [(.int (1 : Int32))]))
  refine gs (fun t => XS.goto X8.here hx rfl (pc0 := 14) (pc' := 18) rfl (hb hby d7_14) (by decide) (by decide)) ?_
  show Go p e below s QQ 0 0 (T8.setTop (mkF m 18 #[.val (.ref r0)] [(.int (1 : Int32))]))
  exact goB X8 hx Bd.notSynchronized Bd.returns (by simp) (w := (1 : Int32)) (by first | rfl | decide) (hb hby d7_18) (by rw [← hQQ, e8]; exact ⟨rfl, N0, rfl⟩) (by decide) (by decide)
theorem d8_0 : decode jdk_43_method_2_code 0 = .ok (.iload_n 1, 1) := by decide +kernel
theorem d8_1 : decode jdk_43_method_2_code 1 = .ok (.aload_n 0, 1) := by decide +kernel
theorem d8_2 : decode jdk_43_method_2_code 2 = .ok (.arraylength, 1) := by decide +kernel
theorem d8_3 : decode jdk_43_method_2_code 3 = .ok (.invokestatic 9, 3) := by decide +kernel
theorem d8_6 : decode jdk_43_method_2_code 6 = .ok (.aload_n 0, 1) := by decide +kernel
theorem d8_7 : decode jdk_43_method_2_code 7 = .ok (.iload_n 1, 1) := by decide +kernel
theorem d8_8 : decode jdk_43_method_2_code 8 = .ok (.baload, 1) := by decide +kernel
theorem d8_9 : decode jdk_43_method_2_code 9 = .ok (.sipush 255, 3) := by decide +kernel
theorem d8_12 : decode jdk_43_method_2_code 12 = .ok (.iand, 1) := by decide +kernel
theorem d8_13 : decode jdk_43_method_2_code 13 = .ok (.i2c, 1) := by decide +kernel
theorem d8_14 : decode jdk_43_method_2_code 14 = .ok (.ireturn, 1) := by decide +kernel
theorem pn_8 : plainName "java/lang/StringLatin1" = true := by first | (simp [plainName, overriddenIn]; done) | decide +kernel
def QrmL1c (Z : State) (r0 : Addr) (p1 : Int32) (cs : Int32) (fmt : Value) (nn : Nat) (fb : Nat → Value) (bt : Int32) (h0 : Heap) (n0 : Nat) (v : Option Value) (h : Heap) (L : List Loc) : Prop := v = some (.int (bt &&& (255 : Int32))) ∧ Fr n0 L ∧ h = h0
set_option maxRecDepth 65536 in
set_option maxHeartbeats 40000000 in
theorem rmL1c (l : Launch) (Z : State) (a0 : Array Value) (hw : ∀ d ∈ tables_1, d.before a0 Z = true) (ws : List Jvm.Cond) (r0 : Addr) (p1 : Int32) (cs : Int32) (fmt : Value) (nn : Nat) (fb : Nat → Value) (bt : Int32) (h0 : Heap) (n0 : Nat) (Z0 : n0 ≤ h0.size) (OLD : Old Z n0 h0) (CS : Sta Z Z.heap "java/lang/String" "COMPACT_STRINGS" "Z" (.int cs)) (hcs : ¬ (cs = (0 : Int32))) (SI : Sta Z Z.heap "jdk/internal/util/Preconditions" "SIOOBE_FORMATTER" "Ljava/util/function/BiFunction;" fmt) (hfmt : fmt.isRef = true) (V_r0 : Arf Z h0 r0 .byte nn fb) (hj : 0 ≤ p1.toInt ∧ p1.toInt < nn) (hn : nn < 2 ^ 31) (hb' : fb p1.toNatClampNeg = .int bt) :
    MetFree l (⟨"java/lang/StringLatin1", "charAt", "([BI)C"⟩ : MethodName) (head1 (Jvm.Cond.code (⟨"java/lang/StringLatin1", "charAt", "([BI)C"⟩ : MethodName) jdk_43_method_2_code 2 (some .char) :: ws) ({ frames := 2, cells := 0, slots := 0, locals := 27 } : Room)) (fun a U => a = #[(.ref r0), (.int p1)] ∧ Z.Warmed39 U.vm ∧ U.heap = h0) (fun _ _ _ _ _ => True) (fun _ U o U' => ∃ v L, o = .returned v ∧ QrmL1c Z r0 p1 cs fmt nn fb bt h0 n0 v U'.heap L ∧ FrameEnd U o U' L ({ frames := 2, cells := 0, slots := 0, locals := 27 } : Room).cells ({ frames := 2, cells := 0, slots := 0, locals := 27 } : Room).slots) := by
  refine MetFree.of_bodySF (plainFor_of_name pn_8) hisR ?_
  intro p e s m args below meth c s₁ Bd hml0 hP hK
  obtain ⟨rfl, hZ, hh⟩ := hP
  have hx := Bd.exec
  have hby := Bd.bytes
  have hml : c.maxLocals = 2 := hml0
  have hown : s.vm.findClass "java/lang/StringLatin1" = some m.cls := findClass_of_methodNamed Bd.named
  have hnm := (name_of_methodNamed Bd.named Bd.method).1
  have X0 : Stand p l e ({ frames := 2, cells := 0, slots := 0, locals := 27 } : Room) s m #[(.ref r0), (.int p1)] below meth c s₁ [] 0 0 := Stand.of_body Bd
  have e0 : s₁.heap = h0 := by rw [← hh, Bd.state]; rfl
  have N0 := Fr.nil n0
  have ZZ := Z0
  show Go p e below s (QrmL1c Z r0 p1 cs fmt nn fb bt h0 n0) 0 0 (s₁.setTop (entryFrame m #[(.ref r0), (.int p1)] 2))
  generalize hQQ : (QrmL1c Z r0 p1 cs fmt nn fb bt h0 n0) = QQ
  refine gs (fun t k => castTop (g' := (mkF m 0 #[.val (.ref r0), .val (.int p1)] [])) (by first | (simp [entryFrame, mkF, argsToLocals, Value.category, maxLocals]; done) | rfl) k) ?_
  show Go p e below s QQ 0 0 (s₁.setTop (mkF m 0 #[.val (.ref r0), .val (.int p1)] []))
  refine gs (fun t => XS.iloadN X0.here hx rfl (hb hby d8_0) rfl) ?_
  show Go p e below s QQ 0 0 (s₁.setTop (mkF m 1 #[.val (.ref r0), .val (.int p1)] [(.int p1)]))
  refine gs (fun t => XS.aloadN X0.here hx rfl (hb hby d8_1) rfl rfl) ?_
  show Go p e below s QQ 0 0 (s₁.setTop (mkF m 2 #[.val (.ref r0), .val (.int p1)] [(.ref r0), (.int p1)]))
  have hzz : (nn.toInt32).toInt = nn := Int32.toInt_ofNat_small hn
  refine gs (fun t => lenf X0 hx hZ e0 V_r0 (z := nn.toInt32) rfl (g := (mkF m 2 #[.val (.ref r0), .val (.int p1)] [(.ref r0), (.int p1)])) rfl rfl (hb hby d8_2) t) ?_
  show Go p e below s QQ 0 0 (s₁.setTop (mkF m 3 #[.val (.ref r0), .val (.int p1)] [(.int nn.toInt32), (.int p1)]))
  obtain ⟨_, _, ⟨T9, L9, k9, n9⟩, -, X9, ⟨Lc9, hQ9, l9, y9, z9⟩, st9⟩ := Jvm.LawKit.callS X0 hx (y := (⟨"java/lang/String", "checkIndex", "(II)V"⟩ : MethodName)) hown (mvT hZ (hw _ (List.mem_of_getElem? (i := 54) rfl))) (mvT hZ (hw _ (List.mem_of_getElem? (i := 55) rfl))) (mvT hZ (hw _ (List.mem_of_getElem? (i := 18) rfl))) (mvT hZ (hw _ (List.mem_of_getElem? (i := 56) rfl))) (by decide) (backOf (W := 0) (rmCk2 l Z a0 hw [] p1 nn.toInt32 cs fmt h0 n0 ZZ OLD CS hcs SI hfmt (by rw [Int32.lt_iff_toInt_lt]; have k0 : (0 : Int32).toInt = 0 := rfl; omega) (by rw [Int32.lt_iff_toInt_lt]; omega)) hZ (hw _ (List.mem_of_getElem? (i := 56) rfl)) (hw _ (List.mem_of_getElem? (i := 18) rfl)) (by decide) (by decide)) (g := (mkF m 3 #[.val (.ref r0), .val (.int p1)] [(.int nn.toInt32), (.int p1)])) rfl (by rw [hml]; rfl) (argsL := [(.int p1), (.int nn.toInt32)]) (rest := []) (lenOf pd_2 rfl) rfl (by show 2 * 0 + _ ≤ _; exact Nat.le_of_eq rfl) (hb hby d8_3) (fun _ _ => ⟨rfl, e0, (by decide : 0 + 0 ≤ _), (by decide : 0 + 0 ≤ _)⟩)
  dsimp only [Pt.U, Pt.locs, Pt.cells, Pt.slots] at X9 l9 y9 z9 st9 hQ9
  subst l9 y9 z9
  obtain ⟨rfl, N9q, e9⟩ := hQ9
  replace N0 := Fr.app N0 N9q
  refine gs st9 ?_
  show Go p e below s QQ 0 0 (T9.setTop (mkF m 6 #[.val (.ref r0), .val (.int p1)] []))
  refine gs (fun t => XS.aloadN X9.here hx rfl (hb hby d8_6) rfl rfl) ?_
  show Go p e below s QQ 0 0 (T9.setTop (mkF m 7 #[.val (.ref r0), .val (.int p1)] [(.ref r0)]))
  refine gs (fun t => XS.iloadN X9.here hx rfl (hb hby d8_7) rfl) ?_
  show Go p e below s QQ 0 0 (T9.setTop (mkF m 8 #[.val (.ref r0), .val (.int p1)] [(.int p1), (.ref r0)]))
  refine gs (fun t => ldBf X9 hx hZ e9 V_r0 (j := p1) (v := (.int bt)) hj hb' (g := (mkF m 8 #[.val (.ref r0), .val (.int p1)] [(.int p1), (.ref r0)])) rfl rfl (hb hby d8_8) t) ?_
  show Go p e below s QQ 0 0 (T9.setTop (mkF m 9 #[.val (.ref r0), .val (.int p1)] [(.int bt)]))
  refine gs (fun t => XS.sipush X9.here hx rfl (hb hby d8_9)) ?_
  show Go p e below s QQ 0 0 (T9.setTop (mkF m 12 #[.val (.ref r0), .val (.int p1)] [(.int (255 : Int32)), (.int bt)]))
  refine gs (fun t => XS.iand X9.here hx rfl (hb hby d8_12) rfl) ?_
  show Go p e below s QQ 0 0 (T9.setTop (mkF m 13 #[.val (.ref r0), .val (.int p1)] [(.int (bt &&& (255 : Int32)))]))
  refine gs (fun t => XS.i2c X9.here hx rfl (hb hby d8_13) rfl) ?_
  show Go p e below s QQ 0 0 (T9.setTop (mkF m 14 #[.val (.ref r0), .val (.int p1)] [(.int ((bt &&& (255 : Int32)).toUInt32.toUInt16.toUInt32.toInt32))]))
  rw [show ((bt &&& (255 : Int32)).toUInt32.toUInt16.toUInt32.toInt32) = (bt &&& (255 : Int32)) from i2c_mask bt]
  show Go p e below s QQ 0 0 (T9.setTop (mkF m 14 #[.val (.ref r0), .val (.int p1)] [(.int (bt &&& (255 : Int32)))]))
  exact goB X9 hx Bd.notSynchronized Bd.returns (by simp) (w := (bt &&& (255 : Int32))) (own_char bt) (hb hby d8_14) (by rw [← hQQ, e9]; exact ⟨rfl, N0, rfl⟩) (by decide) (by decide)
theorem d6_0 : decode jdk_42_method_56_code 0 = .ok (.aload_n 0, 1) := by decide +kernel
theorem d6_1 : decode jdk_42_method_56_code 1 = .ok (.invokevirtual 492, 3) := by decide +kernel
theorem d6_4 : decode jdk_42_method_56_code 4 = .ok (.ifCond .eq 12, 3) := by decide +kernel
theorem d6_7 : decode jdk_42_method_56_code 7 = .ok (.aload_n 0, 1) := by decide +kernel
theorem d6_8 : decode jdk_42_method_56_code 8 = .ok (.getfield 9, 3) := by decide +kernel
theorem d6_11 : decode jdk_42_method_56_code 11 = .ok (.iload_n 1, 1) := by decide +kernel
theorem d6_12 : decode jdk_42_method_56_code 12 = .ok (.invokestatic 495, 3) := by decide +kernel
theorem d6_15 : decode jdk_42_method_56_code 15 = .ok (.ireturn, 1) := by decide +kernel
theorem d6_16 : decode jdk_42_method_56_code 16 = .ok (.aload_n 0, 1) := by decide +kernel
theorem d6_17 : decode jdk_42_method_56_code 17 = .ok (.getfield 9, 3) := by decide +kernel
theorem d6_20 : decode jdk_42_method_56_code 20 = .ok (.iload_n 1, 1) := by decide +kernel
theorem d6_21 : decode jdk_42_method_56_code 21 = .ok (.invokestatic 498, 3) := by decide +kernel
theorem d6_24 : decode jdk_42_method_56_code 24 = .ok (.ireturn, 1) := by decide +kernel
theorem pn_6 : plainName "java/lang/String" = true := by first | (simp [plainName, overriddenIn]; done) | decide +kernel
def QrmCh (Z : State) (r0 : Addr) (p1 : Int32) (vb : Addr) (cs : Int32) (fmt : Value) (nn : Nat) (fb : Nat → Value) (bt : Int32) (h0 : Heap) (n0 : Nat) (v : Option Value) (h : Heap) (L : List Loc) : Prop := v = some (.int (bt &&& (255 : Int32))) ∧ Fr n0 L ∧ h = h0
set_option maxRecDepth 65536 in
set_option maxHeartbeats 40000000 in
theorem rmCh (l : Launch) (Z : State) (a0 : Array Value) (hw : ∀ d ∈ tables_1, d.before a0 Z = true) (ws : List Jvm.Cond) (r0 : Addr) (p1 : Int32) (vb : Addr) (cs : Int32) (fmt : Value) (nn : Nat) (fb : Nat → Value) (bt : Int32) (h0 : Heap) (n0 : Nat) (Z0 : n0 ≤ h0.size) (OLD : Old Z n0 h0) (CS : Sta Z Z.heap "java/lang/String" "COMPACT_STRINGS" "Z" (.int cs)) (hcs : ¬ (cs = (0 : Int32))) (SI : Sta Z Z.heap "jdk/internal/util/Preconditions" "SIOOBE_FORMATTER" "Ljava/util/function/BiFunction;" fmt) (hfmt : fmt.isRef = true) (F_value_r0 : Fld Z h0 r0 "java/lang/String" "value" "[B" (.ref vb)) (F_coder_r0 : Fld Z h0 r0 "java/lang/String" "coder" "B" (.int (0 : Int32))) (E_r0 : Exa Z h0 r0 "java/lang/String") (V_vb : Arf Z h0 vb .byte nn fb) (hj : 0 ≤ p1.toInt ∧ p1.toInt < nn) (hn : nn < 2 ^ 31) (hb' : fb p1.toNatClampNeg = .int bt) :
    MetFree l (⟨"java/lang/String", "charAt", "(I)C"⟩ : MethodName) (head1 (Jvm.Cond.code (⟨"java/lang/String", "charAt", "(I)C"⟩ : MethodName) jdk_42_method_56_code 2 (some .char) :: ws) ({ frames := 3, cells := 0, slots := 0, locals := 40 } : Room)) (fun a U => a = #[(.ref r0), (.int p1)] ∧ Z.Warmed39 U.vm ∧ U.heap = h0) (fun _ _ _ _ _ => True) (fun _ U o U' => ∃ v L, o = .returned v ∧ QrmCh Z r0 p1 vb cs fmt nn fb bt h0 n0 v U'.heap L ∧ FrameEnd U o U' L ({ frames := 3, cells := 0, slots := 0, locals := 40 } : Room).cells ({ frames := 3, cells := 0, slots := 0, locals := 40 } : Room).slots) := by
  refine MetFree.of_bodySF (plainFor_of_name pn_6) hisR ?_
  intro p e s m args below meth c s₁ Bd hml0 hP hK
  obtain ⟨rfl, hZ, hh⟩ := hP
  have hx := Bd.exec
  have hby := Bd.bytes
  have hml : c.maxLocals = 2 := hml0
  have hown : s.vm.findClass "java/lang/String" = some m.cls := findClass_of_methodNamed Bd.named
  have hnm := (name_of_methodNamed Bd.named Bd.method).1
  have X0 : Stand p l e ({ frames := 3, cells := 0, slots := 0, locals := 40 } : Room) s m #[(.ref r0), (.int p1)] below meth c s₁ [] 0 0 := Stand.of_body Bd
  have e0 : s₁.heap = h0 := by rw [← hh, Bd.state]; rfl
  have N0 := Fr.nil n0
  have ZZ := Z0
  show Go p e below s (QrmCh Z r0 p1 vb cs fmt nn fb bt h0 n0) 0 0 (s₁.setTop (entryFrame m #[(.ref r0), (.int p1)] 2))
  generalize hQQ : (QrmCh Z r0 p1 vb cs fmt nn fb bt h0 n0) = QQ
  refine gs (fun t k => castTop (g' := (mkF m 0 #[.val (.ref r0), .val (.int p1)] [])) (by first | (simp [entryFrame, mkF, argsToLocals, Value.category, maxLocals]; done) | rfl) k) ?_
  show Go p e below s QQ 0 0 (s₁.setTop (mkF m 0 #[.val (.ref r0), .val (.int p1)] []))
  refine gs (fun t => XS.aloadN X0.here hx rfl (hb hby d6_0) rfl rfl) ?_
  show Go p e below s QQ 0 0 (s₁.setTop (mkF m 1 #[.val (.ref r0), .val (.int p1)] [(.ref r0)]))
  obtain ⟨cq10, kq10, q10a, q10b, q10c⟩ := isOf hZ e0 E_r0
  obtain ⟨_, _, ⟨T10, L10, k10, n10⟩, -, X10, ⟨Lc10, hQ10, l10, y10, z10⟩, st10⟩ := X0.virtualBack hx (y := (⟨"java/lang/String", "isLatin1", "()Z"⟩ : MethodName)) (z := (⟨"java/lang/String", "isLatin1", "()Z"⟩ : MethodName)) hown (mvT hZ (hw _ (List.mem_of_getElem? (i := 45) rfl))) (mvT hZ (hw _ (List.mem_of_getElem? (i := 46) rfl))) (notFace_of_selects (args := #[]) (mvT hZ (hw _ (List.mem_of_getElem? (i := 48) rfl)))) (mvT hZ (hw _ (List.mem_of_getElem? (i := 48) rfl))) (mvT hZ (hw _ (List.mem_of_getElem? (i := 47) rfl))) (by decide) (backOf (W := 0) (rmL1 l Z a0 hw [] r0 vb cs h0 n0 ZZ OLD CS hcs F_value_r0 F_coder_r0) hZ (hw _ (List.mem_of_getElem? (i := 49) rfl)) (hw _ (List.mem_of_getElem? (i := 18) rfl)) (by decide) (by decide)) q10a q10c (g := (mkF m 1 #[.val (.ref r0), .val (.int p1)] [(.ref r0)])) rfl (by rw [hml]; rfl) (Steps.refl _) (argsL := []) (rest := []) (lenOf pd_3 rfl) rfl (by show 2 * 0 + _ ≤ _; exact Nat.le_of_eq rfl) (hb hby d6_1) (fun _ _ => ⟨rfl, e0, (by decide : 0 + 0 ≤ _), (by decide : 0 + 0 ≤ _)⟩)
  dsimp only [Pt.U, Pt.locs, Pt.cells, Pt.slots] at X10 l10 y10 z10 st10 hQ10
  subst l10 y10 z10
  obtain ⟨rfl, N10q, e10⟩ := hQ10
  replace N0 := Fr.app N0 N10q
  refine gt st10 ?_
  show Go p e below s QQ 0 0 (T10.setTop (mkF m 4 #[.val (.ref r0), .val (.int p1)] [(.int (1 : Int32))]))
  refine gs (fun t => XS.ifNo X10.here hx rfl (hb hby d6_4) rfl ((if0 _ _).trans (feq (by decide : ¬ ((1 : Int32) = (0 : Int32)))).1)) ?_
  show Go p e below s QQ 0 0 (T10.setTop (mkF m 7 #[.val (.ref r0), .val (.int p1)] []))
  refine gs (fun t => XS.aloadN X10.here hx rfl (hb hby d6_7) rfl rfl) ?_
  show Go p e below s QQ 0 0 (T10.setTop (mkF m 8 #[.val (.ref r0), .val (.int p1)] [(.ref r0)]))
  obtain ⟨T11, X11, e11, st11⟩ := getF X10 hx hZ hown (host := "") (Or.inl (hw _ (List.mem_of_getElem? (i := 20) rfl))) Via.refl e10 F_value_r0 (g := (mkF m 8 #[.val (.ref r0), .val (.int p1)] [(.ref r0)])) rfl rfl (hb hby d6_8)
  refine gs st11 ?_
  show Go p e below s QQ 0 0 (T11.setTop (mkF m 11 #[.val (.ref r0), .val (.int p1)] [(.ref vb)]))
  refine gs (fun t => XS.iloadN X11.here hx rfl (hb hby d6_11) rfl) ?_
  show Go p e below s QQ 0 0 (T11.setTop (mkF m 12 #[.val (.ref r0), .val (.int p1)] [(.int p1), (.ref vb)]))
  obtain ⟨_, _, ⟨T12, L12, k12, n12⟩, -, X12, ⟨Lc12, hQ12, l12, y12, z12⟩, st12⟩ := Jvm.LawKit.callS X11 hx (y := (⟨"java/lang/StringLatin1", "charAt", "([BI)C"⟩ : MethodName)) hown (mvT hZ (hw _ (List.mem_of_getElem? (i := 50) rfl))) (mvT hZ (hw _ (List.mem_of_getElem? (i := 51) rfl))) (mvT hZ (hw _ (List.mem_of_getElem? (i := 52) rfl))) (mvT hZ (hw _ (List.mem_of_getElem? (i := 53) rfl))) (by decide) (backOf (W := 0) (rmL1c l Z a0 hw [] vb p1 cs fmt nn fb bt h0 n0 ZZ OLD CS hcs SI hfmt V_vb hj hn hb') hZ (hw _ (List.mem_of_getElem? (i := 53) rfl)) (hw _ (List.mem_of_getElem? (i := 52) rfl)) (by decide) (by decide)) (g := (mkF m 12 #[.val (.ref r0), .val (.int p1)] [(.int p1), (.ref vb)])) rfl (by rw [hml]; rfl) (argsL := [(.ref vb), (.int p1)]) (rest := []) (lenOf pd_4 rfl) rfl (by show 2 * 0 + _ ≤ _; exact Nat.le_of_eq rfl) (hb hby d6_12) (fun _ _ => ⟨rfl, e11, (by decide : 0 + 0 ≤ _), (by decide : 0 + 0 ≤ _)⟩)
  dsimp only [Pt.U, Pt.locs, Pt.cells, Pt.slots] at X12 l12 y12 z12 st12 hQ12
  subst l12 y12 z12
  obtain ⟨rfl, N12q, e12⟩ := hQ12
  replace N0 := Fr.app N0 N12q
  refine gs st12 ?_
  show Go p e below s QQ 0 0 (T12.setTop (mkF m 15 #[.val (.ref r0), .val (.int p1)] [(.int (bt &&& (255 : Int32)))]))
  exact goB X12 hx Bd.notSynchronized Bd.returns (by simp) (w := (bt &&& (255 : Int32))) (own_char bt) (hb hby d6_15) (by rw [← hQQ, e12]; exact ⟨rfl, N0, rfl⟩) (by decide) (by decide)
theorem d1_0 : decode method_2_code 0 = .ok (.iload_n 0, 1) := by decide +kernel
theorem d1_1 : decode method_2_code 1 = .ok (.iconst 3, 1) := by decide +kernel
theorem d1_2 : decode method_2_code 2 = .ok (.iand, 1) := by decide +kernel
theorem d1_3 : decode method_2_code 3 = .ok (.istore_n 1, 1) := by decide +kernel
theorem d1_4 : decode method_2_code 4 = .ok (.iload_n 1, 1) := by decide +kernel
theorem d1_5 : decode method_2_code 5 = .ok (.ifCond .ne 7, 3) := by decide +kernel
theorem d1_8 : decode method_2_code 8 = .ok (.getstatic 7, 3) := by decide +kernel
theorem d1_11 : decode method_2_code 11 = .ok (.areturn, 1) := by decide +kernel
theorem d1_12 : decode method_2_code 12 = .ok (.iload_n 1, 1) := by decide +kernel
theorem d1_13 : decode method_2_code 13 = .ok (.iconst 1, 1) := by decide +kernel
theorem d1_14 : decode method_2_code 14 = .ok (.if_icmp .ne 7, 3) := by decide +kernel
theorem d1_17 : decode method_2_code 17 = .ok (.getstatic 13, 3) := by decide +kernel
theorem d1_20 : decode method_2_code 20 = .ok (.areturn, 1) := by decide +kernel
theorem d1_21 : decode method_2_code 21 = .ok (.iload_n 1, 1) := by decide +kernel
theorem d1_22 : decode method_2_code 22 = .ok (.iconst 2, 1) := by decide +kernel
theorem d1_23 : decode method_2_code 23 = .ok (.if_icmp .ne 7, 3) := by decide +kernel
theorem d1_26 : decode method_2_code 26 = .ok (.getstatic 16, 3) := by decide +kernel
theorem d1_29 : decode method_2_code 29 = .ok (.areturn, 1) := by decide +kernel
theorem d1_30 : decode method_2_code 30 = .ok (.getstatic 19, 3) := by decide +kernel
theorem d1_33 : decode method_2_code 33 = .ok (.areturn, 1) := by decide +kernel
theorem pn_1 : plainName "com/example/mean_drift/meandrift/ComparisonIncludesBoundPinLaw" = true := by first | (simp [plainName, overriddenIn]; done) | decide +kernel
def Qrm1 (Z : State) (p0 : Int32) (x_LESS : Addr) (x_AT_MOST : Addr) (x_GREATER : Addr) (x_AT_LEAST : Addr) (h0 : Heap) (n0 : Nat) (v : Option Value) (h : Heap) (L : List Loc) : Prop := v = some (.ref (own_pick (p0 &&& (3 : Int32)) x_LESS x_AT_MOST x_GREATER x_AT_LEAST)) ∧ Fr n0 L ∧ h = h0
set_option maxRecDepth 65536 in
set_option maxHeartbeats 40000000 in
theorem rm1 (l : Launch) (Z : State) (a0 : Array Value) (hw : ∀ d ∈ tables_1, d.before a0 Z = true) (ws : List Jvm.Cond) (p0 : Int32) (x_LESS : Addr) (x_AT_MOST : Addr) (x_GREATER : Addr) (x_AT_LEAST : Addr) (h0 : Heap) (n0 : Nat) (Z0 : n0 ≤ h0.size) (OLD : Old Z n0 h0) (S_x_LESS : Sta Z Z.heap "com/example/mean_drift/meandrift/Formula$Comparison" "LESS" "Lcom/example/mean_drift/meandrift/Formula$Comparison;" (.ref x_LESS)) (S_x_AT_MOST : Sta Z Z.heap "com/example/mean_drift/meandrift/Formula$Comparison" "AT_MOST" "Lcom/example/mean_drift/meandrift/Formula$Comparison;" (.ref x_AT_MOST)) (S_x_GREATER : Sta Z Z.heap "com/example/mean_drift/meandrift/Formula$Comparison" "GREATER" "Lcom/example/mean_drift/meandrift/Formula$Comparison;" (.ref x_GREATER)) (S_x_AT_LEAST : Sta Z Z.heap "com/example/mean_drift/meandrift/Formula$Comparison" "AT_LEAST" "Lcom/example/mean_drift/meandrift/Formula$Comparison;" (.ref x_AT_LEAST)) :
    MetFree l (⟨"com/example/mean_drift/meandrift/ComparisonIncludesBoundPinLaw", "pick", "(I)Lcom/example/mean_drift/meandrift/Formula$Comparison;"⟩ : MethodName) (head1 (Jvm.Cond.code (⟨"com/example/mean_drift/meandrift/ComparisonIncludesBoundPinLaw", "pick", "(I)Lcom/example/mean_drift/meandrift/Formula$Comparison;"⟩ : MethodName) method_2_code 2 (some (.object "com/example/mean_drift/meandrift/Formula$Comparison")) :: ws) ({ frames := 0, cells := 0, slots := 0, locals := 0 } : Room)) (fun a U => a = #[(.int p0)] ∧ Z.Warmed39 U.vm ∧ U.heap = h0) (fun _ _ _ _ _ => True) (fun _ U o U' => ∃ v L, o = .returned v ∧ Qrm1 Z p0 x_LESS x_AT_MOST x_GREATER x_AT_LEAST h0 n0 v U'.heap L ∧ FrameEnd U o U' L ({ frames := 0, cells := 0, slots := 0, locals := 0 } : Room).cells ({ frames := 0, cells := 0, slots := 0, locals := 0 } : Room).slots) := by
  refine MetFree.of_bodySF (plainFor_of_name pn_1) hisR ?_
  intro p e s m args below meth c s₁ Bd hml0 hP hK
  obtain ⟨rfl, hZ, hh⟩ := hP
  have hx := Bd.exec
  have hby := Bd.bytes
  have hml : c.maxLocals = 2 := hml0
  have hown : s.vm.findClass "com/example/mean_drift/meandrift/ComparisonIncludesBoundPinLaw" = some m.cls := findClass_of_methodNamed Bd.named
  have hnm := (name_of_methodNamed Bd.named Bd.method).1
  have X0 : Stand p l e ({ frames := 0, cells := 0, slots := 0, locals := 0 } : Room) s m #[(.int p0)] below meth c s₁ [] 0 0 := Stand.of_body Bd
  have e0 : s₁.heap = h0 := by rw [← hh, Bd.state]; rfl
  have N0 := Fr.nil n0
  have ZZ := Z0
  show Go p e below s (Qrm1 Z p0 x_LESS x_AT_MOST x_GREATER x_AT_LEAST h0 n0) 0 0 (s₁.setTop (entryFrame m #[(.int p0)] 2))
  generalize hQQ : (Qrm1 Z p0 x_LESS x_AT_MOST x_GREATER x_AT_LEAST h0 n0) = QQ
  refine gs (fun t k => castTop (g' := (mkF m 0 #[.val (.int p0), .unset] [])) (by first | (simp [entryFrame, mkF, argsToLocals, Value.category, maxLocals]; done) | rfl) k) ?_
  show Go p e below s QQ 0 0 (s₁.setTop (mkF m 0 #[.val (.int p0), .unset] []))
  refine gs (fun t => XS.iloadN X0.here hx rfl (hb hby d1_0) rfl) ?_
  show Go p e below s QQ 0 0 (s₁.setTop (mkF m 1 #[.val (.int p0), .unset] [(.int p0)]))
  refine gs (fun t => XS.iconst X0.here hx rfl (hb hby d1_1)) ?_
  show Go p e below s QQ 0 0 (s₁.setTop (mkF m 2 #[.val (.int p0), .unset] [(.int (3 : Int32)), (.int p0)]))
  refine gs (fun t => XS.iand X0.here hx rfl (hb hby d1_2) rfl) ?_
  show Go p e below s QQ 0 0 (s₁.setTop (mkF m 3 #[.val (.int p0), .unset] [(.int (p0 &&& (3 : Int32)))]))
  refine gs (fun t => XS.istoreN X0.here hx rfl (hb hby d1_3) rfl (l' := #[.val (.int p0), .val (.int (p0 &&& (3 : Int32)))]) rfl) ?_
  show Go p e below s QQ 0 0 (s₁.setTop (mkF m 4 #[.val (.int p0), .val (.int (p0 &&& (3 : Int32)))] []))
  refine gs (fun t => XS.iloadN X0.here hx rfl (hb hby d1_4) rfl) ?_
  show Go p e below s QQ 0 0 (s₁.setTop (mkF m 5 #[.val (.int p0), .val (.int (p0 &&& (3 : Int32)))] [(.int (p0 &&& (3 : Int32)))]))
  by_cases hc : (p0 &&& (3 : Int32)) = (0 : Int32)
  · skip
    refine gs (fun t => XS.ifNo X0.here hx rfl (hb hby d1_5) rfl ((if0 _ _).trans (teq hc).2)) ?_
    show Go p e below s QQ 0 0 (s₁.setTop (mkF m 8 #[.val (.int p0), .val (.int (p0 &&& (3 : Int32)))] []))
    obtain ⟨T13, X13, e13, st13⟩ := getS2 X0 hx hZ hown (host := "") (Or.inl (hw _ (List.mem_of_getElem? (i := 4) rfl))) Via.refl e0 (S_x_LESS.ext OLD.2) (g := (mkF m 8 #[.val (.int p0), .val (.int (p0 &&& (3 : Int32)))] [])) rfl (hb hby d1_8)
    refine gs st13 ?_
    show Go p e below s QQ 0 0 (T13.setTop (mkF m 11 #[.val (.int p0), .val (.int (p0 &&& (3 : Int32)))] [(.ref x_LESS)]))
    exact goR X13 hx Bd.notSynchronized Bd.returns rfl rfl (hb hby d1_11) (by rw [← hQQ, e13]; exact ⟨by simp [own_pick, hc], N0, rfl⟩) (by decide) (by decide)
  · skip
    refine gs (fun t => XS.ifYes X0.here hx rfl (pc0 := 5) (pc' := 12) rfl (hb hby d1_5) rfl ((if0 _ _).trans (feq hc).2) (by decide) (by decide)) ?_
    show Go p e below s QQ 0 0 (s₁.setTop (mkF m 12 #[.val (.int p0), .val (.int (p0 &&& (3 : Int32)))] []))
    refine gs (fun t => XS.iloadN X0.here hx rfl (hb hby d1_12) rfl) ?_
    show Go p e below s QQ 0 0 (s₁.setTop (mkF m 13 #[.val (.int p0), .val (.int (p0 &&& (3 : Int32)))] [(.int (p0 &&& (3 : Int32)))]))
    refine gs (fun t => XS.iconst X0.here hx rfl (hb hby d1_13)) ?_
    show Go p e below s QQ 0 0 (s₁.setTop (mkF m 14 #[.val (.int p0), .val (.int (p0 &&& (3 : Int32)))] [(.int (1 : Int32)), (.int (p0 &&& (3 : Int32)))]))
    by_cases hd : (p0 &&& (3 : Int32)) = (1 : Int32)
    · skip
      refine gs (fun t => XS.icmpNo X0.here hx rfl (hb hby d1_14) rfl (teq hd).2) ?_
      show Go p e below s QQ 0 0 (s₁.setTop (mkF m 17 #[.val (.int p0), .val (.int (p0 &&& (3 : Int32)))] []))
      obtain ⟨T14, X14, e14, st14⟩ := getS2 X0 hx hZ hown (host := "") (Or.inl (hw _ (List.mem_of_getElem? (i := 64) rfl))) Via.refl e0 (S_x_AT_MOST.ext OLD.2) (g := (mkF m 17 #[.val (.int p0), .val (.int (p0 &&& (3 : Int32)))] [])) rfl (hb hby d1_17)
      refine gs st14 ?_
      show Go p e below s QQ 0 0 (T14.setTop (mkF m 20 #[.val (.int p0), .val (.int (p0 &&& (3 : Int32)))] [(.ref x_AT_MOST)]))
      exact goR X14 hx Bd.notSynchronized Bd.returns rfl rfl (hb hby d1_20) (by rw [← hQQ, e14]; exact ⟨by simp [own_pick, hc, hd], N0, rfl⟩) (by decide) (by decide)
    · skip
      refine gs (fun t => XS.icmpYes X0.here hx rfl (pc0 := 14) (pc' := 21) rfl (hb hby d1_14) rfl (feq hd).2 (by decide) (by decide)) ?_
      show Go p e below s QQ 0 0 (s₁.setTop (mkF m 21 #[.val (.int p0), .val (.int (p0 &&& (3 : Int32)))] []))
      refine gs (fun t => XS.iloadN X0.here hx rfl (hb hby d1_21) rfl) ?_
      show Go p e below s QQ 0 0 (s₁.setTop (mkF m 22 #[.val (.int p0), .val (.int (p0 &&& (3 : Int32)))] [(.int (p0 &&& (3 : Int32)))]))
      refine gs (fun t => XS.iconst X0.here hx rfl (hb hby d1_22)) ?_
      show Go p e below s QQ 0 0 (s₁.setTop (mkF m 23 #[.val (.int p0), .val (.int (p0 &&& (3 : Int32)))] [(.int (2 : Int32)), (.int (p0 &&& (3 : Int32)))]))
      by_cases he : (p0 &&& (3 : Int32)) = (2 : Int32)
      · skip
        refine gs (fun t => XS.icmpNo X0.here hx rfl (hb hby d1_23) rfl (teq he).2) ?_
        show Go p e below s QQ 0 0 (s₁.setTop (mkF m 26 #[.val (.int p0), .val (.int (p0 &&& (3 : Int32)))] []))
        obtain ⟨T15, X15, e15, st15⟩ := getS2 X0 hx hZ hown (host := "") (Or.inl (hw _ (List.mem_of_getElem? (i := 62) rfl))) Via.refl e0 (S_x_GREATER.ext OLD.2) (g := (mkF m 26 #[.val (.int p0), .val (.int (p0 &&& (3 : Int32)))] [])) rfl (hb hby d1_26)
        refine gs st15 ?_
        show Go p e below s QQ 0 0 (T15.setTop (mkF m 29 #[.val (.int p0), .val (.int (p0 &&& (3 : Int32)))] [(.ref x_GREATER)]))
        exact goR X15 hx Bd.notSynchronized Bd.returns rfl rfl (hb hby d1_29) (by rw [← hQQ, e15]; exact ⟨by simp [own_pick, hc, hd, he], N0, rfl⟩) (by decide) (by decide)
      · skip
        refine gs (fun t => XS.icmpYes X0.here hx rfl (pc0 := 23) (pc' := 30) rfl (hb hby d1_23) rfl (feq he).2 (by decide) (by decide)) ?_
        show Go p e below s QQ 0 0 (s₁.setTop (mkF m 30 #[.val (.int p0), .val (.int (p0 &&& (3 : Int32)))] []))
        obtain ⟨T16, X16, e16, st16⟩ := getS2 X0 hx hZ hown (host := "") (Or.inl (hw _ (List.mem_of_getElem? (i := 39) rfl))) Via.refl e0 (S_x_AT_LEAST.ext OLD.2) (g := (mkF m 30 #[.val (.int p0), .val (.int (p0 &&& (3 : Int32)))] [])) rfl (hb hby d1_30)
        refine gs st16 ?_
        show Go p e below s QQ 0 0 (T16.setTop (mkF m 33 #[.val (.int p0), .val (.int (p0 &&& (3 : Int32)))] [(.ref x_AT_LEAST)]))
        exact goR X16 hx Bd.notSynchronized Bd.returns rfl rfl (hb hby d1_33) (by rw [← hQQ, e16]; exact ⟨by simp [own_pick, hc, hd, he], N0, rfl⟩) (by decide) (by decide)
theorem d2_0 : decode prog_15_method_4_code 0 = .ok (.aload_n 0, 1) := by decide +kernel
theorem d2_1 : decode prog_15_method_4_code 1 = .ok (.getfield 35, 3) := by decide +kernel
theorem d2_4 : decode prog_15_method_4_code 4 = .ok (.areturn, 1) := by decide +kernel
theorem pn_2 : plainName "com/example/mean_drift/meandrift/Formula$Comparison" = true := by first | (simp [plainName, overriddenIn]; done) | decide +kernel
def Qrm2 (Z : State) (r0 : Addr) (xs : Addr) (h0 : Heap) (n0 : Nat) (v : Option Value) (h : Heap) (L : List Loc) : Prop := v = some (.ref xs) ∧ Fr n0 L ∧ h = h0
set_option maxRecDepth 65536 in
set_option maxHeartbeats 40000000 in
theorem rm2 (l : Launch) (Z : State) (a0 : Array Value) (hw : ∀ d ∈ tables_1, d.before a0 Z = true) (ws : List Jvm.Cond) (r0 : Addr) (xs : Addr) (h0 : Heap) (n0 : Nat) (Z0 : n0 ≤ h0.size) (F_symbol_r0 : Fld Z h0 r0 "com/example/mean_drift/meandrift/Formula$Comparison" "symbol" "Ljava/lang/String;" (.ref xs)) :
    MetFree l (⟨"com/example/mean_drift/meandrift/Formula$Comparison", "symbol", "()Ljava/lang/String;"⟩ : MethodName) (head1 (Jvm.Cond.code (⟨"com/example/mean_drift/meandrift/Formula$Comparison", "symbol", "()Ljava/lang/String;"⟩ : MethodName) prog_15_method_4_code 1 (some (.object "java/lang/String")) :: ws) ({ frames := 0, cells := 0, slots := 0, locals := 0 } : Room)) (fun a U => a = #[(.ref r0)] ∧ Z.Warmed39 U.vm ∧ U.heap = h0) (fun _ _ _ _ _ => True) (fun _ U o U' => ∃ v L, o = .returned v ∧ Qrm2 Z r0 xs h0 n0 v U'.heap L ∧ FrameEnd U o U' L ({ frames := 0, cells := 0, slots := 0, locals := 0 } : Room).cells ({ frames := 0, cells := 0, slots := 0, locals := 0 } : Room).slots) := by
  refine MetFree.of_bodySF (plainFor_of_name pn_2) hisR ?_
  intro p e s m args below meth c s₁ Bd hml0 hP hK
  obtain ⟨rfl, hZ, hh⟩ := hP
  have hx := Bd.exec
  have hby := Bd.bytes
  have hml : c.maxLocals = 1 := hml0
  have hown : s.vm.findClass "com/example/mean_drift/meandrift/Formula$Comparison" = some m.cls := findClass_of_methodNamed Bd.named
  have hnm := (name_of_methodNamed Bd.named Bd.method).1
  have X0 : Stand p l e ({ frames := 0, cells := 0, slots := 0, locals := 0 } : Room) s m #[(.ref r0)] below meth c s₁ [] 0 0 := Stand.of_body Bd
  have e0 : s₁.heap = h0 := by rw [← hh, Bd.state]; rfl
  have N0 := Fr.nil n0
  have ZZ := Z0
  show Go p e below s (Qrm2 Z r0 xs h0 n0) 0 0 (s₁.setTop (entryFrame m #[(.ref r0)] 1))
  generalize hQQ : (Qrm2 Z r0 xs h0 n0) = QQ
  refine gs (fun t k => castTop (g' := (mkF m 0 #[.val (.ref r0)] [])) (by first | (simp [entryFrame, mkF, argsToLocals, Value.category, maxLocals]; done) | rfl) k) ?_
  show Go p e below s QQ 0 0 (s₁.setTop (mkF m 0 #[.val (.ref r0)] []))
  refine gs (fun t => XS.aloadN X0.here hx rfl (hb hby d2_0) rfl rfl) ?_
  show Go p e below s QQ 0 0 (s₁.setTop (mkF m 1 #[.val (.ref r0)] [(.ref r0)]))
  obtain ⟨T17, X17, e17, st17⟩ := getF X0 hx hZ hown (host := "") (Or.inl (hw _ (List.mem_of_getElem? (i := 12) rfl))) Via.refl e0 F_symbol_r0 (g := (mkF m 1 #[.val (.ref r0)] [(.ref r0)])) rfl rfl (hb hby d2_1)
  refine gs st17 ?_
  show Go p e below s QQ 0 0 (T17.setTop (mkF m 4 #[.val (.ref r0)] [(.ref xs)]))
  exact goR X17 hx Bd.notSynchronized Bd.returns rfl rfl (hb hby d2_4) (by rw [← hQQ, e17]; exact ⟨rfl, N0, rfl⟩) (by decide) (by decide)
theorem d5_0 : decode prog_15_method_7_code 0 = .ok (.aload_n 0, 1) := by decide +kernel
theorem d5_1 : decode prog_15_method_7_code 1 = .ok (.getstatic 7, 3) := by decide +kernel
theorem d5_4 : decode prog_15_method_7_code 4 = .ok (.if_acmp .eq 10, 3) := by decide +kernel
theorem d5_7 : decode prog_15_method_7_code 7 = .ok (.aload_n 0, 1) := by decide +kernel
theorem d5_8 : decode prog_15_method_7_code 8 = .ok (.getstatic 13, 3) := by decide +kernel
theorem d5_11 : decode prog_15_method_7_code 11 = .ok (.if_acmp .ne 7, 3) := by decide +kernel
theorem d5_14 : decode prog_15_method_7_code 14 = .ok (.iconst 1, 1) := by decide +kernel
theorem d5_15 : decode prog_15_method_7_code 15 = .ok (.goto 4, 3) := by decide +kernel
theorem d5_18 : decode prog_15_method_7_code 18 = .ok (.iconst 0, 1) := by decide +kernel
theorem d5_19 : decode prog_15_method_7_code 19 = .ok (.ireturn, 1) := by decide +kernel
theorem pn_5 : plainName "com/example/mean_drift/meandrift/Formula$Comparison" = true := by first | (simp [plainName, overriddenIn]; done) | decide +kernel
def Qrm5 (Z : State) (r0 : Addr) (x_AT_MOST : Addr) (x_AT_LEAST : Addr) (h0 : Heap) (n0 : Nat) (v : Option Value) (h : Heap) (L : List Loc) : Prop := v = some (.int (if r0 = x_AT_MOST ∨ r0 = x_AT_LEAST then 1 else 0)) ∧ Fr n0 L ∧ h = h0
set_option maxRecDepth 65536 in
set_option maxHeartbeats 40000000 in
theorem rm5 (l : Launch) (Z : State) (a0 : Array Value) (hw : ∀ d ∈ tables_1, d.before a0 Z = true) (ws : List Jvm.Cond) (r0 : Addr) (x_AT_MOST : Addr) (x_AT_LEAST : Addr) (h0 : Heap) (n0 : Nat) (Z0 : n0 ≤ h0.size) (OLD : Old Z n0 h0) (S_x_AT_MOST : Sta Z Z.heap "com/example/mean_drift/meandrift/Formula$Comparison" "AT_MOST" "Lcom/example/mean_drift/meandrift/Formula$Comparison;" (.ref x_AT_MOST)) (S_x_AT_LEAST : Sta Z Z.heap "com/example/mean_drift/meandrift/Formula$Comparison" "AT_LEAST" "Lcom/example/mean_drift/meandrift/Formula$Comparison;" (.ref x_AT_LEAST)) :
    MetFree l (⟨"com/example/mean_drift/meandrift/Formula$Comparison", "includesBound", "()Z"⟩ : MethodName) (head1 (Jvm.Cond.code (⟨"com/example/mean_drift/meandrift/Formula$Comparison", "includesBound", "()Z"⟩ : MethodName) prog_15_method_7_code 1 (some .boolean) :: ws) ({ frames := 0, cells := 0, slots := 0, locals := 0 } : Room)) (fun a U => a = #[(.ref r0)] ∧ Z.Warmed39 U.vm ∧ U.heap = h0) (fun _ _ _ _ _ => True) (fun _ U o U' => ∃ v L, o = .returned v ∧ Qrm5 Z r0 x_AT_MOST x_AT_LEAST h0 n0 v U'.heap L ∧ FrameEnd U o U' L ({ frames := 0, cells := 0, slots := 0, locals := 0 } : Room).cells ({ frames := 0, cells := 0, slots := 0, locals := 0 } : Room).slots) := by
  refine MetFree.of_bodySF (plainFor_of_name pn_5) hisR ?_
  intro p e s m args below meth c s₁ Bd hml0 hP hK
  obtain ⟨rfl, hZ, hh⟩ := hP
  have hx := Bd.exec
  have hby := Bd.bytes
  have hml : c.maxLocals = 1 := hml0
  have hown : s.vm.findClass "com/example/mean_drift/meandrift/Formula$Comparison" = some m.cls := findClass_of_methodNamed Bd.named
  have hnm := (name_of_methodNamed Bd.named Bd.method).1
  have X0 : Stand p l e ({ frames := 0, cells := 0, slots := 0, locals := 0 } : Room) s m #[(.ref r0)] below meth c s₁ [] 0 0 := Stand.of_body Bd
  have e0 : s₁.heap = h0 := by rw [← hh, Bd.state]; rfl
  have N0 := Fr.nil n0
  have ZZ := Z0
  show Go p e below s (Qrm5 Z r0 x_AT_MOST x_AT_LEAST h0 n0) 0 0 (s₁.setTop (entryFrame m #[(.ref r0)] 1))
  generalize hQQ : (Qrm5 Z r0 x_AT_MOST x_AT_LEAST h0 n0) = QQ
  refine gs (fun t k => castTop (g' := (mkF m 0 #[.val (.ref r0)] [])) (by first | (simp [entryFrame, mkF, argsToLocals, Value.category, maxLocals]; done) | rfl) k) ?_
  show Go p e below s QQ 0 0 (s₁.setTop (mkF m 0 #[.val (.ref r0)] []))
  refine gs (fun t => XS.aloadN X0.here hx rfl (hb hby d5_0) rfl rfl) ?_
  show Go p e below s QQ 0 0 (s₁.setTop (mkF m 1 #[.val (.ref r0)] [(.ref r0)]))
  obtain ⟨T18, X18, e18, st18⟩ := getS2 X0 hx hZ hown (host := "") (Or.inl (hw _ (List.mem_of_getElem? (i := 35) rfl))) Via.refl e0 (S_x_AT_MOST.ext OLD.2) (g := (mkF m 1 #[.val (.ref r0)] [(.ref r0)])) rfl (hb hby d5_1)
  refine gs st18 ?_
  show Go p e below s QQ 0 0 (T18.setTop (mkF m 4 #[.val (.ref r0)] [(.ref x_AT_MOST), (.ref r0)]))
  by_cases hc : r0 = x_AT_MOST
  · skip
    refine gs (fun t => Jvm.RoadKit.acmp (g := (mkF m 4 #[.val (.ref r0)] [(.ref x_AT_MOST), (.ref r0)])) X18 hx rfl rfl rfl (pc0 := 4) (pc' := 14) (same := true) rfl (hb hby d5_4) rfl (decide_eq_true (congrArg Value.ref hc)) (by decide) (by decide)) ?_
    show Go p e below s QQ 0 0 (T18.setTop (mkF m 14 #[.val (.ref r0)] []))
    refine gs (fun t => XS.iconst X18.here hx rfl (hb hby d5_14)) ?_
    show Go p e below s QQ 0 0 (T18.setTop (mkF m 15 #[.val (.ref r0)] [(.int (1 : Int32))]))
    refine gs (fun t => XS.goto X18.here hx rfl (pc0 := 15) (pc' := 19) rfl (hb hby d5_15) (by decide) (by decide)) ?_
    show Go p e below s QQ 0 0 (T18.setTop (mkF m 19 #[.val (.ref r0)] [(.int (1 : Int32))]))
    exact goB X18 hx Bd.notSynchronized Bd.returns (by simp) (w := (1 : Int32)) (by first | rfl | decide) (hb hby d5_19) (by rw [← hQQ, e18]; exact ⟨by simp [hc], N0, rfl⟩) (by decide) (by decide)
  · skip
    refine gs (fun t => Jvm.RoadKit.acmp (g := (mkF m 4 #[.val (.ref r0)] [(.ref x_AT_MOST), (.ref r0)])) X18 hx rfl rfl rfl (pc0 := 4) (pc' := 7) (same := false) rfl (hb hby d5_4) rfl (decide_eq_false (fun q => hc (Value.ref.inj q))) (by decide) (by decide)) ?_
    show Go p e below s QQ 0 0 (T18.setTop (mkF m 7 #[.val (.ref r0)] []))
    refine gs (fun t => XS.aloadN X18.here hx rfl (hb hby d5_7) rfl rfl) ?_
    show Go p e below s QQ 0 0 (T18.setTop (mkF m 8 #[.val (.ref r0)] [(.ref r0)]))
    obtain ⟨T19, X19, e19, st19⟩ := getS2 X18 hx hZ hown (host := "") (Or.inl (hw _ (List.mem_of_getElem? (i := 37) rfl))) Via.refl e18 (S_x_AT_LEAST.ext OLD.2) (g := (mkF m 8 #[.val (.ref r0)] [(.ref r0)])) rfl (hb hby d5_8)
    refine gs st19 ?_
    show Go p e below s QQ 0 0 (T19.setTop (mkF m 11 #[.val (.ref r0)] [(.ref x_AT_LEAST), (.ref r0)]))
    by_cases hd : r0 = x_AT_LEAST
    · skip
      refine gs (fun t => Jvm.RoadKit.acmp (g := (mkF m 11 #[.val (.ref r0)] [(.ref x_AT_LEAST), (.ref r0)])) X19 hx rfl rfl rfl (pc0 := 11) (pc' := 14) (same := true) rfl (hb hby d5_11) rfl (decide_eq_true (congrArg Value.ref hd)) (by decide) (by decide)) ?_
      show Go p e below s QQ 0 0 (T19.setTop (mkF m 14 #[.val (.ref r0)] []))
      refine gs (fun t => XS.iconst X19.here hx rfl (hb hby d5_14)) ?_
      show Go p e below s QQ 0 0 (T19.setTop (mkF m 15 #[.val (.ref r0)] [(.int (1 : Int32))]))
      refine gs (fun t => XS.goto X19.here hx rfl (pc0 := 15) (pc' := 19) rfl (hb hby d5_15) (by decide) (by decide)) ?_
      show Go p e below s QQ 0 0 (T19.setTop (mkF m 19 #[.val (.ref r0)] [(.int (1 : Int32))]))
      exact goB X19 hx Bd.notSynchronized Bd.returns (by simp) (w := (1 : Int32)) (by first | rfl | decide) (hb hby d5_19) (by rw [← hQQ, e19]; exact ⟨by simp [hd], N0, rfl⟩) (by decide) (by decide)
    · skip
      refine gs (fun t => Jvm.RoadKit.acmp (g := (mkF m 11 #[.val (.ref r0)] [(.ref x_AT_LEAST), (.ref r0)])) X19 hx rfl rfl rfl (pc0 := 11) (pc' := 18) (same := false) rfl (hb hby d5_11) rfl (decide_eq_false (fun q => hd (Value.ref.inj q))) (by decide) (by decide)) ?_
      show Go p e below s QQ 0 0 (T19.setTop (mkF m 18 #[.val (.ref r0)] []))
      refine gs (fun t => XS.iconst X19.here hx rfl (hb hby d5_18)) ?_
      show Go p e below s QQ 0 0 (T19.setTop (mkF m 19 #[.val (.ref r0)] [(.int (0 : Int32))]))
      exact goB X19 hx Bd.notSynchronized Bd.returns (by simp) (w := (0 : Int32)) (by first | rfl | decide) (hb hby d5_19) (by rw [← hQQ, e19]; exact ⟨by simp [hc, hd], N0, rfl⟩) (by decide) (by decide)
theorem pn_0 : plainName "com/example/mean_drift/meandrift/ComparisonIncludesBoundPinLaw" = true := by first | (simp [plainName, overriddenIn]; done) | decide +kernel
def Qrm0 (Z : State) (p0 : Int32) (x_LESS : Addr) (x_AT_MOST : Addr) (x_GREATER : Addr) (x_AT_LEAST : Addr) (x_LESS_symbol : Addr) (x_LESS_symbol_value : Addr) (f_LESS : Nat → Value) (x_AT_MOST_symbol : Addr) (x_AT_MOST_symbol_value : Addr) (f_AT_MOST : Nat → Value) (x_GREATER_symbol : Addr) (x_GREATER_symbol_value : Addr) (f_GREATER : Nat → Value) (x_AT_LEAST_symbol : Addr) (x_AT_LEAST_symbol_value : Addr) (f_AT_LEAST : Nat → Value) (cs : Int32) (fmt : Value) (h0 : Heap) (n0 : Nat) (v : Option Value) (h : Heap) (L : List Loc) : Prop := v = some (.int 1) ∧ Fr n0 L
set_option maxRecDepth 65536 in
set_option maxHeartbeats 40000000 in
theorem rm0 (l : Launch) (Z : State) (a0 : Array Value) (hw : ∀ d ∈ tables_1, d.before a0 Z = true) (ws : List Jvm.Cond) (p0 : Int32) (x_LESS : Addr) (x_AT_MOST : Addr) (x_GREATER : Addr) (x_AT_LEAST : Addr) (x_LESS_symbol : Addr) (x_LESS_symbol_value : Addr) (f_LESS : Nat → Value) (x_AT_MOST_symbol : Addr) (x_AT_MOST_symbol_value : Addr) (f_AT_MOST : Nat → Value) (x_GREATER_symbol : Addr) (x_GREATER_symbol_value : Addr) (f_GREATER : Nat → Value) (x_AT_LEAST_symbol : Addr) (x_AT_LEAST_symbol_value : Addr) (f_AT_LEAST : Nat → Value) (cs : Int32) (fmt : Value) (h0 : Heap) (n0 : Nat) (Z0 : n0 ≤ h0.size) (OLD : Old Z n0 h0) (S_x_LESS : Sta Z Z.heap "com/example/mean_drift/meandrift/Formula$Comparison" "LESS" "Lcom/example/mean_drift/meandrift/Formula$Comparison;" (.ref x_LESS)) (E_x_LESS : Exa Z Z.heap x_LESS "com/example/mean_drift/meandrift/Formula$Comparison") (F_x_LESS_symbol : Fld Z Z.heap x_LESS "com/example/mean_drift/meandrift/Formula$Comparison" "symbol" "Ljava/lang/String;" (.ref x_LESS_symbol)) (E_x_LESS_symbol : Exa Z Z.heap x_LESS_symbol "java/lang/String") (F_x_LESS_symbol_value : Fld Z Z.heap x_LESS_symbol "java/lang/String" "value" "[B" (.ref x_LESS_symbol_value)) (F_x_LESS_symbol_coder : Fld Z Z.heap x_LESS_symbol "java/lang/String" "coder" "B" (.int (0 : Int32))) (S_x_AT_MOST : Sta Z Z.heap "com/example/mean_drift/meandrift/Formula$Comparison" "AT_MOST" "Lcom/example/mean_drift/meandrift/Formula$Comparison;" (.ref x_AT_MOST)) (E_x_AT_MOST : Exa Z Z.heap x_AT_MOST "com/example/mean_drift/meandrift/Formula$Comparison") (F_x_LESS_ordinal : Fld Z Z.heap x_LESS "java/lang/Enum" "ordinal" "I" (.int (0 : Int32))) (F_x_AT_MOST_ordinal : Fld Z Z.heap x_AT_MOST "java/lang/Enum" "ordinal" "I" (.int (1 : Int32))) (S_x_AT_LEAST : Sta Z Z.heap "com/example/mean_drift/meandrift/Formula$Comparison" "AT_LEAST" "Lcom/example/mean_drift/meandrift/Formula$Comparison;" (.ref x_AT_LEAST)) (E_x_AT_LEAST : Exa Z Z.heap x_AT_LEAST "com/example/mean_drift/meandrift/Formula$Comparison") (F_x_AT_LEAST_ordinal : Fld Z Z.heap x_AT_LEAST "java/lang/Enum" "ordinal" "I" (.int (3 : Int32))) (F_x_AT_LEAST_symbol : Fld Z Z.heap x_AT_LEAST "com/example/mean_drift/meandrift/Formula$Comparison" "symbol" "Ljava/lang/String;" (.ref x_AT_LEAST_symbol)) (E_x_AT_LEAST_symbol : Exa Z Z.heap x_AT_LEAST_symbol "java/lang/String") (F_x_AT_LEAST_symbol_value : Fld Z Z.heap x_AT_LEAST_symbol "java/lang/String" "value" "[B" (.ref x_AT_LEAST_symbol_value)) (F_x_AT_LEAST_symbol_coder : Fld Z Z.heap x_AT_LEAST_symbol "java/lang/String" "coder" "B" (.int (0 : Int32))) (S_x_GREATER : Sta Z Z.heap "com/example/mean_drift/meandrift/Formula$Comparison" "GREATER" "Lcom/example/mean_drift/meandrift/Formula$Comparison;" (.ref x_GREATER)) (E_x_GREATER : Exa Z Z.heap x_GREATER "com/example/mean_drift/meandrift/Formula$Comparison") (F_x_GREATER_symbol : Fld Z Z.heap x_GREATER "com/example/mean_drift/meandrift/Formula$Comparison" "symbol" "Ljava/lang/String;" (.ref x_GREATER_symbol)) (E_x_GREATER_symbol : Exa Z Z.heap x_GREATER_symbol "java/lang/String") (F_x_GREATER_symbol_value : Fld Z Z.heap x_GREATER_symbol "java/lang/String" "value" "[B" (.ref x_GREATER_symbol_value)) (F_x_GREATER_symbol_coder : Fld Z Z.heap x_GREATER_symbol "java/lang/String" "coder" "B" (.int (0 : Int32))) (F_x_GREATER_ordinal : Fld Z Z.heap x_GREATER "java/lang/Enum" "ordinal" "I" (.int (2 : Int32))) (F_x_AT_MOST_symbol : Fld Z Z.heap x_AT_MOST "com/example/mean_drift/meandrift/Formula$Comparison" "symbol" "Ljava/lang/String;" (.ref x_AT_MOST_symbol)) (E_x_AT_MOST_symbol : Exa Z Z.heap x_AT_MOST_symbol "java/lang/String") (F_x_AT_MOST_symbol_value : Fld Z Z.heap x_AT_MOST_symbol "java/lang/String" "value" "[B" (.ref x_AT_MOST_symbol_value)) (F_x_AT_MOST_symbol_coder : Fld Z Z.heap x_AT_MOST_symbol "java/lang/String" "coder" "B" (.int (0 : Int32))) (V_LESS : Arf Z Z.heap x_LESS_symbol_value .byte 1 f_LESS) (V_AT_MOST : Arf Z Z.heap x_AT_MOST_symbol_value .byte 2 f_AT_MOST) (hb_AT_MOST : f_AT_MOST 1 = .int (61 : Int32)) (V_GREATER : Arf Z Z.heap x_GREATER_symbol_value .byte 1 f_GREATER) (V_AT_LEAST : Arf Z Z.heap x_AT_LEAST_symbol_value .byte 2 f_AT_LEAST) (hb_AT_LEAST : f_AT_LEAST 1 = .int (61 : Int32)) (CS : Sta Z Z.heap "java/lang/String" "COMPACT_STRINGS" "Z" (.int cs)) (hcs : ¬ (cs = (0 : Int32))) (SI : Sta Z Z.heap "jdk/internal/util/Preconditions" "SIOOBE_FORMATTER" "Ljava/util/function/BiFunction;" fmt) (hfmt : fmt.isRef = true) :
    MetFree l x (head1 (Jvm.Cond.code x code maxLocals ret :: ws) room_1) (fun a U => a = #[(.int p0)] ∧ Z.Warmed39 U.vm ∧ U.heap = h0) (fun _ _ _ _ _ => True) (fun _ U o U' => ∃ v L, o = .returned v ∧ Qrm0 Z p0 x_LESS x_AT_MOST x_GREATER x_AT_LEAST x_LESS_symbol x_LESS_symbol_value f_LESS x_AT_MOST_symbol x_AT_MOST_symbol_value f_AT_MOST x_GREATER_symbol x_GREATER_symbol_value f_GREATER x_AT_LEAST_symbol x_AT_LEAST_symbol_value f_AT_LEAST cs fmt h0 n0 v U'.heap L ∧ FrameEnd U o U' L room_1.cells room_1.slots) := by
  refine MetFree.of_bodySF (plainFor_of_name pn_0) hisR ?_
  intro p e s m args below meth c s₁ Bd hml0 hP hK
  obtain ⟨rfl, hZ, hh⟩ := hP
  have hx := Bd.exec
  have hby := Bd.bytes
  have hml : c.maxLocals = 4 := hml0
  have hown : s.vm.findClass "com/example/mean_drift/meandrift/ComparisonIncludesBoundPinLaw" = some m.cls := findClass_of_methodNamed Bd.named
  have hnm := (name_of_methodNamed Bd.named Bd.method).1
  have X0 : Stand p l e room_1 s m #[(.int p0)] below meth c s₁ [] 0 0 := Stand.of_body Bd
  have e0 : s₁.heap = h0 := by rw [← hh, Bd.state]; rfl
  have N0 := Fr.nil n0
  have ZZ := Z0
  show Go p e below s (Qrm0 Z p0 x_LESS x_AT_MOST x_GREATER x_AT_LEAST x_LESS_symbol x_LESS_symbol_value f_LESS x_AT_MOST_symbol x_AT_MOST_symbol_value f_AT_MOST x_GREATER_symbol x_GREATER_symbol_value f_GREATER x_AT_LEAST_symbol x_AT_LEAST_symbol_value f_AT_LEAST cs fmt h0 n0) room_1.cells room_1.slots (s₁.setTop (entryFrame m #[(.int p0)] maxLocals))
  generalize hQQ : (Qrm0 Z p0 x_LESS x_AT_MOST x_GREATER x_AT_LEAST x_LESS_symbol x_LESS_symbol_value f_LESS x_AT_MOST_symbol x_AT_MOST_symbol_value f_AT_MOST x_GREATER_symbol x_GREATER_symbol_value f_GREATER x_AT_LEAST_symbol x_AT_LEAST_symbol_value f_AT_LEAST cs fmt h0 n0) = QQ
  refine gs (fun t k => castTop (g' := (mkF m 0 #[.val (.int p0), .unset, .unset, .unset] [])) (by first | (simp [entryFrame, mkF, argsToLocals, Value.category, maxLocals]; done) | rfl) k) ?_
  show Go p e below s QQ room_1.cells room_1.slots (s₁.setTop (mkF m 0 #[.val (.int p0), .unset, .unset, .unset] []))
  have ne_x_LESS_x_AT_MOST : x_LESS ≠ x_AT_MOST := Fld.ne F_x_LESS_ordinal F_x_AT_MOST_ordinal (by decide)
  have ne_x_LESS_x_AT_LEAST : x_LESS ≠ x_AT_LEAST := Fld.ne F_x_LESS_ordinal F_x_AT_LEAST_ordinal (by decide)
  have ne_x_GREATER_x_AT_MOST : x_GREATER ≠ x_AT_MOST := Fld.ne F_x_GREATER_ordinal F_x_AT_MOST_ordinal (by decide)
  have ne_x_GREATER_x_AT_LEAST : x_GREATER ≠ x_AT_LEAST := Fld.ne F_x_GREATER_ordinal F_x_AT_LEAST_ordinal (by decide)
  refine gs (fun t => XS.iloadN X0.here hx rfl (hb hby at_0) rfl) ?_
  show Go p e below s QQ room_1.cells room_1.slots (s₁.setTop (mkF m 1 #[.val (.int p0), .unset, .unset, .unset] [(.int p0)]))
  obtain ⟨_, _, ⟨T20, L20, k20, n20⟩, -, X20, ⟨Lc20, hQ20, l20, y20, z20⟩, st20⟩ := Jvm.LawKit.callS X0 hx (y := (⟨"com/example/mean_drift/meandrift/ComparisonIncludesBoundPinLaw", "pick", "(I)Lcom/example/mean_drift/meandrift/Formula$Comparison;"⟩ : MethodName)) hown (mvT hZ (hw _ (List.mem_of_getElem? (i := 0) rfl))) (mvT hZ (hw _ (List.mem_of_getElem? (i := 1) rfl))) (mvT hZ (hw _ (List.mem_of_getElem? (i := 2) rfl))) (mvT hZ (hw _ (List.mem_of_getElem? (i := 3) rfl))) (by decide) (backOf (W := 0) (rm1 l Z a0 hw [] p0 x_LESS x_AT_MOST x_GREATER x_AT_LEAST h0 n0 ZZ OLD S_x_LESS S_x_AT_MOST S_x_GREATER S_x_AT_LEAST) hZ (hw _ (List.mem_of_getElem? (i := 3) rfl)) (hw _ (List.mem_of_getElem? (i := 2) rfl)) (by decide) (by decide)) (g := (mkF m 1 #[.val (.int p0), .unset, .unset, .unset] [(.int p0)])) rfl (by rw [hml]; rfl) (argsL := [(.int p0)]) (rest := []) (lenOf pd_5 rfl) rfl (by show 2 * 0 + _ ≤ _; exact Nat.le_of_eq rfl) (hb hby at_1) (fun _ _ => ⟨rfl, e0, (by decide : 0 + 0 ≤ _), (by decide : 0 + 0 ≤ _)⟩)
  dsimp only [Pt.U, Pt.locs, Pt.cells, Pt.slots] at X20 l20 y20 z20 st20 hQ20
  subst l20 y20 z20
  obtain ⟨rfl, N20q, e20⟩ := hQ20
  replace N0 := Fr.app N0 N20q
  refine gs st20 ?_
  show Go p e below s QQ room_1.cells room_1.slots (T20.setTop (mkF m 4 #[.val (.int p0), .unset, .unset, .unset] [(.ref (own_pick (p0 &&& (3 : Int32)) x_LESS x_AT_MOST x_GREATER x_AT_LEAST))]))
  have hi3 := own_i p0 rfl
  generalize hpk : (own_pick (p0 &&& (3 : Int32)) x_LESS x_AT_MOST x_GREATER x_AT_LEAST) = xx
  show Go p e below s QQ room_1.cells room_1.slots (T20.setTop (mkF m 4 #[.val (.int p0), .unset, .unset, .unset] [(.ref xx)]))
  generalize (p0 &&& (3 : Int32)) = i at hi3 hpk
  rcases hi3 with rfl | rfl | rfl | rfl
  · skip
    have hx1 : xx = x_LESS := by rw [← hpk]; rfl
    rw [hx1]
    show Go p e below s QQ room_1.cells room_1.slots (T20.setTop (mkF m 4 #[.val (.int p0), .unset, .unset, .unset] [(.ref x_LESS)]))
    refine gs (fun t => XS.astoreN X20.here hx rfl (hb hby at_4) rfl rfl (l' := #[.val (.int p0), .val (.ref x_LESS), .unset, .unset]) rfl) ?_
    show Go p e below s QQ room_1.cells room_1.slots (T20.setTop (mkF m 5 #[.val (.int p0), .val (.ref x_LESS), .unset, .unset] []))
    refine gs (fun t => XS.aloadN X20.here hx rfl (hb hby at_5) rfl rfl) ?_
    show Go p e below s QQ room_1.cells room_1.slots (T20.setTop (mkF m 6 #[.val (.int p0), .val (.ref x_LESS), .unset, .unset] [(.ref x_LESS)]))
    obtain ⟨cq21, kq21, q21a, q21b, q21c⟩ := isOf hZ e20 (E_x_LESS.ext OLD.2)
    obtain ⟨_, _, ⟨T21, L21, k21, n21⟩, -, X21, ⟨Lc21, hQ21, l21, y21, z21⟩, st21⟩ := X20.virtualBack hx (y := (⟨"com/example/mean_drift/meandrift/Formula$Comparison", "symbol", "()Ljava/lang/String;"⟩ : MethodName)) (z := (⟨"com/example/mean_drift/meandrift/Formula$Comparison", "symbol", "()Ljava/lang/String;"⟩ : MethodName)) hown (mvT hZ (hw _ (List.mem_of_getElem? (i := 7) rfl))) (mvT hZ (hw _ (List.mem_of_getElem? (i := 8) rfl))) (notFace_of_selects (args := #[]) (mvT hZ (hw _ (List.mem_of_getElem? (i := 10) rfl)))) (mvT hZ (hw _ (List.mem_of_getElem? (i := 10) rfl))) (mvT hZ (hw _ (List.mem_of_getElem? (i := 9) rfl))) (by decide) (backOf (W := 0) (rm2 l Z a0 hw [] x_LESS x_LESS_symbol h0 n0 ZZ (F_x_LESS_symbol.ext OLD.2)) hZ (hw _ (List.mem_of_getElem? (i := 11) rfl)) (hw _ (List.mem_of_getElem? (i := 5) rfl)) (by decide) (by decide)) q21a q21c (g := (mkF m 6 #[.val (.int p0), .val (.ref x_LESS), .unset, .unset] [(.ref x_LESS)])) rfl (by rw [hml]; rfl) (Steps.refl _) (argsL := []) (rest := []) (lenOf pd_6 rfl) rfl (by show 2 * 0 + _ ≤ _; exact Nat.le_of_eq rfl) (hb hby at_6) (fun _ _ => ⟨rfl, e20, (by decide : 0 + 0 ≤ _), (by decide : 0 + 0 ≤ _)⟩)
    dsimp only [Pt.U, Pt.locs, Pt.cells, Pt.slots] at X21 l21 y21 z21 st21 hQ21
    subst l21 y21 z21
    obtain ⟨rfl, N21q, e21⟩ := hQ21
    replace N0 := Fr.app N0 N21q
    refine gt st21 ?_
    show Go p e below s QQ room_1.cells room_1.slots (T21.setTop (mkF m 9 #[.val (.int p0), .val (.ref x_LESS), .unset, .unset] [(.ref x_LESS_symbol)]))
    refine gs (fun t => XS.astoreN X21.here hx rfl (hb hby at_9) rfl rfl (l' := #[.val (.int p0), .val (.ref x_LESS), .val (.ref x_LESS_symbol), .unset]) rfl) ?_
    show Go p e below s QQ room_1.cells room_1.slots (T21.setTop (mkF m 10 #[.val (.int p0), .val (.ref x_LESS), .val (.ref x_LESS_symbol), .unset] []))
    refine gs (fun t => XS.aloadN X21.here hx rfl (hb hby at_10) rfl rfl) ?_
    show Go p e below s QQ room_1.cells room_1.slots (T21.setTop (mkF m 11 #[.val (.int p0), .val (.ref x_LESS), .val (.ref x_LESS_symbol), .unset] [(.ref x_LESS_symbol)]))
    obtain ⟨cq22, kq22, q22a, q22b, q22c⟩ := isOf hZ e21 (E_x_LESS_symbol.ext OLD.2)
    obtain ⟨_, _, ⟨T22, L22, k22, n22⟩, -, X22, ⟨Lc22, hQ22, l22, y22, z22⟩, st22⟩ := X21.virtualBack hx (y := (⟨"java/lang/String", "length", "()I"⟩ : MethodName)) (z := (⟨"java/lang/String", "length", "()I"⟩ : MethodName)) hown (mvT hZ (hw _ (List.mem_of_getElem? (i := 14) rfl))) (mvT hZ (hw _ (List.mem_of_getElem? (i := 15) rfl))) (notFace_of_selects (args := #[]) (mvT hZ (hw _ (List.mem_of_getElem? (i := 17) rfl)))) (mvT hZ (hw _ (List.mem_of_getElem? (i := 17) rfl))) (mvT hZ (hw _ (List.mem_of_getElem? (i := 16) rfl))) (by decide) (backOf (W := 0) (rmLen l Z a0 hw [] x_LESS_symbol x_LESS_symbol_value cs 1 f_LESS (1 : Int32) h0 n0 ZZ OLD CS hcs (F_x_LESS_symbol_value.ext OLD.2) (F_x_LESS_symbol_coder.ext OLD.2) (E_x_LESS_symbol.ext OLD.2) (V_LESS.ext OLD.2) rfl) hZ (hw _ (List.mem_of_getElem? (i := 19) rfl)) (hw _ (List.mem_of_getElem? (i := 18) rfl)) (by decide) (by decide)) q22a q22c (g := (mkF m 11 #[.val (.int p0), .val (.ref x_LESS), .val (.ref x_LESS_symbol), .unset] [(.ref x_LESS_symbol)])) rfl (by rw [hml]; rfl) (Steps.refl _) (argsL := []) (rest := []) (lenOf pd_7 rfl) rfl (by show 2 * 0 + _ ≤ _; exact Nat.le_of_eq rfl) (hb hby at_11) (fun _ _ => ⟨rfl, e21, (by decide : 0 + 0 ≤ _), (by decide : 0 + 0 ≤ _)⟩)
    dsimp only [Pt.U, Pt.locs, Pt.cells, Pt.slots] at X22 l22 y22 z22 st22 hQ22
    subst l22 y22 z22
    obtain ⟨rfl, N22q, e22⟩ := hQ22
    replace N0 := Fr.app N0 N22q
    refine gt st22 ?_
    show Go p e below s QQ room_1.cells room_1.slots (T22.setTop (mkF m 14 #[.val (.int p0), .val (.ref x_LESS), .val (.ref x_LESS_symbol), .unset] [(.int (1 : Int32))]))
    refine gs (fun t => XS.iconst X22.here hx rfl (hb hby at_14)) ?_
    show Go p e below s QQ room_1.cells room_1.slots (T22.setTop (mkF m 15 #[.val (.int p0), .val (.ref x_LESS), .val (.ref x_LESS_symbol), .unset] [(.int (2 : Int32)), (.int (1 : Int32))]))
    refine gs (fun t => XS.icmpYes X22.here hx rfl (pc0 := 15) (pc' := 32) rfl (hb hby at_15) rfl (feq (by decide : ¬ ((1 : Int32) = (2 : Int32)))).2 (by decide) (by decide)) ?_
    show Go p e below s QQ room_1.cells room_1.slots (T22.setTop (mkF m 32 #[.val (.int p0), .val (.ref x_LESS), .val (.ref x_LESS_symbol), .unset] []))
    refine gs (fun t => XS.iconst X22.here hx rfl (hb hby at_32)) ?_
    show Go p e below s QQ room_1.cells room_1.slots (T22.setTop (mkF m 33 #[.val (.int p0), .val (.ref x_LESS), .val (.ref x_LESS_symbol), .unset] [(.int (0 : Int32))]))
    refine gs (fun t => XS.istoreN X22.here hx rfl (hb hby at_33) rfl (l' := #[.val (.int p0), .val (.ref x_LESS), .val (.ref x_LESS_symbol), .val (.int (0 : Int32))]) rfl) ?_
    show Go p e below s QQ room_1.cells room_1.slots (T22.setTop (mkF m 34 #[.val (.int p0), .val (.ref x_LESS), .val (.ref x_LESS_symbol), .val (.int (0 : Int32))] []))
    refine gs (fun t => XS.aloadN X22.here hx rfl (hb hby at_34) rfl rfl) ?_
    show Go p e below s QQ room_1.cells room_1.slots (T22.setTop (mkF m 35 #[.val (.int p0), .val (.ref x_LESS), .val (.ref x_LESS_symbol), .val (.int (0 : Int32))] [(.ref x_LESS)]))
    obtain ⟨cq23, kq23, q23a, q23b, q23c⟩ := isOf hZ e22 (E_x_LESS.ext OLD.2)
    obtain ⟨_, _, ⟨T23, L23, k23, n23⟩, -, X23, ⟨Lc23, hQ23, l23, y23, z23⟩, st23⟩ := X22.virtualBack hx (y := (⟨"com/example/mean_drift/meandrift/Formula$Comparison", "includesBound", "()Z"⟩ : MethodName)) (z := (⟨"com/example/mean_drift/meandrift/Formula$Comparison", "includesBound", "()Z"⟩ : MethodName)) hown (mvT hZ (hw _ (List.mem_of_getElem? (i := 30) rfl))) (mvT hZ (hw _ (List.mem_of_getElem? (i := 31) rfl))) (notFace_of_selects (args := #[]) (mvT hZ (hw _ (List.mem_of_getElem? (i := 33) rfl)))) (mvT hZ (hw _ (List.mem_of_getElem? (i := 33) rfl))) (mvT hZ (hw _ (List.mem_of_getElem? (i := 32) rfl))) (by decide) (backOf (W := 0) (rm5 l Z a0 hw [] x_LESS x_AT_MOST x_AT_LEAST h0 n0 ZZ OLD S_x_AT_MOST S_x_AT_LEAST) hZ (hw _ (List.mem_of_getElem? (i := 34) rfl)) (hw _ (List.mem_of_getElem? (i := 5) rfl)) (by decide) (by decide)) q23a q23c (g := (mkF m 35 #[.val (.int p0), .val (.ref x_LESS), .val (.ref x_LESS_symbol), .val (.int (0 : Int32))] [(.ref x_LESS)])) rfl (by rw [hml]; rfl) (Steps.refl _) (argsL := []) (rest := []) (lenOf pd_3 rfl) rfl (by show 2 * 0 + _ ≤ _; exact Nat.le_of_eq rfl) (hb hby at_35) (fun _ _ => ⟨rfl, e22, (by decide : 0 + 0 ≤ _), (by decide : 0 + 0 ≤ _)⟩)
    dsimp only [Pt.U, Pt.locs, Pt.cells, Pt.slots] at X23 l23 y23 z23 st23 hQ23
    subst l23 y23 z23
    obtain ⟨rfl, N23q, e23⟩ := hQ23
    replace N0 := Fr.app N0 N23q
    refine gt st23 ?_
    show Go p e below s QQ room_1.cells room_1.slots (T23.setTop (mkF m 38 #[.val (.int p0), .val (.ref x_LESS), .val (.ref x_LESS_symbol), .val (.int (0 : Int32))] [(.int (if x_LESS = x_AT_MOST ∨ x_LESS = x_AT_LEAST then 1 else 0))]))
    refine gs (fun t => XS.iloadN X23.here hx rfl (hb hby at_38) rfl) ?_
    show Go p e below s QQ room_1.cells room_1.slots (T23.setTop (mkF m 39 #[.val (.int p0), .val (.ref x_LESS), .val (.ref x_LESS_symbol), .val (.int (0 : Int32))] [(.int (0 : Int32)), (.int (if x_LESS = x_AT_MOST ∨ x_LESS = x_AT_LEAST then 1 else 0))]))
    refine gs (fun t => XS.icmpNo X23.here hx rfl (hb hby at_39) rfl (teq (by simp [ne_x_LESS_x_AT_MOST, ne_x_LESS_x_AT_LEAST] : (if x_LESS = x_AT_MOST ∨ x_LESS = x_AT_LEAST then 1 else 0) = (0 : Int32))).2) ?_
    show Go p e below s QQ room_1.cells room_1.slots (T23.setTop (mkF m 42 #[.val (.int p0), .val (.ref x_LESS), .val (.ref x_LESS_symbol), .val (.int (0 : Int32))] []))
    refine gs (fun t => XS.iconst X23.here hx rfl (hb hby at_42)) ?_
    show Go p e below s QQ room_1.cells room_1.slots (T23.setTop (mkF m 43 #[.val (.int p0), .val (.ref x_LESS), .val (.ref x_LESS_symbol), .val (.int (0 : Int32))] [(.int (1 : Int32))]))
    refine gs (fun t => XS.goto X23.here hx rfl (pc0 := 43) (pc' := 47) rfl (hb hby at_43) (by decide) (by decide)) ?_
    show Go p e below s QQ room_1.cells room_1.slots (T23.setTop (mkF m 47 #[.val (.int p0), .val (.ref x_LESS), .val (.ref x_LESS_symbol), .val (.int (0 : Int32))] [(.int (1 : Int32))]))
    exact goB X23 hx Bd.notSynchronized Bd.returns (by simp) (w := (1 : Int32)) (by first | rfl | decide) (hb hby at_47) (by rw [← hQQ, e23]; exact ⟨rfl, N0⟩) (by decide) (by decide)
  · skip
    have hx1 : xx = x_AT_MOST := by rw [← hpk]; rfl
    rw [hx1]
    show Go p e below s QQ room_1.cells room_1.slots (T20.setTop (mkF m 4 #[.val (.int p0), .unset, .unset, .unset] [(.ref x_AT_MOST)]))
    refine gs (fun t => XS.astoreN X20.here hx rfl (hb hby at_4) rfl rfl (l' := #[.val (.int p0), .val (.ref x_AT_MOST), .unset, .unset]) rfl) ?_
    show Go p e below s QQ room_1.cells room_1.slots (T20.setTop (mkF m 5 #[.val (.int p0), .val (.ref x_AT_MOST), .unset, .unset] []))
    refine gs (fun t => XS.aloadN X20.here hx rfl (hb hby at_5) rfl rfl) ?_
    show Go p e below s QQ room_1.cells room_1.slots (T20.setTop (mkF m 6 #[.val (.int p0), .val (.ref x_AT_MOST), .unset, .unset] [(.ref x_AT_MOST)]))
    obtain ⟨cq24, kq24, q24a, q24b, q24c⟩ := isOf hZ e20 (E_x_AT_MOST.ext OLD.2)
    obtain ⟨_, _, ⟨T24, L24, k24, n24⟩, -, X24, ⟨Lc24, hQ24, l24, y24, z24⟩, st24⟩ := X20.virtualBack hx (y := (⟨"com/example/mean_drift/meandrift/Formula$Comparison", "symbol", "()Ljava/lang/String;"⟩ : MethodName)) (z := (⟨"com/example/mean_drift/meandrift/Formula$Comparison", "symbol", "()Ljava/lang/String;"⟩ : MethodName)) hown (mvT hZ (hw _ (List.mem_of_getElem? (i := 7) rfl))) (mvT hZ (hw _ (List.mem_of_getElem? (i := 8) rfl))) (notFace_of_selects (args := #[]) (mvT hZ (hw _ (List.mem_of_getElem? (i := 10) rfl)))) (mvT hZ (hw _ (List.mem_of_getElem? (i := 10) rfl))) (mvT hZ (hw _ (List.mem_of_getElem? (i := 9) rfl))) (by decide) (backOf (W := 0) (rm2 l Z a0 hw [] x_AT_MOST x_AT_MOST_symbol h0 n0 ZZ (F_x_AT_MOST_symbol.ext OLD.2)) hZ (hw _ (List.mem_of_getElem? (i := 11) rfl)) (hw _ (List.mem_of_getElem? (i := 5) rfl)) (by decide) (by decide)) q24a q24c (g := (mkF m 6 #[.val (.int p0), .val (.ref x_AT_MOST), .unset, .unset] [(.ref x_AT_MOST)])) rfl (by rw [hml]; rfl) (Steps.refl _) (argsL := []) (rest := []) (lenOf pd_6 rfl) rfl (by show 2 * 0 + _ ≤ _; exact Nat.le_of_eq rfl) (hb hby at_6) (fun _ _ => ⟨rfl, e20, (by decide : 0 + 0 ≤ _), (by decide : 0 + 0 ≤ _)⟩)
    dsimp only [Pt.U, Pt.locs, Pt.cells, Pt.slots] at X24 l24 y24 z24 st24 hQ24
    subst l24 y24 z24
    obtain ⟨rfl, N24q, e24⟩ := hQ24
    replace N0 := Fr.app N0 N24q
    refine gt st24 ?_
    show Go p e below s QQ room_1.cells room_1.slots (T24.setTop (mkF m 9 #[.val (.int p0), .val (.ref x_AT_MOST), .unset, .unset] [(.ref x_AT_MOST_symbol)]))
    refine gs (fun t => XS.astoreN X24.here hx rfl (hb hby at_9) rfl rfl (l' := #[.val (.int p0), .val (.ref x_AT_MOST), .val (.ref x_AT_MOST_symbol), .unset]) rfl) ?_
    show Go p e below s QQ room_1.cells room_1.slots (T24.setTop (mkF m 10 #[.val (.int p0), .val (.ref x_AT_MOST), .val (.ref x_AT_MOST_symbol), .unset] []))
    refine gs (fun t => XS.aloadN X24.here hx rfl (hb hby at_10) rfl rfl) ?_
    show Go p e below s QQ room_1.cells room_1.slots (T24.setTop (mkF m 11 #[.val (.int p0), .val (.ref x_AT_MOST), .val (.ref x_AT_MOST_symbol), .unset] [(.ref x_AT_MOST_symbol)]))
    obtain ⟨cq25, kq25, q25a, q25b, q25c⟩ := isOf hZ e24 (E_x_AT_MOST_symbol.ext OLD.2)
    obtain ⟨_, _, ⟨T25, L25, k25, n25⟩, -, X25, ⟨Lc25, hQ25, l25, y25, z25⟩, st25⟩ := X24.virtualBack hx (y := (⟨"java/lang/String", "length", "()I"⟩ : MethodName)) (z := (⟨"java/lang/String", "length", "()I"⟩ : MethodName)) hown (mvT hZ (hw _ (List.mem_of_getElem? (i := 14) rfl))) (mvT hZ (hw _ (List.mem_of_getElem? (i := 15) rfl))) (notFace_of_selects (args := #[]) (mvT hZ (hw _ (List.mem_of_getElem? (i := 17) rfl)))) (mvT hZ (hw _ (List.mem_of_getElem? (i := 17) rfl))) (mvT hZ (hw _ (List.mem_of_getElem? (i := 16) rfl))) (by decide) (backOf (W := 0) (rmLen l Z a0 hw [] x_AT_MOST_symbol x_AT_MOST_symbol_value cs 2 f_AT_MOST (2 : Int32) h0 n0 ZZ OLD CS hcs (F_x_AT_MOST_symbol_value.ext OLD.2) (F_x_AT_MOST_symbol_coder.ext OLD.2) (E_x_AT_MOST_symbol.ext OLD.2) (V_AT_MOST.ext OLD.2) rfl) hZ (hw _ (List.mem_of_getElem? (i := 19) rfl)) (hw _ (List.mem_of_getElem? (i := 18) rfl)) (by decide) (by decide)) q25a q25c (g := (mkF m 11 #[.val (.int p0), .val (.ref x_AT_MOST), .val (.ref x_AT_MOST_symbol), .unset] [(.ref x_AT_MOST_symbol)])) rfl (by rw [hml]; rfl) (Steps.refl _) (argsL := []) (rest := []) (lenOf pd_7 rfl) rfl (by show 2 * 0 + _ ≤ _; exact Nat.le_of_eq rfl) (hb hby at_11) (fun _ _ => ⟨rfl, e24, (by decide : 0 + 0 ≤ _), (by decide : 0 + 0 ≤ _)⟩)
    dsimp only [Pt.U, Pt.locs, Pt.cells, Pt.slots] at X25 l25 y25 z25 st25 hQ25
    subst l25 y25 z25
    obtain ⟨rfl, N25q, e25⟩ := hQ25
    replace N0 := Fr.app N0 N25q
    refine gt st25 ?_
    show Go p e below s QQ room_1.cells room_1.slots (T25.setTop (mkF m 14 #[.val (.int p0), .val (.ref x_AT_MOST), .val (.ref x_AT_MOST_symbol), .unset] [(.int (2 : Int32))]))
    refine gs (fun t => XS.iconst X25.here hx rfl (hb hby at_14)) ?_
    show Go p e below s QQ room_1.cells room_1.slots (T25.setTop (mkF m 15 #[.val (.int p0), .val (.ref x_AT_MOST), .val (.ref x_AT_MOST_symbol), .unset] [(.int (2 : Int32)), (.int (2 : Int32))]))
    refine gs (fun t => XS.icmpNo X25.here hx rfl (hb hby at_15) rfl (teq (by decide : (2 : Int32) = (2 : Int32))).2) ?_
    show Go p e below s QQ room_1.cells room_1.slots (T25.setTop (mkF m 18 #[.val (.int p0), .val (.ref x_AT_MOST), .val (.ref x_AT_MOST_symbol), .unset] []))
    refine gs (fun t => XS.aloadN X25.here hx rfl (hb hby at_18) rfl rfl) ?_
    show Go p e below s QQ room_1.cells room_1.slots (T25.setTop (mkF m 19 #[.val (.int p0), .val (.ref x_AT_MOST), .val (.ref x_AT_MOST_symbol), .unset] [(.ref x_AT_MOST_symbol)]))
    refine gs (fun t => XS.iconst X25.here hx rfl (hb hby at_19)) ?_
    show Go p e below s QQ room_1.cells room_1.slots (T25.setTop (mkF m 20 #[.val (.int p0), .val (.ref x_AT_MOST), .val (.ref x_AT_MOST_symbol), .unset] [(.int (1 : Int32)), (.ref x_AT_MOST_symbol)]))
    obtain ⟨cq26, kq26, q26a, q26b, q26c⟩ := isOf hZ e25 (E_x_AT_MOST_symbol.ext OLD.2)
    obtain ⟨_, _, ⟨T26, L26, k26, n26⟩, -, X26, ⟨Lc26, hQ26, l26, y26, z26⟩, st26⟩ := X25.virtualBack hx (y := (⟨"java/lang/String", "charAt", "(I)C"⟩ : MethodName)) (z := (⟨"java/lang/String", "charAt", "(I)C"⟩ : MethodName)) hown (mvT hZ (hw _ (List.mem_of_getElem? (i := 40) rfl))) (mvT hZ (hw _ (List.mem_of_getElem? (i := 41) rfl))) (notFace_of_selects (args := #[]) (mvT hZ (hw _ (List.mem_of_getElem? (i := 43) rfl)))) (mvT hZ (hw _ (List.mem_of_getElem? (i := 43) rfl))) (mvT hZ (hw _ (List.mem_of_getElem? (i := 42) rfl))) (by decide) (backOf (W := 0) (rmCh l Z a0 hw [] x_AT_MOST_symbol (1 : Int32) x_AT_MOST_symbol_value cs fmt 2 f_AT_MOST (61 : Int32) h0 n0 ZZ OLD CS hcs SI hfmt (F_x_AT_MOST_symbol_value.ext OLD.2) (F_x_AT_MOST_symbol_coder.ext OLD.2) (E_x_AT_MOST_symbol.ext OLD.2) (V_AT_MOST.ext OLD.2) (by decide) (by decide) hb_AT_MOST) hZ (hw _ (List.mem_of_getElem? (i := 44) rfl)) (hw _ (List.mem_of_getElem? (i := 18) rfl)) (by decide) (by decide)) q26a q26c (g := (mkF m 20 #[.val (.int p0), .val (.ref x_AT_MOST), .val (.ref x_AT_MOST_symbol), .unset] [(.int (1 : Int32)), (.ref x_AT_MOST_symbol)])) rfl (by rw [hml]; rfl) (Steps.refl _) (argsL := [(.int (1 : Int32))]) (rest := []) (lenOf pd_8 rfl) rfl (by show 2 * 0 + _ ≤ _; exact Nat.le_of_eq rfl) (hb hby at_20) (fun _ _ => ⟨rfl, e25, (by decide : 0 + 0 ≤ _), (by decide : 0 + 0 ≤ _)⟩)
    dsimp only [Pt.U, Pt.locs, Pt.cells, Pt.slots] at X26 l26 y26 z26 st26 hQ26
    subst l26 y26 z26
    obtain ⟨rfl, N26q, e26⟩ := hQ26
    replace N0 := Fr.app N0 N26q
    refine gt st26 ?_
    show Go p e below s QQ room_1.cells room_1.slots (T26.setTop (mkF m 23 #[.val (.int p0), .val (.ref x_AT_MOST), .val (.ref x_AT_MOST_symbol), .unset] [(.int ((61 : Int32) &&& (255 : Int32)))]))
    show Go p e below s QQ room_1.cells room_1.slots (T26.setTop (mkF m 23 #[.val (.int p0), .val (.ref x_AT_MOST), .val (.ref x_AT_MOST_symbol), .unset] [(.int (61 : Int32))]))
    refine gs (fun t => XS.bipush X26.here hx rfl (hb hby at_23)) ?_
    show Go p e below s QQ room_1.cells room_1.slots (T26.setTop (mkF m 25 #[.val (.int p0), .val (.ref x_AT_MOST), .val (.ref x_AT_MOST_symbol), .unset] [(.int (61 : Int32)), (.int (61 : Int32))]))
    refine gs (fun t => XS.icmpNo X26.here hx rfl (hb hby at_25) rfl (teq (by decide : (61 : Int32) = (61 : Int32))).2) ?_
    show Go p e below s QQ room_1.cells room_1.slots (T26.setTop (mkF m 28 #[.val (.int p0), .val (.ref x_AT_MOST), .val (.ref x_AT_MOST_symbol), .unset] []))
    refine gs (fun t => XS.iconst X26.here hx rfl (hb hby at_28)) ?_
    show Go p e below s QQ room_1.cells room_1.slots (T26.setTop (mkF m 29 #[.val (.int p0), .val (.ref x_AT_MOST), .val (.ref x_AT_MOST_symbol), .unset] [(.int (1 : Int32))]))
    refine gs (fun t => XS.goto X26.here hx rfl (pc0 := 29) (pc' := 33) rfl (hb hby at_29) (by decide) (by decide)) ?_
    show Go p e below s QQ room_1.cells room_1.slots (T26.setTop (mkF m 33 #[.val (.int p0), .val (.ref x_AT_MOST), .val (.ref x_AT_MOST_symbol), .unset] [(.int (1 : Int32))]))
    refine gs (fun t => XS.istoreN X26.here hx rfl (hb hby at_33) rfl (l' := #[.val (.int p0), .val (.ref x_AT_MOST), .val (.ref x_AT_MOST_symbol), .val (.int (1 : Int32))]) rfl) ?_
    show Go p e below s QQ room_1.cells room_1.slots (T26.setTop (mkF m 34 #[.val (.int p0), .val (.ref x_AT_MOST), .val (.ref x_AT_MOST_symbol), .val (.int (1 : Int32))] []))
    refine gs (fun t => XS.aloadN X26.here hx rfl (hb hby at_34) rfl rfl) ?_
    show Go p e below s QQ room_1.cells room_1.slots (T26.setTop (mkF m 35 #[.val (.int p0), .val (.ref x_AT_MOST), .val (.ref x_AT_MOST_symbol), .val (.int (1 : Int32))] [(.ref x_AT_MOST)]))
    obtain ⟨cq27, kq27, q27a, q27b, q27c⟩ := isOf hZ e26 (E_x_AT_MOST.ext OLD.2)
    obtain ⟨_, _, ⟨T27, L27, k27, n27⟩, -, X27, ⟨Lc27, hQ27, l27, y27, z27⟩, st27⟩ := X26.virtualBack hx (y := (⟨"com/example/mean_drift/meandrift/Formula$Comparison", "includesBound", "()Z"⟩ : MethodName)) (z := (⟨"com/example/mean_drift/meandrift/Formula$Comparison", "includesBound", "()Z"⟩ : MethodName)) hown (mvT hZ (hw _ (List.mem_of_getElem? (i := 30) rfl))) (mvT hZ (hw _ (List.mem_of_getElem? (i := 31) rfl))) (notFace_of_selects (args := #[]) (mvT hZ (hw _ (List.mem_of_getElem? (i := 33) rfl)))) (mvT hZ (hw _ (List.mem_of_getElem? (i := 33) rfl))) (mvT hZ (hw _ (List.mem_of_getElem? (i := 32) rfl))) (by decide) (backOf (W := 0) (rm5 l Z a0 hw [] x_AT_MOST x_AT_MOST x_AT_LEAST h0 n0 ZZ OLD S_x_AT_MOST S_x_AT_LEAST) hZ (hw _ (List.mem_of_getElem? (i := 34) rfl)) (hw _ (List.mem_of_getElem? (i := 5) rfl)) (by decide) (by decide)) q27a q27c (g := (mkF m 35 #[.val (.int p0), .val (.ref x_AT_MOST), .val (.ref x_AT_MOST_symbol), .val (.int (1 : Int32))] [(.ref x_AT_MOST)])) rfl (by rw [hml]; rfl) (Steps.refl _) (argsL := []) (rest := []) (lenOf pd_3 rfl) rfl (by show 2 * 0 + _ ≤ _; exact Nat.le_of_eq rfl) (hb hby at_35) (fun _ _ => ⟨rfl, e26, (by decide : 0 + 0 ≤ _), (by decide : 0 + 0 ≤ _)⟩)
    dsimp only [Pt.U, Pt.locs, Pt.cells, Pt.slots] at X27 l27 y27 z27 st27 hQ27
    subst l27 y27 z27
    obtain ⟨rfl, N27q, e27⟩ := hQ27
    replace N0 := Fr.app N0 N27q
    refine gt st27 ?_
    show Go p e below s QQ room_1.cells room_1.slots (T27.setTop (mkF m 38 #[.val (.int p0), .val (.ref x_AT_MOST), .val (.ref x_AT_MOST_symbol), .val (.int (1 : Int32))] [(.int (if x_AT_MOST = x_AT_MOST ∨ x_AT_MOST = x_AT_LEAST then 1 else 0))]))
    refine gs (fun t => XS.iloadN X27.here hx rfl (hb hby at_38) rfl) ?_
    show Go p e below s QQ room_1.cells room_1.slots (T27.setTop (mkF m 39 #[.val (.int p0), .val (.ref x_AT_MOST), .val (.ref x_AT_MOST_symbol), .val (.int (1 : Int32))] [(.int (1 : Int32)), (.int (if x_AT_MOST = x_AT_MOST ∨ x_AT_MOST = x_AT_LEAST then 1 else 0))]))
    refine gs (fun t => XS.icmpNo X27.here hx rfl (hb hby at_39) rfl (teq (by simp : (if x_AT_MOST = x_AT_MOST ∨ x_AT_MOST = x_AT_LEAST then 1 else 0) = (1 : Int32))).2) ?_
    show Go p e below s QQ room_1.cells room_1.slots (T27.setTop (mkF m 42 #[.val (.int p0), .val (.ref x_AT_MOST), .val (.ref x_AT_MOST_symbol), .val (.int (1 : Int32))] []))
    refine gs (fun t => XS.iconst X27.here hx rfl (hb hby at_42)) ?_
    show Go p e below s QQ room_1.cells room_1.slots (T27.setTop (mkF m 43 #[.val (.int p0), .val (.ref x_AT_MOST), .val (.ref x_AT_MOST_symbol), .val (.int (1 : Int32))] [(.int (1 : Int32))]))
    refine gs (fun t => XS.goto X27.here hx rfl (pc0 := 43) (pc' := 47) rfl (hb hby at_43) (by decide) (by decide)) ?_
    show Go p e below s QQ room_1.cells room_1.slots (T27.setTop (mkF m 47 #[.val (.int p0), .val (.ref x_AT_MOST), .val (.ref x_AT_MOST_symbol), .val (.int (1 : Int32))] [(.int (1 : Int32))]))
    exact goB X27 hx Bd.notSynchronized Bd.returns (by simp) (w := (1 : Int32)) (by first | rfl | decide) (hb hby at_47) (by rw [← hQQ, e27]; exact ⟨rfl, N0⟩) (by decide) (by decide)
  · skip
    have hx1 : xx = x_GREATER := by rw [← hpk]; rfl
    rw [hx1]
    show Go p e below s QQ room_1.cells room_1.slots (T20.setTop (mkF m 4 #[.val (.int p0), .unset, .unset, .unset] [(.ref x_GREATER)]))
    refine gs (fun t => XS.astoreN X20.here hx rfl (hb hby at_4) rfl rfl (l' := #[.val (.int p0), .val (.ref x_GREATER), .unset, .unset]) rfl) ?_
    show Go p e below s QQ room_1.cells room_1.slots (T20.setTop (mkF m 5 #[.val (.int p0), .val (.ref x_GREATER), .unset, .unset] []))
    refine gs (fun t => XS.aloadN X20.here hx rfl (hb hby at_5) rfl rfl) ?_
    show Go p e below s QQ room_1.cells room_1.slots (T20.setTop (mkF m 6 #[.val (.int p0), .val (.ref x_GREATER), .unset, .unset] [(.ref x_GREATER)]))
    obtain ⟨cq28, kq28, q28a, q28b, q28c⟩ := isOf hZ e20 (E_x_GREATER.ext OLD.2)
    obtain ⟨_, _, ⟨T28, L28, k28, n28⟩, -, X28, ⟨Lc28, hQ28, l28, y28, z28⟩, st28⟩ := X20.virtualBack hx (y := (⟨"com/example/mean_drift/meandrift/Formula$Comparison", "symbol", "()Ljava/lang/String;"⟩ : MethodName)) (z := (⟨"com/example/mean_drift/meandrift/Formula$Comparison", "symbol", "()Ljava/lang/String;"⟩ : MethodName)) hown (mvT hZ (hw _ (List.mem_of_getElem? (i := 7) rfl))) (mvT hZ (hw _ (List.mem_of_getElem? (i := 8) rfl))) (notFace_of_selects (args := #[]) (mvT hZ (hw _ (List.mem_of_getElem? (i := 10) rfl)))) (mvT hZ (hw _ (List.mem_of_getElem? (i := 10) rfl))) (mvT hZ (hw _ (List.mem_of_getElem? (i := 9) rfl))) (by decide) (backOf (W := 0) (rm2 l Z a0 hw [] x_GREATER x_GREATER_symbol h0 n0 ZZ (F_x_GREATER_symbol.ext OLD.2)) hZ (hw _ (List.mem_of_getElem? (i := 11) rfl)) (hw _ (List.mem_of_getElem? (i := 5) rfl)) (by decide) (by decide)) q28a q28c (g := (mkF m 6 #[.val (.int p0), .val (.ref x_GREATER), .unset, .unset] [(.ref x_GREATER)])) rfl (by rw [hml]; rfl) (Steps.refl _) (argsL := []) (rest := []) (lenOf pd_6 rfl) rfl (by show 2 * 0 + _ ≤ _; exact Nat.le_of_eq rfl) (hb hby at_6) (fun _ _ => ⟨rfl, e20, (by decide : 0 + 0 ≤ _), (by decide : 0 + 0 ≤ _)⟩)
    dsimp only [Pt.U, Pt.locs, Pt.cells, Pt.slots] at X28 l28 y28 z28 st28 hQ28
    subst l28 y28 z28
    obtain ⟨rfl, N28q, e28⟩ := hQ28
    replace N0 := Fr.app N0 N28q
    refine gt st28 ?_
    show Go p e below s QQ room_1.cells room_1.slots (T28.setTop (mkF m 9 #[.val (.int p0), .val (.ref x_GREATER), .unset, .unset] [(.ref x_GREATER_symbol)]))
    refine gs (fun t => XS.astoreN X28.here hx rfl (hb hby at_9) rfl rfl (l' := #[.val (.int p0), .val (.ref x_GREATER), .val (.ref x_GREATER_symbol), .unset]) rfl) ?_
    show Go p e below s QQ room_1.cells room_1.slots (T28.setTop (mkF m 10 #[.val (.int p0), .val (.ref x_GREATER), .val (.ref x_GREATER_symbol), .unset] []))
    refine gs (fun t => XS.aloadN X28.here hx rfl (hb hby at_10) rfl rfl) ?_
    show Go p e below s QQ room_1.cells room_1.slots (T28.setTop (mkF m 11 #[.val (.int p0), .val (.ref x_GREATER), .val (.ref x_GREATER_symbol), .unset] [(.ref x_GREATER_symbol)]))
    obtain ⟨cq29, kq29, q29a, q29b, q29c⟩ := isOf hZ e28 (E_x_GREATER_symbol.ext OLD.2)
    obtain ⟨_, _, ⟨T29, L29, k29, n29⟩, -, X29, ⟨Lc29, hQ29, l29, y29, z29⟩, st29⟩ := X28.virtualBack hx (y := (⟨"java/lang/String", "length", "()I"⟩ : MethodName)) (z := (⟨"java/lang/String", "length", "()I"⟩ : MethodName)) hown (mvT hZ (hw _ (List.mem_of_getElem? (i := 14) rfl))) (mvT hZ (hw _ (List.mem_of_getElem? (i := 15) rfl))) (notFace_of_selects (args := #[]) (mvT hZ (hw _ (List.mem_of_getElem? (i := 17) rfl)))) (mvT hZ (hw _ (List.mem_of_getElem? (i := 17) rfl))) (mvT hZ (hw _ (List.mem_of_getElem? (i := 16) rfl))) (by decide) (backOf (W := 0) (rmLen l Z a0 hw [] x_GREATER_symbol x_GREATER_symbol_value cs 1 f_GREATER (1 : Int32) h0 n0 ZZ OLD CS hcs (F_x_GREATER_symbol_value.ext OLD.2) (F_x_GREATER_symbol_coder.ext OLD.2) (E_x_GREATER_symbol.ext OLD.2) (V_GREATER.ext OLD.2) rfl) hZ (hw _ (List.mem_of_getElem? (i := 19) rfl)) (hw _ (List.mem_of_getElem? (i := 18) rfl)) (by decide) (by decide)) q29a q29c (g := (mkF m 11 #[.val (.int p0), .val (.ref x_GREATER), .val (.ref x_GREATER_symbol), .unset] [(.ref x_GREATER_symbol)])) rfl (by rw [hml]; rfl) (Steps.refl _) (argsL := []) (rest := []) (lenOf pd_7 rfl) rfl (by show 2 * 0 + _ ≤ _; exact Nat.le_of_eq rfl) (hb hby at_11) (fun _ _ => ⟨rfl, e28, (by decide : 0 + 0 ≤ _), (by decide : 0 + 0 ≤ _)⟩)
    dsimp only [Pt.U, Pt.locs, Pt.cells, Pt.slots] at X29 l29 y29 z29 st29 hQ29
    subst l29 y29 z29
    obtain ⟨rfl, N29q, e29⟩ := hQ29
    replace N0 := Fr.app N0 N29q
    refine gt st29 ?_
    show Go p e below s QQ room_1.cells room_1.slots (T29.setTop (mkF m 14 #[.val (.int p0), .val (.ref x_GREATER), .val (.ref x_GREATER_symbol), .unset] [(.int (1 : Int32))]))
    refine gs (fun t => XS.iconst X29.here hx rfl (hb hby at_14)) ?_
    show Go p e below s QQ room_1.cells room_1.slots (T29.setTop (mkF m 15 #[.val (.int p0), .val (.ref x_GREATER), .val (.ref x_GREATER_symbol), .unset] [(.int (2 : Int32)), (.int (1 : Int32))]))
    refine gs (fun t => XS.icmpYes X29.here hx rfl (pc0 := 15) (pc' := 32) rfl (hb hby at_15) rfl (feq (by decide : ¬ ((1 : Int32) = (2 : Int32)))).2 (by decide) (by decide)) ?_
    show Go p e below s QQ room_1.cells room_1.slots (T29.setTop (mkF m 32 #[.val (.int p0), .val (.ref x_GREATER), .val (.ref x_GREATER_symbol), .unset] []))
    refine gs (fun t => XS.iconst X29.here hx rfl (hb hby at_32)) ?_
    show Go p e below s QQ room_1.cells room_1.slots (T29.setTop (mkF m 33 #[.val (.int p0), .val (.ref x_GREATER), .val (.ref x_GREATER_symbol), .unset] [(.int (0 : Int32))]))
    refine gs (fun t => XS.istoreN X29.here hx rfl (hb hby at_33) rfl (l' := #[.val (.int p0), .val (.ref x_GREATER), .val (.ref x_GREATER_symbol), .val (.int (0 : Int32))]) rfl) ?_
    show Go p e below s QQ room_1.cells room_1.slots (T29.setTop (mkF m 34 #[.val (.int p0), .val (.ref x_GREATER), .val (.ref x_GREATER_symbol), .val (.int (0 : Int32))] []))
    refine gs (fun t => XS.aloadN X29.here hx rfl (hb hby at_34) rfl rfl) ?_
    show Go p e below s QQ room_1.cells room_1.slots (T29.setTop (mkF m 35 #[.val (.int p0), .val (.ref x_GREATER), .val (.ref x_GREATER_symbol), .val (.int (0 : Int32))] [(.ref x_GREATER)]))
    obtain ⟨cq30, kq30, q30a, q30b, q30c⟩ := isOf hZ e29 (E_x_GREATER.ext OLD.2)
    obtain ⟨_, _, ⟨T30, L30, k30, n30⟩, -, X30, ⟨Lc30, hQ30, l30, y30, z30⟩, st30⟩ := X29.virtualBack hx (y := (⟨"com/example/mean_drift/meandrift/Formula$Comparison", "includesBound", "()Z"⟩ : MethodName)) (z := (⟨"com/example/mean_drift/meandrift/Formula$Comparison", "includesBound", "()Z"⟩ : MethodName)) hown (mvT hZ (hw _ (List.mem_of_getElem? (i := 30) rfl))) (mvT hZ (hw _ (List.mem_of_getElem? (i := 31) rfl))) (notFace_of_selects (args := #[]) (mvT hZ (hw _ (List.mem_of_getElem? (i := 33) rfl)))) (mvT hZ (hw _ (List.mem_of_getElem? (i := 33) rfl))) (mvT hZ (hw _ (List.mem_of_getElem? (i := 32) rfl))) (by decide) (backOf (W := 0) (rm5 l Z a0 hw [] x_GREATER x_AT_MOST x_AT_LEAST h0 n0 ZZ OLD S_x_AT_MOST S_x_AT_LEAST) hZ (hw _ (List.mem_of_getElem? (i := 34) rfl)) (hw _ (List.mem_of_getElem? (i := 5) rfl)) (by decide) (by decide)) q30a q30c (g := (mkF m 35 #[.val (.int p0), .val (.ref x_GREATER), .val (.ref x_GREATER_symbol), .val (.int (0 : Int32))] [(.ref x_GREATER)])) rfl (by rw [hml]; rfl) (Steps.refl _) (argsL := []) (rest := []) (lenOf pd_3 rfl) rfl (by show 2 * 0 + _ ≤ _; exact Nat.le_of_eq rfl) (hb hby at_35) (fun _ _ => ⟨rfl, e29, (by decide : 0 + 0 ≤ _), (by decide : 0 + 0 ≤ _)⟩)
    dsimp only [Pt.U, Pt.locs, Pt.cells, Pt.slots] at X30 l30 y30 z30 st30 hQ30
    subst l30 y30 z30
    obtain ⟨rfl, N30q, e30⟩ := hQ30
    replace N0 := Fr.app N0 N30q
    refine gt st30 ?_
    show Go p e below s QQ room_1.cells room_1.slots (T30.setTop (mkF m 38 #[.val (.int p0), .val (.ref x_GREATER), .val (.ref x_GREATER_symbol), .val (.int (0 : Int32))] [(.int (if x_GREATER = x_AT_MOST ∨ x_GREATER = x_AT_LEAST then 1 else 0))]))
    refine gs (fun t => XS.iloadN X30.here hx rfl (hb hby at_38) rfl) ?_
    show Go p e below s QQ room_1.cells room_1.slots (T30.setTop (mkF m 39 #[.val (.int p0), .val (.ref x_GREATER), .val (.ref x_GREATER_symbol), .val (.int (0 : Int32))] [(.int (0 : Int32)), (.int (if x_GREATER = x_AT_MOST ∨ x_GREATER = x_AT_LEAST then 1 else 0))]))
    refine gs (fun t => XS.icmpNo X30.here hx rfl (hb hby at_39) rfl (teq (by simp [ne_x_GREATER_x_AT_MOST, ne_x_GREATER_x_AT_LEAST] : (if x_GREATER = x_AT_MOST ∨ x_GREATER = x_AT_LEAST then 1 else 0) = (0 : Int32))).2) ?_
    show Go p e below s QQ room_1.cells room_1.slots (T30.setTop (mkF m 42 #[.val (.int p0), .val (.ref x_GREATER), .val (.ref x_GREATER_symbol), .val (.int (0 : Int32))] []))
    refine gs (fun t => XS.iconst X30.here hx rfl (hb hby at_42)) ?_
    show Go p e below s QQ room_1.cells room_1.slots (T30.setTop (mkF m 43 #[.val (.int p0), .val (.ref x_GREATER), .val (.ref x_GREATER_symbol), .val (.int (0 : Int32))] [(.int (1 : Int32))]))
    refine gs (fun t => XS.goto X30.here hx rfl (pc0 := 43) (pc' := 47) rfl (hb hby at_43) (by decide) (by decide)) ?_
    show Go p e below s QQ room_1.cells room_1.slots (T30.setTop (mkF m 47 #[.val (.int p0), .val (.ref x_GREATER), .val (.ref x_GREATER_symbol), .val (.int (0 : Int32))] [(.int (1 : Int32))]))
    exact goB X30 hx Bd.notSynchronized Bd.returns (by simp) (w := (1 : Int32)) (by first | rfl | decide) (hb hby at_47) (by rw [← hQQ, e30]; exact ⟨rfl, N0⟩) (by decide) (by decide)
  · skip
    have hx1 : xx = x_AT_LEAST := by rw [← hpk]; rfl
    rw [hx1]
    show Go p e below s QQ room_1.cells room_1.slots (T20.setTop (mkF m 4 #[.val (.int p0), .unset, .unset, .unset] [(.ref x_AT_LEAST)]))
    refine gs (fun t => XS.astoreN X20.here hx rfl (hb hby at_4) rfl rfl (l' := #[.val (.int p0), .val (.ref x_AT_LEAST), .unset, .unset]) rfl) ?_
    show Go p e below s QQ room_1.cells room_1.slots (T20.setTop (mkF m 5 #[.val (.int p0), .val (.ref x_AT_LEAST), .unset, .unset] []))
    refine gs (fun t => XS.aloadN X20.here hx rfl (hb hby at_5) rfl rfl) ?_
    show Go p e below s QQ room_1.cells room_1.slots (T20.setTop (mkF m 6 #[.val (.int p0), .val (.ref x_AT_LEAST), .unset, .unset] [(.ref x_AT_LEAST)]))
    obtain ⟨cq31, kq31, q31a, q31b, q31c⟩ := isOf hZ e20 (E_x_AT_LEAST.ext OLD.2)
    obtain ⟨_, _, ⟨T31, L31, k31, n31⟩, -, X31, ⟨Lc31, hQ31, l31, y31, z31⟩, st31⟩ := X20.virtualBack hx (y := (⟨"com/example/mean_drift/meandrift/Formula$Comparison", "symbol", "()Ljava/lang/String;"⟩ : MethodName)) (z := (⟨"com/example/mean_drift/meandrift/Formula$Comparison", "symbol", "()Ljava/lang/String;"⟩ : MethodName)) hown (mvT hZ (hw _ (List.mem_of_getElem? (i := 7) rfl))) (mvT hZ (hw _ (List.mem_of_getElem? (i := 8) rfl))) (notFace_of_selects (args := #[]) (mvT hZ (hw _ (List.mem_of_getElem? (i := 10) rfl)))) (mvT hZ (hw _ (List.mem_of_getElem? (i := 10) rfl))) (mvT hZ (hw _ (List.mem_of_getElem? (i := 9) rfl))) (by decide) (backOf (W := 0) (rm2 l Z a0 hw [] x_AT_LEAST x_AT_LEAST_symbol h0 n0 ZZ (F_x_AT_LEAST_symbol.ext OLD.2)) hZ (hw _ (List.mem_of_getElem? (i := 11) rfl)) (hw _ (List.mem_of_getElem? (i := 5) rfl)) (by decide) (by decide)) q31a q31c (g := (mkF m 6 #[.val (.int p0), .val (.ref x_AT_LEAST), .unset, .unset] [(.ref x_AT_LEAST)])) rfl (by rw [hml]; rfl) (Steps.refl _) (argsL := []) (rest := []) (lenOf pd_6 rfl) rfl (by show 2 * 0 + _ ≤ _; exact Nat.le_of_eq rfl) (hb hby at_6) (fun _ _ => ⟨rfl, e20, (by decide : 0 + 0 ≤ _), (by decide : 0 + 0 ≤ _)⟩)
    dsimp only [Pt.U, Pt.locs, Pt.cells, Pt.slots] at X31 l31 y31 z31 st31 hQ31
    subst l31 y31 z31
    obtain ⟨rfl, N31q, e31⟩ := hQ31
    replace N0 := Fr.app N0 N31q
    refine gt st31 ?_
    show Go p e below s QQ room_1.cells room_1.slots (T31.setTop (mkF m 9 #[.val (.int p0), .val (.ref x_AT_LEAST), .unset, .unset] [(.ref x_AT_LEAST_symbol)]))
    refine gs (fun t => XS.astoreN X31.here hx rfl (hb hby at_9) rfl rfl (l' := #[.val (.int p0), .val (.ref x_AT_LEAST), .val (.ref x_AT_LEAST_symbol), .unset]) rfl) ?_
    show Go p e below s QQ room_1.cells room_1.slots (T31.setTop (mkF m 10 #[.val (.int p0), .val (.ref x_AT_LEAST), .val (.ref x_AT_LEAST_symbol), .unset] []))
    refine gs (fun t => XS.aloadN X31.here hx rfl (hb hby at_10) rfl rfl) ?_
    show Go p e below s QQ room_1.cells room_1.slots (T31.setTop (mkF m 11 #[.val (.int p0), .val (.ref x_AT_LEAST), .val (.ref x_AT_LEAST_symbol), .unset] [(.ref x_AT_LEAST_symbol)]))
    obtain ⟨cq32, kq32, q32a, q32b, q32c⟩ := isOf hZ e31 (E_x_AT_LEAST_symbol.ext OLD.2)
    obtain ⟨_, _, ⟨T32, L32, k32, n32⟩, -, X32, ⟨Lc32, hQ32, l32, y32, z32⟩, st32⟩ := X31.virtualBack hx (y := (⟨"java/lang/String", "length", "()I"⟩ : MethodName)) (z := (⟨"java/lang/String", "length", "()I"⟩ : MethodName)) hown (mvT hZ (hw _ (List.mem_of_getElem? (i := 14) rfl))) (mvT hZ (hw _ (List.mem_of_getElem? (i := 15) rfl))) (notFace_of_selects (args := #[]) (mvT hZ (hw _ (List.mem_of_getElem? (i := 17) rfl)))) (mvT hZ (hw _ (List.mem_of_getElem? (i := 17) rfl))) (mvT hZ (hw _ (List.mem_of_getElem? (i := 16) rfl))) (by decide) (backOf (W := 0) (rmLen l Z a0 hw [] x_AT_LEAST_symbol x_AT_LEAST_symbol_value cs 2 f_AT_LEAST (2 : Int32) h0 n0 ZZ OLD CS hcs (F_x_AT_LEAST_symbol_value.ext OLD.2) (F_x_AT_LEAST_symbol_coder.ext OLD.2) (E_x_AT_LEAST_symbol.ext OLD.2) (V_AT_LEAST.ext OLD.2) rfl) hZ (hw _ (List.mem_of_getElem? (i := 19) rfl)) (hw _ (List.mem_of_getElem? (i := 18) rfl)) (by decide) (by decide)) q32a q32c (g := (mkF m 11 #[.val (.int p0), .val (.ref x_AT_LEAST), .val (.ref x_AT_LEAST_symbol), .unset] [(.ref x_AT_LEAST_symbol)])) rfl (by rw [hml]; rfl) (Steps.refl _) (argsL := []) (rest := []) (lenOf pd_7 rfl) rfl (by show 2 * 0 + _ ≤ _; exact Nat.le_of_eq rfl) (hb hby at_11) (fun _ _ => ⟨rfl, e31, (by decide : 0 + 0 ≤ _), (by decide : 0 + 0 ≤ _)⟩)
    dsimp only [Pt.U, Pt.locs, Pt.cells, Pt.slots] at X32 l32 y32 z32 st32 hQ32
    subst l32 y32 z32
    obtain ⟨rfl, N32q, e32⟩ := hQ32
    replace N0 := Fr.app N0 N32q
    refine gt st32 ?_
    show Go p e below s QQ room_1.cells room_1.slots (T32.setTop (mkF m 14 #[.val (.int p0), .val (.ref x_AT_LEAST), .val (.ref x_AT_LEAST_symbol), .unset] [(.int (2 : Int32))]))
    refine gs (fun t => XS.iconst X32.here hx rfl (hb hby at_14)) ?_
    show Go p e below s QQ room_1.cells room_1.slots (T32.setTop (mkF m 15 #[.val (.int p0), .val (.ref x_AT_LEAST), .val (.ref x_AT_LEAST_symbol), .unset] [(.int (2 : Int32)), (.int (2 : Int32))]))
    refine gs (fun t => XS.icmpNo X32.here hx rfl (hb hby at_15) rfl (teq (by decide : (2 : Int32) = (2 : Int32))).2) ?_
    show Go p e below s QQ room_1.cells room_1.slots (T32.setTop (mkF m 18 #[.val (.int p0), .val (.ref x_AT_LEAST), .val (.ref x_AT_LEAST_symbol), .unset] []))
    refine gs (fun t => XS.aloadN X32.here hx rfl (hb hby at_18) rfl rfl) ?_
    show Go p e below s QQ room_1.cells room_1.slots (T32.setTop (mkF m 19 #[.val (.int p0), .val (.ref x_AT_LEAST), .val (.ref x_AT_LEAST_symbol), .unset] [(.ref x_AT_LEAST_symbol)]))
    refine gs (fun t => XS.iconst X32.here hx rfl (hb hby at_19)) ?_
    show Go p e below s QQ room_1.cells room_1.slots (T32.setTop (mkF m 20 #[.val (.int p0), .val (.ref x_AT_LEAST), .val (.ref x_AT_LEAST_symbol), .unset] [(.int (1 : Int32)), (.ref x_AT_LEAST_symbol)]))
    obtain ⟨cq33, kq33, q33a, q33b, q33c⟩ := isOf hZ e32 (E_x_AT_LEAST_symbol.ext OLD.2)
    obtain ⟨_, _, ⟨T33, L33, k33, n33⟩, -, X33, ⟨Lc33, hQ33, l33, y33, z33⟩, st33⟩ := X32.virtualBack hx (y := (⟨"java/lang/String", "charAt", "(I)C"⟩ : MethodName)) (z := (⟨"java/lang/String", "charAt", "(I)C"⟩ : MethodName)) hown (mvT hZ (hw _ (List.mem_of_getElem? (i := 40) rfl))) (mvT hZ (hw _ (List.mem_of_getElem? (i := 41) rfl))) (notFace_of_selects (args := #[]) (mvT hZ (hw _ (List.mem_of_getElem? (i := 43) rfl)))) (mvT hZ (hw _ (List.mem_of_getElem? (i := 43) rfl))) (mvT hZ (hw _ (List.mem_of_getElem? (i := 42) rfl))) (by decide) (backOf (W := 0) (rmCh l Z a0 hw [] x_AT_LEAST_symbol (1 : Int32) x_AT_LEAST_symbol_value cs fmt 2 f_AT_LEAST (61 : Int32) h0 n0 ZZ OLD CS hcs SI hfmt (F_x_AT_LEAST_symbol_value.ext OLD.2) (F_x_AT_LEAST_symbol_coder.ext OLD.2) (E_x_AT_LEAST_symbol.ext OLD.2) (V_AT_LEAST.ext OLD.2) (by decide) (by decide) hb_AT_LEAST) hZ (hw _ (List.mem_of_getElem? (i := 44) rfl)) (hw _ (List.mem_of_getElem? (i := 18) rfl)) (by decide) (by decide)) q33a q33c (g := (mkF m 20 #[.val (.int p0), .val (.ref x_AT_LEAST), .val (.ref x_AT_LEAST_symbol), .unset] [(.int (1 : Int32)), (.ref x_AT_LEAST_symbol)])) rfl (by rw [hml]; rfl) (Steps.refl _) (argsL := [(.int (1 : Int32))]) (rest := []) (lenOf pd_8 rfl) rfl (by show 2 * 0 + _ ≤ _; exact Nat.le_of_eq rfl) (hb hby at_20) (fun _ _ => ⟨rfl, e32, (by decide : 0 + 0 ≤ _), (by decide : 0 + 0 ≤ _)⟩)
    dsimp only [Pt.U, Pt.locs, Pt.cells, Pt.slots] at X33 l33 y33 z33 st33 hQ33
    subst l33 y33 z33
    obtain ⟨rfl, N33q, e33⟩ := hQ33
    replace N0 := Fr.app N0 N33q
    refine gt st33 ?_
    show Go p e below s QQ room_1.cells room_1.slots (T33.setTop (mkF m 23 #[.val (.int p0), .val (.ref x_AT_LEAST), .val (.ref x_AT_LEAST_symbol), .unset] [(.int ((61 : Int32) &&& (255 : Int32)))]))
    show Go p e below s QQ room_1.cells room_1.slots (T33.setTop (mkF m 23 #[.val (.int p0), .val (.ref x_AT_LEAST), .val (.ref x_AT_LEAST_symbol), .unset] [(.int (61 : Int32))]))
    refine gs (fun t => XS.bipush X33.here hx rfl (hb hby at_23)) ?_
    show Go p e below s QQ room_1.cells room_1.slots (T33.setTop (mkF m 25 #[.val (.int p0), .val (.ref x_AT_LEAST), .val (.ref x_AT_LEAST_symbol), .unset] [(.int (61 : Int32)), (.int (61 : Int32))]))
    refine gs (fun t => XS.icmpNo X33.here hx rfl (hb hby at_25) rfl (teq (by decide : (61 : Int32) = (61 : Int32))).2) ?_
    show Go p e below s QQ room_1.cells room_1.slots (T33.setTop (mkF m 28 #[.val (.int p0), .val (.ref x_AT_LEAST), .val (.ref x_AT_LEAST_symbol), .unset] []))
    refine gs (fun t => XS.iconst X33.here hx rfl (hb hby at_28)) ?_
    show Go p e below s QQ room_1.cells room_1.slots (T33.setTop (mkF m 29 #[.val (.int p0), .val (.ref x_AT_LEAST), .val (.ref x_AT_LEAST_symbol), .unset] [(.int (1 : Int32))]))
    refine gs (fun t => XS.goto X33.here hx rfl (pc0 := 29) (pc' := 33) rfl (hb hby at_29) (by decide) (by decide)) ?_
    show Go p e below s QQ room_1.cells room_1.slots (T33.setTop (mkF m 33 #[.val (.int p0), .val (.ref x_AT_LEAST), .val (.ref x_AT_LEAST_symbol), .unset] [(.int (1 : Int32))]))
    refine gs (fun t => XS.istoreN X33.here hx rfl (hb hby at_33) rfl (l' := #[.val (.int p0), .val (.ref x_AT_LEAST), .val (.ref x_AT_LEAST_symbol), .val (.int (1 : Int32))]) rfl) ?_
    show Go p e below s QQ room_1.cells room_1.slots (T33.setTop (mkF m 34 #[.val (.int p0), .val (.ref x_AT_LEAST), .val (.ref x_AT_LEAST_symbol), .val (.int (1 : Int32))] []))
    refine gs (fun t => XS.aloadN X33.here hx rfl (hb hby at_34) rfl rfl) ?_
    show Go p e below s QQ room_1.cells room_1.slots (T33.setTop (mkF m 35 #[.val (.int p0), .val (.ref x_AT_LEAST), .val (.ref x_AT_LEAST_symbol), .val (.int (1 : Int32))] [(.ref x_AT_LEAST)]))
    obtain ⟨cq34, kq34, q34a, q34b, q34c⟩ := isOf hZ e33 (E_x_AT_LEAST.ext OLD.2)
    obtain ⟨_, _, ⟨T34, L34, k34, n34⟩, -, X34, ⟨Lc34, hQ34, l34, y34, z34⟩, st34⟩ := X33.virtualBack hx (y := (⟨"com/example/mean_drift/meandrift/Formula$Comparison", "includesBound", "()Z"⟩ : MethodName)) (z := (⟨"com/example/mean_drift/meandrift/Formula$Comparison", "includesBound", "()Z"⟩ : MethodName)) hown (mvT hZ (hw _ (List.mem_of_getElem? (i := 30) rfl))) (mvT hZ (hw _ (List.mem_of_getElem? (i := 31) rfl))) (notFace_of_selects (args := #[]) (mvT hZ (hw _ (List.mem_of_getElem? (i := 33) rfl)))) (mvT hZ (hw _ (List.mem_of_getElem? (i := 33) rfl))) (mvT hZ (hw _ (List.mem_of_getElem? (i := 32) rfl))) (by decide) (backOf (W := 0) (rm5 l Z a0 hw [] x_AT_LEAST x_AT_MOST x_AT_LEAST h0 n0 ZZ OLD S_x_AT_MOST S_x_AT_LEAST) hZ (hw _ (List.mem_of_getElem? (i := 34) rfl)) (hw _ (List.mem_of_getElem? (i := 5) rfl)) (by decide) (by decide)) q34a q34c (g := (mkF m 35 #[.val (.int p0), .val (.ref x_AT_LEAST), .val (.ref x_AT_LEAST_symbol), .val (.int (1 : Int32))] [(.ref x_AT_LEAST)])) rfl (by rw [hml]; rfl) (Steps.refl _) (argsL := []) (rest := []) (lenOf pd_3 rfl) rfl (by show 2 * 0 + _ ≤ _; exact Nat.le_of_eq rfl) (hb hby at_35) (fun _ _ => ⟨rfl, e33, (by decide : 0 + 0 ≤ _), (by decide : 0 + 0 ≤ _)⟩)
    dsimp only [Pt.U, Pt.locs, Pt.cells, Pt.slots] at X34 l34 y34 z34 st34 hQ34
    subst l34 y34 z34
    obtain ⟨rfl, N34q, e34⟩ := hQ34
    replace N0 := Fr.app N0 N34q
    refine gt st34 ?_
    show Go p e below s QQ room_1.cells room_1.slots (T34.setTop (mkF m 38 #[.val (.int p0), .val (.ref x_AT_LEAST), .val (.ref x_AT_LEAST_symbol), .val (.int (1 : Int32))] [(.int (if x_AT_LEAST = x_AT_MOST ∨ x_AT_LEAST = x_AT_LEAST then 1 else 0))]))
    refine gs (fun t => XS.iloadN X34.here hx rfl (hb hby at_38) rfl) ?_
    show Go p e below s QQ room_1.cells room_1.slots (T34.setTop (mkF m 39 #[.val (.int p0), .val (.ref x_AT_LEAST), .val (.ref x_AT_LEAST_symbol), .val (.int (1 : Int32))] [(.int (1 : Int32)), (.int (if x_AT_LEAST = x_AT_MOST ∨ x_AT_LEAST = x_AT_LEAST then 1 else 0))]))
    refine gs (fun t => XS.icmpNo X34.here hx rfl (hb hby at_39) rfl (teq (by simp : (if x_AT_LEAST = x_AT_MOST ∨ x_AT_LEAST = x_AT_LEAST then 1 else 0) = (1 : Int32))).2) ?_
    show Go p e below s QQ room_1.cells room_1.slots (T34.setTop (mkF m 42 #[.val (.int p0), .val (.ref x_AT_LEAST), .val (.ref x_AT_LEAST_symbol), .val (.int (1 : Int32))] []))
    refine gs (fun t => XS.iconst X34.here hx rfl (hb hby at_42)) ?_
    show Go p e below s QQ room_1.cells room_1.slots (T34.setTop (mkF m 43 #[.val (.int p0), .val (.ref x_AT_LEAST), .val (.ref x_AT_LEAST_symbol), .val (.int (1 : Int32))] [(.int (1 : Int32))]))
    refine gs (fun t => XS.goto X34.here hx rfl (pc0 := 43) (pc' := 47) rfl (hb hby at_43) (by decide) (by decide)) ?_
    show Go p e below s QQ room_1.cells room_1.slots (T34.setTop (mkF m 47 #[.val (.int p0), .val (.ref x_AT_LEAST), .val (.ref x_AT_LEAST_symbol), .val (.int (1 : Int32))] [(.int (1 : Int32))]))
    exact goB X34 hx Bd.notSynchronized Bd.returns (by simp) (w := (1 : Int32)) (by first | rfl | decide) (hb hby at_47) (by rw [← hQQ, e34]; exact ⟨rfl, N0⟩) (by decide) (by decide)
set_option maxRecDepth 65536 in
set_option maxHeartbeats 40000000 in
theorem comes_1 {Post : Tables → Env → Array Value → State → Outcome → State → Prop} (hpost : ∀ tb e args s v u, (limb_1_1.after args s (.returned v) u = true ∧ limb_1_2.after args s (.returned v) u = true ∧ True) → FrameEnd s (.returned v) u (Jvm.fieldLocs frame_1_writes args s ++ Jvm.arrayLocs frame_1_arrays args s ++ Jvm.staticLocs frame_1_statics s) 0 0 → Post tb e args s (.returned v) u) :
    ArmFor flags0 classFile x code maxLocals ret World_1 tables_1 room_1 Calls_1 rest_1 Pre_1 Post := by
  intro l hfl _ _ p e ha hc hk s m args below hf hA hF happ hP
  obtain ⟨hcalls, hrest, hpre⟩ := hP
  obtain ⟨-, -, -, hnamed, -, -, -, hat⟩ := (Spec.applies_iff hf).mp happ
  obtain ⟨hg, hn⟩ := and_e (Cond.before_iff.mp (show (Jvm.Cond.and given_1 narrow_1).before args s = true from hpre))
  obtain ⟨gc, hg0⟩ := and_e hg
  obtain ⟨w0, rfl⟩ : ∃ w0 : Value, args = #[w0] := by
    have hs : args.size = 1 := by simpa [Cond.value, given_1] using gc
    obtain ⟨L⟩ := args
    match L, hs with
    | [w0], _ => exact ⟨w0, rfl⟩
  obtain ⟨i0, ei0⟩ := is_v hg0
  obtain rfl : w0 = (.int i0) := Option.some.inj ei0
  have hw := fun d (hd : d ∈ tables_1) => atoms_spec (ws := Jvm.Cond.code x code maxLocals ret :: tables_1) hat d (List.mem_cons_of_mem _ hd)
  have hfit : Fit s := fun {y c} hc i hi => by
    obtain ⟨ha, rfl⟩ := Array.getElem?_eq_some_iff.mp hc
    have q := List.all_eq_true.mp ((Array.all_eq_true_iff_forall_mem.mp hF) _ (Array.getElem_mem ha)) i (List.mem_range.mpr hi)
    simpa [Array.getElem?_eq_getElem hi] using q
  obtain ⟨hsets, hown0⟩ := atoms_of _ (rest_1_c_eq ▸ (show rest_1_c.before _ s = true from hrest))
  have hr0 := Cond.before_iff.mp hown0
  obtain ⟨na1, nb1⟩ := and_e hn
  obtain ⟨na2, nb2⟩ := and_e nb1
  obtain ⟨na3, nb3⟩ := and_e nb2
  obtain ⟨na4, nb4⟩ := and_e nb3
  obtain ⟨na5, nb5⟩ := and_e nb4
  obtain ⟨na6, nb6⟩ := and_e nb5
  obtain ⟨na7, nb7⟩ := and_e nb6
  obtain ⟨na8, nb8⟩ := and_e nb7
  obtain ⟨na9, nb9⟩ := and_e nb8
  obtain ⟨na10, nb10⟩ := and_e nb9
  obtain ⟨na11, nb11⟩ := and_e nb10
  obtain ⟨na12, nb12⟩ := and_e nb11
  obtain ⟨na13, nb13⟩ := and_e nb12
  obtain ⟨na14, nb14⟩ := and_e nb13
  obtain ⟨na15, nb15⟩ := and_e nb14
  obtain ⟨na16, nb16⟩ := and_e nb15
  obtain ⟨na17, nb17⟩ := and_e nb16
  obtain ⟨na18, nb18⟩ := and_e nb17
  obtain ⟨na19, nb19⟩ := and_e nb18
  obtain ⟨na20, nb20⟩ := and_e nb19
  obtain ⟨na21, nb21⟩ := and_e nb20
  obtain ⟨na22, nb22⟩ := and_e nb21
  obtain ⟨na23, nb23⟩ := and_e nb22
  obtain ⟨na24, nb24⟩ := and_e nb23
  obtain ⟨na25, nb25⟩ := and_e nb24
  obtain ⟨na26, nb26⟩ := and_e nb25
  obtain ⟨na27, nb27⟩ := and_e nb26
  obtain ⟨na28, nb28⟩ := and_e nb27
  obtain ⟨na29, nb29⟩ := and_e nb28
  obtain ⟨x_LESS, ev_x_LESS⟩ := exa_v na1
  have S_x_LESS := Sta.start ev_x_LESS (Or.inr ⟨(hw _ (List.mem_of_getElem? (i := 5) rfl)), (hw _ (List.mem_of_getElem? (i := 6) rfl))⟩)
  have E_x_LESS := Exa.start ev_x_LESS na1
  obtain ⟨x_LESS_symbol, ev_x_LESS_symbol⟩ := exa_v na2
  have F_x_LESS_symbol := Fld.start ((fld_at ev_x_LESS).symm.trans ev_x_LESS_symbol)
  have E_x_LESS_symbol := Exa.start ev_x_LESS_symbol na2
  obtain ⟨x_LESS_symbol_value, ev_x_LESS_symbol_value⟩ := arr_v na3
  have F_x_LESS_symbol_value := Fld.start ((fld_at ev_x_LESS_symbol).symm.trans ev_x_LESS_symbol_value)
  obtain ⟨c_x_LESS_symbol_value, A_x_LESS_symbol_value⟩ := Arr.start ev_x_LESS_symbol_value na3
  have F_x_LESS_symbol_coder := Fld.start ((fld_at ev_x_LESS_symbol).symm.trans (own_eqI na5))
  obtain ⟨x_AT_MOST, ev_x_AT_MOST⟩ := exa_v na6
  have S_x_AT_MOST := Sta.start ev_x_AT_MOST (Or.inr ⟨(hw _ (List.mem_of_getElem? (i := 5) rfl)), (hw _ (List.mem_of_getElem? (i := 36) rfl))⟩)
  have E_x_AT_MOST := Exa.start ev_x_AT_MOST na6
  have F_x_LESS_ordinal := Fld.start ((fld_at ev_x_LESS).symm.trans (own_eqI na7))
  have F_x_AT_MOST_ordinal := Fld.start ((fld_at ev_x_AT_MOST).symm.trans (own_eqI na8))
  obtain ⟨x_AT_LEAST, ev_x_AT_LEAST⟩ := exa_v na9
  have S_x_AT_LEAST := Sta.start ev_x_AT_LEAST (Or.inr ⟨(hw _ (List.mem_of_getElem? (i := 5) rfl)), (hw _ (List.mem_of_getElem? (i := 38) rfl))⟩)
  have E_x_AT_LEAST := Exa.start ev_x_AT_LEAST na9
  have F_x_AT_LEAST_ordinal := Fld.start ((fld_at ev_x_AT_LEAST).symm.trans (own_eqI na10))
  obtain ⟨x_AT_LEAST_symbol, ev_x_AT_LEAST_symbol⟩ := exa_v na11
  have F_x_AT_LEAST_symbol := Fld.start ((fld_at ev_x_AT_LEAST).symm.trans ev_x_AT_LEAST_symbol)
  have E_x_AT_LEAST_symbol := Exa.start ev_x_AT_LEAST_symbol na11
  obtain ⟨x_AT_LEAST_symbol_value, ev_x_AT_LEAST_symbol_value⟩ := arr_v na12
  have F_x_AT_LEAST_symbol_value := Fld.start ((fld_at ev_x_AT_LEAST_symbol).symm.trans ev_x_AT_LEAST_symbol_value)
  obtain ⟨c_x_AT_LEAST_symbol_value, A_x_AT_LEAST_symbol_value⟩ := Arr.start ev_x_AT_LEAST_symbol_value na12
  have F_x_AT_LEAST_symbol_coder := Fld.start ((fld_at ev_x_AT_LEAST_symbol).symm.trans (own_eqI na14))
  obtain ⟨x_GREATER, ev_x_GREATER⟩ := exa_v na16
  have S_x_GREATER := Sta.start ev_x_GREATER (Or.inr ⟨(hw _ (List.mem_of_getElem? (i := 5) rfl)), (hw _ (List.mem_of_getElem? (i := 63) rfl))⟩)
  have E_x_GREATER := Exa.start ev_x_GREATER na16
  obtain ⟨x_GREATER_symbol, ev_x_GREATER_symbol⟩ := exa_v na17
  have F_x_GREATER_symbol := Fld.start ((fld_at ev_x_GREATER).symm.trans ev_x_GREATER_symbol)
  have E_x_GREATER_symbol := Exa.start ev_x_GREATER_symbol na17
  obtain ⟨x_GREATER_symbol_value, ev_x_GREATER_symbol_value⟩ := arr_v na18
  have F_x_GREATER_symbol_value := Fld.start ((fld_at ev_x_GREATER_symbol).symm.trans ev_x_GREATER_symbol_value)
  obtain ⟨c_x_GREATER_symbol_value, A_x_GREATER_symbol_value⟩ := Arr.start ev_x_GREATER_symbol_value na18
  have F_x_GREATER_symbol_coder := Fld.start ((fld_at ev_x_GREATER_symbol).symm.trans (own_eqI na20))
  have F_x_GREATER_ordinal := Fld.start ((fld_at ev_x_GREATER).symm.trans (own_eqI na21))
  obtain ⟨x_AT_MOST_symbol, ev_x_AT_MOST_symbol⟩ := exa_v na22
  have F_x_AT_MOST_symbol := Fld.start ((fld_at ev_x_AT_MOST).symm.trans ev_x_AT_MOST_symbol)
  have E_x_AT_MOST_symbol := Exa.start ev_x_AT_MOST_symbol na22
  obtain ⟨x_AT_MOST_symbol_value, ev_x_AT_MOST_symbol_value⟩ := arr_v na23
  have F_x_AT_MOST_symbol_value := Fld.start ((fld_at ev_x_AT_MOST_symbol).symm.trans ev_x_AT_MOST_symbol_value)
  obtain ⟨c_x_AT_MOST_symbol_value, A_x_AT_MOST_symbol_value⟩ := Arr.start ev_x_AT_MOST_symbol_value na23
  have F_x_AT_MOST_symbol_coder := Fld.start ((fld_at ev_x_AT_MOST_symbol).symm.trans (own_eqI na25))
  have V_LESS := own_arr (n := 1) rfl ev_x_LESS_symbol_value A_x_LESS_symbol_value na4
  have V_AT_LEAST := own_arr (n := 2) rfl ev_x_AT_LEAST_symbol_value A_x_AT_LEAST_symbol_value na13
  have hb_AT_LEAST := own_elem (j := 1) (z := 1) rfl (by decide) ev_x_AT_LEAST_symbol_value A_x_AT_LEAST_symbol_value na15
  have V_GREATER := own_arr (n := 1) rfl ev_x_GREATER_symbol_value A_x_GREATER_symbol_value na19
  have V_AT_MOST := own_arr (n := 2) rfl ev_x_AT_MOST_symbol_value A_x_AT_MOST_symbol_value na24
  have hb_AT_MOST := own_elem (j := 1) (z := 1) rfl (by decide) ev_x_AT_MOST_symbol_value A_x_AT_MOST_symbol_value na26
  obtain ⟨cs, ecs⟩ := is_v (Cond.before_iff.mp (hsets _ (List.mem_of_getElem? (i := 1) rfl)))
  have CS := Sta.start ecs (Or.inl (hsets _ (List.mem_of_getElem? (i := 0) rfl)))
  have hcs : ¬ (cs = (0 : Int32)) := gotF (Cond.eq_ints ecs rfl) (not_v (Cond.before_iff.mp (hsets _ (List.mem_of_getElem? (i := 2) rfl))))
  obtain ⟨fmt, efm, hfmt⟩ := isR_v (Cond.before_iff.mp (hsets _ (List.mem_of_getElem? (i := 8) rfl)))
  have SI := Sta.start efm (Or.inl (hsets _ (List.mem_of_getElem? (i := 7) rfl)))
  obtain ⟨n, o, h1, h2, h3, _, L, rfl, ⟨rfl, N⟩, hq⟩ := rm0 l s _ hw tables_1 i0 x_LESS x_AT_MOST x_GREATER x_AT_LEAST x_LESS_symbol x_LESS_symbol_value _ x_AT_MOST_symbol x_AT_MOST_symbol_value _ x_GREATER_symbol x_GREATER_symbol_value _ x_AT_LEAST_symbol x_AT_LEAST_symbol_value _ cs fmt s.heap s.heap.size (Nat.le_refl _) (Old.start s) S_x_LESS E_x_LESS F_x_LESS_symbol E_x_LESS_symbol F_x_LESS_symbol_value F_x_LESS_symbol_coder S_x_AT_MOST E_x_AT_MOST F_x_LESS_ordinal F_x_AT_MOST_ordinal S_x_AT_LEAST E_x_AT_LEAST F_x_AT_LEAST_ordinal F_x_AT_LEAST_symbol E_x_AT_LEAST_symbol F_x_AT_LEAST_symbol_value F_x_AT_LEAST_symbol_coder S_x_GREATER E_x_GREATER F_x_GREATER_symbol E_x_GREATER_symbol F_x_GREATER_symbol_value F_x_GREATER_symbol_coder F_x_GREATER_ordinal F_x_AT_MOST_symbol E_x_AT_MOST_symbol F_x_AT_MOST_symbol_value F_x_AT_MOST_symbol_coder V_LESS V_AT_MOST hb_AT_MOST V_GREATER V_AT_LEAST hb_AT_LEAST CS hcs SI hfmt p e ha hc hk s m _ below hf ((Spec.applies_iff_loose hf).mp happ).1 ⟨rfl, State.Warmed39.refl s, rfl⟩ trivial
  refine ⟨n, _, h1, h2, h3, hpost _ _ _ _ _ _ ⟨Cond.after_iff.mpr rfl, Cond.after_iff.mpr (eq_i res_at (Term.int_eval (1)) rfl), trivial⟩ ⟨hq.1, hq.2.1, (hq.2.2.sift fun y hy => Or.inr (N y hy)).mono (by decide) (by decide)⟩⟩
theorem main_1_1 : Claimed_1_1 := comes_1 fun _ _ _ _ _ _ h hF => ⟨h.1, hF⟩
theorem main_1_2 : Claimed_1_2 := comes_1 fun _ _ _ _ _ _ h hF => ⟨h.2.1, hF⟩
end Jvm.Pilot.@@N@@
namespace Jvm.Pilot.@@N@@
open Jvm Jvm.ClassFile Sem Op Lib Jvm.Free Jvm.Stand Jvm.Pilot.@@N@@.Jvm.D
/-! MADE BY PROGRAM (witnessworld.py) out of the Statement's table words and the real class files: 18 classes; the members and pool entries that the words name. The judged class is class 1, her method 2. -/
namespace start1
open Jvm.ClassFile
def u (s : String) : CpInfo := .utf8 (stringToUtf16 s)
/-- a pool by its gaps: so many unusable entries, then the entry; so many at the end -/
def gap : Nat → List CpInfo → List CpInfo
  | 0, r => r
  | n + 1, r => .unusable :: gap n r
def poolList (es : List (Nat × CpInfo)) (last : Nat) : List CpInfo := es.foldr (fun e r => gap e.1 (e.2 :: r)) (gap last [])
def pool (es : List (Nat × CpInfo)) (last : Nat) : Array CpInfo := ⟨poolList es last⟩
def fileOf (pool : Array CpInfo) (this : Nat) (attrs : Array Attribute := #[]) (ms : Array MethodInfo := #[]) (fl : Nat := 33) (sup : Nat := 0) (ifs : Array Nat := #[]) (fds : Array FieldInfo := #[]) : ClassFile where
  minorVersion := 0
  majorVersion := 65
  constantPool := pool
  accessFlags := fl
  thisClass := this
  superClass := sup
  interfaces := ifs
  fields := fds
  methods := ms
  attributes := attrs
def plain (name : String) (sup : Option ClassId) : Class where
  name := name
  kind := .ordinary
  loader := none
  accessFlags := 33
  super := sup
  interfaces := #[]
  cf := none
  fields := #[]
  methods := #[]
  instanceTypes := #[]
  staticTypes := #[]
  resolved := #[]
  callSites := []
  init := .initialized
  statics := none
  mirror := none

def pool0 : Array CpInfo := pool [(5, u "<init>"), (0, u "()V"), (1, .class_ 10), (1, u "java/lang/Object")] 113

def k0m0 : Method := { name := "<init>", desc := "()V", sig := { parameters := [], returnType := none }, accessFlags := 1, code := none }
/-- java/lang/Object -/
def k0 : Class := { plain "java/lang/Object" none with
  accessFlags := 33
  interfaces := #[]
  cf := some (fileOf pool0 8 #[] #[{ accessFlags := 1, nameIndex := 5, descriptorIndex := 6, attributes := #[] }] 33 0 #[] #[])
  fields := #[]
  methods := #[k0m0]
  instanceTypes := #[]
  staticTypes := #[]
  resolved := Array.replicate 124 none
  statics := none }

def pool1 : Array CpInfo := pool [(2, .class_ 4), (1, u "java/lang/Object"), (0, u "<init>"), (0, u "()V"), (0, .fieldref 8 9), (0, .class_ 10), (0, .nameAndType 11 12), (0, u "com/example/mean_drift/meandrift/Formula$Comparison"), (0, u "LESS"), (0, u "Lcom/example/mean_drift/meandrift/Formula$Comparison;"), (0, .fieldref 8 14), (0, .nameAndType 15 12), (0, u "AT_MOST"), (0, .fieldref 8 17), (0, .nameAndType 18 12), (0, u "GREATER"), (0, .fieldref 8 20), (0, .nameAndType 21 12), (0, u "AT_LEAST"), (0, .methodref 23 24), (0, .class_ 25), (0, .nameAndType 26 27), (0, u "com/example/mean_drift/meandrift/ComparisonIncludesBoundPinLaw"), (0, u "pick"), (0, u "(I)Lcom/example/mean_drift/meandrift/Formula$Comparison;"), (0, .methodref 8 29), (0, .nameAndType 30 31), (0, u "symbol"), (0, u "()Ljava/lang/String;"), (0, .methodref 33 34), (0, .class_ 35), (0, .nameAndType 36 37), (0, u "java/lang/String"), (0, u "length"), (0, u "()I"), (0, .methodref 33 39), (0, .nameAndType 40 41), (0, u "charAt"), (0, u "(I)C"), (0, .methodref 8 43), (0, .nameAndType 44 45), (0, u "includesBound"), (0, u "()Z"), (3, u "law"), (0, u "(I)Z")] 6

def k1m0 : Method := { name := "<init>", desc := "()V", sig := { parameters := [], returnType := none }, accessFlags := 1, code := none }
def k1c1 : Code := { maxStack := 2, maxLocals := 2, code := method_2_code, exceptionTable := #[], attributes := #[] }
def k1m1 : Method := { name := "pick", desc := "(I)Lcom/example/mean_drift/meandrift/Formula$Comparison;", sig := { parameters := [.int], returnType := some (.object "com/example/mean_drift/meandrift/Formula$Comparison") }, accessFlags := 10, code := some k1c1 }
def k1c2 : Code := { maxStack := 2, maxLocals := 4, code := code, exceptionTable := #[], attributes := #[] }
def k1m2 : Method := { name := "law", desc := "(I)Z", sig := { parameters := [.int], returnType := some .boolean }, accessFlags := 9, code := some k1c2 }
/-- com/example/mean_drift/meandrift/ComparisonIncludesBoundPinLaw -/
def k1 : Class := { plain "com/example/mean_drift/meandrift/ComparisonIncludesBoundPinLaw" (some 0) with
  accessFlags := 49
  interfaces := #[]
  cf := some (fileOf pool1 23 #[] #[{ accessFlags := 1, nameIndex := 5, descriptorIndex := 6, attributes := #[] }, { accessFlags := 10, nameIndex := 26, descriptorIndex := 27, attributes := #[] }, { accessFlags := 9, nameIndex := 49, descriptorIndex := 50, attributes := #[] }] 49 2 #[] #[])
  fields := #[]
  methods := #[k1m0, k1m1, k1m2]
  instanceTypes := #[]
  staticTypes := #[]
  resolved := Array.replicate 57 none
  statics := none }

def pool2 : Array CpInfo := pool [(1, .class_ 2), (0, u "java/lang/constant/Constable"), (0, .class_ 4), (0, u "java/lang/Object")] 6

/-- java/lang/constant/Constable -/
def k2 : Class := { plain "java/lang/constant/Constable" (some 0) with
  accessFlags := 1537
  interfaces := #[]
  cf := some (fileOf pool2 1 #[] #[] 1537 3 #[] #[])
  fields := #[]
  methods := #[]
  instanceTypes := #[]
  staticTypes := #[]
  resolved := Array.replicate 11 none
  statics := none }

def pool3 : Array CpInfo := pool [(1, .class_ 2), (0, u "java/lang/Comparable"), (0, .class_ 4), (0, u "java/lang/Object")] 7

/-- java/lang/Comparable -/
def k3 : Class := { plain "java/lang/Comparable" (some 0) with
  accessFlags := 1537
  interfaces := #[]
  cf := some (fileOf pool3 1 #[] #[] 1537 3 #[] #[])
  fields := #[]
  methods := #[]
  instanceTypes := #[]
  staticTypes := #[]
  resolved := Array.replicate 12 none
  statics := none }

def pool4 : Array CpInfo := pool [(1, .class_ 2), (0, u "java/io/Serializable"), (0, .class_ 4), (0, u "java/lang/Object")] 2

/-- java/io/Serializable -/
def k4 : Class := { plain "java/io/Serializable" (some 0) with
  accessFlags := 1537
  interfaces := #[]
  cf := some (fileOf pool4 1 #[] #[] 1537 3 #[] #[])
  fields := #[]
  methods := #[]
  instanceTypes := #[]
  staticTypes := #[]
  resolved := Array.replicate 7 none
  statics := none }

def pool5 : Array CpInfo := pool [(2, .class_ 4), (1, u "java/lang/Enum"), (0, u "name"), (0, u "Ljava/lang/String;"), (2, u "ordinal"), (0, u "I"), (1, .class_ 14), (1, u "java/lang/Object"), (4, u "hash"), (86, .class_ 108), (1, u "java/lang/Enum$EnumDesc"), (2, .class_ 112), (0, u "java/lang/constant/Constable"), (0, .class_ 114), (0, u "java/lang/Comparable"), (0, .class_ 116), (0, u "java/io/Serializable")] 87

/-- java/lang/Enum -/
def k5 : Class := { plain "java/lang/Enum" (some 0) with
  accessFlags := 1057
  interfaces := #[2, 3, 4]
  cf := some (fileOf pool5 2 #[.nestMembers #[106]] #[] 1057 12 #[111, 113, 115] #[{ accessFlags := 18, nameIndex := 5, descriptorIndex := 6, attributes := #[] }, { accessFlags := 18, nameIndex := 9, descriptorIndex := 10, attributes := #[] }, { accessFlags := 2, nameIndex := 19, descriptorIndex := 10, attributes := #[] }])
  fields := #[{ name := "name", type := (.object "java/lang/String"), accessFlags := 18, slot := 0, constantValue := 0 }, { name := "ordinal", type := .int, accessFlags := 18, slot := 1, constantValue := 0 }, { name := "hash", type := .int, accessFlags := 2, slot := 2, constantValue := 0 }]
  methods := #[]
  instanceTypes := #[(.object "java/lang/String"), .int, .int]
  staticTypes := #[]
  resolved := Array.replicate 204 none
  statics := none }

def pool6 : Array CpInfo := pool [(1, .class_ 2), (0, u "com/example/mean_drift/meandrift/Formula$Comparison"), (2, u "LESS"), (0, u "Lcom/example/mean_drift/meandrift/Formula$Comparison;"), (0, .fieldref 1 8), (0, .nameAndType 9 6), (0, u "AT_MOST"), (2, u "GREATER"), (0, .fieldref 1 14), (0, .nameAndType 15 6), (0, u "AT_LEAST"), (2, u "$VALUES"), (0, u "[Lcom/example/mean_drift/meandrift/Formula$Comparison;"), (6, .class_ 28), (1, u "java/lang/Enum"), (6, .fieldref 1 36), (0, .nameAndType 37 38), (0, u "symbol"), (0, u "Ljava/lang/String;"), (6, u "includesBound"), (0, u "()Z"), (35, u "()Ljava/lang/String;"), (9, .class_ 93), (0, u "com/example/mean_drift/meandrift/Formula")] 2

def k6c0 : Code := { maxStack := 1, maxLocals := 1, code := prog_15_method_4_code, exceptionTable := #[], attributes := #[] }
def k6m0 : Method := { name := "symbol", desc := "()Ljava/lang/String;", sig := { parameters := [], returnType := some (.object "java/lang/String") }, accessFlags := 0, code := some k6c0 }
def k6c1 : Code := { maxStack := 2, maxLocals := 1, code := prog_15_method_7_code, exceptionTable := #[], attributes := #[] }
def k6m1 : Method := { name := "includesBound", desc := "()Z", sig := { parameters := [], returnType := some .boolean }, accessFlags := 0, code := some k6c1 }
/-- com/example/mean_drift/meandrift/Formula$Comparison -/
def k6 : Class := { plain "com/example/mean_drift/meandrift/Formula$Comparison" (some 5) with
  accessFlags := 16433
  interfaces := #[]
  cf := some (fileOf pool6 1 #[.nestHost 92] #[{ accessFlags := 0, nameIndex := 37, descriptorIndex := 82, attributes := #[] }, { accessFlags := 0, nameIndex := 45, descriptorIndex := 46, attributes := #[] }] 16433 26 #[] #[{ accessFlags := 16409, nameIndex := 5, descriptorIndex := 6, attributes := #[] }, { accessFlags := 16409, nameIndex := 9, descriptorIndex := 6, attributes := #[] }, { accessFlags := 16409, nameIndex := 12, descriptorIndex := 6, attributes := #[] }, { accessFlags := 16409, nameIndex := 15, descriptorIndex := 6, attributes := #[] }, { accessFlags := 18, nameIndex := 37, descriptorIndex := 38, attributes := #[] }, { accessFlags := 4122, nameIndex := 18, descriptorIndex := 19, attributes := #[] }])
  fields := #[{ name := "LESS", type := (.object "com/example/mean_drift/meandrift/Formula$Comparison"), accessFlags := 16409, slot := 0, constantValue := 0 }, { name := "AT_MOST", type := (.object "com/example/mean_drift/meandrift/Formula$Comparison"), accessFlags := 16409, slot := 1, constantValue := 0 }, { name := "GREATER", type := (.object "com/example/mean_drift/meandrift/Formula$Comparison"), accessFlags := 16409, slot := 2, constantValue := 0 }, { name := "AT_LEAST", type := (.object "com/example/mean_drift/meandrift/Formula$Comparison"), accessFlags := 16409, slot := 3, constantValue := 0 }, { name := "symbol", type := (.object "java/lang/String"), accessFlags := 18, slot := 3, constantValue := 0 }, { name := "$VALUES", type := (.array (.object "com/example/mean_drift/meandrift/Formula$Comparison")), accessFlags := 4122, slot := 4, constantValue := 0 }]
  methods := #[k6m0, k6m1]
  instanceTypes := #[(.object "java/lang/String"), .int, .int, (.object "java/lang/String")]
  staticTypes := #[(.object "com/example/mean_drift/meandrift/Formula$Comparison"), (.object "com/example/mean_drift/meandrift/Formula$Comparison"), (.object "com/example/mean_drift/meandrift/Formula$Comparison"), (.object "com/example/mean_drift/meandrift/Formula$Comparison"), (.array (.object "com/example/mean_drift/meandrift/Formula$Comparison"))]
  resolved := Array.replicate 96 none
  statics := some 0 }

def pool7 : Array CpInfo := pool [(2, .class_ 4), (1, u "java/lang/CharSequence"), (42, .class_ 48), (0, u "java/lang/CharSequence$1CodePointIterator"), (10, .class_ 60), (0, u "java/lang/CharSequence$1CharIterator"), (5, .class_ 67), (0, u "java/lang/Object")] 63

/-- java/lang/CharSequence -/
def k7 : Class := { plain "java/lang/CharSequence" (some 0) with
  accessFlags := 1537
  interfaces := #[]
  cf := some (fileOf pool7 2 #[.nestMembers #[47, 59]] #[] 1537 66 #[] #[])
  fields := #[]
  methods := #[]
  instanceTypes := #[]
  staticTypes := #[]
  resolved := Array.replicate 131 none
  statics := none }

def pool8 : Array CpInfo := pool [(1, .class_ 2), (0, u "java/lang/constant/ConstantDesc"), (0, .class_ 4), (0, u "java/lang/Object")] 32

/-- java/lang/constant/ConstantDesc -/
def k8 : Class := { plain "java/lang/constant/ConstantDesc" (some 0) with
  accessFlags := 1537
  interfaces := #[]
  cf := some (fileOf pool8 1 #[] #[] 1537 3 #[] #[])
  fields := #[]
  methods := #[]
  instanceTypes := #[]
  staticTypes := #[]
  resolved := Array.replicate 37 none
  statics := none }

def pool9 : Array CpInfo := pool [(2, .class_ 4), (1, u "java/lang/Object"), (0, u "<init>"), (0, u "()V"), (2, .fieldref 10 11), (0, .class_ 12), (0, .nameAndType 13 14), (0, u "java/lang/String"), (0, u "value"), (0, u "[B"), (0, .fieldref 10 16), (0, .nameAndType 17 18), (0, u "coder"), (0, u "B"), (2, u "hash"), (0, u "I"), (2, u "hashIsZero"), (0, u "Z"), (11, .fieldref 10 39), (0, .nameAndType 40 26), (0, u "COMPACT_STRINGS"), (66, .class_ 109), (1, u "java/lang/StringLatin1"), (32, u "()Z"), (191, u "()I"), (0, .methodref 10 336), (0, .nameAndType 17 337), (0, u "()B"), (25, u "([BI)C"), (27, u "(II)V"), (35, u "(I)C"), (64, .methodref 10 493), (0, .nameAndType 494 142), (0, u "isLatin1"), (0, .methodref 107 496), (0, .nameAndType 497 363), (0, u "charAt"), (3, u "checkIndex"), (5, u "length"), (67, .class_ 576), (0, u "java/lang/CharSequence"), (22, u "CASE_INSENSITIVE_ORDER"), (0, u "Ljava/util/Comparator;"), (452, .fieldref 1054 1055), (0, .class_ 1056), (0, .nameAndType 1057 1058), (0, u "jdk/internal/util/Preconditions"), (0, u "SIOOBE_FORMATTER"), (0, u "Ljava/util/function/BiFunction;"), (0, .methodref 1054 1060), (0, .nameAndType 501 1061), (0, u "(IILjava/util/function/BiFunction;)I"), (39, u "serialPersistentFields"), (0, u "[Ljava/io/ObjectStreamField;"), (0, .class_ 1104), (0, u "java/lang/String$CaseInsensitiveComparator"), (1, .class_ 1107), (0, u "java/io/Serializable"), (0, .class_ 1109), (0, u "java/lang/Comparable"), (0, .class_ 1111), (0, u "java/lang/constant/Constable"), (0, .class_ 1113), (0, u "java/lang/constant/ConstantDesc"), (2, u "serialVersionUID"), (0, u "J"), (3, u "REPL"), (0, u "C"), (2, u "LATIN1"), (1, u "UTF16")] 323

def k9m0 : Method := { name := "<init>", desc := "()V", sig := { parameters := [], returnType := none }, accessFlags := 1, code := none }
def k9c1 : Code := { maxStack := 2, maxLocals := 1, code := jdk_42_method_54_code, exceptionTable := #[], attributes := #[] }
def k9m1 : Method := { name := "length", desc := "()I", sig := { parameters := [], returnType := some .int }, accessFlags := 1, code := some k9c1 }
def k9c2 : Code := { maxStack := 2, maxLocals := 2, code := jdk_42_method_56_code, exceptionTable := #[], attributes := #[] }
def k9m2 : Method := { name := "charAt", desc := "(I)C", sig := { parameters := [.int], returnType := some .char }, accessFlags := 1, code := some k9c2 }
def k9c3 : Code := { maxStack := 1, maxLocals := 1, code := jdk_42_method_152_code, exceptionTable := #[], attributes := #[] }
def k9m3 : Method := { name := "coder", desc := "()B", sig := { parameters := [], returnType := some .byte }, accessFlags := 0, code := some k9c3 }
def k9c4 : Code := { maxStack := 1, maxLocals := 1, code := jdk_42_method_154_code, exceptionTable := #[], attributes := #[] }
def k9m4 : Method := { name := "isLatin1", desc := "()Z", sig := { parameters := [], returnType := some .boolean }, accessFlags := 0, code := some k9c4 }
def k9c5 : Code := { maxStack := 3, maxLocals := 2, code := jdk_42_method_155_code, exceptionTable := #[], attributes := #[] }
def k9m5 : Method := { name := "checkIndex", desc := "(II)V", sig := { parameters := [.int, .int], returnType := none }, accessFlags := 8, code := some k9c5 }
/-- java/lang/String -/
def k9 : Class := { plain "java/lang/String" (some 0) with
  accessFlags := 49
  interfaces := #[4, 3, 7, 2, 8]
  cf := some (fileOf pool9 10 #[.nestMembers #[1103]] #[{ accessFlags := 1, nameIndex := 5, descriptorIndex := 6, attributes := #[] }, { accessFlags := 1, nameIndex := 507, descriptorIndex := 334, attributes := #[] }, { accessFlags := 1, nameIndex := 497, descriptorIndex := 427, attributes := #[] }, { accessFlags := 0, nameIndex := 17, descriptorIndex := 337, attributes := #[] }, { accessFlags := 0, nameIndex := 494, descriptorIndex := 142, attributes := #[] }, { accessFlags := 8, nameIndex := 501, descriptorIndex := 391, attributes := #[] }] 49 2 #[1106, 1108, 575, 1110, 1112] #[{ accessFlags := 18, nameIndex := 13, descriptorIndex := 14, attributes := #[] }, { accessFlags := 18, nameIndex := 17, descriptorIndex := 18, attributes := #[] }, { accessFlags := 2, nameIndex := 21, descriptorIndex := 22, attributes := #[] }, { accessFlags := 2, nameIndex := 25, descriptorIndex := 26, attributes := #[] }, { accessFlags := 26, nameIndex := 1116, descriptorIndex := 1117, attributes := #[] }, { accessFlags := 24, nameIndex := 40, descriptorIndex := 26, attributes := #[] }, { accessFlags := 26, nameIndex := 1101, descriptorIndex := 1102, attributes := #[] }, { accessFlags := 26, nameIndex := 1121, descriptorIndex := 1122, attributes := #[] }, { accessFlags := 25, nameIndex := 599, descriptorIndex := 600, attributes := #[] }, { accessFlags := 24, nameIndex := 1125, descriptorIndex := 18, attributes := #[] }, { accessFlags := 24, nameIndex := 1127, descriptorIndex := 18, attributes := #[] }])
  fields := #[{ name := "value", type := (.array .byte), accessFlags := 18, slot := 0, constantValue := 0 }, { name := "coder", type := .byte, accessFlags := 18, slot := 1, constantValue := 0 }, { name := "hash", type := .int, accessFlags := 2, slot := 2, constantValue := 0 }, { name := "hashIsZero", type := .boolean, accessFlags := 2, slot := 3, constantValue := 0 }, { name := "serialVersionUID", type := .long, accessFlags := 26, slot := 0, constantValue := 0 }, { name := "COMPACT_STRINGS", type := .boolean, accessFlags := 24, slot := 1, constantValue := 0 }, { name := "serialPersistentFields", type := (.array (.object "java/io/ObjectStreamField")), accessFlags := 26, slot := 2, constantValue := 0 }, { name := "REPL", type := .char, accessFlags := 26, slot := 3, constantValue := 0 }, { name := "CASE_INSENSITIVE_ORDER", type := (.object "java/util/Comparator"), accessFlags := 25, slot := 4, constantValue := 0 }, { name := "LATIN1", type := .byte, accessFlags := 24, slot := 5, constantValue := 0 }, { name := "UTF16", type := .byte, accessFlags := 24, slot := 6, constantValue := 0 }]
  methods := #[k9m0, k9m1, k9m2, k9m3, k9m4, k9m5]
  instanceTypes := #[(.array .byte), .byte, .int, .boolean]
  staticTypes := #[.long, .boolean, (.array (.object "java/io/ObjectStreamField")), .char, (.object "java/util/Comparator"), .byte, .byte]
  resolved := Array.replicate 1451 none
  statics := some 1 }

def pool10 : Array CpInfo := pool [(1, .class_ 2), (0, u "java/lang/String"), (1, .class_ 6), (1, u "java/lang/Object"), (0, u "<init>"), (0, u "()V"), (0, .methodref 1 10), (0, .nameAndType 11 12), (0, u "checkIndex"), (0, u "(II)V"), (1, .class_ 16), (1, u "java/lang/StringLatin1"), (36, u "([BI)C"), (67, u "$assertionsDisabled"), (0, u "Z"), (98, .class_ 223), (1, u "java/lang/StringLatin1$LinesSpliterator"), (28, u "charAt"), (137, .class_ 391), (0, u "java/lang/StringLatin1$CharsSpliterator")] 3

def k10m0 : Method := { name := "<init>", desc := "()V", sig := { parameters := [], returnType := none }, accessFlags := 0, code := none }
def k10c1 : Code := { maxStack := 2, maxLocals := 2, code := jdk_43_method_2_code, exceptionTable := #[], attributes := #[] }
def k10m1 : Method := { name := "charAt", desc := "([BI)C", sig := { parameters := [(.array .byte), .int], returnType := some .char }, accessFlags := 9, code := some k10c1 }
/-- java/lang/StringLatin1 -/
def k10 : Class := { plain "java/lang/StringLatin1" (some 0) with
  accessFlags := 48
  interfaces := #[]
  cf := some (fileOf pool10 14 #[.nestMembers #[390, 221]] #[{ accessFlags := 0, nameIndex := 7, descriptorIndex := 8, attributes := #[] }, { accessFlags := 9, nameIndex := 252, descriptorIndex := 53, attributes := #[] }] 48 4 #[] #[{ accessFlags := 4120, nameIndex := 121, descriptorIndex := 122, attributes := #[] }])
  fields := #[{ name := "$assertionsDisabled", type := .boolean, accessFlags := 4120, slot := 0, constantValue := 0 }]
  methods := #[k10m0, k10m1]
  instanceTypes := #[]
  staticTypes := #[.boolean]
  resolved := Array.replicate 395 none
  statics := none }

def pool11 : Array CpInfo := pool [(2, .class_ 4), (1, u "java/lang/Object"), (0, u "<init>"), (0, u "()V"), (17, .class_ 26), (1, u "jdk/internal/util/Preconditions"), (6, u "checkIndex"), (21, .class_ 56), (0, u "jdk/internal/util/Preconditions$4"), (57, .class_ 115), (0, u "jdk/internal/util/Preconditions$1"), (7, u "SIOOBE_FORMATTER"), (0, u "Ljava/util/function/BiFunction;"), (0, .class_ 126), (0, u "jdk/internal/util/Preconditions$2"), (3, u "AIOOBE_FORMATTER"), (0, .class_ 132), (0, u "jdk/internal/util/Preconditions$3"), (3, u "IOOBE_FORMATTER"), (41, u "(IILjava/util/function/BiFunction;)I")] 15

def k11m0 : Method := { name := "<init>", desc := "()V", sig := { parameters := [], returnType := none }, accessFlags := 1, code := none }
def k11c1 : Code := { maxStack := 3, maxLocals := 3, code := jdk_41_method_11_code, exceptionTable := #[], attributes := #[] }
def k11m1 : Method := { name := "checkIndex", desc := "(IILjava/util/function/BiFunction;)I", sig := { parameters := [.int, .int, (.object "java/util/function/BiFunction")], returnType := some .int }, accessFlags := 9, code := some k11c1 }
/-- jdk/internal/util/Preconditions -/
def k11 : Class := { plain "jdk/internal/util/Preconditions" (some 0) with
  accessFlags := 33
  interfaces := #[]
  cf := some (fileOf pool11 24 #[.nestMembers #[55, 131, 125, 114]] #[{ accessFlags := 1, nameIndex := 5, descriptorIndex := 6, attributes := #[] }, { accessFlags := 9, nameIndex := 33, descriptorIndex := 178, attributes := #[] }] 33 2 #[] #[{ accessFlags := 25, nameIndex := 123, descriptorIndex := 124, attributes := #[] }, { accessFlags := 25, nameIndex := 130, descriptorIndex := 124, attributes := #[] }, { accessFlags := 25, nameIndex := 136, descriptorIndex := 124, attributes := #[] }])
  fields := #[{ name := "SIOOBE_FORMATTER", type := (.object "java/util/function/BiFunction"), accessFlags := 25, slot := 0, constantValue := 0 }, { name := "AIOOBE_FORMATTER", type := (.object "java/util/function/BiFunction"), accessFlags := 25, slot := 1, constantValue := 0 }, { name := "IOOBE_FORMATTER", type := (.object "java/util/function/BiFunction"), accessFlags := 25, slot := 2, constantValue := 0 }]
  methods := #[k11m0, k11m1]
  instanceTypes := #[]
  staticTypes := #[(.object "java/util/function/BiFunction"), (.object "java/util/function/BiFunction"), (.object "java/util/function/BiFunction")]
  resolved := Array.replicate 194 none
  statics := some 2 }

def pool12 : Array CpInfo := pool [(9, u "<init>"), (6, .class_ 18), (1, u "java/lang/Object"), (0, u "()V"), (1, .class_ 23), (1, u "jdk/internal/util/ArraysSupport"), (0, u "LOG2_ARRAY_LONG_INDEX_SCALE"), (0, u "I"), (2, u "U"), (0, u "Ljdk/internal/misc/Unsafe;"), (8, u "BIG_ENDIAN"), (0, u "Z"), (8, u "LOG2_BYTE_BIT_SIZE"), (4, u "LOG2_ARRAY_INT_INDEX_SCALE"), (54, u "JLA"), (0, u "Ljdk/internal/access/JavaLangAccess;"), (11, u "LOG2_ARRAY_BOOLEAN_INDEX_SCALE"), (9, u "LOG2_ARRAY_BYTE_INDEX_SCALE"), (5, u "LOG2_ARRAY_CHAR_INDEX_SCALE"), (5, u "LOG2_ARRAY_SHORT_INDEX_SCALE"), (18, u "LOG2_ARRAY_FLOAT_INDEX_SCALE"), (24, u "LOG2_ARRAY_DOUBLE_INDEX_SCALE"), (89, u "T_BOOLEAN"), (2, u "T_CHAR"), (1, u "T_FLOAT"), (1, u "T_DOUBLE"), (1, u "T_BYTE"), (1, u "T_SHORT"), (1, u "T_INT"), (1, u "T_LONG"), (1, u "SOFT_MAX_ARRAY_LENGTH")] 83

def k12m0 : Method := { name := "<init>", desc := "()V", sig := { parameters := [], returnType := none }, accessFlags := 2, code := none }
/-- jdk/internal/util/ArraysSupport -/
def k12 : Class := { plain "jdk/internal/util/ArraysSupport" (some 0) with
  accessFlags := 33
  interfaces := #[]
  cf := some (fileOf pool12 21 #[] #[{ accessFlags := 2, nameIndex := 9, descriptorIndex := 19, attributes := #[] }] 33 16 #[] #[{ accessFlags := 24, nameIndex := 28, descriptorIndex := 29, attributes := #[] }, { accessFlags := 26, nameIndex := 38, descriptorIndex := 39, attributes := #[] }, { accessFlags := 25, nameIndex := 121, descriptorIndex := 25, attributes := #[] }, { accessFlags := 25, nameIndex := 131, descriptorIndex := 25, attributes := #[] }, { accessFlags := 25, nameIndex := 137, descriptorIndex := 25, attributes := #[] }, { accessFlags := 25, nameIndex := 143, descriptorIndex := 25, attributes := #[] }, { accessFlags := 25, nameIndex := 53, descriptorIndex := 25, attributes := #[] }, { accessFlags := 25, nameIndex := 24, descriptorIndex := 25, attributes := #[] }, { accessFlags := 25, nameIndex := 162, descriptorIndex := 25, attributes := #[] }, { accessFlags := 25, nameIndex := 187, descriptorIndex := 25, attributes := #[] }, { accessFlags := 26, nameIndex := 48, descriptorIndex := 25, attributes := #[] }, { accessFlags := 25, nameIndex := 277, descriptorIndex := 25, attributes := #[] }, { accessFlags := 25, nameIndex := 280, descriptorIndex := 25, attributes := #[] }, { accessFlags := 25, nameIndex := 282, descriptorIndex := 25, attributes := #[] }, { accessFlags := 25, nameIndex := 284, descriptorIndex := 25, attributes := #[] }, { accessFlags := 25, nameIndex := 286, descriptorIndex := 25, attributes := #[] }, { accessFlags := 25, nameIndex := 288, descriptorIndex := 25, attributes := #[] }, { accessFlags := 25, nameIndex := 290, descriptorIndex := 25, attributes := #[] }, { accessFlags := 25, nameIndex := 292, descriptorIndex := 25, attributes := #[] }, { accessFlags := 26, nameIndex := 108, descriptorIndex := 109, attributes := #[] }, { accessFlags := 25, nameIndex := 294, descriptorIndex := 25, attributes := #[] }])
  fields := #[{ name := "U", type := (.object "jdk/internal/misc/Unsafe"), accessFlags := 24, slot := 0, constantValue := 0 }, { name := "BIG_ENDIAN", type := .boolean, accessFlags := 26, slot := 1, constantValue := 0 }, { name := "LOG2_ARRAY_BOOLEAN_INDEX_SCALE", type := .int, accessFlags := 25, slot := 2, constantValue := 0 }, { name := "LOG2_ARRAY_BYTE_INDEX_SCALE", type := .int, accessFlags := 25, slot := 3, constantValue := 0 }, { name := "LOG2_ARRAY_CHAR_INDEX_SCALE", type := .int, accessFlags := 25, slot := 4, constantValue := 0 }, { name := "LOG2_ARRAY_SHORT_INDEX_SCALE", type := .int, accessFlags := 25, slot := 5, constantValue := 0 }, { name := "LOG2_ARRAY_INT_INDEX_SCALE", type := .int, accessFlags := 25, slot := 6, constantValue := 0 }, { name := "LOG2_ARRAY_LONG_INDEX_SCALE", type := .int, accessFlags := 25, slot := 7, constantValue := 0 }, { name := "LOG2_ARRAY_FLOAT_INDEX_SCALE", type := .int, accessFlags := 25, slot := 8, constantValue := 0 }, { name := "LOG2_ARRAY_DOUBLE_INDEX_SCALE", type := .int, accessFlags := 25, slot := 9, constantValue := 0 }, { name := "LOG2_BYTE_BIT_SIZE", type := .int, accessFlags := 26, slot := 10, constantValue := 0 }, { name := "T_BOOLEAN", type := .int, accessFlags := 25, slot := 11, constantValue := 0 }, { name := "T_CHAR", type := .int, accessFlags := 25, slot := 12, constantValue := 0 }, { name := "T_FLOAT", type := .int, accessFlags := 25, slot := 13, constantValue := 0 }, { name := "T_DOUBLE", type := .int, accessFlags := 25, slot := 14, constantValue := 0 }, { name := "T_BYTE", type := .int, accessFlags := 25, slot := 15, constantValue := 0 }, { name := "T_SHORT", type := .int, accessFlags := 25, slot := 16, constantValue := 0 }, { name := "T_INT", type := .int, accessFlags := 25, slot := 17, constantValue := 0 }, { name := "T_LONG", type := .int, accessFlags := 25, slot := 18, constantValue := 0 }, { name := "JLA", type := (.object "jdk/internal/access/JavaLangAccess"), accessFlags := 26, slot := 19, constantValue := 0 }, { name := "SOFT_MAX_ARRAY_LENGTH", type := .int, accessFlags := 25, slot := 20, constantValue := 0 }]
  methods := #[k12m0]
  instanceTypes := #[]
  staticTypes := #[(.object "jdk/internal/misc/Unsafe"), .boolean, .int, .int, .int, .int, .int, .int, .int, .int, .int, .int, .int, .int, .int, .int, .int, .int, .int, (.object "jdk/internal/access/JavaLangAccess"), .int]
  resolved := Array.replicate 378 none
  statics := none }

def pool13 : Array CpInfo := pool [(1, u "java/lang/Cloneable"), (0, .class_ 1), (0, u "java/lang/Object"), (0, .class_ 3)] 3

/-- java/lang/Cloneable -/
def k13 : Class := { plain "java/lang/Cloneable" (some 0) with
  accessFlags := 1537
  interfaces := #[]
  cf := some (fileOf pool13 2 #[] #[] 1537 4 #[] #[])
  fields := #[]
  methods := #[]
  instanceTypes := #[]
  staticTypes := #[]
  resolved := Array.replicate 8 none
  statics := none }

/-- the primitive byte -/
def k14 : Class := { plain "byte" none with kind := .primitive 'B', accessFlags := 0x411 }
/-- [B -/
def k15 : Class := { plain "[B" (some 0) with kind := .array 14 .byte, interfaces := #[13, 4], accessFlags := 1041 }

/-- the primitive int -/
def k16 : Class := { plain "int" none with kind := .primitive 'I', accessFlags := 0x411 }
/-- [I -/
def k17 : Class := { plain "[I" (some 0) with kind := .array 16 .int, interfaces := #[13, 4], accessFlags := 1041 }

def heap : Heap := #[{ cls := 6, slots := #[.ref 11, .ref 12, .ref 13, .ref 14, .null], vm := .statics 6 },
  { cls := 9, slots := #[.long 0, .int 1, .null, .int 0, .null, .int 0, .int 0], vm := .statics 9 },
  { cls := 11, slots := #[.null, .null, .null], vm := .statics 11 },
  { cls := 15, slots := #[.int 60], vm := .none },
  { cls := 15, slots := #[.int 60, .int 61], vm := .none },
  { cls := 15, slots := #[.int 62], vm := .none },
  { cls := 15, slots := #[.int 62, .int 61], vm := .none },
  { cls := 9, slots := #[.ref 3, .int 0, .int 0, .int 0], vm := .none },
  { cls := 9, slots := #[.ref 4, .int 0, .int 0, .int 0], vm := .none },
  { cls := 9, slots := #[.ref 5, .int 0, .int 0, .int 0], vm := .none },
  { cls := 9, slots := #[.ref 6, .int 0, .int 0, .int 0], vm := .none },
  { cls := 6, slots := #[.null, .int 0, .int 0, .ref 7], vm := .none },
  { cls := 6, slots := #[.null, .int 1, .int 0, .ref 8], vm := .none },
  { cls := 6, slots := #[.null, .int 2, .int 0, .ref 9], vm := .none },
  { cls := 6, slots := #[.null, .int 3, .int 0, .ref 10], vm := .none }]
def classes : Array Class := #[k0, k1, k2, k3, k4, k5, k6, k7, k8, k9, k10, k11, k12, k13, k14, k15, k16, k17]
def interned : List (Array UInt16 × Addr) := []
def slotsUsed : Nat := 53
def theMethod : MethodId := ⟨1, 2⟩
def args0 : Array Value := #[.int 1]
def aboutOver (below : List Frame) : State where
  vm := { classes := classes, interned := interned.toArray }
  heap := heap
  slotsUsed := slotsUsed
  threads := #[{ frames := .invoking theMethod args0 :: below }]
def below0 : List Frame := [.native { method := ⟨0, 0⟩, args := #[] }]
def about1 : State := aboutOver below0
def p0 : Program := .bare "" "" ""
def e0 : Env := launch0.env 0 0 0
theorem w_frames : about1.frames = Frame.invoking theMethod args0 :: below0 := rfl
set_option maxRecDepth 65536 in
theorem w_args : argsFit about1.vm theMethod args0 = true := by decide +kernel
set_option maxRecDepth 65536 in
theorem w_heap : heapFits about1 = true := by decide +kernel
set_option maxRecDepth 65536 in
theorem w_runnable : about1.curStatus? = some .runnable := by decide +kernel
set_option maxRecDepth 65536 in
theorem w_alone : about1.alone = true := by decide +kernel
set_option maxRecDepth 65536 in
theorem w_named : about1.methodNamed? x = some theMethod := by decide +kernel
set_option maxRecDepth 65536 in
theorem w_hears : about1.hears theMethod below0 = true := by decide +kernel
set_option maxRecDepth 65536 in
theorem w_ripe : about1.ripe theMethod args0 below0 = true := by decide +kernel
theorem w_running : about1.status = .running := rfl
set_option maxRecDepth 65536 in
theorem w_room : about1.hasRoom e0.platform room_1 = true :=
  launch0.hasRoom_least _ room_1 (by decide +kernel) (by decide +kernel) (by decide +kernel) (by decide +kernel) (by decide +kernel) (by decide +kernel)
theorem allAtoms_all (ts : List Jvm.Cond) (a : Array Jvm.Value) (st : Jvm.State) : (allAtoms ts).before a st = ts.all (fun c => c.before a st) := by
  induction ts with
  | nil => rfl
  | cons c t ih =>
    show (Jvm.Cond.and c (allAtoms t)).before a st = _
    rw [Jvm.Cond.before_and, ih, List.all_cons]
def words1 : List Jvm.Cond := Jvm.Cond.code x code maxLocals ret :: tables_1
/-- a 'code' word, met by the world's own term for the bytes: nothing is compared byte by byte -/
theorem code_word {y : MethodName} {bytes : ByteArray} {mx : Nat} {rt : Option FieldType} {a : Array Value} {s : State} {m : MethodId} {meth : Method} {c : Code} (h1 : s.methodNamed? y = some m) (h2 : s.vm.method? m = some meth) (h3 : meth.code = some c) (h4 : c.code = bytes)
    (h5 : (c.maxLocals == mx && c.exceptionTable.isEmpty && decide (c.maxStack ≤ mostOperands) && decide (meth.sig.returnType = rt) && !meth.locks && decide (parseMethodDescriptor y.desc = some meth.sig)) = true) : (Jvm.Cond.code y bytes mx rt).before a s = true := by
  simp only [Bool.and_eq_true, beq_iff_eq, Bool.not_eq_true', decide_eq_true_eq] at h5
  obtain ⟨⟨⟨⟨⟨g1, g2⟩, g3⟩, g4⟩, g5⟩, g6⟩ := h5
  simp [Cond.before, Cond.holds, Cond.value, h1, h2, h3, h4, g1, g2, g3, g4, g5, g6]
def isCode : Jvm.Cond → Bool
  | .code _ _ _ _ => true
  | _ => false
theorem all_split {L : List Jvm.Cond} {P : Jvm.Cond → Bool} (h1 : L.all (fun c => isCode c || P c) = true) (h2 : ∀ c ∈ L.filter isCode, P c = true) : L.all P = true := by
  refine List.all_eq_true.mpr fun c hc => ?_
  have h := List.all_eq_true.mp h1 c hc
  rcases Bool.eq_false_or_eq_true (isCode c) with hi | hi
  · exact h2 c (List.mem_filter.mpr ⟨hc, hi⟩)
  · simpa [hi] using h
set_option maxRecDepth 65536 in
theorem w_c0 : (Jvm.Cond.code x code maxLocals ret).before args0 about1 = true := code_word (m := ⟨1, 2⟩) (meth := k1m2) (c := k1c2) (by decide +kernel) rfl rfl rfl (by decide +kernel)
set_option maxRecDepth 65536 in
theorem w_c1 : (Jvm.Cond.code ({ cls := "com/example/mean_drift/meandrift/ComparisonIncludesBoundPinLaw", name := "pick", desc := "(I)Lcom/example/mean_drift/meandrift/Formula$Comparison;" } : Jvm.MethodName) method_2_code (2 : Nat) (Option.some (Jvm.ClassFile.FieldType.object "com/example/mean_drift/meandrift/Formula$Comparison"))).before args0 about1 = true := code_word (m := ⟨1, 1⟩) (meth := k1m1) (c := k1c1) (by decide +kernel) rfl rfl rfl (by decide +kernel)
set_option maxRecDepth 65536 in
theorem w_c2 : (Jvm.Cond.code ({ cls := "com/example/mean_drift/meandrift/Formula$Comparison", name := "symbol", desc := "()Ljava/lang/String;" } : Jvm.MethodName) prog_15_method_4_code (1 : Nat) (Option.some (Jvm.ClassFile.FieldType.object "java/lang/String"))).before args0 about1 = true := code_word (m := ⟨6, 0⟩) (meth := k6m0) (c := k6c0) (by decide +kernel) rfl rfl rfl (by decide +kernel)
set_option maxRecDepth 65536 in
theorem w_c3 : (Jvm.Cond.code ({ cls := "java/lang/String", name := "length", desc := "()I" } : Jvm.MethodName) jdk_42_method_54_code (1 : Nat) (Option.some Jvm.ClassFile.FieldType.int)).before args0 about1 = true := code_word (m := ⟨9, 1⟩) (meth := k9m1) (c := k9c1) (by decide +kernel) rfl rfl rfl (by decide +kernel)
set_option maxRecDepth 65536 in
theorem w_c4 : (Jvm.Cond.code ({ cls := "java/lang/String", name := "coder", desc := "()B" } : Jvm.MethodName) jdk_42_method_152_code (1 : Nat) (Option.some Jvm.ClassFile.FieldType.byte)).before args0 about1 = true := code_word (m := ⟨9, 3⟩) (meth := k9m3) (c := k9c3) (by decide +kernel) rfl rfl rfl (by decide +kernel)
set_option maxRecDepth 65536 in
theorem w_c5 : (Jvm.Cond.code ({ cls := "com/example/mean_drift/meandrift/Formula$Comparison", name := "includesBound", desc := "()Z" } : Jvm.MethodName) prog_15_method_7_code (1 : Nat) (Option.some Jvm.ClassFile.FieldType.boolean)).before args0 about1 = true := code_word (m := ⟨6, 1⟩) (meth := k6m1) (c := k6c1) (by decide +kernel) rfl rfl rfl (by decide +kernel)
set_option maxRecDepth 65536 in
theorem w_c6 : (Jvm.Cond.code ({ cls := "java/lang/String", name := "charAt", desc := "(I)C" } : Jvm.MethodName) jdk_42_method_56_code (2 : Nat) (Option.some Jvm.ClassFile.FieldType.char)).before args0 about1 = true := code_word (m := ⟨9, 2⟩) (meth := k9m2) (c := k9c2) (by decide +kernel) rfl rfl rfl (by decide +kernel)
set_option maxRecDepth 65536 in
theorem w_c7 : (Jvm.Cond.code ({ cls := "java/lang/String", name := "isLatin1", desc := "()Z" } : Jvm.MethodName) jdk_42_method_154_code (1 : Nat) (Option.some Jvm.ClassFile.FieldType.boolean)).before args0 about1 = true := code_word (m := ⟨9, 4⟩) (meth := k9m4) (c := k9c4) (by decide +kernel) rfl rfl rfl (by decide +kernel)
set_option maxRecDepth 65536 in
theorem w_c8 : (Jvm.Cond.code ({ cls := "java/lang/StringLatin1", name := "charAt", desc := "([BI)C" } : Jvm.MethodName) jdk_43_method_2_code (2 : Nat) (Option.some Jvm.ClassFile.FieldType.char)).before args0 about1 = true := code_word (m := ⟨10, 1⟩) (meth := k10m1) (c := k10c1) (by decide +kernel) rfl rfl rfl (by decide +kernel)
set_option maxRecDepth 65536 in
theorem w_c9 : (Jvm.Cond.code ({ cls := "java/lang/String", name := "checkIndex", desc := "(II)V" } : Jvm.MethodName) jdk_42_method_155_code (2 : Nat) (Option.none : Option Jvm.ClassFile.FieldType)).before args0 about1 = true := code_word (m := ⟨9, 5⟩) (meth := k9m5) (c := k9c5) (by decide +kernel) rfl rfl rfl (by decide +kernel)
set_option maxRecDepth 65536 in
theorem w_c10 : (Jvm.Cond.code ({ cls := "jdk/internal/util/Preconditions", name := "checkIndex", desc := "(IILjava/util/function/BiFunction;)I" } : Jvm.MethodName) jdk_41_method_11_code (3 : Nat) (Option.some Jvm.ClassFile.FieldType.int)).before args0 about1 = true := code_word (m := ⟨11, 1⟩) (meth := k11m1) (c := k11c1) (by decide +kernel) rfl rfl rfl (by decide +kernel)
def codes1 : List Jvm.Cond := [Jvm.Cond.code x code maxLocals ret, Jvm.Cond.code ({ cls := "com/example/mean_drift/meandrift/ComparisonIncludesBoundPinLaw", name := "pick", desc := "(I)Lcom/example/mean_drift/meandrift/Formula$Comparison;" } : Jvm.MethodName) method_2_code (2 : Nat) (Option.some (Jvm.ClassFile.FieldType.object "com/example/mean_drift/meandrift/Formula$Comparison")), Jvm.Cond.code ({ cls := "com/example/mean_drift/meandrift/Formula$Comparison", name := "symbol", desc := "()Ljava/lang/String;" } : Jvm.MethodName) prog_15_method_4_code (1 : Nat) (Option.some (Jvm.ClassFile.FieldType.object "java/lang/String")), Jvm.Cond.code ({ cls := "java/lang/String", name := "length", desc := "()I" } : Jvm.MethodName) jdk_42_method_54_code (1 : Nat) (Option.some Jvm.ClassFile.FieldType.int), Jvm.Cond.code ({ cls := "java/lang/String", name := "coder", desc := "()B" } : Jvm.MethodName) jdk_42_method_152_code (1 : Nat) (Option.some Jvm.ClassFile.FieldType.byte), Jvm.Cond.code ({ cls := "com/example/mean_drift/meandrift/Formula$Comparison", name := "includesBound", desc := "()Z" } : Jvm.MethodName) prog_15_method_7_code (1 : Nat) (Option.some Jvm.ClassFile.FieldType.boolean), Jvm.Cond.code ({ cls := "java/lang/String", name := "charAt", desc := "(I)C" } : Jvm.MethodName) jdk_42_method_56_code (2 : Nat) (Option.some Jvm.ClassFile.FieldType.char), Jvm.Cond.code ({ cls := "java/lang/String", name := "isLatin1", desc := "()Z" } : Jvm.MethodName) jdk_42_method_154_code (1 : Nat) (Option.some Jvm.ClassFile.FieldType.boolean), Jvm.Cond.code ({ cls := "java/lang/StringLatin1", name := "charAt", desc := "([BI)C" } : Jvm.MethodName) jdk_43_method_2_code (2 : Nat) (Option.some Jvm.ClassFile.FieldType.char), Jvm.Cond.code ({ cls := "java/lang/String", name := "checkIndex", desc := "(II)V" } : Jvm.MethodName) jdk_42_method_155_code (2 : Nat) (Option.none : Option Jvm.ClassFile.FieldType), Jvm.Cond.code ({ cls := "jdk/internal/util/Preconditions", name := "checkIndex", desc := "(IILjava/util/function/BiFunction;)I" } : Jvm.MethodName) jdk_41_method_11_code (3 : Nat) (Option.some Jvm.ClassFile.FieldType.int)]
set_option maxRecDepth 65536 in
theorem codes_eq : words1.filter isCode = codes1 := rfl
theorem w_codes : ∀ c ∈ words1.filter isCode, c.before args0 about1 = true := by
  rw [codes_eq]
  intro c hc
  simp only [codes1, List.mem_cons, List.not_mem_nil, or_false] at hc
  rcases hc with rfl | rfl | rfl | rfl | rfl | rfl | rfl | rfl | rfl | rfl | rfl
  · exact w_c0
  · exact w_c1
  · exact w_c2
  · exact w_c3
  · exact w_c4
  · exact w_c5
  · exact w_c6
  · exact w_c7
  · exact w_c8
  · exact w_c9
  · exact w_c10
set_option maxRecDepth 65536 in
theorem w_t1 : (words1.take 24).all (fun c => isCode c || c.before args0 about1) = true := by decide +kernel
set_option maxRecDepth 65536 in
theorem w_t2 : ((words1.drop 24).take 24).all (fun c => isCode c || c.before args0 about1) = true := by decide +kernel
set_option maxRecDepth 65536 in
theorem w_t3 : ((words1.drop 24).drop 24).all (fun c => isCode c || c.before args0 about1) = true := by decide +kernel
theorem w_tables : (allAtoms (Jvm.Cond.code x code maxLocals ret :: tables_1)).before args0 about1 = true := by
  rw [allAtoms_all]
  show words1.all (fun c => c.before args0 about1) = true
  refine all_split ?_ w_codes
  rw [← List.take_append_drop 24 words1, List.all_append, w_t1, ← List.take_append_drop 24 (words1.drop 24), List.all_append, w_t2, w_t3]
  rfl
set_option maxRecDepth 65536 in
theorem w_rest : rest_1_c.before args0 about1 = true := by decide +kernel
set_option maxRecDepth 65536 in
theorem w_case : (Jvm.Cond.and given_1 narrow_1).before args0 about1 = true := by decide +kernel
theorem w_applies : (headSpec (Jvm.Cond.code x code maxLocals ret :: tables_1) room_1).applies x e0.platform about1 = true :=
  (Spec.applies_iff w_frames).mpr ⟨w_running, w_runnable, w_alone, w_named, w_hears, w_ripe, w_room, w_tables⟩
theorem atStart : AtStart classFile x code maxLocals ret World_1 tables_1 room_1 Calls_1 rest_1 Pre_1 launch0 p0 e0 about1 theMethod args0 below0 :=
  ⟨lists_1, trivial, launch0.admits_env _ _ _, launch0.least_env, fairChoices_fair.cas, fairChoices_fair.clock, w_frames, w_args, w_heap, w_applies, trivial, w_rest, w_case⟩
end start1
theorem witness_1 : WitnessClaimed_1 := ⟨start1.p0, start1.e0, start1.about1, start1.theMethod, start1.args0, start1.below0, start1.atStart⟩
end Jvm.Pilot.@@N@@
