import JvmDerived
import JvmDerived.Pilot.@@N@@Statement
import JvmDerived.Pilot.@@N@@Code
set_option linter.unusedVariables false
set_option linter.unusedSimpArgs false
namespace Jvm
abbrev jv (x : Int64) : Slot := .val (.long x)
end Jvm
namespace Jvm.RoadKit
open Sem ClassFile Op Lib Jvm.Stand Jvm.Free Jvm.LawKit
section Own
variable {p : Program} {l : Launch} {e : Env} {R : Room} {s : State} {m : MethodId} {args : Array Value} {below : List Frame} {meth : Method} {c : Code} {T : State} {locs : List Loc} {cells slots : Nat} {Z : State} {h h' : Heap} {a b : Addr} {ty : FieldType} {ws : List Addr}
/-- from the state S the run comes to an end that Q allows -/
def Go (p : Program) (e : Env) (below : List Frame) (s : State) (Q : Option Value → Heap → List Loc → Prop) (K N : Nat) (S : State) : Prop :=
  ∃ (t : State) (o : Outcome), Steps p.tables e below S t ∧ t.status = .running ∧ Ended t below o ∧ ∃ v L, o = .returned v ∧ Q v t.heap L ∧ FrameEnd s o t L K N
variable {Q : Option Value → Heap → List Loc → Prop} {K N : Nat} {S S' : State}
theorem gs (h : ∀ t, Steps p.tables e below S' t → Steps p.tables e below S t) (k : Go p e below s Q K N S') : Go p e below s Q K N S := by
  obtain ⟨t, o, a, b⟩ := k
  exact ⟨t, o, h t a, b⟩
theorem gt (h : Steps p.tables e below S S') (k : Go p e below s Q K N S') : Go p e below s Q K N S := gs (fun _ => h.trans) k
theorem goEnd (X : Stand p l e R s m args below meth c T locs cells slots) {v : Option Value} (hlocks : meth.locks = false) (hv : meth.sig.returnType = none → v = none)
    (hs : ∀ fs, (∀ (f : JFrame) (acts : List Action), f.method = m → f.locked = none → f.entered = [] → (doReturn e (T.setTop f) acts v).1 = T.setFrames fs) → Steps p.tables e below S (T.setFrames fs))
    (hQ : Q v T.heap locs) (hk : cells ≤ K) (hn : slots ≤ N) : Go p e below s Q K N S := by
  obtain ⟨fs, hr, hrun, hended, hW, hsame⟩ := X.leave (v := v) hv hlocks
  exact ⟨_, _, hs fs hr, hrun, hended, v, locs, rfl, hQ, ⟨_, rfl⟩, hW, hsame.mono hk hn⟩
theorem goV (X : Stand p l e R s m args below meth c T locs cells slots) (hx : p.tables.exec = Jvm.exec) (hlocks : meth.locks = false) (hret : meth.sig.returnType = none) {pc : Nat} {Ls : Array Slot} (hd : decode c.code pc = .ok (.return_, 1)) (hQ : Q none T.heap locs) (hk : cells ≤ K) (hn : slots ≤ N) :
    Go p e below s Q K N (T.setTop (mkF m pc Ls [])) := goEnd X hlocks (fun _ => rfl) (fun _ hr => X.returnOut hx hret hd hr) hQ hk hn
theorem goW (X : Stand p l e R s m args below meth c T locs cells slots) (hx : p.tables.exec = Jvm.exec) (hlocks : meth.locks = false) {t : FieldType} (hret : meth.sig.returnType = some t) {pc : Nat} {Ls : Array Slot} {w : Value} {i : Instr} {rest : List Value} (hn0 : narrow t w = w)
    (hi : (i = .ireturn ∧ (t = .int ∨ t = .boolean ∨ t = .byte ∨ t = .char ∨ t = .short) ∧ ∃ z, w = .int z) ∨ (i = .lreturn ∧ t = .long ∧ ∃ z, w = .long z) ∨ (i = .dreturn ∧ t = .double ∧ ∃ z, w = .double z) ∨ (i = .freturn ∧ t = .float ∧ ∃ z, w = .float z) ∨ (i = .areturn ∧ t.isReference = true ∧ w.isRef = true))
    (hd : decode c.code pc = .ok (i, 1)) (hQ : Q (some w) T.heap locs) (hk : cells ≤ K) (hn : slots ≤ N) : Go p e below s Q K N (T.setTop (mkF m pc Ls (w :: rest))) :=
  goEnd X hlocks (fun q => by rw [hret] at q; cases q) (fun _ hr => retOut X hx hret hn0 hi hd hr) hQ hk hn
theorem goI (X : Stand p l e R s m args below meth c T locs cells slots) (hx : p.tables.exec = Jvm.exec) (hlocks : meth.locks = false) (hret : meth.sig.returnType = some .int) {pc : Nat} {Ls : Array Slot} {w : Int32} {rest : List Value} (hd : decode c.code pc = .ok (.ireturn, 1)) (hQ : Q (some (.int w)) T.heap locs) (hk : cells ≤ K) (hn : slots ≤ N) :
    Go p e below s Q K N (T.setTop (mkF m pc Ls (.int w :: rest))) := goW X hx hlocks hret rfl (Or.inl ⟨rfl, Or.inl rfl, w, rfl⟩) hd hQ hk hn
theorem goJ (X : Stand p l e R s m args below meth c T locs cells slots) (hx : p.tables.exec = Jvm.exec) (hlocks : meth.locks = false) (hret : meth.sig.returnType = some .long) {pc : Nat} {Ls : Array Slot} {w : Int64} {rest : List Value} (hd : decode c.code pc = .ok (.lreturn, 1)) (hQ : Q (some (.long w)) T.heap locs) (hk : cells ≤ K) (hn : slots ≤ N) :
    Go p e below s Q K N (T.setTop (mkF m pc Ls (.long w :: rest))) := goW X hx hlocks hret rfl (Or.inr (Or.inl ⟨rfl, rfl, w, rfl⟩)) hd hQ hk hn
theorem goR (X : Stand p l e R s m args below meth c T locs cells slots) (hx : p.tables.exec = Jvm.exec) (hlocks : meth.locks = false) {t : FieldType} (hret : meth.sig.returnType = some t) (ht : t.isReference = true) {pc : Nat} {Ls : Array Slot} {w : Value} (hw : w.isRef = true) {rest : List Value} (hd : decode c.code pc = .ok (.areturn, 1)) (hQ : Q (some w) T.heap locs) (hk : cells ≤ K) (hn : slots ≤ N) :
    Go p e below s Q K N (T.setTop (mkF m pc Ls (w :: rest))) :=
  goW X hx hlocks hret (by cases t <;> simp [FieldType.isReference] at ht <;> rfl) (Or.inr (Or.inr (Or.inr (Or.inr ⟨rfl, ht, hw⟩)))) hd hQ hk hn
theorem goB (X : Stand p l e R s m args below meth c T locs cells slots) (hx : p.tables.exec = Jvm.exec) (hlocks : meth.locks = false) {t : FieldType} (hret : meth.sig.returnType = some t) (ht : t = .boolean ∨ t = .byte ∨ t = .char ∨ t = .short) {pc : Nat} {Ls : Array Slot} {z w : Int32} {rest : List Value} (hz : nar t z = w) (hd : decode c.code pc = .ok (.ireturn, 1)) (hQ : Q (some (.int w)) T.heap locs) (hk : cells ≤ K) (hn : slots ≤ N) :
    Go p e below s Q K N (T.setTop (mkF m pc Ls (.int z :: rest))) := by
  subst hz
  exact goEnd X hlocks (fun q => by rw [hret] at q; cases q) (fun _ hr => retN X hx hret ht hd hr) hQ hk hn
/-- an array of n places; the place i holds f i -/
def Arf (Z : State) (h : Heap) (a : Addr) (ty : FieldType) (n : Nat) (f : Nat → Value) : Prop := ∃ c : Cell, Arr Z h a c ty ∧ c.slots.size = n ∧ n < 2 ^ 31 ∧ ∀ i, i < n → c.slots[i]? = some (f i)
def updv (f : Nat → Value) (j : Nat) (v : Value) : Nat → Value := fun i => if i = j then v else f i
variable {n : Nat} {f g : Nat → Value} {sl : Nat} {v : Value}
theorem Arf.lt (F : Arf Z h a ty n f) : a < h.size := by obtain ⟨c, A, -⟩ := F; exact A.lt
theorem Arf.ext (F : Arf Z h a ty n f) (E : Ext h h') : Arf Z h' a ty n f := by obtain ⟨c, A, r⟩ := F; exact ⟨c, A.ext E, r⟩
theorem Arf.other (F : Arf Z h b ty n f) (W : Wr h h' a sl v) (q : b ≠ a) : Arf Z h' b ty n f := by obtain ⟨c, A, r⟩ := F; exact ⟨c, A.other W q, r⟩
theorem Arf.keep (F : Arf Z h a ty n f) (K : Keep h h' ws) (q : a ∉ ws) : Arf Z h' a ty n f := by obtain ⟨c, A, r⟩ := F; exact ⟨c, ⟨K.2.1 a c A.1 q, A.2⟩, r⟩
theorem Arf.congr (F : Arf Z h a ty n f) (q : ∀ i, i < n → f i = g i) : Arf Z h a ty n g := by
  obtain ⟨c, A, r1, r2, r3⟩ := F
  exact ⟨c, A, r1, r2, fun i hi => by rw [← q i hi]; exact r3 i hi⟩
theorem clampLt (z : Int32) : z.toNatClampNeg < 2 ^ 31 := by
  have h1 := z.toInt_lt
  have h2 : z.toNatClampNeg = z.toInt.toNat := rfl
  omega
theorem clampOf {j : Int32} (h0 : 0 ≤ j.toInt) : (j.toNatClampNeg : Int) = j.toInt := by
  have h2 : j.toNatClampNeg = j.toInt.toNat := rfl
  omega
theorem Arf.new {k : ClassId} {z : Int32} (A : Arr Z h a (newA k ty z) ty) : Arf Z h a ty z.toNatClampNeg (fun _ => defaultValue ty) := by
  refine ⟨_, A, sz_new _ _ _, clampLt z, fun i hi => ?_⟩
  simp [newA, hi]
theorem Arf.set (F : Arf Z h a ty n f) {j : Nat} (W : Wr h h' a j v) (hj : j < n) : Arf Z h' a ty n (updv f j v) := by
  obtain ⟨c, A, r1, r2, r3⟩ := F
  refine ⟨_, A.same W, by rw [sz_set]; exact r1, r2, fun i hi => ?_⟩
  by_cases q : i = j
  · subst q
    simp [Cell.setSlot, updv, r1, hi]
  · have q' : ¬ j = i := fun x => q x.symm
    simp [Cell.setSlot, updv, q, Array.getElem?_setIfInBounds_ne q', r3 i hi]
theorem inI {cl : Cell} (S : cl.slots.size = n) {j : Int32} (hj : 0 ≤ j.toInt ∧ j.toInt < n) : ¬ (j < 0 ∨ cl.slots.size ≤ j.toNatClampNeg) := by
  have q := clampOf hj.1
  rintro (h1 | h1)
  · rw [Int32.lt_iff_toInt_lt] at h1
    have : (0 : Int32).toInt = 0 := rfl
    omega
  · omega
theorem stIf (X : Stand p l e R s m args below meth c T locs cells slots) (hx : p.tables.exec = Jvm.exec) (hZ : Z.Warmed39 s.vm) (eT : T.heap = h) (F : Arf Z h a .int n f) {j x : Int32} (hj : 0 ≤ j.toInt ∧ j.toInt < n) {g : JFrame} (hg : g.method = m) {rest : List Value} (hs : g.stack = .int x :: .int j :: .ref a :: rest) (hd : decode c.code g.pc = .ok (.iastore, 1)) :
    ∃ T' h', Stand p l e R s m args below meth c T' (locs ++ [⟨a, j.toNatClampNeg⟩]) cells slots ∧ T'.heap = h' ∧ Wr h h' a j.toNatClampNeg (.int x) ∧ Arf Z h' a .int n (updv f j.toNatClampNeg (.int x)) ∧ ∀ target, Steps p.tables e below (T'.setTop { g with pc := g.pc + 1, stack := rest }) target → Steps p.tables e below (T.setTop g) target := by
  obtain ⟨cl, A, r1, r2, r3⟩ := id F
  obtain ⟨T', h', X', e', W, st⟩ := stI X hx hZ eT A (j := j) (x := x) (inI r1 hj) hg hs hd
  have q := clampOf hj.1
  exact ⟨T', h', X', e', W, F.set W (by omega), st⟩
theorem stJf (X : Stand p l e R s m args below meth c T locs cells slots) (hx : p.tables.exec = Jvm.exec) (hZ : Z.Warmed39 s.vm) (eT : T.heap = h) (F : Arf Z h a .long n f) {j : Int32} {x : Int64} (hj : 0 ≤ j.toInt ∧ j.toInt < n) {g : JFrame} (hg : g.method = m) {rest : List Value} (hs : g.stack = .long x :: .int j :: .ref a :: rest) (hd : decode c.code g.pc = .ok (.lastore, 1)) :
    ∃ T' h', Stand p l e R s m args below meth c T' (locs ++ [⟨a, j.toNatClampNeg⟩]) cells slots ∧ T'.heap = h' ∧ Wr h h' a j.toNatClampNeg (.long x) ∧ Arf Z h' a .long n (updv f j.toNatClampNeg (.long x)) ∧ ∀ target, Steps p.tables e below (T'.setTop { g with pc := g.pc + 1, stack := rest }) target → Steps p.tables e below (T.setTop g) target := by
  obtain ⟨cl, A, r1, r2, r3⟩ := id F
  obtain ⟨T', h', X', e', W, st⟩ := stJ X hx hZ eT A (j := j) (x := x) (inI r1 hj) hg hs hd
  have q := clampOf hj.1
  exact ⟨T', h', X', e', W, F.set W (by omega), st⟩
theorem stBf (X : Stand p l e R s m args below meth c T locs cells slots) (hx : p.tables.exec = Jvm.exec) (hZ : Z.Warmed39 s.vm) (eT : T.heap = h) (F : Arf Z h a .byte n f) {j x : Int32} (hj : 0 ≤ j.toInt ∧ j.toInt < n) {g : JFrame} (hg : g.method = m) {rest : List Value} (hs : g.stack = .int x :: .int j :: .ref a :: rest) (hd : decode c.code g.pc = .ok (.bastore, 1)) :
    ∃ T' h', Stand p l e R s m args below meth c T' (locs ++ [⟨a, j.toNatClampNeg⟩]) cells slots ∧ T'.heap = h' ∧ Wr h h' a j.toNatClampNeg (.int (nar .byte x)) ∧ Arf Z h' a .byte n (updv f j.toNatClampNeg (.int (nar .byte x))) ∧ ∀ target, Steps p.tables e below (T'.setTop { g with pc := g.pc + 1, stack := rest }) target → Steps p.tables e below (T.setTop g) target := by
  obtain ⟨cl, A, r1, r2, r3⟩ := id F
  obtain ⟨T', h', X', e', W, st⟩ := stB X hx hZ eT A (j := j) (x := x) (inI r1 hj) hg hs hd
  have q := clampOf hj.1
  exact ⟨T', h', X', e', W, F.set W (by omega), st⟩
theorem stZf (X : Stand p l e R s m args below meth c T locs cells slots) (hx : p.tables.exec = Jvm.exec) (hZ : Z.Warmed39 s.vm) (eT : T.heap = h) (F : Arf Z h a .boolean n f) {j x : Int32} (hj : 0 ≤ j.toInt ∧ j.toInt < n) {g : JFrame} (hg : g.method = m) {rest : List Value} (hs : g.stack = .int x :: .int j :: .ref a :: rest) (hd : decode c.code g.pc = .ok (.bastore, 1)) :
    ∃ T' h', Stand p l e R s m args below meth c T' (locs ++ [⟨a, j.toNatClampNeg⟩]) cells slots ∧ T'.heap = h' ∧ Wr h h' a j.toNatClampNeg (.int (nar .boolean x)) ∧ Arf Z h' a .boolean n (updv f j.toNatClampNeg (.int (nar .boolean x))) ∧ ∀ target, Steps p.tables e below (T'.setTop { g with pc := g.pc + 1, stack := rest }) target → Steps p.tables e below (T.setTop g) target := by
  obtain ⟨cl, A, r1, r2, r3⟩ := id F
  obtain ⟨T', h', X', e', W, st⟩ := stZ X hx hZ eT A (j := j) (x := x) (inI r1 hj) hg hs hd
  have q := clampOf hj.1
  exact ⟨T', h', X', e', W, F.set W (by omega), st⟩
theorem stCf (X : Stand p l e R s m args below meth c T locs cells slots) (hx : p.tables.exec = Jvm.exec) (hZ : Z.Warmed39 s.vm) (eT : T.heap = h) (F : Arf Z h a .char n f) {j x : Int32} (hj : 0 ≤ j.toInt ∧ j.toInt < n) {g : JFrame} (hg : g.method = m) {rest : List Value} (hs : g.stack = .int x :: .int j :: .ref a :: rest) (hd : decode c.code g.pc = .ok (.castore, 1)) :
    ∃ T' h', Stand p l e R s m args below meth c T' (locs ++ [⟨a, j.toNatClampNeg⟩]) cells slots ∧ T'.heap = h' ∧ Wr h h' a j.toNatClampNeg (.int (nar .char x)) ∧ Arf Z h' a .char n (updv f j.toNatClampNeg (.int (nar .char x))) ∧ ∀ target, Steps p.tables e below (T'.setTop { g with pc := g.pc + 1, stack := rest }) target → Steps p.tables e below (T.setTop g) target := by
  obtain ⟨cl, A, r1, r2, r3⟩ := id F
  obtain ⟨T', h', X', e', W, st⟩ := stC X hx hZ eT A (j := j) (x := x) (inI r1 hj) hg hs hd
  have q := clampOf hj.1
  exact ⟨T', h', X', e', W, F.set W (by omega), st⟩
theorem stRf (X : Stand p l e R s m args below meth c T locs cells slots) (hx : p.tables.exec = Jvm.exec) (hZ : Z.Warmed39 s.vm) (eT : T.heap = h) (F : Arf Z h a ty n f) (hty : ty.isReference = true) {j : Int32} {v : Value} (hv : Sto Z h a v) (hj : 0 ≤ j.toInt ∧ j.toInt < n) {g : JFrame} (hg : g.method = m) {rest : List Value} (hs : g.stack = v :: .int j :: .ref a :: rest) (hd : decode c.code g.pc = .ok (.aastore, 1)) :
    ∃ T' h', Stand p l e R s m args below meth c T' (locs ++ [⟨a, j.toNatClampNeg⟩]) cells slots ∧ T'.heap = h' ∧ Wr h h' a j.toNatClampNeg v ∧ Arf Z h' a ty n (updv f j.toNatClampNeg v) ∧ ∀ target, Steps p.tables e below (T'.setTop { g with pc := g.pc + 1, stack := rest }) target → Steps p.tables e below (T.setTop g) target := by
  obtain ⟨cl, A, r1, r2, r3⟩ := id F
  obtain ⟨T', h', X', e', W, st⟩ := stR X hx hZ eT A (j := j) (v := v) (inI r1 hj) hty hv hg hs hd
  have q := clampOf hj.1
  exact ⟨T', h', X', e', W, F.set W (by omega), st⟩
theorem ldIf (X : Stand p l e R s m args below meth c T locs cells slots) (hx : p.tables.exec = Jvm.exec) (hZ : Z.Warmed39 s.vm) (eT : T.heap = h) (F : Arf Z h a .int n f) {j : Int32} {v : Value} (hj : 0 ≤ j.toInt ∧ j.toInt < n) (hv : f j.toNatClampNeg = v) {g : JFrame} (hg : g.method = m) {rest : List Value} (hs : g.stack = .int j :: .ref a :: rest) (hd : decode c.code g.pc = .ok (.iaload, 1)) :
    ∀ target, Steps p.tables e below (T.setTop { g with pc := g.pc + 1, stack := v :: rest }) target → Steps p.tables e below (T.setTop g) target := by
  obtain ⟨cl, A, r1, r2, r3⟩ := F
  have q := clampOf hj.1
  exact fun t => X.iaload hx (by rw [eT]; exact A.1) (State.isArrayOf_alike hZ.alike A.2.1) A.2.2 (inI r1 hj) (by rw [← hv]; exact r3 _ (by omega)) hg hs hd t
theorem ldJf (X : Stand p l e R s m args below meth c T locs cells slots) (hx : p.tables.exec = Jvm.exec) (hZ : Z.Warmed39 s.vm) (eT : T.heap = h) (F : Arf Z h a .long n f) {j : Int32} {v : Value} (hj : 0 ≤ j.toInt ∧ j.toInt < n) (hv : f j.toNatClampNeg = v) {g : JFrame} (hg : g.method = m) {rest : List Value} (hs : g.stack = .int j :: .ref a :: rest) (hd : decode c.code g.pc = .ok (.laload, 1)) :
    ∀ target, Steps p.tables e below (T.setTop { g with pc := g.pc + 1, stack := v :: rest }) target → Steps p.tables e below (T.setTop g) target := by
  obtain ⟨cl, A, r1, r2, r3⟩ := F
  have q := clampOf hj.1
  exact fun t => X.laload hx (by rw [eT]; exact A.1) (State.isArrayOf_alike hZ.alike A.2.1) A.2.2 (inI r1 hj) (by rw [← hv]; exact r3 _ (by omega)) hg hs hd t
theorem ldCf (X : Stand p l e R s m args below meth c T locs cells slots) (hx : p.tables.exec = Jvm.exec) (hZ : Z.Warmed39 s.vm) (eT : T.heap = h) (F : Arf Z h a .char n f) {j : Int32} {v : Value} (hj : 0 ≤ j.toInt ∧ j.toInt < n) (hv : f j.toNatClampNeg = v) {g : JFrame} (hg : g.method = m) {rest : List Value} (hs : g.stack = .int j :: .ref a :: rest) (hd : decode c.code g.pc = .ok (.caload, 1)) :
    ∀ target, Steps p.tables e below (T.setTop { g with pc := g.pc + 1, stack := v :: rest }) target → Steps p.tables e below (T.setTop g) target := by
  obtain ⟨cl, A, r1, r2, r3⟩ := F
  have q := clampOf hj.1
  exact fun t => X.caload hx (by rw [eT]; exact A.1) (State.isArrayOf_alike hZ.alike A.2.1) A.2.2 (inI r1 hj) (by rw [← hv]; exact r3 _ (by omega)) hg hs hd t
theorem ldBf (X : Stand p l e R s m args below meth c T locs cells slots) (hx : p.tables.exec = Jvm.exec) (hZ : Z.Warmed39 s.vm) (eT : T.heap = h) (F : Arf Z h a .byte n f) {j : Int32} {v : Value} (hj : 0 ≤ j.toInt ∧ j.toInt < n) (hv : f j.toNatClampNeg = v) {g : JFrame} (hg : g.method = m) {rest : List Value} (hs : g.stack = .int j :: .ref a :: rest) (hd : decode c.code g.pc = .ok (.baload, 1)) :
    ∀ target, Steps p.tables e below (T.setTop { g with pc := g.pc + 1, stack := v :: rest }) target → Steps p.tables e below (T.setTop g) target := by
  obtain ⟨cl, A, r1, r2, r3⟩ := F
  have q := clampOf hj.1
  exact fun t => X.baloadBytes hx (by rw [eT]; exact A.1) (State.isArrayOf_alike hZ.alike A.2.1) A.2.2 (inI r1 hj) (by rw [← hv]; exact r3 _ (by omega)) hg hs hd t
theorem ldZf (X : Stand p l e R s m args below meth c T locs cells slots) (hx : p.tables.exec = Jvm.exec) (hZ : Z.Warmed39 s.vm) (eT : T.heap = h) (F : Arf Z h a .boolean n f) {j : Int32} {v : Value} (hj : 0 ≤ j.toInt ∧ j.toInt < n) (hv : f j.toNatClampNeg = v) {g : JFrame} (hg : g.method = m) {rest : List Value} (hs : g.stack = .int j :: .ref a :: rest) (hd : decode c.code g.pc = .ok (.baload, 1)) :
    ∀ target, Steps p.tables e below (T.setTop { g with pc := g.pc + 1, stack := v :: rest }) target → Steps p.tables e below (T.setTop g) target := by
  obtain ⟨cl, A, r1, r2, r3⟩ := F
  have q := clampOf hj.1
  exact fun t => X.baloadBooleans hx (by rw [eT]; exact A.1) (State.isArrayOf_alike hZ.alike A.2.1) A.2.2 (inI r1 hj) (by rw [← hv]; exact r3 _ (by omega)) hg hs hd t
theorem ldRf (X : Stand p l e R s m args below meth c T locs cells slots) (hx : p.tables.exec = Jvm.exec) (hZ : Z.Warmed39 s.vm) (eT : T.heap = h) (F : Arf Z h a ty n f) (hty : ty.isReference = true) {j : Int32} {v : Value} (hj : 0 ≤ j.toInt ∧ j.toInt < n) (hv : f j.toNatClampNeg = v) {g : JFrame} (hg : g.method = m) {rest : List Value} (hs : g.stack = .int j :: .ref a :: rest) (hd : decode c.code g.pc = .ok (.aaload, 1)) :
    ∀ target, Steps p.tables e below (T.setTop { g with pc := g.pc + 1, stack := v :: rest }) target → Steps p.tables e below (T.setTop g) target := by
  obtain ⟨cl, A, r1, r2, r3⟩ := F
  have q := clampOf hj.1
  exact fun t => X.aaload hx (by rw [eT]; exact A.1) (State.isArrayOf_alike hZ.alike A.2.1) hty A.2.2 (inI r1 hj) (by rw [← hv]; exact r3 _ (by omega)) hg hs hd t
theorem stDf (X : Stand p l e R s m args below meth c T locs cells slots) (hx : p.tables.exec = Jvm.exec) (hZ : Z.Warmed39 s.vm) (eT : T.heap = h) (F : Arf Z h a .double n f) {j : Int32} {x : UInt64} (hj : 0 ≤ j.toInt ∧ j.toInt < n) {g : JFrame} (hg : g.method = m) {rest : List Value} (hs : g.stack = .double x :: .int j :: .ref a :: rest) (hd : decode c.code g.pc = .ok (.dastore, 1)) :
    ∃ T' h', Stand p l e R s m args below meth c T' (locs ++ [⟨a, j.toNatClampNeg⟩]) cells slots ∧ T'.heap = h' ∧ Wr h h' a j.toNatClampNeg (.double x) ∧ Arf Z h' a .double n (updv f j.toNatClampNeg (.double x)) ∧ ∀ target, Steps p.tables e below (T'.setTop { g with pc := g.pc + 1, stack := rest }) target → Steps p.tables e below (T.setTop g) target := by
  obtain ⟨cl, A, r1, r2, r3⟩ := id F
  obtain ⟨T', h', X', e', W, st⟩ := stD X hx hZ eT A (j := j) (x := x) (inI r1 hj) hg hs hd
  have q := clampOf hj.1
  exact ⟨T', h', X', e', W, F.set W (by omega), st⟩
theorem ldDf (X : Stand p l e R s m args below meth c T locs cells slots) (hx : p.tables.exec = Jvm.exec) (hZ : Z.Warmed39 s.vm) (eT : T.heap = h) (F : Arf Z h a .double n f) {j : Int32} {v : Value} (hj : 0 ≤ j.toInt ∧ j.toInt < n) (hv : f j.toNatClampNeg = v) {g : JFrame} (hg : g.method = m) {rest : List Value} (hs : g.stack = .int j :: .ref a :: rest) (hd : decode c.code g.pc = .ok (.daload, 1)) :
    ∀ target, Steps p.tables e below (T.setTop { g with pc := g.pc + 1, stack := v :: rest }) target → Steps p.tables e below (T.setTop g) target := by
  obtain ⟨cl, A, r1, r2, r3⟩ := F
  have q := clampOf hj.1
  exact fun t => X.daload hx (by rw [eT]; exact A.1) (State.isArrayOf_alike hZ.alike A.2.1) A.2.2 (inI r1 hj) (by rw [← hv]; exact r3 _ (by omega)) hg hs hd t
theorem lenf (X : Stand p l e R s m args below meth c T locs cells slots) (hx : p.tables.exec = Jvm.exec) (hZ : Z.Warmed39 s.vm) (eT : T.heap = h) (F : Arf Z h a ty n f) {z : Int32} (hz : n.toInt32 = z) {g : JFrame} (hg : g.method = m) {rest : List Value} (hs : g.stack = .ref a :: rest) (hd : decode c.code g.pc = .ok (.arraylength, 1)) :
    ∀ target, Steps p.tables e below (T.setTop { g with pc := g.pc + 1, stack := .int z :: rest }) target → Steps p.tables e below (T.setTop g) target := by
  obtain ⟨cl, A, r1, r2, r3⟩ := F
  subst hz r1
  exact fun t => X.arraylength hx (by rw [eT]; exact A.1) (State.isArrayOf_alike hZ.alike A.2.1) hg hs hd t
theorem toClamp {z : Int32} (q : 0 ≤ z.toInt) : z.toNatClampNeg.toInt32 = z := (back32 (fun h => by rw [Int32.lt_iff_toInt_lt] at h; have : (0 : Int32).toInt = 0 := rfl; omega)).1
theorem refCat {v : Value} (h : v.isRef = true) : v.category = 1 := by rcases ref_cases h with rfl | ⟨_, rfl⟩ <;> rfl
/-- an array that takes every object of the class C -/
def Tak (Z : State) (h : Heap) (a : Addr) (C : String) : Prop := ∃ (cell : Cell) (k kc : Class) (comp : ClassId) (t : FieldType), h[a]? = some cell ∧ Z.vm.classes[cell.cls]? = some k ∧ k.kind = .array comp t ∧ Z.vm.classes[comp]? = some kc ∧ Z.vm.findClass C = some comp
variable {C : String}
theorem Tak.ext (F : Tak Z h a C) (E : Ext h h') : Tak Z h' a C := by obtain ⟨cell, k, kc, comp, t, h1, r⟩ := F; exact ⟨cell, k, kc, comp, t, E.2 _ _ h1, r⟩
theorem Tak.wr (F : Tak Z h a C) (W : Wr h h' b sl v) : Tak Z h' a C := by
  obtain ⟨cell, k, kc, comp, t, h1, h2, r⟩ := F
  obtain ⟨c', e1, e2, -⟩ := wr_at W h1
  exact ⟨c', k, kc, comp, t, e1, by rw [e2]; exact h2, r⟩
theorem Tak.keep (F : Tak Z h a C) (K : Keep h h' ws) : Tak Z h' a C := by
  obtain ⟨cell, k, kc, comp, t, h1, h2, r⟩ := F
  obtain ⟨c', e1, e2, -⟩ := K.2.2 _ _ h1
  exact ⟨c', k, kc, comp, t, e1, by rw [e2]; exact h2, r⟩
theorem Tak.sto (F : Tak Z h a C) {y : Addr} (I : Ins Z h y C true) : Sto Z h a (.ref y) := by
  obtain ⟨cell, k, kc, comp, t, h1, h2, h3, h4, h5⟩ := F
  obtain ⟨cv, cT, g1, g2, g3⟩ := I
  cases h5.symm.trans g2
  simp only [Bool.and_eq_true, Bool.not_eq_true'] at g3
  have hv : ∃ kv, Z.vm.classes[cv.cls]? = some kv := by
    cases q : Z.vm.classes[cv.cls]? with
    | some kv => exact ⟨kv, rfl⟩
    | none =>
      by_cases e : cv.cls = comp
      · rw [e, h4] at q; cases q
      · have := g3.2
        simp [Vm.assignable, Vm.assignableAux, e, q] at this
  obtain ⟨kv, hkv⟩ := hv
  exact Or.inr ⟨cell, cv, k, kv, kc, comp, t, y, h1, h2, h3, h4, rfl, g1, g3.1, hkv, g3.2⟩
theorem Tak.of {cA : ClassId} {n : Int32} (A : Arr Z h a (newA cA ty n) ty) (O : Ovr Z cA C) : Tak Z h a C := by
  obtain ⟨k, comp, o1, o2, o3⟩ := O
  obtain ⟨kc, q, -⟩ := Vm.findClass_spec o3
  exact ⟨_, k, kc, comp, _, A.1, o1, o2, q, o3⟩
theorem Tak.ofA {cA : ClassId} {n : Int32} {ty' : FieldType} (A : Arr Z h a (newA cA ty n) ty) (O : OvrA Z cA ty' C) : Tak Z h a C := by
  obtain ⟨k, comp, o1, o2, o3⟩ := O
  obtain ⟨kc, q, -⟩ := Vm.findClass_spec o3
  exact ⟨_, k, kc, comp, _, A.1, o1, o2, q, o3⟩
theorem own_eqI {t : Term} {k : Int32} {args : Array Value} {first s : State} {o : Option Outcome} {idx : List Nat} (h : (Cond.eq t (.int k)).value args first o s idx = some true) : t.eval args first o idx s = some (.int k) := by
  simp only [Cond.value, Term.eval] at h
  cases ht : t.eval args first o idx s with
  | none => simp [ht] at h
  | some x => cases x <;> simp [ht] at h ⊢ <;> exact h
end Own
end Jvm.RoadKit
namespace Jvm.RoadKit
open Sem ClassFile Op Lib Jvm.Stand Jvm.Free Jvm.LawKit
section OwnW
variable {p : Program} {l : Launch} {e : Env} {R : Room} {s : State} {m : MethodId} {args : Array Value} {below : List Frame} {meth : Method} {c : Code} {T : State} {locs : List Loc} {cells slots : Nat} {Z : State} {h h' : Heap} {a b : Addr} {ty : FieldType} {vm0 vm1 : Vm} {a0 : Array Value} {EL : List (String × Nat)}
/-- as Go, where String constants may come to be booked on the way -/
def GoW (p : Program) (e : Env) (below : List Frame) (s : State) (Q : Option Value → Heap → List Loc → Prop) (K N : Nat) (S : State) : Prop :=
  ∃ (t : State) (o : Outcome), Steps p.tables e below S t ∧ t.status = .running ∧ Ended t below o ∧ ∃ v L, o = .returned v ∧ Q v t.heap L ∧ ReturnedEndW s o t L K N
variable {Q : Option Value → Heap → List Loc → Prop} {K N : Nat} {S S' : State}
theorem gsW (h : ∀ t, Steps p.tables e below S' t → Steps p.tables e below S t) (k : GoW p e below s Q K N S') : GoW p e below s Q K N S := by
  obtain ⟨t, o, a, b⟩ := k
  exact ⟨t, o, h t a, b⟩
theorem gtW (h : Steps p.tables e below S S') (k : GoW p e below s Q K N S') : GoW p e below s Q K N S := gsW (fun _ => h.trans) k
theorem goEndW {k0 : Nat} (SS : s.Since vm0 k0) (hk0 : k0 ≤ T.heap.size) (X : Stand p l e R (s.setVm vm0) m args below meth c T locs cells slots) {v : Option Value} (hlocks : meth.locks = false) (hv : meth.sig.returnType = none → v = none)
    (hs : ∀ fs, (∀ (f : JFrame) (acts : List Action), f.method = m → f.locked = none → f.entered = [] → (doReturn e (T.setTop f) acts v).1 = T.setFrames fs) → Steps p.tables e below S (T.setFrames fs))
    (hQ : Q v T.heap locs) (hk : cells ≤ K) (hn : slots ≤ N) : GoW p e below s Q K N S := by
  obtain ⟨fs, hr, hrun, hended, q1, q2, q3, q4⟩ := X.leaveW SS hk0 (v := v) hv hlocks
  exact ⟨_, _, hs fs hr, hrun, hended, v, locs, rfl, hQ, q1, q2, q3, q4.mono hk hn⟩
theorem goVW {k0 : Nat} (SS : s.Since vm0 k0) (hk0 : k0 ≤ T.heap.size) (X : Stand p l e R (s.setVm vm0) m args below meth c T locs cells slots) (hx : p.tables.exec = Jvm.exec) (hlocks : meth.locks = false) (hret : meth.sig.returnType = none) {pc : Nat} {Ls : Array Slot} (hd : decode c.code pc = .ok (.return_, 1)) (hQ : Q none T.heap locs) (hk : cells ≤ K) (hn : slots ≤ N) :
    GoW p e below s Q K N (T.setTop (mkF m pc Ls [])) := goEndW SS hk0 X hlocks (fun _ => rfl) (fun _ hr => X.returnOut hx hret hd hr) hQ hk hn
theorem goWW {k0 : Nat} (SS : s.Since vm0 k0) (hk0 : k0 ≤ T.heap.size) (X : Stand p l e R (s.setVm vm0) m args below meth c T locs cells slots) (hx : p.tables.exec = Jvm.exec) (hlocks : meth.locks = false) {t : FieldType} (hret : meth.sig.returnType = some t) {pc : Nat} {Ls : Array Slot} {w : Value} {i : Instr} {rest : List Value} (hn0 : narrow t w = w)
    (hi : (i = .ireturn ∧ (t = .int ∨ t = .boolean ∨ t = .byte ∨ t = .char ∨ t = .short) ∧ ∃ z, w = .int z) ∨ (i = .lreturn ∧ t = .long ∧ ∃ z, w = .long z) ∨ (i = .dreturn ∧ t = .double ∧ ∃ z, w = .double z) ∨ (i = .freturn ∧ t = .float ∧ ∃ z, w = .float z) ∨ (i = .areturn ∧ t.isReference = true ∧ w.isRef = true))
    (hd : decode c.code pc = .ok (i, 1)) (hQ : Q (some w) T.heap locs) (hk : cells ≤ K) (hn : slots ≤ N) : GoW p e below s Q K N (T.setTop (mkF m pc Ls (w :: rest))) :=
  goEndW SS hk0 X hlocks (fun q => by rw [hret] at q; cases q) (fun _ hr => retOut X hx hret hn0 hi hd hr) hQ hk hn
theorem goIW {k0 : Nat} (SS : s.Since vm0 k0) (hk0 : k0 ≤ T.heap.size) (X : Stand p l e R (s.setVm vm0) m args below meth c T locs cells slots) (hx : p.tables.exec = Jvm.exec) (hlocks : meth.locks = false) (hret : meth.sig.returnType = some .int) {pc : Nat} {Ls : Array Slot} {w : Int32} {rest : List Value} (hd : decode c.code pc = .ok (.ireturn, 1)) (hQ : Q (some (.int w)) T.heap locs) (hk : cells ≤ K) (hn : slots ≤ N) :
    GoW p e below s Q K N (T.setTop (mkF m pc Ls (.int w :: rest))) := goWW SS hk0 X hx hlocks hret rfl (Or.inl ⟨rfl, Or.inl rfl, w, rfl⟩) hd hQ hk hn
theorem goRW {k0 : Nat} (SS : s.Since vm0 k0) (hk0 : k0 ≤ T.heap.size) (X : Stand p l e R (s.setVm vm0) m args below meth c T locs cells slots) (hx : p.tables.exec = Jvm.exec) (hlocks : meth.locks = false) {t : FieldType} (hret : meth.sig.returnType = some t) (ht : t.isReference = true) {pc : Nat} {Ls : Array Slot} {w : Value} (hw : w.isRef = true) {rest : List Value} (hd : decode c.code pc = .ok (.areturn, 1)) (hQ : Q (some w) T.heap locs) (hk : cells ≤ K) (hn : slots ≤ N) :
    GoW p e below s Q K N (T.setTop (mkF m pc Ls (w :: rest))) :=
  goWW SS hk0 X hx hlocks hret (by cases t <;> simp [FieldType.isReference] at ht <;> rfl) (Or.inr (Or.inr (Or.inr (Or.inr ⟨rfl, ht, hw⟩)))) hd hQ hk hn
theorem goBW {k0 : Nat} (SS : s.Since vm0 k0) (hk0 : k0 ≤ T.heap.size) (X : Stand p l e R (s.setVm vm0) m args below meth c T locs cells slots) (hx : p.tables.exec = Jvm.exec) (hlocks : meth.locks = false) {t : FieldType} (hret : meth.sig.returnType = some t) (ht : t = .boolean ∨ t = .byte ∨ t = .char ∨ t = .short) {pc : Nat} {Ls : Array Slot} {z w : Int32} {rest : List Value} (hz : nar t z = w) (hd : decode c.code pc = .ok (.ireturn, 1)) (hQ : Q (some (.int w)) T.heap locs) (hk : cells ≤ K) (hn : slots ≤ N) :
    GoW p e below s Q K N (T.setTop (mkF m pc Ls (.int z :: rest))) := by
  subst hz
  exact goEndW SS hk0 X hlocks (fun q => by rw [hret] at q; cases q) (fun _ hr => retN X hx hret ht hd hr) hQ hk hn
/-- behind a step that may book: the base is another -/
theorem own_reb {own : String} {cl : ClassId} {k0 k1 : Nat} (hZ : Z.Warmed39 (s.setVm vm0).vm) (hown : (s.setVm vm0).vm.findClass own = some cl) (SS : s.Since vm0 k0) (S2 : (s.setVm vm0).Since vm1 k1) (hk : k0 ≤ k1) :
    Z.Warmed39 (s.setVm vm1).vm ∧ (s.setVm vm1).vm.findClass own = some cl ∧ s.Since vm1 k1 :=
  ⟨State.Warmed39.trans (t := s.setVm vm0) hZ S2.1, by rw [show (s.setVm vm1).vm = vm1 from rfl, S2.1.alike.findClass]; exact hown, SS.trans S2 hk⟩
theorem own_chNil : CHv Z [] vm0 h := fun _ q => by cases q
theorem own_backH {y : MethodName} {bytes : ByteArray} {maxL : Nat} {ret : Option FieldType} {rm : Room} {len W : Nat} {as' : Array Value}
    (hM : MetFree l y (head1 [Cond.code y bytes maxL ret] rm) (fun a U => a = as' ∧ Z.Warmed39 U.vm ∧ U.heap = h ∧ CHv Z EL U.vm h) (fun _ _ _ _ _ => True) (fun _ U o U' => ∃ v L, o = .returned v ∧ Q v U'.heap L ∧ ReturnedEndW U o U' L rm.cells rm.slots))
    (hZ : Z.Warmed39 (s.setVm vm0).vm) (wc : (Cond.code y bytes maxL ret).before a0 Z = true) (wz : (Cond.initialized y.cls).before a0 Z = true) (hf : rm.frames + 1 ≤ R.frames) (hl : W + (maxL + 11) + rm.locals ≤ R.locals) (hEL : EW Z a0 EL) (H : CHv Z EL vm0 h) :
    BackS l R p e below (s.setVm vm0) args y len W (fun A a => a = as' ∧ A.U.heap = h ∧ A.cells + rm.cells ≤ R.cells ∧ A.slots + rm.slots ≤ R.slots)
      (fun A _ v B => ∃ L, Q v B.U.heap L ∧ B.locs = A.locs ++ L ∧ B.cells = A.cells + rm.cells ∧ B.slots = A.slots + rm.slots) :=
  BackS.of_freeW (bytes := bytes) (maxL := maxL) (ret := ret) (E := fun _ _ o t L k n => k = rm.cells ∧ n = rm.slots ∧ ∃ v, o = .returned v ∧ Q v t.heap L) hM hf hl
    (fun m meth c A a Y hp => by
      have hU : Z.Warmed39 A.U.vm := wtrans (s := s.setVm vm0) hZ Y.warmed
      refine ⟨?_, mv hU wc, mv hU wz, hp.2.2.1, hp.2.2.2⟩
      show (Cond.and _ .tt).before a A.U = true
      rw [Cond.before_and, mv hU wc]; rfl)
    (fun m meth c A a g mk Y hp => ⟨hp.1, wtrans (s := s.setVm vm0) hZ Y.warmed, hp.2.1, (CHv.at Y hZ hEL H).1⟩) (fun _ _ _ _ _ _ _ _ _ => trivial)
    (fun _ _ _ _ ⟨v, L, h1, h2, h3⟩ => ⟨L, _, _, h3, rfl, rfl, v, h1, h2⟩)
    (fun m meth c A a g mk v t L k n Y hp _ _ q => by
      obtain ⟨e1, e2, v', e3, e4⟩ := q
      cases e3
      subst e1 e2
      exact ⟨L, e4, rfl, rfl, rfl⟩)
theorem own_fldne {C n d : String} {v w : Value} (F : Fld Z h a C n d v) (G : Fld Z h b C n d w) (q : v ≠ w) : a ≠ b := fun e1 => by
  subst e1
  obtain ⟨c1, cf1, k1, i1, f1, q1, q2, -, -, -, -, q3⟩ := F
  obtain ⟨c2, cf2, k2, i2, f2, r1, r2, -, -, -, -, r3⟩ := G
  have e2 := Option.some.inj (q1.symm.trans r1)
  have e3 := Option.some.inj (q2.symm.trans r2)
  simp only [Prod.mk.injEq] at e3
  obtain ⟨-, -, -, e4⟩ := e3
  subst e2 e4
  exact q (Option.some.inj (q3.symm.trans r3))
theorem own_ne0 {C n d : String} {v : Value} {f : Nat → Value} (F : Fld Z h a C n d v) (A : Arf Z h b ty 0 f) : a ≠ b := fun e1 => by
  subst e1
  obtain ⟨c1, cf1, k1, i1, f1, q1, -, -, -, -, -, q3⟩ := F
  obtain ⟨c2, A, r1, -, -⟩ := A
  have e2 := Option.some.inj (q1.symm.trans A.1)
  subst e2
  have := (Array.getElem?_eq_some_iff.mp q3).1
  omega
theorem own_arf0 {k : ClassId} {dv : Value} {f : Nat → Value} (A : Arv Z h b k ty 0 [] dv) : Arf Z h b ty 0 f := by
  obtain ⟨c1, A, -, r, -, -, -⟩ := A
  exact ⟨c1, A, r, by decide, fun i hi => absurd hi (Nat.not_lt_zero _)⟩
end OwnW
end Jvm.RoadKit
namespace Jvm.Pilot.@@N@@
open Jvm Jvm.ClassFile Sem Op Lib Jvm.Free Jvm.Stand Jvm.LawKit Jvm.RoadKit Bundle Jvm.Pilot.@@N@@.Jvm.D
theorem pd_0 : parseMethodDescriptor "([CIILjava/lang/Void;)V" = some ⟨[(.array .char), .int, .int, (.object "java/lang/Void")], none⟩ := by decide +kernel
theorem pd_1 : parseMethodDescriptor "([CI[BII)I" = some ⟨[(.array .char), .int, (.array .byte), .int, .int], some .int⟩ := by decide +kernel
theorem pd_2 : parseMethodDescriptor "([CII)[B" = some ⟨[(.array .char), .int, .int], some (.array .byte)⟩ := by decide +kernel
theorem pd_3 : parseMethodDescriptor "([BI)B" = some ⟨[(.array .byte), .int], some .byte⟩ := by decide +kernel
theorem pd_4 : parseMethodDescriptor "([C)V" = some ⟨[(.array .char)], none⟩ := by decide +kernel
theorem pd_5 : parseMethodDescriptor "(Ljava/lang/Object;Ljava/lang/String;)Ljava/lang/Object;" = some ⟨[(.object "java/lang/Object"), (.object "java/lang/String")], some (.object "java/lang/Object")⟩ := by decide +kernel
theorem pd_6 : parseMethodDescriptor "(Lcom/example/outboxd/outboxd/relay/Outcome$Kind;Ljava/lang/String;)V" = some ⟨[(.object "com/example/outboxd/outboxd/relay/Outcome$Kind"), (.object "java/lang/String")], none⟩ := by decide +kernel
theorem pd_7 : parseMethodDescriptor "()B" = some ⟨[], some .byte⟩ := by decide +kernel
theorem pd_8 : parseMethodDescriptor "(IIII)Ljava/lang/String;" = some ⟨[.int, .int, .int, .int], some (.object "java/lang/String")⟩ := by decide +kernel
theorem pd_9 : parseMethodDescriptor "(Ljava/lang/String;)Lcom/example/outboxd/outboxd/relay/Outcome;" = some ⟨[(.object "java/lang/String")], some (.object "com/example/outboxd/outboxd/relay/Outcome")⟩ := by decide +kernel
theorem pd_10 : parseMethodDescriptor "()Lcom/example/outboxd/outboxd/relay/Outcome$Kind;" = some ⟨[], some (.object "com/example/outboxd/outboxd/relay/Outcome$Kind")⟩ := by decide +kernel
theorem pd_11 : parseMethodDescriptor "()Ljava/lang/String;" = some ⟨[], some (.object "java/lang/String")⟩ := by decide +kernel
theorem pd_12 : parseMethodDescriptor "()I" = some ⟨[], some .int⟩ := by decide +kernel
theorem pd_13 : parseMethodDescriptor "(Ljava/lang/Object;)Z" = some ⟨[(.object "java/lang/Object")], some .boolean⟩ := by decide +kernel
theorem own_shr0 (z : Int32) : z >>> ((0 : Int32) &&& 31) = z := by
  have e := c_ishr z 0 0 (by decide)
  rw [← Int32.toInt_inj, e]
  simp
theorem own_char (x : Int32) : nar .char (x &&& (255 : Int32)) = x &&& (255 : Int32) := i2c_mask x
def own_c (x0 x1 x2 : Int32) : Nat → Value := fun i => .int (if i = 0 then x0 else if i = 1 then x1 else x2)
def own_b (x0 x1 x2 : Int32) : Nat → Value := fun i => .int (nar .byte ((if i = 0 then x0 else if i = 1 then x1 else x2).toInt8.toInt32))
def own_EL : List (String × Nat) := [("java/lang/String", 7)]
theorem own_le (x : Int32) : ¬ ((255 : Int32) < x &&& (255 : Int32)) := by
  intro q
  have e := c_mask x 255 8 (by decide) (by decide)
  rw [Int32.lt_iff_toInt_lt] at q
  have k : (255 : Int32).toInt = 255 := rfl
  omega
theorem own_sub : ∀ q ∈ own_EL, q ∈ consts_1 := by simp [own_EL, consts_1]
theorem own_3 (x : Int32) : x &&& (3 : Int32) = 0 ∨ x &&& (3 : Int32) = 1 ∨ x &&& (3 : Int32) = 2 ∨ x &&& (3 : Int32) = 3 := by
  have e := c_mask x 3 2 (by decide) (by decide)
  rw [← Int32.toInt_inj, ← Int32.toInt_inj, ← Int32.toInt_inj, ← Int32.toInt_inj]
  have k0 : (0 : Int32).toInt = 0 := rfl
  have k1 : (1 : Int32).toInt = 1 := rfl
  have k2 : (2 : Int32).toInt = 2 := rfl
  have k3 : (3 : Int32).toInt = 3 := rfl
  omega

theorem own_wS {Z : State} {a0 : Array Value} (hw : ∀ d ∈ tables_1, d.before a0 Z = true) : ∀ a ∈ Bundle.stringAtoms, a.before a0 Z = true := by
  intro a ha
  simp only [Bundle.stringAtoms, Bundle.sN, List.mem_cons, List.not_mem_nil, or_false] at ha
  rcases ha with rfl | rfl | rfl | rfl | rfl | rfl | rfl
  · exact (hw _ (List.mem_of_getElem? (i := 7) rfl))
  · exact (hw _ (List.mem_of_getElem? (i := 6) rfl))
  · exact (hw _ (List.mem_of_getElem? (i := 23) rfl))
  · exact (hw _ (List.mem_of_getElem? (i := 33) rfl))
  · exact (hw _ (List.mem_of_getElem? (i := 31) rfl))
  · exact (hw _ (List.mem_of_getElem? (i := 44) rfl))
  · exact (hw _ (List.mem_of_getElem? (i := 45) rfl))
theorem own_EW {Z : State} {a0 : Array Value} (hw : ∀ d ∈ tables_1, d.before a0 Z = true) : EW Z a0 own_EL := EW.cons (text := "") (hw _ (List.mem_of_getElem? (i := 85) rfl)) (by simp) EW.nil
theorem d3_0 : decode jdk_42_method_149_code 0 = .ok (.aload_n 0, 1) := by decide +kernel
theorem d3_1 : decode jdk_42_method_149_code 1 = .ok (.invokespecial 1, 3) := by decide +kernel
theorem d3_4 : decode jdk_42_method_149_code 4 = .ok (.iload_n 3, 1) := by decide +kernel
theorem d3_5 : decode jdk_42_method_149_code 5 = .ok (.ifCond .ne 22, 3) := by decide +kernel
theorem d3_8 : decode jdk_42_method_149_code 8 = .ok (.aload_n 0, 1) := by decide +kernel
theorem d3_9 : decode jdk_42_method_149_code 9 = .ok (.ldc 7, 2) := by decide +kernel
theorem d3_11 : decode jdk_42_method_149_code 11 = .ok (.getfield 9, 3) := by decide +kernel
theorem d3_14 : decode jdk_42_method_149_code 14 = .ok (.putfield 9, 3) := by decide +kernel
theorem d3_17 : decode jdk_42_method_149_code 17 = .ok (.aload_n 0, 1) := by decide +kernel
theorem d3_18 : decode jdk_42_method_149_code 18 = .ok (.ldc 7, 2) := by decide +kernel
theorem d3_20 : decode jdk_42_method_149_code 20 = .ok (.getfield 15, 3) := by decide +kernel
theorem d3_23 : decode jdk_42_method_149_code 23 = .ok (.putfield 15, 3) := by decide +kernel
theorem d3_26 : decode jdk_42_method_149_code 26 = .ok (.return_, 1) := by decide +kernel
theorem d3_27 : decode jdk_42_method_149_code 27 = .ok (.getstatic 38, 3) := by decide +kernel
theorem d3_30 : decode jdk_42_method_149_code 30 = .ok (.ifCond .eq 28, 3) := by decide +kernel
theorem d3_33 : decode jdk_42_method_149_code 33 = .ok (.aload_n 1, 1) := by decide +kernel
theorem d3_34 : decode jdk_42_method_149_code 34 = .ok (.iload_n 2, 1) := by decide +kernel
theorem d3_35 : decode jdk_42_method_149_code 35 = .ok (.iload_n 3, 1) := by decide +kernel
theorem d3_36 : decode jdk_42_method_149_code 36 = .ok (.invokestatic 177, 3) := by decide +kernel
theorem d3_39 : decode jdk_42_method_149_code 39 = .ok (.astore 5, 2) := by decide +kernel
theorem d3_41 : decode jdk_42_method_149_code 41 = .ok (.aload_n 0, 1) := by decide +kernel
theorem d3_42 : decode jdk_42_method_149_code 42 = .ok (.aload 5, 2) := by decide +kernel
theorem d3_44 : decode jdk_42_method_149_code 44 = .ok (.iload_n 3, 1) := by decide +kernel
theorem d3_45 : decode jdk_42_method_149_code 45 = .ok (.invokestatic 47, 3) := by decide +kernel
theorem d3_48 : decode jdk_42_method_149_code 48 = .ok (.putfield 15, 3) := by decide +kernel
theorem d3_51 : decode jdk_42_method_149_code 51 = .ok (.aload_n 0, 1) := by decide +kernel
theorem d3_52 : decode jdk_42_method_149_code 52 = .ok (.aload 5, 2) := by decide +kernel
theorem d3_54 : decode jdk_42_method_149_code 54 = .ok (.putfield 9, 3) := by decide +kernel
theorem d3_57 : decode jdk_42_method_149_code 57 = .ok (.return_, 1) := by decide +kernel
theorem d3_58 : decode jdk_42_method_149_code 58 = .ok (.aload_n 0, 1) := by decide +kernel
theorem d3_59 : decode jdk_42_method_149_code 59 = .ok (.iconst 1, 1) := by decide +kernel
theorem d3_60 : decode jdk_42_method_149_code 60 = .ok (.putfield 15, 3) := by decide +kernel
theorem d3_63 : decode jdk_42_method_149_code 63 = .ok (.aload_n 0, 1) := by decide +kernel
theorem d3_64 : decode jdk_42_method_149_code 64 = .ok (.aload_n 1, 1) := by decide +kernel
theorem d3_65 : decode jdk_42_method_149_code 65 = .ok (.iload_n 2, 1) := by decide +kernel
theorem d3_66 : decode jdk_42_method_149_code 66 = .ok (.iload_n 3, 1) := by decide +kernel
theorem d3_67 : decode jdk_42_method_149_code 67 = .ok (.invokestatic 180, 3) := by decide +kernel
theorem d3_70 : decode jdk_42_method_149_code 70 = .ok (.putfield 9, 3) := by decide +kernel
theorem d3_73 : decode jdk_42_method_149_code 73 = .ok (.return_, 1) := by decide +kernel
theorem pn_3 : plainName "java/lang/String" = true := by first | (simp [plainName, overriddenIn]; done) | decide +kernel
def QrmS0 (Z : State) (r0 : Addr) (r1 : Addr) (x0 : Int32) (x1 : Int32) (x2 : Int32) (cs : Int32) (h0 : Heap) (n0 : Nat) (v : Option Value) (h : Heap) (L : List Loc) : Prop := v = none ∧ Fr n0 L ∧ Keep h0 h [r0] ∧ ∃ d : Addr, Fld Z h r0 "java/lang/String" "value" "[B" (.ref d) ∧ Fld Z h r0 "java/lang/String" "coder" "B" (.int (0 : Int32)) ∧ Arf Z h d .byte 0 (own_b x0 x1 x2)
set_option maxRecDepth 65536 in
set_option maxHeartbeats 40000000 in
theorem rmS0 (l : Launch) (Z : State) (a0 : Array Value) (hw : ∀ d ∈ tables_1, d.before a0 Z = true) (ws : List Jvm.Cond) (r0 : Addr) (r1 : Addr) (x0 : Int32) (x1 : Int32) (x2 : Int32) (cs : Int32) (h0 : Heap) (n0 : Nat) (Z0 : n0 ≤ h0.size) (OLD : Old Z n0 h0) (CS : Sta Z Z.heap "java/lang/String" "COMPACT_STRINGS" "Z" (.int cs)) (hcs : ¬ (cs = (0 : Int32))) (F_value_r0 : Fld Z h0 r0 "java/lang/String" "value" "[B" .null) (F_coder_r0 : Fld Z h0 r0 "java/lang/String" "coder" "B" (.int (0 : Int32))) (E_r0 : Exa Z h0 r0 "java/lang/String") (ge_r0 : n0 ≤ r0) (ne_r0_r1 : r0 ≠ r1) (V_r1 : Arf Z h0 r1 .char 0 (own_c x0 x1 x2)) (hx0 : ¬ ((255 : Int32) < x0)) (hx1 : ¬ ((255 : Int32) < x1)) (hx2 : ¬ ((255 : Int32) < x2)) :
    MetFree l (⟨"java/lang/String", "<init>", "([CIILjava/lang/Void;)V"⟩ : MethodName) (head1 (Jvm.Cond.code (⟨"java/lang/String", "<init>", "([CIILjava/lang/Void;)V"⟩ : MethodName) jdk_42_method_149_code 6 none :: ws) ({ frames := 1, cells := 2, slots := 4, locals := 12 } : Room)) (fun a U => a = #[(.ref r0), (.ref r1), (.int (0 : Int32)), (.int (0 : Int32)), .null] ∧ Z.Warmed39 U.vm ∧ U.heap = h0 ∧ CHv Z own_EL U.vm h0) (fun _ _ _ _ _ => True) (fun _ U o U' => ∃ v L, o = .returned v ∧ QrmS0 Z r0 r1 x0 x1 x2 cs h0 n0 v U'.heap L ∧ ReturnedEndW U o U' L ({ frames := 1, cells := 2, slots := 4, locals := 12 } : Room).cells ({ frames := 1, cells := 2, slots := 4, locals := 12 } : Room).slots) := by
  refine MetFree.of_bodySF (plainFor_of_name pn_3) hisR ?_
  intro p e s m args below meth c s₁ Bd hml0 hP hK
  obtain ⟨rfl, hZ, hh, CH⟩ := hP
  have hx := Bd.exec
  have hby := Bd.bytes
  have hml : c.maxLocals = 6 := hml0
  have hown : s.vm.findClass "java/lang/String" = some m.cls := findClass_of_methodNamed Bd.named
  have hnm := (name_of_methodNamed Bd.named Bd.method).1
  have X0 : Stand p l e ({ frames := 1, cells := 2, slots := 4, locals := 12 } : Room) s m #[(.ref r0), (.ref r1), (.int (0 : Int32)), (.int (0 : Int32)), .null] below meth c s₁ [] 0 0 := Stand.of_body Bd
  have e0 : s₁.heap = h0 := by rw [← hh, Bd.state]; rfl
  have N0 := Fr.nil n0
  have ZZ := Z0
  obtain ⟨v0, hv0⟩ : ∃ z, z = s.vm := ⟨_, rfl⟩
  have SS : s.Since v0 h0.size := by rw [hv0]; exact (State.WarmedH.refl s).since _
  have SK : h0.size ≤ h0.size := Nat.le_refl _
  replace X0 : Stand p l e ({ frames := 1, cells := 2, slots := 4, locals := 12 } : Room) (s.setVm v0) m #[(.ref r0), (.ref r1), (.int (0 : Int32)), (.int (0 : Int32)), .null] below meth c s₁ [] 0 0 := by rw [hv0]; exact X0
  replace hZ : Z.Warmed39 (s.setVm v0).vm := by rw [hv0]; exact hZ
  replace hown : (s.setVm v0).vm.findClass "java/lang/String" = some m.cls := by rw [hv0]; exact hown
  replace CH : CHv Z own_EL v0 h0 := by rw [hv0]; exact CH
  have KK : Keep h0 h0 [r0] := Keep.refl h0 _
  show GoW p e below s (QrmS0 Z r0 r1 x0 x1 x2 cs h0 n0) 2 4 (s₁.setTop (entryFrame m #[(.ref r0), (.ref r1), (.int (0 : Int32)), (.int (0 : Int32)), .null] 6))
  generalize hQQ : (QrmS0 Z r0 r1 x0 x1 x2 cs h0 n0) = QQ
  refine gsW (fun t k => castTop (g' := (mkF m 0 #[rv r0, rv r1, iv 0, iv 0, .val .null, .unset] [])) (by first | (simp [entryFrame, mkF, argsToLocals, Value.category, maxLocals]; done) | rfl) k) ?_
  show GoW p e below s QQ 2 4 (s₁.setTop (mkF m 0 #[rv r0, rv r1, iv 0, iv 0, .val .null, .unset] []))
  refine gsW (fun t => XS.aloadN X0.here hx rfl (hb hby d3_0) rfl rfl) ?_
  show GoW p e below s QQ 2 4 (s₁.setTop (mkF m 1 #[rv r0, rv r1, iv 0, iv 0, .val .null, .unset] [(.ref r0)]))
  obtain ⟨T1, X1, e1, st1⟩ := initO X0 hx hZ hown (hw _ (List.mem_of_getElem? (i := 15) rfl)) (hw _ (List.mem_of_getElem? (i := 16) rfl)) (hw _ (List.mem_of_getElem? (i := 17) rfl)) e0 (g := (mkF m 1 #[rv r0, rv r1, iv 0, iv 0, .val .null, .unset] [(.ref r0)])) rfl (by rw [hml]; rfl) rfl (hb hby d3_1) (by decide) (W := 0) (by show 2 * 0 + _ ≤ _; exact Nat.le_of_eq rfl) (by decide)
  refine gsW st1 ?_
  show GoW p e below s QQ 2 4 (T1.setTop (mkF m 4 #[rv r0, rv r1, iv 0, iv 0, .val .null, .unset] []))
  refine gsW (fun t => XS.iloadN X1.here hx rfl (hb hby d3_4) rfl) ?_
  show GoW p e below s QQ 2 4 (T1.setTop (mkF m 5 #[rv r0, rv r1, iv 0, iv 0, .val .null, .unset] [(.int (0 : Int32))]))
  refine gsW (fun t => XS.ifNo X1.here hx rfl (hb hby d3_5) rfl ((if0 _ _).trans (teq (by decide : (0 : Int32) = (0 : Int32))).2)) ?_
  show GoW p e below s QQ 2 4 (T1.setTop (mkF m 8 #[rv r0, rv r1, iv 0, iv 0, .val .null, .unset] []))
  refine gsW (fun t => XS.aloadN X1.here hx rfl (hb hby d3_8) rfl rfl) ?_
  show GoW p e below s QQ 2 4 (T1.setTop (mkF m 9 #[rv r0, rv r1, iv 0, iv 0, .val .null, .unset] [(.ref r0)]))
  obtain ⟨b2, T2, h2, k2, d2, kc2, X2, e2, E2, S2, SK2, hZ2, hown2, Ex2, C2, V2, A2, -, -, -, L2, -, st2⟩ := ldcCH (EL := own_EL) X1 hx hZ hown (hw _ (List.mem_of_getElem? (i := 85) rfl)) (own_wS hw) e1 SS SK (own_EW hw) (by simp [own_EL]) CH (vs := []) (z := 0) ⟨by simp, rfl⟩ (by decide) rfl (g := (mkF m 9 #[rv r0, rv r1, iv 0, iv 0, .val .null, .unset] [(.ref r0)])) rfl (hb hby d3_9) (n := 0) (by decide) (by decide) (by decide) (by decide)
  replace hZ := hZ2
  replace hown := hown2
  refine gsW st2 ?_
  show GoW p e below s QQ 2 4 (T2.setTop (mkF m 11 #[rv r0, rv r1, iv 0, iv 0, .val .null, .unset] [(.ref b2), (.ref r0)]))
  replace F_value_r0 := F_value_r0.ext E2
  replace F_coder_r0 := F_coder_r0.ext E2
  replace E_r0 := E_r0.ext E2
  replace V_r1 := V_r1.ext E2
  replace OLD := OLD.ext E2
  replace ZZ := Nat.le_trans ZZ E2.1
  replace SK := Nat.le_trans SK E2.1
  replace KK := KK.ext E2
  replace SS := S2
  replace SK := SK2
  have A02 : Arf Z h2 d2 .byte 0 (own_b x0 x1 x2) := own_arf0 A2
  have ne_b : r0 ≠ b2 := own_fldne F_value_r0 V2 (by simp)
  have ne_d : r0 ≠ d2 := own_ne0 F_value_r0 A02
  obtain ⟨T3, X3, e3, st3⟩ := getF X2 hx hZ hown (host := "") (Or.inl (hw _ (List.mem_of_getElem? (i := 32) rfl))) Via.refl e2 V2 (g := (mkF m 11 #[rv r0, rv r1, iv 0, iv 0, .val .null, .unset] [(.ref b2), (.ref r0)])) rfl rfl (hb hby d3_11)
  refine gsW st3 ?_
  show GoW p e below s QQ 2 4 (T3.setTop (mkF m 14 #[rv r0, rv r1, iv 0, iv 0, .val .null, .unset] [(.ref d2), (.ref r0)]))
  obtain ⟨T4, h4, X4, e4, W4, st4⟩ := putF X3 hx hZ hown (host := "") (Or.inl (hw _ (List.mem_of_getElem? (i := 32) rfl))) Via.refl e3 F_value_r0 E_r0 (Or.inr ⟨(hw _ (List.mem_of_getElem? (i := 33) rfl)), rfl, hnm⟩) (hw _ (List.mem_of_getElem? (i := 6) rfl)) (ty := (.array .byte)) (by decide) rfl rfl (g := (mkF m 14 #[rv r0, rv r1, iv 0, iv 0, .val .null, .unset] [(.ref d2), (.ref r0)])) rfl rfl (hb hby d3_14)
  replace N0 := Fr.snoc X4 N0 ge_r0
  refine gsW st4 ?_
  show GoW p e below s QQ 2 4 (T4.setTop (mkF m 17 #[rv r0, rv r1, iv 0, iv 0, .val .null, .unset] []))
  replace F_value_r0 := F_value_r0.same W4
  replace F_coder_r0 := F_coder_r0.other W4 (Or.inr (slot_ne (Or.inr (hw _ (List.mem_of_getElem? (i := 31) rfl))) (Or.inr (hw _ (List.mem_of_getElem? (i := 33) rfl))) (by decide) (t := .byte) (t' := (.array .byte)) (by decide) (by decide)))
  replace E_r0 := E_r0.wr W4
  replace V_r1 := V_r1.other W4 (Ne.symm ne_r0_r1)
  replace OLD := OLD.wr W4 ge_r0
  replace C2 := C2.other W4 (Or.inl (Ne.symm ne_b))
  replace V2 := V2.other W4 (Or.inl (Ne.symm ne_b))
  replace A02 := A02.other W4 (Ne.symm ne_d)
  replace ZZ : n0 ≤ h4.size := by rw [W4.size]; exact ZZ
  replace SK := Nat.le_trans SK (Nat.le_of_eq W4.size.symm)
  replace KK := KK.wr W4 (Or.inl (by simp))
  refine gsW (fun t => XS.aloadN X4.here hx rfl (hb hby d3_17) rfl rfl) ?_
  show GoW p e below s QQ 2 4 (T4.setTop (mkF m 18 #[rv r0, rv r1, iv 0, iv 0, .val .null, .unset] [(.ref r0)]))
  refine gsW (fun t => ldcAgain X4 hx hZ hown (hw _ (List.mem_of_getElem? (i := 85) rfl)) L2 (g := (mkF m 18 #[rv r0, rv r1, iv 0, iv 0, .val .null, .unset] [(.ref r0)])) rfl (hb hby d3_18) t) ?_
  show GoW p e below s QQ 2 4 (T4.setTop (mkF m 20 #[rv r0, rv r1, iv 0, iv 0, .val .null, .unset] [(.ref b2), (.ref r0)]))
  obtain ⟨T5, X5, e5, st5⟩ := getF X4 hx hZ hown (host := "") (Or.inl (hw _ (List.mem_of_getElem? (i := 30) rfl))) Via.refl e4 C2 (g := (mkF m 20 #[rv r0, rv r1, iv 0, iv 0, .val .null, .unset] [(.ref b2), (.ref r0)])) rfl rfl (hb hby d3_20)
  refine gsW st5 ?_
  show GoW p e below s QQ 2 4 (T5.setTop (mkF m 23 #[rv r0, rv r1, iv 0, iv 0, .val .null, .unset] [(.int (0 : Int32)), (.ref r0)]))
  obtain ⟨T6, h6, X6, e6, W6, st6⟩ := putFN X5 hx hZ hown (hw _ (List.mem_of_getElem? (i := 30) rfl)) Via.refl e5 F_coder_r0 E_r0 (Or.inr ⟨(hw _ (List.mem_of_getElem? (i := 31) rfl)), rfl, hnm⟩) (hw _ (List.mem_of_getElem? (i := 6) rfl)) (ty := .byte) (v' := .int (0 : Int32)) (by decide) (by first | rfl | simp [narrow]) (by first | decide | exact fits_nar_byte _) (g := (mkF m 23 #[rv r0, rv r1, iv 0, iv 0, .val .null, .unset] [(.int (0 : Int32)), (.ref r0)])) rfl rfl (hb hby d3_23)
  replace N0 := Fr.snoc X6 N0 ge_r0
  refine gsW st6 ?_
  show GoW p e below s QQ 2 4 (T6.setTop (mkF m 26 #[rv r0, rv r1, iv 0, iv 0, .val .null, .unset] []))
  replace F_value_r0 := F_value_r0.other W6 (Or.inr (slot_ne (Or.inr (hw _ (List.mem_of_getElem? (i := 33) rfl))) (Or.inr (hw _ (List.mem_of_getElem? (i := 31) rfl))) (by decide) (t := (.array .byte)) (t' := .byte) (by decide) (by decide)))
  replace F_coder_r0 := F_coder_r0.same W6
  replace E_r0 := E_r0.wr W6
  replace V_r1 := V_r1.other W6 (Ne.symm ne_r0_r1)
  replace OLD := OLD.wr W6 ge_r0
  replace C2 := C2.other W6 (Or.inl (Ne.symm ne_b))
  replace V2 := V2.other W6 (Or.inl (Ne.symm ne_b))
  replace A02 := A02.other W6 (Ne.symm ne_d)
  replace ZZ : n0 ≤ h6.size := by rw [W6.size]; exact ZZ
  replace SK := Nat.le_trans SK (Nat.le_of_eq W6.size.symm)
  replace KK := KK.wr W6 (Or.inl (by simp))
  exact goVW SS (by rw [e6]; exact SK) X6 hx Bd.notSynchronized Bd.returns (hb hby d3_26) (by rw [← hQQ, e6]; exact ⟨rfl, N0, KK, _, F_value_r0, F_coder_r0, A02⟩) (by decide) (by decide)
theorem d2_0 : decode jdk_42_method_3_code 0 = .ok (.aload_n 0, 1) := by decide +kernel
theorem d2_1 : decode jdk_42_method_3_code 1 = .ok (.aload_n 1, 1) := by decide +kernel
theorem d2_2 : decode jdk_42_method_3_code 2 = .ok (.iconst 0, 1) := by decide +kernel
theorem d2_3 : decode jdk_42_method_3_code 3 = .ok (.aload_n 1, 1) := by decide +kernel
theorem d2_4 : decode jdk_42_method_3_code 4 = .ok (.arraylength, 1) := by decide +kernel
theorem d2_5 : decode jdk_42_method_3_code 5 = .ok (.aconst_null, 1) := by decide +kernel
theorem d2_6 : decode jdk_42_method_3_code 6 = .ok (.invokespecial 27, 3) := by decide +kernel
theorem d2_9 : decode jdk_42_method_3_code 9 = .ok (.return_, 1) := by decide +kernel
theorem pn_2 : plainName "java/lang/String" = true := by first | (simp [plainName, overriddenIn]; done) | decide +kernel
def QrmT0 (Z : State) (r0 : Addr) (r1 : Addr) (x0 : Int32) (x1 : Int32) (x2 : Int32) (cs : Int32) (h0 : Heap) (n0 : Nat) (v : Option Value) (h : Heap) (L : List Loc) : Prop := v = none ∧ Fr n0 L ∧ Keep h0 h [r0] ∧ ∃ d : Addr, Fld Z h r0 "java/lang/String" "value" "[B" (.ref d) ∧ Fld Z h r0 "java/lang/String" "coder" "B" (.int (0 : Int32)) ∧ Arf Z h d .byte 0 (own_b x0 x1 x2)
set_option maxRecDepth 65536 in
set_option maxHeartbeats 40000000 in
theorem rmT0 (l : Launch) (Z : State) (a0 : Array Value) (hw : ∀ d ∈ tables_1, d.before a0 Z = true) (ws : List Jvm.Cond) (r0 : Addr) (r1 : Addr) (x0 : Int32) (x1 : Int32) (x2 : Int32) (cs : Int32) (h0 : Heap) (n0 : Nat) (Z0 : n0 ≤ h0.size) (OLD : Old Z n0 h0) (CS : Sta Z Z.heap "java/lang/String" "COMPACT_STRINGS" "Z" (.int cs)) (hcs : ¬ (cs = (0 : Int32))) (F_value_r0 : Fld Z h0 r0 "java/lang/String" "value" "[B" .null) (F_coder_r0 : Fld Z h0 r0 "java/lang/String" "coder" "B" (.int (0 : Int32))) (E_r0 : Exa Z h0 r0 "java/lang/String") (ge_r0 : n0 ≤ r0) (ne_r0_r1 : r0 ≠ r1) (V_r1 : Arf Z h0 r1 .char 0 (own_c x0 x1 x2)) (hx0 : ¬ ((255 : Int32) < x0)) (hx1 : ¬ ((255 : Int32) < x1)) (hx2 : ¬ ((255 : Int32) < x2)) :
    MetFree l (⟨"java/lang/String", "<init>", "([C)V"⟩ : MethodName) (head1 (Jvm.Cond.code (⟨"java/lang/String", "<init>", "([C)V"⟩ : MethodName) jdk_42_method_3_code 2 none :: ws) ({ frames := 2, cells := 2, slots := 4, locals := 29 } : Room)) (fun a U => a = #[(.ref r0), (.ref r1)] ∧ Z.Warmed39 U.vm ∧ U.heap = h0 ∧ CHv Z own_EL U.vm h0) (fun _ _ _ _ _ => True) (fun _ U o U' => ∃ v L, o = .returned v ∧ QrmT0 Z r0 r1 x0 x1 x2 cs h0 n0 v U'.heap L ∧ ReturnedEndW U o U' L ({ frames := 2, cells := 2, slots := 4, locals := 29 } : Room).cells ({ frames := 2, cells := 2, slots := 4, locals := 29 } : Room).slots) := by
  refine MetFree.of_bodySF (plainFor_of_name pn_2) hisR ?_
  intro p e s m args below meth c s₁ Bd hml0 hP hK
  obtain ⟨rfl, hZ, hh, CH⟩ := hP
  have hx := Bd.exec
  have hby := Bd.bytes
  have hml : c.maxLocals = 2 := hml0
  have hown : s.vm.findClass "java/lang/String" = some m.cls := findClass_of_methodNamed Bd.named
  have hnm := (name_of_methodNamed Bd.named Bd.method).1
  have X0 : Stand p l e ({ frames := 2, cells := 2, slots := 4, locals := 29 } : Room) s m #[(.ref r0), (.ref r1)] below meth c s₁ [] 0 0 := Stand.of_body Bd
  have e0 : s₁.heap = h0 := by rw [← hh, Bd.state]; rfl
  have N0 := Fr.nil n0
  have ZZ := Z0
  obtain ⟨v0, hv0⟩ : ∃ z, z = s.vm := ⟨_, rfl⟩
  have SS : s.Since v0 h0.size := by rw [hv0]; exact (State.WarmedH.refl s).since _
  have SK : h0.size ≤ h0.size := Nat.le_refl _
  replace X0 : Stand p l e ({ frames := 2, cells := 2, slots := 4, locals := 29 } : Room) (s.setVm v0) m #[(.ref r0), (.ref r1)] below meth c s₁ [] 0 0 := by rw [hv0]; exact X0
  replace hZ : Z.Warmed39 (s.setVm v0).vm := by rw [hv0]; exact hZ
  replace hown : (s.setVm v0).vm.findClass "java/lang/String" = some m.cls := by rw [hv0]; exact hown
  replace CH : CHv Z own_EL v0 h0 := by rw [hv0]; exact CH
  have KK : Keep h0 h0 [r0] := Keep.refl h0 _
  show GoW p e below s (QrmT0 Z r0 r1 x0 x1 x2 cs h0 n0) 2 4 (s₁.setTop (entryFrame m #[(.ref r0), (.ref r1)] 2))
  generalize hQQ : (QrmT0 Z r0 r1 x0 x1 x2 cs h0 n0) = QQ
  refine gsW (fun t k => castTop (g' := (mkF m 0 #[rv r0, rv r1] [])) (by first | (simp [entryFrame, mkF, argsToLocals, Value.category, maxLocals]; done) | rfl) k) ?_
  show GoW p e below s QQ 2 4 (s₁.setTop (mkF m 0 #[rv r0, rv r1] []))
  refine gsW (fun t => XS.aloadN X0.here hx rfl (hb hby d2_0) rfl rfl) ?_
  show GoW p e below s QQ 2 4 (s₁.setTop (mkF m 1 #[rv r0, rv r1] [(.ref r0)]))
  refine gsW (fun t => XS.aloadN X0.here hx rfl (hb hby d2_1) rfl rfl) ?_
  show GoW p e below s QQ 2 4 (s₁.setTop (mkF m 2 #[rv r0, rv r1] [(.ref r1), (.ref r0)]))
  refine gsW (fun t => XS.iconst X0.here hx rfl (hb hby d2_2)) ?_
  show GoW p e below s QQ 2 4 (s₁.setTop (mkF m 3 #[rv r0, rv r1] [(.int (0 : Int32)), (.ref r1), (.ref r0)]))
  refine gsW (fun t => XS.aloadN X0.here hx rfl (hb hby d2_3) rfl rfl) ?_
  show GoW p e below s QQ 2 4 (s₁.setTop (mkF m 4 #[rv r0, rv r1] [(.ref r1), (.int (0 : Int32)), (.ref r1), (.ref r0)]))
  refine gsW (fun t => lenf X0 hx hZ e0 V_r1 (z := (0 : Int32)) rfl (g := (mkF m 4 #[rv r0, rv r1] [(.ref r1), (.int (0 : Int32)), (.ref r1), (.ref r0)])) rfl rfl (hb hby d2_4) t) ?_
  show GoW p e below s QQ 2 4 (s₁.setTop (mkF m 5 #[rv r0, rv r1] [(.int (0 : Int32)), (.int (0 : Int32)), (.ref r1), (.ref r0)]))
  refine gsW (fun t => XS.aconstNull X0.here hx rfl (hb hby d2_5)) ?_
  show GoW p e below s QQ 2 4 (s₁.setTop (mkF m 6 #[rv r0, rv r1] [.null, (.int (0 : Int32)), (.int (0 : Int32)), (.ref r1), (.ref r0)]))
  obtain ⟨_, _, ⟨T7, L7, k7, n7⟩, -, X7, S7, G7, ⟨Lc7, hQ7, l7, y7, z7⟩, st7⟩ := X0.specialBackS hx (y := (⟨"java/lang/String", "<init>", "([CIILjava/lang/Void;)V"⟩ : MethodName)) rfl hown (mvT hZ (hw _ (List.mem_of_getElem? (i := 11) rfl))) (mvT hZ (hw _ (List.mem_of_getElem? (i := 12) rfl))) (mvT hZ (hw _ (List.mem_of_getElem? (i := 14) rfl))) (by decide) (own_backH (EL := own_EL) (W := 0) (rmS0 l Z a0 hw [] r0 r1 x0 x1 x2 cs h0 n0 ZZ OLD CS hcs F_value_r0 F_coder_r0 E_r0 ge_r0 ne_r0_r1 V_r1 hx0 hx1 hx2) hZ (hw _ (List.mem_of_getElem? (i := 14) rfl)) (hw _ (List.mem_of_getElem? (i := 7) rfl)) (by decide) (by decide) (own_EW hw) CH) (g := (mkF m 6 #[rv r0, rv r1] [.null, (.int (0 : Int32)), (.int (0 : Int32)), (.ref r1), (.ref r0)])) rfl (by rw [hml]; rfl) (Steps.refl _) (a := r0) (argsL := [(.ref r1), (.int (0 : Int32)), (.int (0 : Int32)), .null]) (rest := []) (lenOf pd_0 rfl) rfl (by show 2 * 0 + _ ≤ _; exact Nat.le_of_eq rfl) (hb hby d2_6) (fun _ _ => ⟨rfl, e0, (by decide : 0 + 2 ≤ _), (by decide : 0 + 4 ≤ _)⟩)
  dsimp only [Pt.U, Pt.locs, Pt.cells, Pt.slots] at X7 l7 y7 z7 st7 hQ7
  subst l7 y7 z7
  replace X7 : Stand p l e ({ frames := 2, cells := 2, slots := 4, locals := 29 } : Room) (s.setVm T7.vm) m #[(.ref r0), (.ref r1)] below meth c T7 _ _ _ := X7
  obtain ⟨hZ, hown, SS⟩ := own_reb hZ hown SS S7 (Nat.le_trans SK (by rw [← e0]; exact G7))
  have SK : T7.heap.size ≤ T7.heap.size := Nat.le_refl _
  obtain ⟨rfl, N7q, K7, d7, F1_7, F2_7, A7⟩ := hQ7
  replace N0 := Fr.app N0 N7q
  refine gtW st7 ?_
  show GoW p e below s QQ 2 4 (T7.setTop (mkF m 9 #[rv r0, rv r1] []))
  replace E_r0 := E_r0.keep K7
  replace V_r1 := V_r1.keep K7 (ninS (Ne.symm ne_r0_r1) nin0)
  replace OLD := OLD.keep K7 (allS ge_r0 all0)
  replace ZZ := Nat.le_trans ZZ K7.1
  replace KK := KK.trans K7 (allS (Or.inl (by simp)) all0)
  exact goVW SS SK X7 hx Bd.notSynchronized Bd.returns (hb hby d2_9) (by rw [← hQQ]; exact ⟨rfl, N0, KK, _, F1_7, F2_7, A7⟩) (by decide) (by decide)
theorem d6_0 : decode jdk_52_method_21_code 0 = .ok (.iconst 0, 1) := by decide +kernel
theorem d6_1 : decode jdk_52_method_21_code 1 = .ok (.istore 5, 2) := by decide +kernel
theorem d6_3 : decode jdk_52_method_21_code 3 = .ok (.iload 5, 2) := by decide +kernel
theorem d6_5 : decode jdk_52_method_21_code 5 = .ok (.iload 4, 2) := by decide +kernel
theorem d6_7 : decode jdk_52_method_21_code 7 = .ok (.if_icmp .ge 37, 3) := by decide +kernel
theorem d6_10 : decode jdk_52_method_21_code 10 = .ok (.aload_n 0, 1) := by decide +kernel
theorem d6_11 : decode jdk_52_method_21_code 11 = .ok (.iload_n 1, 1) := by decide +kernel
theorem d6_12 : decode jdk_52_method_21_code 12 = .ok (.caload, 1) := by decide +kernel
theorem d6_13 : decode jdk_52_method_21_code 13 = .ok (.istore 6, 2) := by decide +kernel
theorem d6_15 : decode jdk_52_method_21_code 15 = .ok (.iload 6, 2) := by decide +kernel
theorem d6_17 : decode jdk_52_method_21_code 17 = .ok (.sipush 255, 3) := by decide +kernel
theorem d6_20 : decode jdk_52_method_21_code 20 = .ok (.if_icmp .le 6, 3) := by decide +kernel
theorem d6_23 : decode jdk_52_method_21_code 23 = .ok (.iload 5, 2) := by decide +kernel
theorem d6_25 : decode jdk_52_method_21_code 25 = .ok (.ireturn, 1) := by decide +kernel
theorem d6_26 : decode jdk_52_method_21_code 26 = .ok (.aload_n 2, 1) := by decide +kernel
theorem d6_27 : decode jdk_52_method_21_code 27 = .ok (.iload_n 3, 1) := by decide +kernel
theorem d6_28 : decode jdk_52_method_21_code 28 = .ok (.iload 6, 2) := by decide +kernel
theorem d6_30 : decode jdk_52_method_21_code 30 = .ok (.i2b, 1) := by decide +kernel
theorem d6_31 : decode jdk_52_method_21_code 31 = .ok (.bastore, 1) := by decide +kernel
theorem d6_32 : decode jdk_52_method_21_code 32 = .ok (.iinc 1 1, 3) := by decide +kernel
theorem d6_35 : decode jdk_52_method_21_code 35 = .ok (.iinc 3 1, 3) := by decide +kernel
theorem d6_38 : decode jdk_52_method_21_code 38 = .ok (.iinc 5 1, 3) := by decide +kernel
theorem d6_41 : decode jdk_52_method_21_code 41 = .ok (.goto (-38), 3) := by decide +kernel
theorem d6_44 : decode jdk_52_method_21_code 44 = .ok (.iload 4, 2) := by decide +kernel
theorem d6_46 : decode jdk_52_method_21_code 46 = .ok (.ireturn, 1) := by decide +kernel
theorem pn_6 : plainName "java/lang/StringUTF16" = true := by first | (simp [plainName, overriddenIn]; done) | decide +kernel
def QrmP1 (Z : State) (r0 : Addr) (r2 : Addr) (x0 : Int32) (x1 : Int32) (x2 : Int32) (h0 : Heap) (n0 : Nat) (v : Option Value) (h : Heap) (L : List Loc) : Prop := v = some (.int 1) ∧ Fr n0 L ∧ Keep h0 h [r2] ∧ Arf Z h r2 .byte 1 (own_b x0 x1 x2)
set_option maxRecDepth 65536 in
set_option maxHeartbeats 40000000 in
theorem rmP1 (l : Launch) (Z : State) (a0 : Array Value) (hw : ∀ d ∈ tables_1, d.before a0 Z = true) (ws : List Jvm.Cond) (r0 : Addr) (r2 : Addr) (x0 : Int32) (x1 : Int32) (x2 : Int32) (h0 : Heap) (n0 : Nat) (Z0 : n0 ≤ h0.size) (V_r0 : Arf Z h0 r0 .char 1 (own_c x0 x1 x2)) (V_r2 : Arf Z h0 r2 .byte 1 (fun _ => .int 0)) (ne_r0_r2 : r0 ≠ r2) (ge_r2 : n0 ≤ r2) (hx0 : ¬ ((255 : Int32) < x0)) (hx1 : ¬ ((255 : Int32) < x1)) (hx2 : ¬ ((255 : Int32) < x2)) :
    MetFree l (⟨"java/lang/StringUTF16", "compress", "([CI[BII)I"⟩ : MethodName) (head1 (Jvm.Cond.code (⟨"java/lang/StringUTF16", "compress", "([CI[BII)I"⟩ : MethodName) jdk_52_method_21_code 7 (some .int) :: ws) ({ frames := 0, cells := 0, slots := 0, locals := 0 } : Room)) (fun a U => a = #[(.ref r0), (.int (0 : Int32)), (.ref r2), (.int (0 : Int32)), (.int (1 : Int32))] ∧ Z.Warmed39 U.vm ∧ U.heap = h0) (fun _ _ _ _ _ => True) (fun _ U o U' => ∃ v L, o = .returned v ∧ QrmP1 Z r0 r2 x0 x1 x2 h0 n0 v U'.heap L ∧ FrameEnd U o U' L ({ frames := 0, cells := 0, slots := 0, locals := 0 } : Room).cells ({ frames := 0, cells := 0, slots := 0, locals := 0 } : Room).slots) := by
  refine MetFree.of_bodySF (plainFor_of_name pn_6) hisR ?_
  intro p e s m args below meth c s₁ Bd hml0 hP hK
  obtain ⟨rfl, hZ, hh⟩ := hP
  have hx := Bd.exec
  have hby := Bd.bytes
  have hml : c.maxLocals = 7 := hml0
  have hown : s.vm.findClass "java/lang/StringUTF16" = some m.cls := findClass_of_methodNamed Bd.named
  have hnm := (name_of_methodNamed Bd.named Bd.method).1
  have X0 : Stand p l e ({ frames := 0, cells := 0, slots := 0, locals := 0 } : Room) s m #[(.ref r0), (.int (0 : Int32)), (.ref r2), (.int (0 : Int32)), (.int (1 : Int32))] below meth c s₁ [] 0 0 := Stand.of_body Bd
  have e0 : s₁.heap = h0 := by rw [← hh, Bd.state]; rfl
  have N0 := Fr.nil n0
  have ZZ := Z0
  have KK : Keep h0 h0 [r2] := Keep.refl h0 _
  show Go p e below s (QrmP1 Z r0 r2 x0 x1 x2 h0 n0) 0 0 (s₁.setTop (entryFrame m #[(.ref r0), (.int (0 : Int32)), (.ref r2), (.int (0 : Int32)), (.int (1 : Int32))] 7))
  generalize hQQ : (QrmP1 Z r0 r2 x0 x1 x2 h0 n0) = QQ
  refine gs (fun t k => castTop (g' := (mkF m 0 #[rv r0, iv 0, rv r2, iv 0, iv 1, .unset, .unset] [])) (by first | (simp [entryFrame, mkF, argsToLocals, Value.category, maxLocals]; done) | rfl) k) ?_
  show Go p e below s QQ 0 0 (s₁.setTop (mkF m 0 #[rv r0, iv 0, rv r2, iv 0, iv 1, .unset, .unset] []))
  refine gs (fun t => XS.iconst X0.here hx rfl (hb hby d6_0)) ?_
  show Go p e below s QQ 0 0 (s₁.setTop (mkF m 1 #[rv r0, iv 0, rv r2, iv 0, iv 1, .unset, .unset] [(.int (0 : Int32))]))
  refine gs (fun t => XS.istore X0.here hx rfl (hb hby d6_1) rfl (l' := #[rv r0, iv 0, rv r2, iv 0, iv 1, iv 0, .unset]) rfl) ?_
  show Go p e below s QQ 0 0 (s₁.setTop (mkF m 3 #[rv r0, iv 0, rv r2, iv 0, iv 1, iv 0, .unset] []))
  refine gs (fun t => XS.iload X0.here hx rfl (hb hby d6_3) rfl) ?_
  show Go p e below s QQ 0 0 (s₁.setTop (mkF m 5 #[rv r0, iv 0, rv r2, iv 0, iv 1, iv 0, .unset] [(.int (0 : Int32))]))
  refine gs (fun t => XS.iload X0.here hx rfl (hb hby d6_5) rfl) ?_
  show Go p e below s QQ 0 0 (s₁.setTop (mkF m 7 #[rv r0, iv 0, rv r2, iv 0, iv 1, iv 0, .unset] [(.int (1 : Int32)), (.int (0 : Int32))]))
  refine gs (fun t => XS.icmpNo X0.here hx rfl (hb hby d6_7) rfl (tlt (by decide : (0 : Int32) < (1 : Int32))).2.1) ?_
  show Go p e below s QQ 0 0 (s₁.setTop (mkF m 10 #[rv r0, iv 0, rv r2, iv 0, iv 1, iv 0, .unset] []))
  refine gs (fun t => XS.aloadN X0.here hx rfl (hb hby d6_10) rfl rfl) ?_
  show Go p e below s QQ 0 0 (s₁.setTop (mkF m 11 #[rv r0, iv 0, rv r2, iv 0, iv 1, iv 0, .unset] [(.ref r0)]))
  refine gs (fun t => XS.iloadN X0.here hx rfl (hb hby d6_11) rfl) ?_
  show Go p e below s QQ 0 0 (s₁.setTop (mkF m 12 #[rv r0, iv 0, rv r2, iv 0, iv 1, iv 0, .unset] [(.int (0 : Int32)), (.ref r0)]))
  refine gs (fun t => ldCf X0 hx hZ e0 V_r0 (j := (0 : Int32)) (v := (.int x0)) (by decide) rfl (g := (mkF m 12 #[rv r0, iv 0, rv r2, iv 0, iv 1, iv 0, .unset] [(.int (0 : Int32)), (.ref r0)])) rfl rfl (hb hby d6_12) t) ?_
  show Go p e below s QQ 0 0 (s₁.setTop (mkF m 13 #[rv r0, iv 0, rv r2, iv 0, iv 1, iv 0, .unset] [(.int x0)]))
  refine gs (fun t => XS.istore X0.here hx rfl (hb hby d6_13) rfl (l' := #[rv r0, iv 0, rv r2, iv 0, iv 1, iv 0, iv x0]) rfl) ?_
  show Go p e below s QQ 0 0 (s₁.setTop (mkF m 15 #[rv r0, iv 0, rv r2, iv 0, iv 1, iv 0, iv x0] []))
  refine gs (fun t => XS.iload X0.here hx rfl (hb hby d6_15) rfl) ?_
  show Go p e below s QQ 0 0 (s₁.setTop (mkF m 17 #[rv r0, iv 0, rv r2, iv 0, iv 1, iv 0, iv x0] [(.int x0)]))
  refine gs (fun t => XS.sipush X0.here hx rfl (hb hby d6_17)) ?_
  show Go p e below s QQ 0 0 (s₁.setTop (mkF m 20 #[rv r0, iv 0, rv r2, iv 0, iv 1, iv 0, iv x0] [(.int (255 : Int32)), (.int x0)]))
  refine gs (fun t => XS.icmpYes X0.here hx rfl (pc0 := 20) (pc' := 26) rfl (hb hby d6_20) rfl (flt (hx0 : ¬ ((255 : Int32) < x0))).2.2.2 (by decide) (by decide)) ?_
  show Go p e below s QQ 0 0 (s₁.setTop (mkF m 26 #[rv r0, iv 0, rv r2, iv 0, iv 1, iv 0, iv x0] []))
  refine gs (fun t => XS.aloadN X0.here hx rfl (hb hby d6_26) rfl rfl) ?_
  show Go p e below s QQ 0 0 (s₁.setTop (mkF m 27 #[rv r0, iv 0, rv r2, iv 0, iv 1, iv 0, iv x0] [(.ref r2)]))
  refine gs (fun t => XS.iloadN X0.here hx rfl (hb hby d6_27) rfl) ?_
  show Go p e below s QQ 0 0 (s₁.setTop (mkF m 28 #[rv r0, iv 0, rv r2, iv 0, iv 1, iv 0, iv x0] [(.int (0 : Int32)), (.ref r2)]))
  refine gs (fun t => XS.iload X0.here hx rfl (hb hby d6_28) rfl) ?_
  show Go p e below s QQ 0 0 (s₁.setTop (mkF m 30 #[rv r0, iv 0, rv r2, iv 0, iv 1, iv 0, iv x0] [(.int x0), (.int (0 : Int32)), (.ref r2)]))
  refine gs (fun t => XS.i2b X0.here hx rfl (hb hby d6_30) rfl) ?_
  show Go p e below s QQ 0 0 (s₁.setTop (mkF m 31 #[rv r0, iv 0, rv r2, iv 0, iv 1, iv 0, iv x0] [(.int (x0.toInt8.toInt32)), (.int (0 : Int32)), (.ref r2)]))
  obtain ⟨T8, h8, X8, e8, W8, V8, st8⟩ := stBf X0 hx hZ e0 V_r2 (j := (0 : Int32)) (by decide) (g := (mkF m 31 #[rv r0, iv 0, rv r2, iv 0, iv 1, iv 0, iv x0] [(.int (x0.toInt8.toInt32)), (.int (0 : Int32)), (.ref r2)])) rfl rfl (hb hby d6_31)
  replace N0 := Fr.snoc X8 N0 ge_r2
  refine gs st8 ?_
  show Go p e below s QQ 0 0 (T8.setTop (mkF m 32 #[rv r0, iv 0, rv r2, iv 0, iv 1, iv 0, iv x0] []))
  replace V_r0 := V_r0.other W8 ne_r0_r2
  replace ZZ : n0 ≤ h8.size := by rw [W8.size]; exact ZZ
  replace KK := KK.wr W8 (Or.inl (by simp))
  replace V_r2 : Arf Z h8 r2 .byte 1 (updv (fun _ => .int 0) 0 (.int (nar .byte (x0.toInt8.toInt32)))) := V8
  refine gs (fun t => XS.iinc X8.here hx rfl (hb hby d6_32) rfl (l' := #[rv r0, iv 1, rv r2, iv 0, iv 1, iv 0, iv x0]) rfl) ?_
  show Go p e below s QQ 0 0 (T8.setTop (mkF m 35 #[rv r0, iv 1, rv r2, iv 0, iv 1, iv 0, iv x0] []))
  refine gs (fun t => XS.iinc X8.here hx rfl (hb hby d6_35) rfl (l' := #[rv r0, iv 1, rv r2, iv 1, iv 1, iv 0, iv x0]) rfl) ?_
  show Go p e below s QQ 0 0 (T8.setTop (mkF m 38 #[rv r0, iv 1, rv r2, iv 1, iv 1, iv 0, iv x0] []))
  refine gs (fun t => XS.iinc X8.here hx rfl (hb hby d6_38) rfl (l' := #[rv r0, iv 1, rv r2, iv 1, iv 1, iv 1, iv x0]) rfl) ?_
  show Go p e below s QQ 0 0 (T8.setTop (mkF m 41 #[rv r0, iv 1, rv r2, iv 1, iv 1, iv 1, iv x0] []))
  refine gs (fun t => XS.goto X8.here hx rfl (pc0 := 41) (pc' := 3) rfl (hb hby d6_41) (by decide) (by decide)) ?_
  show Go p e below s QQ 0 0 (T8.setTop (mkF m 3 #[rv r0, iv 1, rv r2, iv 1, iv 1, iv 1, iv x0] []))
  refine gs (fun t => XS.iload X8.here hx rfl (hb hby d6_3) rfl) ?_
  show Go p e below s QQ 0 0 (T8.setTop (mkF m 5 #[rv r0, iv 1, rv r2, iv 1, iv 1, iv 1, iv x0] [(.int (1 : Int32))]))
  refine gs (fun t => XS.iload X8.here hx rfl (hb hby d6_5) rfl) ?_
  show Go p e below s QQ 0 0 (T8.setTop (mkF m 7 #[rv r0, iv 1, rv r2, iv 1, iv 1, iv 1, iv x0] [(.int (1 : Int32)), (.int (1 : Int32))]))
  refine gs (fun t => XS.icmpYes X8.here hx rfl (pc0 := 7) (pc' := 44) rfl (hb hby d6_7) rfl (flt (by decide : ¬ ((1 : Int32) < (1 : Int32)))).2.1 (by decide) (by decide)) ?_
  show Go p e below s QQ 0 0 (T8.setTop (mkF m 44 #[rv r0, iv 1, rv r2, iv 1, iv 1, iv 1, iv x0] []))
  refine gs (fun t => XS.iload X8.here hx rfl (hb hby d6_44) rfl) ?_
  show Go p e below s QQ 0 0 (T8.setTop (mkF m 46 #[rv r0, iv 1, rv r2, iv 1, iv 1, iv 1, iv x0] [(.int (1 : Int32))]))
  replace V_r2 : Arf Z h8 r2 .byte 1 (own_b x0 x1 x2) := V_r2.congr (by intro i hi; have q : i = 0 := (by omega); rcases q with rfl <;> first | rfl | simp [updv, own_b])
  exact goI X8 hx Bd.notSynchronized Bd.returns (hb hby d6_46) (by rw [← hQQ, e8]; exact ⟨rfl, N0, KK, V_r2⟩) (by decide) (by decide)
theorem d5_0 : decode jdk_52_method_16_code 0 = .ok (.iload_n 2, 1) := by decide +kernel
theorem d5_1 : decode jdk_52_method_16_code 1 = .ok (.newarray .byte, 2) := by decide +kernel
theorem d5_3 : decode jdk_52_method_16_code 3 = .ok (.astore_n 3, 1) := by decide +kernel
theorem d5_4 : decode jdk_52_method_16_code 4 = .ok (.aload_n 0, 1) := by decide +kernel
theorem d5_5 : decode jdk_52_method_16_code 5 = .ok (.iload_n 1, 1) := by decide +kernel
theorem d5_6 : decode jdk_52_method_16_code 6 = .ok (.aload_n 3, 1) := by decide +kernel
theorem d5_7 : decode jdk_52_method_16_code 7 = .ok (.iconst 0, 1) := by decide +kernel
theorem d5_8 : decode jdk_52_method_16_code 8 = .ok (.iload_n 2, 1) := by decide +kernel
theorem d5_9 : decode jdk_52_method_16_code 9 = .ok (.invokestatic 115, 3) := by decide +kernel
theorem d5_12 : decode jdk_52_method_16_code 12 = .ok (.istore 4, 2) := by decide +kernel
theorem d5_14 : decode jdk_52_method_16_code 14 = .ok (.iload 4, 2) := by decide +kernel
theorem d5_16 : decode jdk_52_method_16_code 16 = .ok (.iload_n 2, 1) := by decide +kernel
theorem d5_17 : decode jdk_52_method_16_code 17 = .ok (.if_icmp .eq 40, 3) := by decide +kernel
theorem d5_20 : decode jdk_52_method_16_code 20 = .ok (.aload_n 0, 1) := by decide +kernel
theorem d5_21 : decode jdk_52_method_16_code 21 = .ok (.iload_n 1, 1) := by decide +kernel
theorem d5_22 : decode jdk_52_method_16_code 22 = .ok (.iload_n 2, 1) := by decide +kernel
theorem d5_23 : decode jdk_52_method_16_code 23 = .ok (.invokestatic 119, 3) := by decide +kernel
theorem d5_26 : decode jdk_52_method_16_code 26 = .ok (.astore 5, 2) := by decide +kernel
theorem d5_28 : decode jdk_52_method_16_code 28 = .ok (.aload 5, 2) := by decide +kernel
theorem d5_30 : decode jdk_52_method_16_code 30 = .ok (.iload 4, 2) := by decide +kernel
theorem d5_32 : decode jdk_52_method_16_code 32 = .ok (.invokestatic 71, 3) := by decide +kernel
theorem d5_35 : decode jdk_52_method_16_code 35 = .ok (.sipush 255, 3) := by decide +kernel
theorem d5_38 : decode jdk_52_method_16_code 38 = .ok (.if_icmp .gt 16, 3) := by decide +kernel
theorem d5_41 : decode jdk_52_method_16_code 41 = .ok (.aload 5, 2) := by decide +kernel
theorem d5_43 : decode jdk_52_method_16_code 43 = .ok (.iconst 0, 1) := by decide +kernel
theorem d5_44 : decode jdk_52_method_16_code 44 = .ok (.aload_n 3, 1) := by decide +kernel
theorem d5_45 : decode jdk_52_method_16_code 45 = .ok (.iconst 0, 1) := by decide +kernel
theorem d5_46 : decode jdk_52_method_16_code 46 = .ok (.iload_n 2, 1) := by decide +kernel
theorem d5_47 : decode jdk_52_method_16_code 47 = .ok (.invokestatic 123, 3) := by decide +kernel
theorem d5_50 : decode jdk_52_method_16_code 50 = .ok (.iload_n 2, 1) := by decide +kernel
theorem d5_51 : decode jdk_52_method_16_code 51 = .ok (.if_icmp .eq 6, 3) := by decide +kernel
theorem d5_54 : decode jdk_52_method_16_code 54 = .ok (.aload 5, 2) := by decide +kernel
theorem d5_56 : decode jdk_52_method_16_code 56 = .ok (.areturn, 1) := by decide +kernel
theorem d5_57 : decode jdk_52_method_16_code 57 = .ok (.aload_n 3, 1) := by decide +kernel
theorem d5_58 : decode jdk_52_method_16_code 58 = .ok (.areturn, 1) := by decide +kernel
theorem pn_5 : plainName "java/lang/StringUTF16" = true := by first | (simp [plainName, overriddenIn]; done) | decide +kernel
def QrmR1 (Z : State) (r0 : Addr) (x0 : Int32) (x1 : Int32) (x2 : Int32) (h0 : Heap) (n0 : Nat) (v : Option Value) (h : Heap) (L : List Loc) : Prop := ∃ b : Addr, v = some (.ref b) ∧ Fr n0 L ∧ h0.size ≤ b ∧ Keep h0 h [] ∧ Arf Z h b .byte 1 (own_b x0 x1 x2)
set_option maxRecDepth 65536 in
set_option maxHeartbeats 40000000 in
theorem rmR1 (l : Launch) (Z : State) (a0 : Array Value) (hw : ∀ d ∈ tables_1, d.before a0 Z = true) (ws : List Jvm.Cond) (r0 : Addr) (x0 : Int32) (x1 : Int32) (x2 : Int32) (h0 : Heap) (n0 : Nat) (Z0 : n0 ≤ h0.size) (V_r0 : Arf Z h0 r0 .char 1 (own_c x0 x1 x2)) (hx0 : ¬ ((255 : Int32) < x0)) (hx1 : ¬ ((255 : Int32) < x1)) (hx2 : ¬ ((255 : Int32) < x2)) :
    MetFree l (⟨"java/lang/StringUTF16", "compress", "([CII)[B"⟩ : MethodName) (head1 (Jvm.Cond.code (⟨"java/lang/StringUTF16", "compress", "([CII)[B"⟩ : MethodName) jdk_52_method_16_code 6 (some (.array .byte)) :: ws) ({ frames := 1, cells := 1, slots := 1, locals := 18 } : Room)) (fun a U => a = #[(.ref r0), (.int (0 : Int32)), (.int (1 : Int32))] ∧ Z.Warmed39 U.vm ∧ U.heap = h0) (fun _ _ _ _ _ => True) (fun _ U o U' => ∃ v L, o = .returned v ∧ QrmR1 Z r0 x0 x1 x2 h0 n0 v U'.heap L ∧ FrameEnd U o U' L ({ frames := 1, cells := 1, slots := 1, locals := 18 } : Room).cells ({ frames := 1, cells := 1, slots := 1, locals := 18 } : Room).slots) := by
  refine MetFree.of_bodySF (plainFor_of_name pn_5) hisR ?_
  intro p e s m args below meth c s₁ Bd hml0 hP hK
  obtain ⟨rfl, hZ, hh⟩ := hP
  have hx := Bd.exec
  have hby := Bd.bytes
  have hml : c.maxLocals = 6 := hml0
  have hown : s.vm.findClass "java/lang/StringUTF16" = some m.cls := findClass_of_methodNamed Bd.named
  have hnm := (name_of_methodNamed Bd.named Bd.method).1
  have X0 : Stand p l e ({ frames := 1, cells := 1, slots := 1, locals := 18 } : Room) s m #[(.ref r0), (.int (0 : Int32)), (.int (1 : Int32))] below meth c s₁ [] 0 0 := Stand.of_body Bd
  have e0 : s₁.heap = h0 := by rw [← hh, Bd.state]; rfl
  have N0 := Fr.nil n0
  have ZZ := Z0
  have KK : Keep h0 h0 [] := Keep.refl h0 _
  show Go p e below s (QrmR1 Z r0 x0 x1 x2 h0 n0) 1 1 (s₁.setTop (entryFrame m #[(.ref r0), (.int (0 : Int32)), (.int (1 : Int32))] 6))
  generalize hQQ : (QrmR1 Z r0 x0 x1 x2 h0 n0) = QQ
  refine gs (fun t k => castTop (g' := (mkF m 0 #[rv r0, iv 0, iv 1, .unset, .unset, .unset] [])) (by first | (simp [entryFrame, mkF, argsToLocals, Value.category, maxLocals]; done) | rfl) k) ?_
  show Go p e below s QQ 1 1 (s₁.setTop (mkF m 0 #[rv r0, iv 0, iv 1, .unset, .unset, .unset] []))
  refine gs (fun t => XS.iloadN X0.here hx rfl (hb hby d5_0) rfl) ?_
  show Go p e below s QQ 1 1 (s₁.setTop (mkF m 1 #[rv r0, iv 0, iv 1, .unset, .unset, .unset] [(.int (1 : Int32))]))
  obtain ⟨T9, h9, k9, X9, e9, E9, A9, st9⟩ := newP X0 hx hZ (hw _ (List.mem_of_getElem? (i := 23) rfl)) e0 (g := (mkF m 1 #[rv r0, iv 0, iv 1, .unset, .unset, .unset] [(.int (1 : Int32))])) rfl (hb hby d5_1) rfl (by decide) (cap := 1) (by decide) (by decide) (by decide) (by decide)
  obtain ⟨b9, g9⟩ : ∃ z, z = h0.size := ⟨_, rfl⟩
  rw [← g9] at A9 st9
  have ge_b9 : n0 ≤ b9 := by rw [g9]; exact ZZ
  have sz_b9 : h0.size ≤ b9 := by rw [g9]; exact KK.1
  have ne_r0_b9 : r0 ≠ b9 := by rw [g9]; exact Nat.ne_of_lt V_r0.lt
  refine gs st9 ?_
  show Go p e below s QQ 1 1 (T9.setTop (mkF m 3 #[rv r0, iv 0, iv 1, .unset, .unset, .unset] [(.ref b9)]))
  replace V_r0 := V_r0.ext E9
  replace ZZ := Nat.le_trans ZZ E9.1
  replace KK := KK.ext E9
  have V_b9 : Arf Z h9 b9 .byte 1 (fun _ => .int 0) := Arf.new A9
  refine gs (fun t => XS.astoreN X9.here hx rfl (hb hby d5_3) rfl rfl (l' := #[rv r0, iv 0, iv 1, rv b9, .unset, .unset]) rfl) ?_
  show Go p e below s QQ 1 1 (T9.setTop (mkF m 4 #[rv r0, iv 0, iv 1, rv b9, .unset, .unset] []))
  refine gs (fun t => XS.aloadN X9.here hx rfl (hb hby d5_4) rfl rfl) ?_
  show Go p e below s QQ 1 1 (T9.setTop (mkF m 5 #[rv r0, iv 0, iv 1, rv b9, .unset, .unset] [(.ref r0)]))
  refine gs (fun t => XS.iloadN X9.here hx rfl (hb hby d5_5) rfl) ?_
  show Go p e below s QQ 1 1 (T9.setTop (mkF m 6 #[rv r0, iv 0, iv 1, rv b9, .unset, .unset] [(.int (0 : Int32)), (.ref r0)]))
  refine gs (fun t => XS.aloadN X9.here hx rfl (hb hby d5_6) rfl rfl) ?_
  show Go p e below s QQ 1 1 (T9.setTop (mkF m 7 #[rv r0, iv 0, iv 1, rv b9, .unset, .unset] [(.ref b9), (.int (0 : Int32)), (.ref r0)]))
  refine gs (fun t => XS.iconst X9.here hx rfl (hb hby d5_7)) ?_
  show Go p e below s QQ 1 1 (T9.setTop (mkF m 8 #[rv r0, iv 0, iv 1, rv b9, .unset, .unset] [(.int (0 : Int32)), (.ref b9), (.int (0 : Int32)), (.ref r0)]))
  refine gs (fun t => XS.iloadN X9.here hx rfl (hb hby d5_8) rfl) ?_
  show Go p e below s QQ 1 1 (T9.setTop (mkF m 9 #[rv r0, iv 0, iv 1, rv b9, .unset, .unset] [(.int (1 : Int32)), (.int (0 : Int32)), (.ref b9), (.int (0 : Int32)), (.ref r0)]))
  obtain ⟨_, _, ⟨T10, L10, k10, n10⟩, -, X10, ⟨Lc10, hQ10, l10, y10, z10⟩, st10⟩ := Jvm.LawKit.callS X9 hx (y := (⟨"java/lang/StringUTF16", "compress", "([CI[BII)I"⟩ : MethodName)) hown (mvT hZ (hw _ (List.mem_of_getElem? (i := 24) rfl))) (mvT hZ (hw _ (List.mem_of_getElem? (i := 25) rfl))) (mvT hZ (hw _ (List.mem_of_getElem? (i := 21) rfl))) (mvT hZ (hw _ (List.mem_of_getElem? (i := 26) rfl))) (by decide) (backOf (W := 0) (rmP1 l Z a0 hw [] r0 b9 x0 x1 x2 h9 n0 ZZ V_r0 V_b9 ne_r0_b9 ge_b9 hx0 hx1 hx2) hZ (hw _ (List.mem_of_getElem? (i := 26) rfl)) (hw _ (List.mem_of_getElem? (i := 21) rfl)) (by decide) (by decide)) (g := (mkF m 9 #[rv r0, iv 0, iv 1, rv b9, .unset, .unset] [(.int (1 : Int32)), (.int (0 : Int32)), (.ref b9), (.int (0 : Int32)), (.ref r0)])) rfl (by rw [hml]; rfl) (argsL := [(.ref r0), (.int (0 : Int32)), (.ref b9), (.int (0 : Int32)), (.int (1 : Int32))]) (rest := []) (lenOf pd_1 rfl) rfl (by show 2 * 0 + _ ≤ _; exact Nat.le_of_eq rfl) (hb hby d5_9) (fun _ _ => ⟨rfl, e9, (by decide : 1 + 0 ≤ _), (by decide : 1 + 0 ≤ _)⟩)
  dsimp only [Pt.U, Pt.locs, Pt.cells, Pt.slots] at X10 l10 y10 z10 st10 hQ10
  subst l10 y10 z10
  obtain ⟨rfl, N10q, K10, V10⟩ := hQ10
  replace N0 := Fr.app N0 N10q
  refine gs st10 ?_
  show Go p e below s QQ 1 1 (T10.setTop (mkF m 12 #[rv r0, iv 0, iv 1, rv b9, .unset, .unset] [(.int (1 : Int32))]))
  replace V_r0 := V_r0.keep K10 (ninS ne_r0_b9 nin0)
  replace ZZ := Nat.le_trans ZZ K10.1
  replace KK := KK.trans K10 (allS (Or.inr sz_b9) all0)
  refine gs (fun t => XS.istore X10.here hx rfl (hb hby d5_12) rfl (l' := #[rv r0, iv 0, iv 1, rv b9, iv 1, .unset]) rfl) ?_
  show Go p e below s QQ 1 1 (T10.setTop (mkF m 14 #[rv r0, iv 0, iv 1, rv b9, iv 1, .unset] []))
  refine gs (fun t => XS.iload X10.here hx rfl (hb hby d5_14) rfl) ?_
  show Go p e below s QQ 1 1 (T10.setTop (mkF m 16 #[rv r0, iv 0, iv 1, rv b9, iv 1, .unset] [(.int (1 : Int32))]))
  refine gs (fun t => XS.iloadN X10.here hx rfl (hb hby d5_16) rfl) ?_
  show Go p e below s QQ 1 1 (T10.setTop (mkF m 17 #[rv r0, iv 0, iv 1, rv b9, iv 1, .unset] [(.int (1 : Int32)), (.int (1 : Int32))]))
  refine gs (fun t => XS.icmpYes X10.here hx rfl (pc0 := 17) (pc' := 57) rfl (hb hby d5_17) rfl (teq (by decide : (1 : Int32) = (1 : Int32))).1 (by decide) (by decide)) ?_
  show Go p e below s QQ 1 1 (T10.setTop (mkF m 57 #[rv r0, iv 0, iv 1, rv b9, iv 1, .unset] []))
  refine gs (fun t => XS.aloadN X10.here hx rfl (hb hby d5_57) rfl rfl) ?_
  show Go p e below s QQ 1 1 (T10.setTop (mkF m 58 #[rv r0, iv 0, iv 1, rv b9, iv 1, .unset] [(.ref b9)]))
  exact goR X10 hx Bd.notSynchronized Bd.returns rfl rfl (hb hby d5_58) (by rw [← hQQ]; exact ⟨_, rfl, N0, sz_b9, KK, V10⟩) (by decide) (by decide)
theorem d7_0 : decode jdk_52_method_15_code 0 = .ok (.iload_n 1, 1) := by decide +kernel
theorem d7_1 : decode jdk_52_method_15_code 1 = .ok (.aload_n 0, 1) := by decide +kernel
theorem d7_2 : decode jdk_52_method_15_code 2 = .ok (.arraylength, 1) := by decide +kernel
theorem d7_3 : decode jdk_52_method_15_code 3 = .ok (.isub, 1) := by decide +kernel
theorem d7_4 : decode jdk_52_method_15_code 4 = .ok (.bipush 31, 2) := by decide +kernel
theorem d7_6 : decode jdk_52_method_15_code 6 = .ok (.iushr, 1) := by decide +kernel
theorem d7_7 : decode jdk_52_method_15_code 7 = .ok (.i2b, 1) := by decide +kernel
theorem d7_8 : decode jdk_52_method_15_code 8 = .ok (.ireturn, 1) := by decide +kernel
theorem pn_7 : plainName "java/lang/StringUTF16" = true := by first | (simp [plainName, overriddenIn]; done) | decide +kernel
def QrmD1 (Z : State) (r0 : Addr) (fb : Nat → Value) (h0 : Heap) (n0 : Nat) (v : Option Value) (h : Heap) (L : List Loc) : Prop := v = some (.int 0) ∧ Fr n0 L ∧ h = h0
set_option maxRecDepth 65536 in
set_option maxHeartbeats 40000000 in
theorem rmD1 (l : Launch) (Z : State) (a0 : Array Value) (hw : ∀ d ∈ tables_1, d.before a0 Z = true) (ws : List Jvm.Cond) (r0 : Addr) (fb : Nat → Value) (h0 : Heap) (n0 : Nat) (Z0 : n0 ≤ h0.size) (V_r0 : Arf Z h0 r0 .byte 1 fb) :
    MetFree l (⟨"java/lang/StringUTF16", "coderFromArrayLen", "([BI)B"⟩ : MethodName) (head1 (Jvm.Cond.code (⟨"java/lang/StringUTF16", "coderFromArrayLen", "([BI)B"⟩ : MethodName) jdk_52_method_15_code 2 (some .byte) :: ws) ({ frames := 0, cells := 0, slots := 0, locals := 0 } : Room)) (fun a U => a = #[(.ref r0), (.int (1 : Int32))] ∧ Z.Warmed39 U.vm ∧ U.heap = h0) (fun _ _ _ _ _ => True) (fun _ U o U' => ∃ v L, o = .returned v ∧ QrmD1 Z r0 fb h0 n0 v U'.heap L ∧ FrameEnd U o U' L ({ frames := 0, cells := 0, slots := 0, locals := 0 } : Room).cells ({ frames := 0, cells := 0, slots := 0, locals := 0 } : Room).slots) := by
  refine MetFree.of_bodySF (plainFor_of_name pn_7) hisR ?_
  intro p e s m args below meth c s₁ Bd hml0 hP hK
  obtain ⟨rfl, hZ, hh⟩ := hP
  have hx := Bd.exec
  have hby := Bd.bytes
  have hml : c.maxLocals = 2 := hml0
  have hown : s.vm.findClass "java/lang/StringUTF16" = some m.cls := findClass_of_methodNamed Bd.named
  have hnm := (name_of_methodNamed Bd.named Bd.method).1
  have X0 : Stand p l e ({ frames := 0, cells := 0, slots := 0, locals := 0 } : Room) s m #[(.ref r0), (.int (1 : Int32))] below meth c s₁ [] 0 0 := Stand.of_body Bd
  have e0 : s₁.heap = h0 := by rw [← hh, Bd.state]; rfl
  have N0 := Fr.nil n0
  have ZZ := Z0
  show Go p e below s (QrmD1 Z r0 fb h0 n0) 0 0 (s₁.setTop (entryFrame m #[(.ref r0), (.int (1 : Int32))] 2))
  generalize hQQ : (QrmD1 Z r0 fb h0 n0) = QQ
  refine gs (fun t k => castTop (g' := (mkF m 0 #[rv r0, iv 1] [])) (by first | (simp [entryFrame, mkF, argsToLocals, Value.category, maxLocals]; done) | rfl) k) ?_
  show Go p e below s QQ 0 0 (s₁.setTop (mkF m 0 #[rv r0, iv 1] []))
  refine gs (fun t => XS.iloadN X0.here hx rfl (hb hby d7_0) rfl) ?_
  show Go p e below s QQ 0 0 (s₁.setTop (mkF m 1 #[rv r0, iv 1] [(.int (1 : Int32))]))
  refine gs (fun t => XS.aloadN X0.here hx rfl (hb hby d7_1) rfl rfl) ?_
  show Go p e below s QQ 0 0 (s₁.setTop (mkF m 2 #[rv r0, iv 1] [(.ref r0), (.int (1 : Int32))]))
  refine gs (fun t => lenf X0 hx hZ e0 V_r0 (z := (1 : Int32)) rfl (g := (mkF m 2 #[rv r0, iv 1] [(.ref r0), (.int (1 : Int32))])) rfl rfl (hb hby d7_2) t) ?_
  show Go p e below s QQ 0 0 (s₁.setTop (mkF m 3 #[rv r0, iv 1] [(.int (1 : Int32)), (.int (1 : Int32))]))
  refine gs (fun t => XS.isub X0.here hx rfl (hb hby d7_3) rfl) ?_
  show Go p e below s QQ 0 0 (s₁.setTop (mkF m 4 #[rv r0, iv 1] [(.int (0 : Int32))]))
  refine gs (fun t => XS.bipush X0.here hx rfl (hb hby d7_4)) ?_
  show Go p e below s QQ 0 0 (s₁.setTop (mkF m 6 #[rv r0, iv 1] [(.int (31 : Int32)), (.int (0 : Int32))]))
  refine gs (fun t => XS.iushr X0.here hx rfl (hb hby d7_6) rfl) ?_
  show Go p e below s QQ 0 0 (s₁.setTop (mkF m 7 #[rv r0, iv 1] [(.int (((0 : Int32).toUInt32 >>> ((31 : Int32) &&& 31).toUInt32).toInt32))]))
  rw [show (((0 : Int32).toUInt32 >>> ((31 : Int32) &&& 31).toUInt32).toInt32) = (0 : Int32) from (by decide)]
  show Go p e below s QQ 0 0 (s₁.setTop (mkF m 7 #[rv r0, iv 1] [(.int (0 : Int32))]))
  refine gs (fun t => XS.i2b X0.here hx rfl (hb hby d7_7) rfl) ?_
  show Go p e below s QQ 0 0 (s₁.setTop (mkF m 8 #[rv r0, iv 1] [(.int ((0 : Int32).toInt8.toInt32))]))
  rw [show ((0 : Int32).toInt8.toInt32) = (0 : Int32) from (by decide)]
  show Go p e below s QQ 0 0 (s₁.setTop (mkF m 8 #[rv r0, iv 1] [(.int (0 : Int32))]))
  exact goB X0 hx Bd.notSynchronized Bd.returns (by simp) (w := (0 : Int32)) (by first | rfl | decide) (hb hby d7_8) (by rw [← hQQ, e0]; exact ⟨rfl, N0, rfl⟩) (by decide) (by decide)
def QrmS1 (Z : State) (r0 : Addr) (r1 : Addr) (x0 : Int32) (x1 : Int32) (x2 : Int32) (cs : Int32) (h0 : Heap) (n0 : Nat) (v : Option Value) (h : Heap) (L : List Loc) : Prop := v = none ∧ Fr n0 L ∧ Keep h0 h [r0] ∧ ∃ d : Addr, Fld Z h r0 "java/lang/String" "value" "[B" (.ref d) ∧ Fld Z h r0 "java/lang/String" "coder" "B" (.int (0 : Int32)) ∧ Arf Z h d .byte 1 (own_b x0 x1 x2)
set_option maxRecDepth 65536 in
set_option maxHeartbeats 40000000 in
theorem rmS1 (l : Launch) (Z : State) (a0 : Array Value) (hw : ∀ d ∈ tables_1, d.before a0 Z = true) (ws : List Jvm.Cond) (r0 : Addr) (r1 : Addr) (x0 : Int32) (x1 : Int32) (x2 : Int32) (cs : Int32) (h0 : Heap) (n0 : Nat) (Z0 : n0 ≤ h0.size) (OLD : Old Z n0 h0) (CS : Sta Z Z.heap "java/lang/String" "COMPACT_STRINGS" "Z" (.int cs)) (hcs : ¬ (cs = (0 : Int32))) (F_value_r0 : Fld Z h0 r0 "java/lang/String" "value" "[B" .null) (F_coder_r0 : Fld Z h0 r0 "java/lang/String" "coder" "B" (.int (0 : Int32))) (E_r0 : Exa Z h0 r0 "java/lang/String") (ge_r0 : n0 ≤ r0) (ne_r0_r1 : r0 ≠ r1) (V_r1 : Arf Z h0 r1 .char 1 (own_c x0 x1 x2)) (hx0 : ¬ ((255 : Int32) < x0)) (hx1 : ¬ ((255 : Int32) < x1)) (hx2 : ¬ ((255 : Int32) < x2)) :
    MetFree l (⟨"java/lang/String", "<init>", "([CIILjava/lang/Void;)V"⟩ : MethodName) (head1 (Jvm.Cond.code (⟨"java/lang/String", "<init>", "([CIILjava/lang/Void;)V"⟩ : MethodName) jdk_42_method_149_code 6 none :: ws) ({ frames := 2, cells := 1, slots := 1, locals := 35 } : Room)) (fun a U => a = #[(.ref r0), (.ref r1), (.int (0 : Int32)), (.int (1 : Int32)), .null] ∧ Z.Warmed39 U.vm ∧ U.heap = h0) (fun _ _ _ _ _ => True) (fun _ U o U' => ∃ v L, o = .returned v ∧ QrmS1 Z r0 r1 x0 x1 x2 cs h0 n0 v U'.heap L ∧ FrameEnd U o U' L ({ frames := 2, cells := 1, slots := 1, locals := 35 } : Room).cells ({ frames := 2, cells := 1, slots := 1, locals := 35 } : Room).slots) := by
  refine MetFree.of_bodySF (plainFor_of_name pn_3) hisR ?_
  intro p e s m args below meth c s₁ Bd hml0 hP hK
  obtain ⟨rfl, hZ, hh⟩ := hP
  have hx := Bd.exec
  have hby := Bd.bytes
  have hml : c.maxLocals = 6 := hml0
  have hown : s.vm.findClass "java/lang/String" = some m.cls := findClass_of_methodNamed Bd.named
  have hnm := (name_of_methodNamed Bd.named Bd.method).1
  have X0 : Stand p l e ({ frames := 2, cells := 1, slots := 1, locals := 35 } : Room) s m #[(.ref r0), (.ref r1), (.int (0 : Int32)), (.int (1 : Int32)), .null] below meth c s₁ [] 0 0 := Stand.of_body Bd
  have e0 : s₁.heap = h0 := by rw [← hh, Bd.state]; rfl
  have N0 := Fr.nil n0
  have ZZ := Z0
  have KK : Keep h0 h0 [r0] := Keep.refl h0 _
  show Go p e below s (QrmS1 Z r0 r1 x0 x1 x2 cs h0 n0) 1 1 (s₁.setTop (entryFrame m #[(.ref r0), (.ref r1), (.int (0 : Int32)), (.int (1 : Int32)), .null] 6))
  generalize hQQ : (QrmS1 Z r0 r1 x0 x1 x2 cs h0 n0) = QQ
  refine gs (fun t k => castTop (g' := (mkF m 0 #[rv r0, rv r1, iv 0, iv 1, .val .null, .unset] [])) (by first | (simp [entryFrame, mkF, argsToLocals, Value.category, maxLocals]; done) | rfl) k) ?_
  show Go p e below s QQ 1 1 (s₁.setTop (mkF m 0 #[rv r0, rv r1, iv 0, iv 1, .val .null, .unset] []))
  refine gs (fun t => XS.aloadN X0.here hx rfl (hb hby d3_0) rfl rfl) ?_
  show Go p e below s QQ 1 1 (s₁.setTop (mkF m 1 #[rv r0, rv r1, iv 0, iv 1, .val .null, .unset] [(.ref r0)]))
  obtain ⟨T11, X11, e11, st11⟩ := initO X0 hx hZ hown (hw _ (List.mem_of_getElem? (i := 15) rfl)) (hw _ (List.mem_of_getElem? (i := 16) rfl)) (hw _ (List.mem_of_getElem? (i := 17) rfl)) e0 (g := (mkF m 1 #[rv r0, rv r1, iv 0, iv 1, .val .null, .unset] [(.ref r0)])) rfl (by rw [hml]; rfl) rfl (hb hby d3_1) (by decide) (W := 0) (by show 2 * 0 + _ ≤ _; exact Nat.le_of_eq rfl) (by decide)
  refine gs st11 ?_
  show Go p e below s QQ 1 1 (T11.setTop (mkF m 4 #[rv r0, rv r1, iv 0, iv 1, .val .null, .unset] []))
  refine gs (fun t => XS.iloadN X11.here hx rfl (hb hby d3_4) rfl) ?_
  show Go p e below s QQ 1 1 (T11.setTop (mkF m 5 #[rv r0, rv r1, iv 0, iv 1, .val .null, .unset] [(.int (1 : Int32))]))
  refine gs (fun t => XS.ifYes X11.here hx rfl (pc0 := 5) (pc' := 27) rfl (hb hby d3_5) rfl ((if0 _ _).trans (feq (by decide : ¬ ((1 : Int32) = (0 : Int32)))).2) (by decide) (by decide)) ?_
  show Go p e below s QQ 1 1 (T11.setTop (mkF m 27 #[rv r0, rv r1, iv 0, iv 1, .val .null, .unset] []))
  obtain ⟨T12, X12, e12, st12⟩ := getS2 X11 hx hZ hown (host := "") (Or.inl (hw _ (List.mem_of_getElem? (i := 18) rfl))) Via.refl e11 (CS.ext OLD.2) (g := (mkF m 27 #[rv r0, rv r1, iv 0, iv 1, .val .null, .unset] [])) rfl (hb hby d3_27)
  refine gs st12 ?_
  show Go p e below s QQ 1 1 (T12.setTop (mkF m 30 #[rv r0, rv r1, iv 0, iv 1, .val .null, .unset] [(.int cs)]))
  refine gs (fun t => XS.ifNo X12.here hx rfl (hb hby d3_30) rfl ((if0 _ _).trans (feq (hcs : ¬ (cs = (0 : Int32)))).1)) ?_
  show Go p e below s QQ 1 1 (T12.setTop (mkF m 33 #[rv r0, rv r1, iv 0, iv 1, .val .null, .unset] []))
  refine gs (fun t => XS.aloadN X12.here hx rfl (hb hby d3_33) rfl rfl) ?_
  show Go p e below s QQ 1 1 (T12.setTop (mkF m 34 #[rv r0, rv r1, iv 0, iv 1, .val .null, .unset] [(.ref r1)]))
  refine gs (fun t => XS.iloadN X12.here hx rfl (hb hby d3_34) rfl) ?_
  show Go p e below s QQ 1 1 (T12.setTop (mkF m 35 #[rv r0, rv r1, iv 0, iv 1, .val .null, .unset] [(.int (0 : Int32)), (.ref r1)]))
  refine gs (fun t => XS.iloadN X12.here hx rfl (hb hby d3_35) rfl) ?_
  show Go p e below s QQ 1 1 (T12.setTop (mkF m 36 #[rv r0, rv r1, iv 0, iv 1, .val .null, .unset] [(.int (1 : Int32)), (.int (0 : Int32)), (.ref r1)]))
  have ZZm13 := ZZ
  have KKm13 := KK
  have lt13_r0 := F_value_r0.lt
  have lt13_r1 := V_r1.lt
  obtain ⟨_, _, ⟨T14, L14, k14, n14⟩, -, X14, ⟨Lc14, hQ14, l14, y14, z14⟩, st14⟩ := Jvm.LawKit.callS X12 hx (y := (⟨"java/lang/StringUTF16", "compress", "([CII)[B"⟩ : MethodName)) hown (mvT hZ (hw _ (List.mem_of_getElem? (i := 19) rfl))) (mvT hZ (hw _ (List.mem_of_getElem? (i := 20) rfl))) (mvT hZ (hw _ (List.mem_of_getElem? (i := 21) rfl))) (mvT hZ (hw _ (List.mem_of_getElem? (i := 22) rfl))) (by decide) (backOf (W := 0) (rmR1 l Z a0 hw [] r1 x0 x1 x2 h0 n0 ZZ V_r1 hx0 hx1 hx2) hZ (hw _ (List.mem_of_getElem? (i := 22) rfl)) (hw _ (List.mem_of_getElem? (i := 21) rfl)) (by decide) (by decide)) (g := (mkF m 36 #[rv r0, rv r1, iv 0, iv 1, .val .null, .unset] [(.int (1 : Int32)), (.int (0 : Int32)), (.ref r1)])) rfl (by rw [hml]; rfl) (argsL := [(.ref r1), (.int (0 : Int32)), (.int (1 : Int32))]) (rest := []) (lenOf pd_2 rfl) rfl (by show 2 * 0 + _ ≤ _; exact Nat.le_of_eq rfl) (hb hby d3_36) (fun _ _ => ⟨rfl, e12, (by decide : 0 + 1 ≤ _), (by decide : 0 + 1 ≤ _)⟩)
  dsimp only [Pt.U, Pt.locs, Pt.cells, Pt.slots] at X14 l14 y14 z14 st14 hQ14
  subst l14 y14 z14
  obtain ⟨b14, rfl, N14q, gb14, K14, V14⟩ := hQ14
  replace N0 := Fr.app N0 N14q
  refine gs st14 ?_
  show Go p e below s QQ 1 1 (T14.setTop (mkF m 39 #[rv r0, rv r1, iv 0, iv 1, .val .null, .unset] [(.ref b14)]))
  replace F_value_r0 := F_value_r0.keep K14 nin0
  replace F_coder_r0 := F_coder_r0.keep K14 nin0
  replace E_r0 := E_r0.keep K14
  replace V_r1 := V_r1.keep K14 nin0
  replace OLD := OLD.keep K14 all0
  replace ZZ := Nat.le_trans ZZ K14.1
  replace KK := KK.trans K14 all0
  have ne_r0_b14 : r0 ≠ b14 := Nat.ne_of_lt (Nat.lt_of_lt_of_le lt13_r0 gb14)
  have ne_r1_b14 : r1 ≠ b14 := Nat.ne_of_lt (Nat.lt_of_lt_of_le lt13_r1 gb14)
  have ge_b14 : n0 ≤ b14 := Nat.le_trans ZZm13 gb14
  have sz_b14 : h0.size ≤ b14 := Nat.le_trans KKm13.1 gb14
  refine gs (fun t => XS.astore X14.here hx rfl (hb hby d3_39) rfl rfl (l' := #[rv r0, rv r1, iv 0, iv 1, .val .null, rv b14]) rfl) ?_
  show Go p e below s QQ 1 1 (T14.setTop (mkF m 41 #[rv r0, rv r1, iv 0, iv 1, .val .null, rv b14] []))
  refine gs (fun t => XS.aloadN X14.here hx rfl (hb hby d3_41) rfl rfl) ?_
  show Go p e below s QQ 1 1 (T14.setTop (mkF m 42 #[rv r0, rv r1, iv 0, iv 1, .val .null, rv b14] [(.ref r0)]))
  refine gs (fun t => XS.aload X14.here hx rfl (hb hby d3_42) rfl rfl) ?_
  show Go p e below s QQ 1 1 (T14.setTop (mkF m 44 #[rv r0, rv r1, iv 0, iv 1, .val .null, rv b14] [(.ref b14), (.ref r0)]))
  refine gs (fun t => XS.iloadN X14.here hx rfl (hb hby d3_44) rfl) ?_
  show Go p e below s QQ 1 1 (T14.setTop (mkF m 45 #[rv r0, rv r1, iv 0, iv 1, .val .null, rv b14] [(.int (1 : Int32)), (.ref b14), (.ref r0)]))
  obtain ⟨_, _, ⟨T15, L15, k15, n15⟩, -, X15, ⟨Lc15, hQ15, l15, y15, z15⟩, st15⟩ := Jvm.LawKit.callS X14 hx (y := (⟨"java/lang/StringUTF16", "coderFromArrayLen", "([BI)B"⟩ : MethodName)) hown (mvT hZ (hw _ (List.mem_of_getElem? (i := 27) rfl))) (mvT hZ (hw _ (List.mem_of_getElem? (i := 28) rfl))) (mvT hZ (hw _ (List.mem_of_getElem? (i := 21) rfl))) (mvT hZ (hw _ (List.mem_of_getElem? (i := 29) rfl))) (by decide) (backOf (W := 1) (rmD1 l Z a0 hw [] b14 (own_b x0 x1 x2) T14.heap n0 ZZ V14) hZ (hw _ (List.mem_of_getElem? (i := 29) rfl)) (hw _ (List.mem_of_getElem? (i := 21) rfl)) (by decide) (by decide)) (g := (mkF m 45 #[rv r0, rv r1, iv 0, iv 1, .val .null, rv b14] [(.int (1 : Int32)), (.ref b14), (.ref r0)])) rfl (by rw [hml]; rfl) (argsL := [(.ref b14), (.int (1 : Int32))]) (rest := [(.ref r0)]) (lenOf pd_3 rfl) rfl (by show 2 * 0 + _ ≤ _; exact Nat.le_of_eq rfl) (hb hby d3_45) (fun _ _ => ⟨rfl, rfl, (by decide : 1 + 0 ≤ _), (by decide : 1 + 0 ≤ _)⟩)
  dsimp only [Pt.U, Pt.locs, Pt.cells, Pt.slots] at X15 l15 y15 z15 st15 hQ15
  subst l15 y15 z15
  obtain ⟨rfl, N15q, e15⟩ := hQ15
  replace N0 := Fr.app N0 N15q
  refine gs st15 ?_
  show Go p e below s QQ 1 1 (T15.setTop (mkF m 48 #[rv r0, rv r1, iv 0, iv 1, .val .null, rv b14] [(.int (0 : Int32)), (.ref r0)]))
  obtain ⟨T16, h16, X16, e16, W16, st16⟩ := putFN X15 hx hZ hown (hw _ (List.mem_of_getElem? (i := 30) rfl)) Via.refl e15 F_coder_r0 E_r0 (Or.inr ⟨(hw _ (List.mem_of_getElem? (i := 31) rfl)), rfl, hnm⟩) (hw _ (List.mem_of_getElem? (i := 6) rfl)) (ty := .byte) (v' := .int (0 : Int32)) (by decide) (by first | rfl | simp [narrow]) (by first | decide | exact fits_nar_byte _) (g := (mkF m 48 #[rv r0, rv r1, iv 0, iv 1, .val .null, rv b14] [(.int (0 : Int32)), (.ref r0)])) rfl rfl (hb hby d3_48)
  replace N0 := Fr.snoc X16 N0 ge_r0
  refine gs st16 ?_
  show Go p e below s QQ 1 1 (T16.setTop (mkF m 51 #[rv r0, rv r1, iv 0, iv 1, .val .null, rv b14] []))
  replace F_value_r0 := F_value_r0.other W16 (Or.inr (slot_ne (Or.inr (hw _ (List.mem_of_getElem? (i := 33) rfl))) (Or.inr (hw _ (List.mem_of_getElem? (i := 31) rfl))) (by decide) (t := (.array .byte)) (t' := .byte) (by decide) (by decide)))
  replace F_coder_r0 := F_coder_r0.same W16
  replace E_r0 := E_r0.wr W16
  replace V_r1 := V_r1.other W16 (Ne.symm ne_r0_r1)
  replace OLD := OLD.wr W16 ge_r0
  replace V14 := V14.other W16 (Ne.symm ne_r0_b14)
  replace ZZ : n0 ≤ h16.size := by rw [W16.size]; exact ZZ
  replace KK := KK.wr W16 (Or.inl (by simp))
  refine gs (fun t => XS.aloadN X16.here hx rfl (hb hby d3_51) rfl rfl) ?_
  show Go p e below s QQ 1 1 (T16.setTop (mkF m 52 #[rv r0, rv r1, iv 0, iv 1, .val .null, rv b14] [(.ref r0)]))
  refine gs (fun t => XS.aload X16.here hx rfl (hb hby d3_52) rfl rfl) ?_
  show Go p e below s QQ 1 1 (T16.setTop (mkF m 54 #[rv r0, rv r1, iv 0, iv 1, .val .null, rv b14] [(.ref b14), (.ref r0)]))
  obtain ⟨T17, h17, X17, e17, W17, st17⟩ := putF X16 hx hZ hown (host := "") (Or.inl (hw _ (List.mem_of_getElem? (i := 32) rfl))) Via.refl e16 F_value_r0 E_r0 (Or.inr ⟨(hw _ (List.mem_of_getElem? (i := 33) rfl)), rfl, hnm⟩) (hw _ (List.mem_of_getElem? (i := 6) rfl)) (ty := (.array .byte)) (by decide) rfl rfl (g := (mkF m 54 #[rv r0, rv r1, iv 0, iv 1, .val .null, rv b14] [(.ref b14), (.ref r0)])) rfl rfl (hb hby d3_54)
  replace N0 := Fr.snoc X17 N0 ge_r0
  refine gs st17 ?_
  show Go p e below s QQ 1 1 (T17.setTop (mkF m 57 #[rv r0, rv r1, iv 0, iv 1, .val .null, rv b14] []))
  replace F_value_r0 := F_value_r0.same W17
  replace F_coder_r0 := F_coder_r0.other W17 (Or.inr (slot_ne (Or.inr (hw _ (List.mem_of_getElem? (i := 31) rfl))) (Or.inr (hw _ (List.mem_of_getElem? (i := 33) rfl))) (by decide) (t := .byte) (t' := (.array .byte)) (by decide) (by decide)))
  replace E_r0 := E_r0.wr W17
  replace V_r1 := V_r1.other W17 (Ne.symm ne_r0_r1)
  replace OLD := OLD.wr W17 ge_r0
  replace V14 := V14.other W17 (Ne.symm ne_r0_b14)
  replace ZZ : n0 ≤ h17.size := by rw [W17.size]; exact ZZ
  replace KK := KK.wr W17 (Or.inl (by simp))
  exact goV X17 hx Bd.notSynchronized Bd.returns (hb hby d3_57) (by rw [← hQQ, e17]; exact ⟨rfl, N0, KK, _, F_value_r0, F_coder_r0, V14⟩) (by decide) (by decide)
def QrmT1 (Z : State) (r0 : Addr) (r1 : Addr) (x0 : Int32) (x1 : Int32) (x2 : Int32) (cs : Int32) (h0 : Heap) (n0 : Nat) (v : Option Value) (h : Heap) (L : List Loc) : Prop := v = none ∧ Fr n0 L ∧ Keep h0 h [r0] ∧ ∃ d : Addr, Fld Z h r0 "java/lang/String" "value" "[B" (.ref d) ∧ Fld Z h r0 "java/lang/String" "coder" "B" (.int (0 : Int32)) ∧ Arf Z h d .byte 1 (own_b x0 x1 x2)
set_option maxRecDepth 65536 in
set_option maxHeartbeats 40000000 in
theorem rmT1 (l : Launch) (Z : State) (a0 : Array Value) (hw : ∀ d ∈ tables_1, d.before a0 Z = true) (ws : List Jvm.Cond) (r0 : Addr) (r1 : Addr) (x0 : Int32) (x1 : Int32) (x2 : Int32) (cs : Int32) (h0 : Heap) (n0 : Nat) (Z0 : n0 ≤ h0.size) (OLD : Old Z n0 h0) (CS : Sta Z Z.heap "java/lang/String" "COMPACT_STRINGS" "Z" (.int cs)) (hcs : ¬ (cs = (0 : Int32))) (F_value_r0 : Fld Z h0 r0 "java/lang/String" "value" "[B" .null) (F_coder_r0 : Fld Z h0 r0 "java/lang/String" "coder" "B" (.int (0 : Int32))) (E_r0 : Exa Z h0 r0 "java/lang/String") (ge_r0 : n0 ≤ r0) (ne_r0_r1 : r0 ≠ r1) (V_r1 : Arf Z h0 r1 .char 1 (own_c x0 x1 x2)) (hx0 : ¬ ((255 : Int32) < x0)) (hx1 : ¬ ((255 : Int32) < x1)) (hx2 : ¬ ((255 : Int32) < x2)) :
    MetFree l (⟨"java/lang/String", "<init>", "([C)V"⟩ : MethodName) (head1 (Jvm.Cond.code (⟨"java/lang/String", "<init>", "([C)V"⟩ : MethodName) jdk_42_method_3_code 2 none :: ws) ({ frames := 3, cells := 1, slots := 1, locals := 52 } : Room)) (fun a U => a = #[(.ref r0), (.ref r1)] ∧ Z.Warmed39 U.vm ∧ U.heap = h0) (fun _ _ _ _ _ => True) (fun _ U o U' => ∃ v L, o = .returned v ∧ QrmT1 Z r0 r1 x0 x1 x2 cs h0 n0 v U'.heap L ∧ FrameEnd U o U' L ({ frames := 3, cells := 1, slots := 1, locals := 52 } : Room).cells ({ frames := 3, cells := 1, slots := 1, locals := 52 } : Room).slots) := by
  refine MetFree.of_bodySF (plainFor_of_name pn_2) hisR ?_
  intro p e s m args below meth c s₁ Bd hml0 hP hK
  obtain ⟨rfl, hZ, hh⟩ := hP
  have hx := Bd.exec
  have hby := Bd.bytes
  have hml : c.maxLocals = 2 := hml0
  have hown : s.vm.findClass "java/lang/String" = some m.cls := findClass_of_methodNamed Bd.named
  have hnm := (name_of_methodNamed Bd.named Bd.method).1
  have X0 : Stand p l e ({ frames := 3, cells := 1, slots := 1, locals := 52 } : Room) s m #[(.ref r0), (.ref r1)] below meth c s₁ [] 0 0 := Stand.of_body Bd
  have e0 : s₁.heap = h0 := by rw [← hh, Bd.state]; rfl
  have N0 := Fr.nil n0
  have ZZ := Z0
  have KK : Keep h0 h0 [r0] := Keep.refl h0 _
  show Go p e below s (QrmT1 Z r0 r1 x0 x1 x2 cs h0 n0) 1 1 (s₁.setTop (entryFrame m #[(.ref r0), (.ref r1)] 2))
  generalize hQQ : (QrmT1 Z r0 r1 x0 x1 x2 cs h0 n0) = QQ
  refine gs (fun t k => castTop (g' := (mkF m 0 #[rv r0, rv r1] [])) (by first | (simp [entryFrame, mkF, argsToLocals, Value.category, maxLocals]; done) | rfl) k) ?_
  show Go p e below s QQ 1 1 (s₁.setTop (mkF m 0 #[rv r0, rv r1] []))
  refine gs (fun t => XS.aloadN X0.here hx rfl (hb hby d2_0) rfl rfl) ?_
  show Go p e below s QQ 1 1 (s₁.setTop (mkF m 1 #[rv r0, rv r1] [(.ref r0)]))
  refine gs (fun t => XS.aloadN X0.here hx rfl (hb hby d2_1) rfl rfl) ?_
  show Go p e below s QQ 1 1 (s₁.setTop (mkF m 2 #[rv r0, rv r1] [(.ref r1), (.ref r0)]))
  refine gs (fun t => XS.iconst X0.here hx rfl (hb hby d2_2)) ?_
  show Go p e below s QQ 1 1 (s₁.setTop (mkF m 3 #[rv r0, rv r1] [(.int (0 : Int32)), (.ref r1), (.ref r0)]))
  refine gs (fun t => XS.aloadN X0.here hx rfl (hb hby d2_3) rfl rfl) ?_
  show Go p e below s QQ 1 1 (s₁.setTop (mkF m 4 #[rv r0, rv r1] [(.ref r1), (.int (0 : Int32)), (.ref r1), (.ref r0)]))
  refine gs (fun t => lenf X0 hx hZ e0 V_r1 (z := (1 : Int32)) rfl (g := (mkF m 4 #[rv r0, rv r1] [(.ref r1), (.int (0 : Int32)), (.ref r1), (.ref r0)])) rfl rfl (hb hby d2_4) t) ?_
  show Go p e below s QQ 1 1 (s₁.setTop (mkF m 5 #[rv r0, rv r1] [(.int (1 : Int32)), (.int (0 : Int32)), (.ref r1), (.ref r0)]))
  refine gs (fun t => XS.aconstNull X0.here hx rfl (hb hby d2_5)) ?_
  show Go p e below s QQ 1 1 (s₁.setTop (mkF m 6 #[rv r0, rv r1] [.null, (.int (1 : Int32)), (.int (0 : Int32)), (.ref r1), (.ref r0)]))
  obtain ⟨_, _, ⟨T18, L18, k18, n18⟩, -, X18, ⟨Lc18, hQ18, l18, y18, z18⟩, st18⟩ := X0.specialBack hx (y := (⟨"java/lang/String", "<init>", "([CIILjava/lang/Void;)V"⟩ : MethodName)) rfl hown (mvT hZ (hw _ (List.mem_of_getElem? (i := 11) rfl))) (mvT hZ (hw _ (List.mem_of_getElem? (i := 12) rfl))) (mvT hZ (hw _ (List.mem_of_getElem? (i := 14) rfl))) (by decide) (backOf (W := 0) (rmS1 l Z a0 hw [] r0 r1 x0 x1 x2 cs h0 n0 ZZ OLD CS hcs F_value_r0 F_coder_r0 E_r0 ge_r0 ne_r0_r1 V_r1 hx0 hx1 hx2) hZ (hw _ (List.mem_of_getElem? (i := 14) rfl)) (hw _ (List.mem_of_getElem? (i := 7) rfl)) (by decide) (by decide)) (g := (mkF m 6 #[rv r0, rv r1] [.null, (.int (1 : Int32)), (.int (0 : Int32)), (.ref r1), (.ref r0)])) rfl (by rw [hml]; rfl) (Steps.refl _) (a := r0) (argsL := [(.ref r1), (.int (0 : Int32)), (.int (1 : Int32)), .null]) (rest := []) (lenOf pd_0 rfl) rfl (by show 2 * 0 + _ ≤ _; exact Nat.le_of_eq rfl) (hb hby d2_6) (fun _ _ => ⟨rfl, e0, (by decide : 0 + 1 ≤ _), (by decide : 0 + 1 ≤ _)⟩)
  dsimp only [Pt.U, Pt.locs, Pt.cells, Pt.slots] at X18 l18 y18 z18 st18 hQ18
  subst l18 y18 z18
  obtain ⟨rfl, N18q, K18, d18, F1_18, F2_18, A18⟩ := hQ18
  replace N0 := Fr.app N0 N18q
  refine gt st18 ?_
  show Go p e below s QQ 1 1 (T18.setTop (mkF m 9 #[rv r0, rv r1] []))
  replace E_r0 := E_r0.keep K18
  replace V_r1 := V_r1.keep K18 (ninS (Ne.symm ne_r0_r1) nin0)
  replace OLD := OLD.keep K18 (allS ge_r0 all0)
  replace ZZ := Nat.le_trans ZZ K18.1
  replace KK := KK.trans K18 (allS (Or.inl (by simp)) all0)
  exact goV X18 hx Bd.notSynchronized Bd.returns (hb hby d2_9) (by rw [← hQQ]; exact ⟨rfl, N0, KK, _, F1_18, F2_18, A18⟩) (by decide) (by decide)
def QrmP2 (Z : State) (r0 : Addr) (r2 : Addr) (x0 : Int32) (x1 : Int32) (x2 : Int32) (h0 : Heap) (n0 : Nat) (v : Option Value) (h : Heap) (L : List Loc) : Prop := v = some (.int 2) ∧ Fr n0 L ∧ Keep h0 h [r2] ∧ Arf Z h r2 .byte 2 (own_b x0 x1 x2)
set_option maxRecDepth 65536 in
set_option maxHeartbeats 40000000 in
theorem rmP2 (l : Launch) (Z : State) (a0 : Array Value) (hw : ∀ d ∈ tables_1, d.before a0 Z = true) (ws : List Jvm.Cond) (r0 : Addr) (r2 : Addr) (x0 : Int32) (x1 : Int32) (x2 : Int32) (h0 : Heap) (n0 : Nat) (Z0 : n0 ≤ h0.size) (V_r0 : Arf Z h0 r0 .char 2 (own_c x0 x1 x2)) (V_r2 : Arf Z h0 r2 .byte 2 (fun _ => .int 0)) (ne_r0_r2 : r0 ≠ r2) (ge_r2 : n0 ≤ r2) (hx0 : ¬ ((255 : Int32) < x0)) (hx1 : ¬ ((255 : Int32) < x1)) (hx2 : ¬ ((255 : Int32) < x2)) :
    MetFree l (⟨"java/lang/StringUTF16", "compress", "([CI[BII)I"⟩ : MethodName) (head1 (Jvm.Cond.code (⟨"java/lang/StringUTF16", "compress", "([CI[BII)I"⟩ : MethodName) jdk_52_method_21_code 7 (some .int) :: ws) ({ frames := 0, cells := 0, slots := 0, locals := 0 } : Room)) (fun a U => a = #[(.ref r0), (.int (0 : Int32)), (.ref r2), (.int (0 : Int32)), (.int (2 : Int32))] ∧ Z.Warmed39 U.vm ∧ U.heap = h0) (fun _ _ _ _ _ => True) (fun _ U o U' => ∃ v L, o = .returned v ∧ QrmP2 Z r0 r2 x0 x1 x2 h0 n0 v U'.heap L ∧ FrameEnd U o U' L ({ frames := 0, cells := 0, slots := 0, locals := 0 } : Room).cells ({ frames := 0, cells := 0, slots := 0, locals := 0 } : Room).slots) := by
  refine MetFree.of_bodySF (plainFor_of_name pn_6) hisR ?_
  intro p e s m args below meth c s₁ Bd hml0 hP hK
  obtain ⟨rfl, hZ, hh⟩ := hP
  have hx := Bd.exec
  have hby := Bd.bytes
  have hml : c.maxLocals = 7 := hml0
  have hown : s.vm.findClass "java/lang/StringUTF16" = some m.cls := findClass_of_methodNamed Bd.named
  have hnm := (name_of_methodNamed Bd.named Bd.method).1
  have X0 : Stand p l e ({ frames := 0, cells := 0, slots := 0, locals := 0 } : Room) s m #[(.ref r0), (.int (0 : Int32)), (.ref r2), (.int (0 : Int32)), (.int (2 : Int32))] below meth c s₁ [] 0 0 := Stand.of_body Bd
  have e0 : s₁.heap = h0 := by rw [← hh, Bd.state]; rfl
  have N0 := Fr.nil n0
  have ZZ := Z0
  have KK : Keep h0 h0 [r2] := Keep.refl h0 _
  show Go p e below s (QrmP2 Z r0 r2 x0 x1 x2 h0 n0) 0 0 (s₁.setTop (entryFrame m #[(.ref r0), (.int (0 : Int32)), (.ref r2), (.int (0 : Int32)), (.int (2 : Int32))] 7))
  generalize hQQ : (QrmP2 Z r0 r2 x0 x1 x2 h0 n0) = QQ
  refine gs (fun t k => castTop (g' := (mkF m 0 #[rv r0, iv 0, rv r2, iv 0, iv 2, .unset, .unset] [])) (by first | (simp [entryFrame, mkF, argsToLocals, Value.category, maxLocals]; done) | rfl) k) ?_
  show Go p e below s QQ 0 0 (s₁.setTop (mkF m 0 #[rv r0, iv 0, rv r2, iv 0, iv 2, .unset, .unset] []))
  refine gs (fun t => XS.iconst X0.here hx rfl (hb hby d6_0)) ?_
  show Go p e below s QQ 0 0 (s₁.setTop (mkF m 1 #[rv r0, iv 0, rv r2, iv 0, iv 2, .unset, .unset] [(.int (0 : Int32))]))
  refine gs (fun t => XS.istore X0.here hx rfl (hb hby d6_1) rfl (l' := #[rv r0, iv 0, rv r2, iv 0, iv 2, iv 0, .unset]) rfl) ?_
  show Go p e below s QQ 0 0 (s₁.setTop (mkF m 3 #[rv r0, iv 0, rv r2, iv 0, iv 2, iv 0, .unset] []))
  refine gs (fun t => XS.iload X0.here hx rfl (hb hby d6_3) rfl) ?_
  show Go p e below s QQ 0 0 (s₁.setTop (mkF m 5 #[rv r0, iv 0, rv r2, iv 0, iv 2, iv 0, .unset] [(.int (0 : Int32))]))
  refine gs (fun t => XS.iload X0.here hx rfl (hb hby d6_5) rfl) ?_
  show Go p e below s QQ 0 0 (s₁.setTop (mkF m 7 #[rv r0, iv 0, rv r2, iv 0, iv 2, iv 0, .unset] [(.int (2 : Int32)), (.int (0 : Int32))]))
  refine gs (fun t => XS.icmpNo X0.here hx rfl (hb hby d6_7) rfl (tlt (by decide : (0 : Int32) < (2 : Int32))).2.1) ?_
  show Go p e below s QQ 0 0 (s₁.setTop (mkF m 10 #[rv r0, iv 0, rv r2, iv 0, iv 2, iv 0, .unset] []))
  refine gs (fun t => XS.aloadN X0.here hx rfl (hb hby d6_10) rfl rfl) ?_
  show Go p e below s QQ 0 0 (s₁.setTop (mkF m 11 #[rv r0, iv 0, rv r2, iv 0, iv 2, iv 0, .unset] [(.ref r0)]))
  refine gs (fun t => XS.iloadN X0.here hx rfl (hb hby d6_11) rfl) ?_
  show Go p e below s QQ 0 0 (s₁.setTop (mkF m 12 #[rv r0, iv 0, rv r2, iv 0, iv 2, iv 0, .unset] [(.int (0 : Int32)), (.ref r0)]))
  refine gs (fun t => ldCf X0 hx hZ e0 V_r0 (j := (0 : Int32)) (v := (.int x0)) (by decide) rfl (g := (mkF m 12 #[rv r0, iv 0, rv r2, iv 0, iv 2, iv 0, .unset] [(.int (0 : Int32)), (.ref r0)])) rfl rfl (hb hby d6_12) t) ?_
  show Go p e below s QQ 0 0 (s₁.setTop (mkF m 13 #[rv r0, iv 0, rv r2, iv 0, iv 2, iv 0, .unset] [(.int x0)]))
  refine gs (fun t => XS.istore X0.here hx rfl (hb hby d6_13) rfl (l' := #[rv r0, iv 0, rv r2, iv 0, iv 2, iv 0, iv x0]) rfl) ?_
  show Go p e below s QQ 0 0 (s₁.setTop (mkF m 15 #[rv r0, iv 0, rv r2, iv 0, iv 2, iv 0, iv x0] []))
  refine gs (fun t => XS.iload X0.here hx rfl (hb hby d6_15) rfl) ?_
  show Go p e below s QQ 0 0 (s₁.setTop (mkF m 17 #[rv r0, iv 0, rv r2, iv 0, iv 2, iv 0, iv x0] [(.int x0)]))
  refine gs (fun t => XS.sipush X0.here hx rfl (hb hby d6_17)) ?_
  show Go p e below s QQ 0 0 (s₁.setTop (mkF m 20 #[rv r0, iv 0, rv r2, iv 0, iv 2, iv 0, iv x0] [(.int (255 : Int32)), (.int x0)]))
  refine gs (fun t => XS.icmpYes X0.here hx rfl (pc0 := 20) (pc' := 26) rfl (hb hby d6_20) rfl (flt (hx0 : ¬ ((255 : Int32) < x0))).2.2.2 (by decide) (by decide)) ?_
  show Go p e below s QQ 0 0 (s₁.setTop (mkF m 26 #[rv r0, iv 0, rv r2, iv 0, iv 2, iv 0, iv x0] []))
  refine gs (fun t => XS.aloadN X0.here hx rfl (hb hby d6_26) rfl rfl) ?_
  show Go p e below s QQ 0 0 (s₁.setTop (mkF m 27 #[rv r0, iv 0, rv r2, iv 0, iv 2, iv 0, iv x0] [(.ref r2)]))
  refine gs (fun t => XS.iloadN X0.here hx rfl (hb hby d6_27) rfl) ?_
  show Go p e below s QQ 0 0 (s₁.setTop (mkF m 28 #[rv r0, iv 0, rv r2, iv 0, iv 2, iv 0, iv x0] [(.int (0 : Int32)), (.ref r2)]))
  refine gs (fun t => XS.iload X0.here hx rfl (hb hby d6_28) rfl) ?_
  show Go p e below s QQ 0 0 (s₁.setTop (mkF m 30 #[rv r0, iv 0, rv r2, iv 0, iv 2, iv 0, iv x0] [(.int x0), (.int (0 : Int32)), (.ref r2)]))
  refine gs (fun t => XS.i2b X0.here hx rfl (hb hby d6_30) rfl) ?_
  show Go p e below s QQ 0 0 (s₁.setTop (mkF m 31 #[rv r0, iv 0, rv r2, iv 0, iv 2, iv 0, iv x0] [(.int (x0.toInt8.toInt32)), (.int (0 : Int32)), (.ref r2)]))
  obtain ⟨T19, h19, X19, e19, W19, V19, st19⟩ := stBf X0 hx hZ e0 V_r2 (j := (0 : Int32)) (by decide) (g := (mkF m 31 #[rv r0, iv 0, rv r2, iv 0, iv 2, iv 0, iv x0] [(.int (x0.toInt8.toInt32)), (.int (0 : Int32)), (.ref r2)])) rfl rfl (hb hby d6_31)
  replace N0 := Fr.snoc X19 N0 ge_r2
  refine gs st19 ?_
  show Go p e below s QQ 0 0 (T19.setTop (mkF m 32 #[rv r0, iv 0, rv r2, iv 0, iv 2, iv 0, iv x0] []))
  replace V_r0 := V_r0.other W19 ne_r0_r2
  replace ZZ : n0 ≤ h19.size := by rw [W19.size]; exact ZZ
  replace KK := KK.wr W19 (Or.inl (by simp))
  replace V_r2 : Arf Z h19 r2 .byte 2 (updv (fun _ => .int 0) 0 (.int (nar .byte (x0.toInt8.toInt32)))) := V19
  refine gs (fun t => XS.iinc X19.here hx rfl (hb hby d6_32) rfl (l' := #[rv r0, iv 1, rv r2, iv 0, iv 2, iv 0, iv x0]) rfl) ?_
  show Go p e below s QQ 0 0 (T19.setTop (mkF m 35 #[rv r0, iv 1, rv r2, iv 0, iv 2, iv 0, iv x0] []))
  refine gs (fun t => XS.iinc X19.here hx rfl (hb hby d6_35) rfl (l' := #[rv r0, iv 1, rv r2, iv 1, iv 2, iv 0, iv x0]) rfl) ?_
  show Go p e below s QQ 0 0 (T19.setTop (mkF m 38 #[rv r0, iv 1, rv r2, iv 1, iv 2, iv 0, iv x0] []))
  refine gs (fun t => XS.iinc X19.here hx rfl (hb hby d6_38) rfl (l' := #[rv r0, iv 1, rv r2, iv 1, iv 2, iv 1, iv x0]) rfl) ?_
  show Go p e below s QQ 0 0 (T19.setTop (mkF m 41 #[rv r0, iv 1, rv r2, iv 1, iv 2, iv 1, iv x0] []))
  refine gs (fun t => XS.goto X19.here hx rfl (pc0 := 41) (pc' := 3) rfl (hb hby d6_41) (by decide) (by decide)) ?_
  show Go p e below s QQ 0 0 (T19.setTop (mkF m 3 #[rv r0, iv 1, rv r2, iv 1, iv 2, iv 1, iv x0] []))
  refine gs (fun t => XS.iload X19.here hx rfl (hb hby d6_3) rfl) ?_
  show Go p e below s QQ 0 0 (T19.setTop (mkF m 5 #[rv r0, iv 1, rv r2, iv 1, iv 2, iv 1, iv x0] [(.int (1 : Int32))]))
  refine gs (fun t => XS.iload X19.here hx rfl (hb hby d6_5) rfl) ?_
  show Go p e below s QQ 0 0 (T19.setTop (mkF m 7 #[rv r0, iv 1, rv r2, iv 1, iv 2, iv 1, iv x0] [(.int (2 : Int32)), (.int (1 : Int32))]))
  refine gs (fun t => XS.icmpNo X19.here hx rfl (hb hby d6_7) rfl (tlt (by decide : (1 : Int32) < (2 : Int32))).2.1) ?_
  show Go p e below s QQ 0 0 (T19.setTop (mkF m 10 #[rv r0, iv 1, rv r2, iv 1, iv 2, iv 1, iv x0] []))
  refine gs (fun t => XS.aloadN X19.here hx rfl (hb hby d6_10) rfl rfl) ?_
  show Go p e below s QQ 0 0 (T19.setTop (mkF m 11 #[rv r0, iv 1, rv r2, iv 1, iv 2, iv 1, iv x0] [(.ref r0)]))
  refine gs (fun t => XS.iloadN X19.here hx rfl (hb hby d6_11) rfl) ?_
  show Go p e below s QQ 0 0 (T19.setTop (mkF m 12 #[rv r0, iv 1, rv r2, iv 1, iv 2, iv 1, iv x0] [(.int (1 : Int32)), (.ref r0)]))
  refine gs (fun t => ldCf X19 hx hZ e19 V_r0 (j := (1 : Int32)) (v := (.int x1)) (by decide) rfl (g := (mkF m 12 #[rv r0, iv 1, rv r2, iv 1, iv 2, iv 1, iv x0] [(.int (1 : Int32)), (.ref r0)])) rfl rfl (hb hby d6_12) t) ?_
  show Go p e below s QQ 0 0 (T19.setTop (mkF m 13 #[rv r0, iv 1, rv r2, iv 1, iv 2, iv 1, iv x0] [(.int x1)]))
  refine gs (fun t => XS.istore X19.here hx rfl (hb hby d6_13) rfl (l' := #[rv r0, iv 1, rv r2, iv 1, iv 2, iv 1, iv x1]) rfl) ?_
  show Go p e below s QQ 0 0 (T19.setTop (mkF m 15 #[rv r0, iv 1, rv r2, iv 1, iv 2, iv 1, iv x1] []))
  refine gs (fun t => XS.iload X19.here hx rfl (hb hby d6_15) rfl) ?_
  show Go p e below s QQ 0 0 (T19.setTop (mkF m 17 #[rv r0, iv 1, rv r2, iv 1, iv 2, iv 1, iv x1] [(.int x1)]))
  refine gs (fun t => XS.sipush X19.here hx rfl (hb hby d6_17)) ?_
  show Go p e below s QQ 0 0 (T19.setTop (mkF m 20 #[rv r0, iv 1, rv r2, iv 1, iv 2, iv 1, iv x1] [(.int (255 : Int32)), (.int x1)]))
  refine gs (fun t => XS.icmpYes X19.here hx rfl (pc0 := 20) (pc' := 26) rfl (hb hby d6_20) rfl (flt (hx1 : ¬ ((255 : Int32) < x1))).2.2.2 (by decide) (by decide)) ?_
  show Go p e below s QQ 0 0 (T19.setTop (mkF m 26 #[rv r0, iv 1, rv r2, iv 1, iv 2, iv 1, iv x1] []))
  refine gs (fun t => XS.aloadN X19.here hx rfl (hb hby d6_26) rfl rfl) ?_
  show Go p e below s QQ 0 0 (T19.setTop (mkF m 27 #[rv r0, iv 1, rv r2, iv 1, iv 2, iv 1, iv x1] [(.ref r2)]))
  refine gs (fun t => XS.iloadN X19.here hx rfl (hb hby d6_27) rfl) ?_
  show Go p e below s QQ 0 0 (T19.setTop (mkF m 28 #[rv r0, iv 1, rv r2, iv 1, iv 2, iv 1, iv x1] [(.int (1 : Int32)), (.ref r2)]))
  refine gs (fun t => XS.iload X19.here hx rfl (hb hby d6_28) rfl) ?_
  show Go p e below s QQ 0 0 (T19.setTop (mkF m 30 #[rv r0, iv 1, rv r2, iv 1, iv 2, iv 1, iv x1] [(.int x1), (.int (1 : Int32)), (.ref r2)]))
  refine gs (fun t => XS.i2b X19.here hx rfl (hb hby d6_30) rfl) ?_
  show Go p e below s QQ 0 0 (T19.setTop (mkF m 31 #[rv r0, iv 1, rv r2, iv 1, iv 2, iv 1, iv x1] [(.int (x1.toInt8.toInt32)), (.int (1 : Int32)), (.ref r2)]))
  obtain ⟨T20, h20, X20, e20, W20, V20, st20⟩ := stBf X19 hx hZ e19 V_r2 (j := (1 : Int32)) (by decide) (g := (mkF m 31 #[rv r0, iv 1, rv r2, iv 1, iv 2, iv 1, iv x1] [(.int (x1.toInt8.toInt32)), (.int (1 : Int32)), (.ref r2)])) rfl rfl (hb hby d6_31)
  replace N0 := Fr.snoc X20 N0 ge_r2
  refine gs st20 ?_
  show Go p e below s QQ 0 0 (T20.setTop (mkF m 32 #[rv r0, iv 1, rv r2, iv 1, iv 2, iv 1, iv x1] []))
  replace V_r0 := V_r0.other W20 ne_r0_r2
  replace ZZ : n0 ≤ h20.size := by rw [W20.size]; exact ZZ
  replace KK := KK.wr W20 (Or.inl (by simp))
  replace V_r2 : Arf Z h20 r2 .byte 2 (updv (updv (fun _ => .int 0) 0 (.int (nar .byte (x0.toInt8.toInt32)))) 1 (.int (nar .byte (x1.toInt8.toInt32)))) := V20
  refine gs (fun t => XS.iinc X20.here hx rfl (hb hby d6_32) rfl (l' := #[rv r0, iv 2, rv r2, iv 1, iv 2, iv 1, iv x1]) rfl) ?_
  show Go p e below s QQ 0 0 (T20.setTop (mkF m 35 #[rv r0, iv 2, rv r2, iv 1, iv 2, iv 1, iv x1] []))
  refine gs (fun t => XS.iinc X20.here hx rfl (hb hby d6_35) rfl (l' := #[rv r0, iv 2, rv r2, iv 2, iv 2, iv 1, iv x1]) rfl) ?_
  show Go p e below s QQ 0 0 (T20.setTop (mkF m 38 #[rv r0, iv 2, rv r2, iv 2, iv 2, iv 1, iv x1] []))
  refine gs (fun t => XS.iinc X20.here hx rfl (hb hby d6_38) rfl (l' := #[rv r0, iv 2, rv r2, iv 2, iv 2, iv 2, iv x1]) rfl) ?_
  show Go p e below s QQ 0 0 (T20.setTop (mkF m 41 #[rv r0, iv 2, rv r2, iv 2, iv 2, iv 2, iv x1] []))
  refine gs (fun t => XS.goto X20.here hx rfl (pc0 := 41) (pc' := 3) rfl (hb hby d6_41) (by decide) (by decide)) ?_
  show Go p e below s QQ 0 0 (T20.setTop (mkF m 3 #[rv r0, iv 2, rv r2, iv 2, iv 2, iv 2, iv x1] []))
  refine gs (fun t => XS.iload X20.here hx rfl (hb hby d6_3) rfl) ?_
  show Go p e below s QQ 0 0 (T20.setTop (mkF m 5 #[rv r0, iv 2, rv r2, iv 2, iv 2, iv 2, iv x1] [(.int (2 : Int32))]))
  refine gs (fun t => XS.iload X20.here hx rfl (hb hby d6_5) rfl) ?_
  show Go p e below s QQ 0 0 (T20.setTop (mkF m 7 #[rv r0, iv 2, rv r2, iv 2, iv 2, iv 2, iv x1] [(.int (2 : Int32)), (.int (2 : Int32))]))
  refine gs (fun t => XS.icmpYes X20.here hx rfl (pc0 := 7) (pc' := 44) rfl (hb hby d6_7) rfl (flt (by decide : ¬ ((2 : Int32) < (2 : Int32)))).2.1 (by decide) (by decide)) ?_
  show Go p e below s QQ 0 0 (T20.setTop (mkF m 44 #[rv r0, iv 2, rv r2, iv 2, iv 2, iv 2, iv x1] []))
  refine gs (fun t => XS.iload X20.here hx rfl (hb hby d6_44) rfl) ?_
  show Go p e below s QQ 0 0 (T20.setTop (mkF m 46 #[rv r0, iv 2, rv r2, iv 2, iv 2, iv 2, iv x1] [(.int (2 : Int32))]))
  replace V_r2 : Arf Z h20 r2 .byte 2 (own_b x0 x1 x2) := V_r2.congr (by intro i hi; have q : i = 0 ∨ i = 1 := (by omega); rcases q with rfl | rfl <;> first | rfl | simp [updv, own_b])
  exact goI X20 hx Bd.notSynchronized Bd.returns (hb hby d6_46) (by rw [← hQQ, e20]; exact ⟨rfl, N0, KK, V_r2⟩) (by decide) (by decide)
def QrmR2 (Z : State) (r0 : Addr) (x0 : Int32) (x1 : Int32) (x2 : Int32) (h0 : Heap) (n0 : Nat) (v : Option Value) (h : Heap) (L : List Loc) : Prop := ∃ b : Addr, v = some (.ref b) ∧ Fr n0 L ∧ h0.size ≤ b ∧ Keep h0 h [] ∧ Arf Z h b .byte 2 (own_b x0 x1 x2)
set_option maxRecDepth 65536 in
set_option maxHeartbeats 40000000 in
theorem rmR2 (l : Launch) (Z : State) (a0 : Array Value) (hw : ∀ d ∈ tables_1, d.before a0 Z = true) (ws : List Jvm.Cond) (r0 : Addr) (x0 : Int32) (x1 : Int32) (x2 : Int32) (h0 : Heap) (n0 : Nat) (Z0 : n0 ≤ h0.size) (V_r0 : Arf Z h0 r0 .char 2 (own_c x0 x1 x2)) (hx0 : ¬ ((255 : Int32) < x0)) (hx1 : ¬ ((255 : Int32) < x1)) (hx2 : ¬ ((255 : Int32) < x2)) :
    MetFree l (⟨"java/lang/StringUTF16", "compress", "([CII)[B"⟩ : MethodName) (head1 (Jvm.Cond.code (⟨"java/lang/StringUTF16", "compress", "([CII)[B"⟩ : MethodName) jdk_52_method_16_code 6 (some (.array .byte)) :: ws) ({ frames := 1, cells := 1, slots := 2, locals := 18 } : Room)) (fun a U => a = #[(.ref r0), (.int (0 : Int32)), (.int (2 : Int32))] ∧ Z.Warmed39 U.vm ∧ U.heap = h0) (fun _ _ _ _ _ => True) (fun _ U o U' => ∃ v L, o = .returned v ∧ QrmR2 Z r0 x0 x1 x2 h0 n0 v U'.heap L ∧ FrameEnd U o U' L ({ frames := 1, cells := 1, slots := 2, locals := 18 } : Room).cells ({ frames := 1, cells := 1, slots := 2, locals := 18 } : Room).slots) := by
  refine MetFree.of_bodySF (plainFor_of_name pn_5) hisR ?_
  intro p e s m args below meth c s₁ Bd hml0 hP hK
  obtain ⟨rfl, hZ, hh⟩ := hP
  have hx := Bd.exec
  have hby := Bd.bytes
  have hml : c.maxLocals = 6 := hml0
  have hown : s.vm.findClass "java/lang/StringUTF16" = some m.cls := findClass_of_methodNamed Bd.named
  have hnm := (name_of_methodNamed Bd.named Bd.method).1
  have X0 : Stand p l e ({ frames := 1, cells := 1, slots := 2, locals := 18 } : Room) s m #[(.ref r0), (.int (0 : Int32)), (.int (2 : Int32))] below meth c s₁ [] 0 0 := Stand.of_body Bd
  have e0 : s₁.heap = h0 := by rw [← hh, Bd.state]; rfl
  have N0 := Fr.nil n0
  have ZZ := Z0
  have KK : Keep h0 h0 [] := Keep.refl h0 _
  show Go p e below s (QrmR2 Z r0 x0 x1 x2 h0 n0) 1 2 (s₁.setTop (entryFrame m #[(.ref r0), (.int (0 : Int32)), (.int (2 : Int32))] 6))
  generalize hQQ : (QrmR2 Z r0 x0 x1 x2 h0 n0) = QQ
  refine gs (fun t k => castTop (g' := (mkF m 0 #[rv r0, iv 0, iv 2, .unset, .unset, .unset] [])) (by first | (simp [entryFrame, mkF, argsToLocals, Value.category, maxLocals]; done) | rfl) k) ?_
  show Go p e below s QQ 1 2 (s₁.setTop (mkF m 0 #[rv r0, iv 0, iv 2, .unset, .unset, .unset] []))
  refine gs (fun t => XS.iloadN X0.here hx rfl (hb hby d5_0) rfl) ?_
  show Go p e below s QQ 1 2 (s₁.setTop (mkF m 1 #[rv r0, iv 0, iv 2, .unset, .unset, .unset] [(.int (2 : Int32))]))
  obtain ⟨T21, h21, k21, X21, e21, E21, A21, st21⟩ := newP X0 hx hZ (hw _ (List.mem_of_getElem? (i := 23) rfl)) e0 (g := (mkF m 1 #[rv r0, iv 0, iv 2, .unset, .unset, .unset] [(.int (2 : Int32))])) rfl (hb hby d5_1) rfl (by decide) (cap := 2) (by decide) (by decide) (by decide) (by decide)
  obtain ⟨b21, g21⟩ : ∃ z, z = h0.size := ⟨_, rfl⟩
  rw [← g21] at A21 st21
  have ge_b21 : n0 ≤ b21 := by rw [g21]; exact ZZ
  have sz_b21 : h0.size ≤ b21 := by rw [g21]; exact KK.1
  have ne_r0_b21 : r0 ≠ b21 := by rw [g21]; exact Nat.ne_of_lt V_r0.lt
  refine gs st21 ?_
  show Go p e below s QQ 1 2 (T21.setTop (mkF m 3 #[rv r0, iv 0, iv 2, .unset, .unset, .unset] [(.ref b21)]))
  replace V_r0 := V_r0.ext E21
  replace ZZ := Nat.le_trans ZZ E21.1
  replace KK := KK.ext E21
  have V_b21 : Arf Z h21 b21 .byte 2 (fun _ => .int 0) := Arf.new A21
  refine gs (fun t => XS.astoreN X21.here hx rfl (hb hby d5_3) rfl rfl (l' := #[rv r0, iv 0, iv 2, rv b21, .unset, .unset]) rfl) ?_
  show Go p e below s QQ 1 2 (T21.setTop (mkF m 4 #[rv r0, iv 0, iv 2, rv b21, .unset, .unset] []))
  refine gs (fun t => XS.aloadN X21.here hx rfl (hb hby d5_4) rfl rfl) ?_
  show Go p e below s QQ 1 2 (T21.setTop (mkF m 5 #[rv r0, iv 0, iv 2, rv b21, .unset, .unset] [(.ref r0)]))
  refine gs (fun t => XS.iloadN X21.here hx rfl (hb hby d5_5) rfl) ?_
  show Go p e below s QQ 1 2 (T21.setTop (mkF m 6 #[rv r0, iv 0, iv 2, rv b21, .unset, .unset] [(.int (0 : Int32)), (.ref r0)]))
  refine gs (fun t => XS.aloadN X21.here hx rfl (hb hby d5_6) rfl rfl) ?_
  show Go p e below s QQ 1 2 (T21.setTop (mkF m 7 #[rv r0, iv 0, iv 2, rv b21, .unset, .unset] [(.ref b21), (.int (0 : Int32)), (.ref r0)]))
  refine gs (fun t => XS.iconst X21.here hx rfl (hb hby d5_7)) ?_
  show Go p e below s QQ 1 2 (T21.setTop (mkF m 8 #[rv r0, iv 0, iv 2, rv b21, .unset, .unset] [(.int (0 : Int32)), (.ref b21), (.int (0 : Int32)), (.ref r0)]))
  refine gs (fun t => XS.iloadN X21.here hx rfl (hb hby d5_8) rfl) ?_
  show Go p e below s QQ 1 2 (T21.setTop (mkF m 9 #[rv r0, iv 0, iv 2, rv b21, .unset, .unset] [(.int (2 : Int32)), (.int (0 : Int32)), (.ref b21), (.int (0 : Int32)), (.ref r0)]))
  obtain ⟨_, _, ⟨T22, L22, k22, n22⟩, -, X22, ⟨Lc22, hQ22, l22, y22, z22⟩, st22⟩ := Jvm.LawKit.callS X21 hx (y := (⟨"java/lang/StringUTF16", "compress", "([CI[BII)I"⟩ : MethodName)) hown (mvT hZ (hw _ (List.mem_of_getElem? (i := 24) rfl))) (mvT hZ (hw _ (List.mem_of_getElem? (i := 25) rfl))) (mvT hZ (hw _ (List.mem_of_getElem? (i := 21) rfl))) (mvT hZ (hw _ (List.mem_of_getElem? (i := 26) rfl))) (by decide) (backOf (W := 0) (rmP2 l Z a0 hw [] r0 b21 x0 x1 x2 h21 n0 ZZ V_r0 V_b21 ne_r0_b21 ge_b21 hx0 hx1 hx2) hZ (hw _ (List.mem_of_getElem? (i := 26) rfl)) (hw _ (List.mem_of_getElem? (i := 21) rfl)) (by decide) (by decide)) (g := (mkF m 9 #[rv r0, iv 0, iv 2, rv b21, .unset, .unset] [(.int (2 : Int32)), (.int (0 : Int32)), (.ref b21), (.int (0 : Int32)), (.ref r0)])) rfl (by rw [hml]; rfl) (argsL := [(.ref r0), (.int (0 : Int32)), (.ref b21), (.int (0 : Int32)), (.int (2 : Int32))]) (rest := []) (lenOf pd_1 rfl) rfl (by show 2 * 0 + _ ≤ _; exact Nat.le_of_eq rfl) (hb hby d5_9) (fun _ _ => ⟨rfl, e21, (by decide : 1 + 0 ≤ _), (by decide : 2 + 0 ≤ _)⟩)
  dsimp only [Pt.U, Pt.locs, Pt.cells, Pt.slots] at X22 l22 y22 z22 st22 hQ22
  subst l22 y22 z22
  obtain ⟨rfl, N22q, K22, V22⟩ := hQ22
  replace N0 := Fr.app N0 N22q
  refine gs st22 ?_
  show Go p e below s QQ 1 2 (T22.setTop (mkF m 12 #[rv r0, iv 0, iv 2, rv b21, .unset, .unset] [(.int (2 : Int32))]))
  replace V_r0 := V_r0.keep K22 (ninS ne_r0_b21 nin0)
  replace ZZ := Nat.le_trans ZZ K22.1
  replace KK := KK.trans K22 (allS (Or.inr sz_b21) all0)
  refine gs (fun t => XS.istore X22.here hx rfl (hb hby d5_12) rfl (l' := #[rv r0, iv 0, iv 2, rv b21, iv 2, .unset]) rfl) ?_
  show Go p e below s QQ 1 2 (T22.setTop (mkF m 14 #[rv r0, iv 0, iv 2, rv b21, iv 2, .unset] []))
  refine gs (fun t => XS.iload X22.here hx rfl (hb hby d5_14) rfl) ?_
  show Go p e below s QQ 1 2 (T22.setTop (mkF m 16 #[rv r0, iv 0, iv 2, rv b21, iv 2, .unset] [(.int (2 : Int32))]))
  refine gs (fun t => XS.iloadN X22.here hx rfl (hb hby d5_16) rfl) ?_
  show Go p e below s QQ 1 2 (T22.setTop (mkF m 17 #[rv r0, iv 0, iv 2, rv b21, iv 2, .unset] [(.int (2 : Int32)), (.int (2 : Int32))]))
  refine gs (fun t => XS.icmpYes X22.here hx rfl (pc0 := 17) (pc' := 57) rfl (hb hby d5_17) rfl (teq (by decide : (2 : Int32) = (2 : Int32))).1 (by decide) (by decide)) ?_
  show Go p e below s QQ 1 2 (T22.setTop (mkF m 57 #[rv r0, iv 0, iv 2, rv b21, iv 2, .unset] []))
  refine gs (fun t => XS.aloadN X22.here hx rfl (hb hby d5_57) rfl rfl) ?_
  show Go p e below s QQ 1 2 (T22.setTop (mkF m 58 #[rv r0, iv 0, iv 2, rv b21, iv 2, .unset] [(.ref b21)]))
  exact goR X22 hx Bd.notSynchronized Bd.returns rfl rfl (hb hby d5_58) (by rw [← hQQ]; exact ⟨_, rfl, N0, sz_b21, KK, V22⟩) (by decide) (by decide)
def QrmD2 (Z : State) (r0 : Addr) (fb : Nat → Value) (h0 : Heap) (n0 : Nat) (v : Option Value) (h : Heap) (L : List Loc) : Prop := v = some (.int 0) ∧ Fr n0 L ∧ h = h0
set_option maxRecDepth 65536 in
set_option maxHeartbeats 40000000 in
theorem rmD2 (l : Launch) (Z : State) (a0 : Array Value) (hw : ∀ d ∈ tables_1, d.before a0 Z = true) (ws : List Jvm.Cond) (r0 : Addr) (fb : Nat → Value) (h0 : Heap) (n0 : Nat) (Z0 : n0 ≤ h0.size) (V_r0 : Arf Z h0 r0 .byte 2 fb) :
    MetFree l (⟨"java/lang/StringUTF16", "coderFromArrayLen", "([BI)B"⟩ : MethodName) (head1 (Jvm.Cond.code (⟨"java/lang/StringUTF16", "coderFromArrayLen", "([BI)B"⟩ : MethodName) jdk_52_method_15_code 2 (some .byte) :: ws) ({ frames := 0, cells := 0, slots := 0, locals := 0 } : Room)) (fun a U => a = #[(.ref r0), (.int (2 : Int32))] ∧ Z.Warmed39 U.vm ∧ U.heap = h0) (fun _ _ _ _ _ => True) (fun _ U o U' => ∃ v L, o = .returned v ∧ QrmD2 Z r0 fb h0 n0 v U'.heap L ∧ FrameEnd U o U' L ({ frames := 0, cells := 0, slots := 0, locals := 0 } : Room).cells ({ frames := 0, cells := 0, slots := 0, locals := 0 } : Room).slots) := by
  refine MetFree.of_bodySF (plainFor_of_name pn_7) hisR ?_
  intro p e s m args below meth c s₁ Bd hml0 hP hK
  obtain ⟨rfl, hZ, hh⟩ := hP
  have hx := Bd.exec
  have hby := Bd.bytes
  have hml : c.maxLocals = 2 := hml0
  have hown : s.vm.findClass "java/lang/StringUTF16" = some m.cls := findClass_of_methodNamed Bd.named
  have hnm := (name_of_methodNamed Bd.named Bd.method).1
  have X0 : Stand p l e ({ frames := 0, cells := 0, slots := 0, locals := 0 } : Room) s m #[(.ref r0), (.int (2 : Int32))] below meth c s₁ [] 0 0 := Stand.of_body Bd
  have e0 : s₁.heap = h0 := by rw [← hh, Bd.state]; rfl
  have N0 := Fr.nil n0
  have ZZ := Z0
  show Go p e below s (QrmD2 Z r0 fb h0 n0) 0 0 (s₁.setTop (entryFrame m #[(.ref r0), (.int (2 : Int32))] 2))
  generalize hQQ : (QrmD2 Z r0 fb h0 n0) = QQ
  refine gs (fun t k => castTop (g' := (mkF m 0 #[rv r0, iv 2] [])) (by first | (simp [entryFrame, mkF, argsToLocals, Value.category, maxLocals]; done) | rfl) k) ?_
  show Go p e below s QQ 0 0 (s₁.setTop (mkF m 0 #[rv r0, iv 2] []))
  refine gs (fun t => XS.iloadN X0.here hx rfl (hb hby d7_0) rfl) ?_
  show Go p e below s QQ 0 0 (s₁.setTop (mkF m 1 #[rv r0, iv 2] [(.int (2 : Int32))]))
  refine gs (fun t => XS.aloadN X0.here hx rfl (hb hby d7_1) rfl rfl) ?_
  show Go p e below s QQ 0 0 (s₁.setTop (mkF m 2 #[rv r0, iv 2] [(.ref r0), (.int (2 : Int32))]))
  refine gs (fun t => lenf X0 hx hZ e0 V_r0 (z := (2 : Int32)) rfl (g := (mkF m 2 #[rv r0, iv 2] [(.ref r0), (.int (2 : Int32))])) rfl rfl (hb hby d7_2) t) ?_
  show Go p e below s QQ 0 0 (s₁.setTop (mkF m 3 #[rv r0, iv 2] [(.int (2 : Int32)), (.int (2 : Int32))]))
  refine gs (fun t => XS.isub X0.here hx rfl (hb hby d7_3) rfl) ?_
  show Go p e below s QQ 0 0 (s₁.setTop (mkF m 4 #[rv r0, iv 2] [(.int (0 : Int32))]))
  refine gs (fun t => XS.bipush X0.here hx rfl (hb hby d7_4)) ?_
  show Go p e below s QQ 0 0 (s₁.setTop (mkF m 6 #[rv r0, iv 2] [(.int (31 : Int32)), (.int (0 : Int32))]))
  refine gs (fun t => XS.iushr X0.here hx rfl (hb hby d7_6) rfl) ?_
  show Go p e below s QQ 0 0 (s₁.setTop (mkF m 7 #[rv r0, iv 2] [(.int (((0 : Int32).toUInt32 >>> ((31 : Int32) &&& 31).toUInt32).toInt32))]))
  rw [show (((0 : Int32).toUInt32 >>> ((31 : Int32) &&& 31).toUInt32).toInt32) = (0 : Int32) from (by decide)]
  show Go p e below s QQ 0 0 (s₁.setTop (mkF m 7 #[rv r0, iv 2] [(.int (0 : Int32))]))
  refine gs (fun t => XS.i2b X0.here hx rfl (hb hby d7_7) rfl) ?_
  show Go p e below s QQ 0 0 (s₁.setTop (mkF m 8 #[rv r0, iv 2] [(.int ((0 : Int32).toInt8.toInt32))]))
  rw [show ((0 : Int32).toInt8.toInt32) = (0 : Int32) from (by decide)]
  show Go p e below s QQ 0 0 (s₁.setTop (mkF m 8 #[rv r0, iv 2] [(.int (0 : Int32))]))
  exact goB X0 hx Bd.notSynchronized Bd.returns (by simp) (w := (0 : Int32)) (by first | rfl | decide) (hb hby d7_8) (by rw [← hQQ, e0]; exact ⟨rfl, N0, rfl⟩) (by decide) (by decide)
def QrmS2 (Z : State) (r0 : Addr) (r1 : Addr) (x0 : Int32) (x1 : Int32) (x2 : Int32) (cs : Int32) (h0 : Heap) (n0 : Nat) (v : Option Value) (h : Heap) (L : List Loc) : Prop := v = none ∧ Fr n0 L ∧ Keep h0 h [r0] ∧ ∃ d : Addr, Fld Z h r0 "java/lang/String" "value" "[B" (.ref d) ∧ Fld Z h r0 "java/lang/String" "coder" "B" (.int (0 : Int32)) ∧ Arf Z h d .byte 2 (own_b x0 x1 x2)
set_option maxRecDepth 65536 in
set_option maxHeartbeats 40000000 in
theorem rmS2 (l : Launch) (Z : State) (a0 : Array Value) (hw : ∀ d ∈ tables_1, d.before a0 Z = true) (ws : List Jvm.Cond) (r0 : Addr) (r1 : Addr) (x0 : Int32) (x1 : Int32) (x2 : Int32) (cs : Int32) (h0 : Heap) (n0 : Nat) (Z0 : n0 ≤ h0.size) (OLD : Old Z n0 h0) (CS : Sta Z Z.heap "java/lang/String" "COMPACT_STRINGS" "Z" (.int cs)) (hcs : ¬ (cs = (0 : Int32))) (F_value_r0 : Fld Z h0 r0 "java/lang/String" "value" "[B" .null) (F_coder_r0 : Fld Z h0 r0 "java/lang/String" "coder" "B" (.int (0 : Int32))) (E_r0 : Exa Z h0 r0 "java/lang/String") (ge_r0 : n0 ≤ r0) (ne_r0_r1 : r0 ≠ r1) (V_r1 : Arf Z h0 r1 .char 2 (own_c x0 x1 x2)) (hx0 : ¬ ((255 : Int32) < x0)) (hx1 : ¬ ((255 : Int32) < x1)) (hx2 : ¬ ((255 : Int32) < x2)) :
    MetFree l (⟨"java/lang/String", "<init>", "([CIILjava/lang/Void;)V"⟩ : MethodName) (head1 (Jvm.Cond.code (⟨"java/lang/String", "<init>", "([CIILjava/lang/Void;)V"⟩ : MethodName) jdk_42_method_149_code 6 none :: ws) ({ frames := 2, cells := 1, slots := 2, locals := 35 } : Room)) (fun a U => a = #[(.ref r0), (.ref r1), (.int (0 : Int32)), (.int (2 : Int32)), .null] ∧ Z.Warmed39 U.vm ∧ U.heap = h0) (fun _ _ _ _ _ => True) (fun _ U o U' => ∃ v L, o = .returned v ∧ QrmS2 Z r0 r1 x0 x1 x2 cs h0 n0 v U'.heap L ∧ FrameEnd U o U' L ({ frames := 2, cells := 1, slots := 2, locals := 35 } : Room).cells ({ frames := 2, cells := 1, slots := 2, locals := 35 } : Room).slots) := by
  refine MetFree.of_bodySF (plainFor_of_name pn_3) hisR ?_
  intro p e s m args below meth c s₁ Bd hml0 hP hK
  obtain ⟨rfl, hZ, hh⟩ := hP
  have hx := Bd.exec
  have hby := Bd.bytes
  have hml : c.maxLocals = 6 := hml0
  have hown : s.vm.findClass "java/lang/String" = some m.cls := findClass_of_methodNamed Bd.named
  have hnm := (name_of_methodNamed Bd.named Bd.method).1
  have X0 : Stand p l e ({ frames := 2, cells := 1, slots := 2, locals := 35 } : Room) s m #[(.ref r0), (.ref r1), (.int (0 : Int32)), (.int (2 : Int32)), .null] below meth c s₁ [] 0 0 := Stand.of_body Bd
  have e0 : s₁.heap = h0 := by rw [← hh, Bd.state]; rfl
  have N0 := Fr.nil n0
  have ZZ := Z0
  have KK : Keep h0 h0 [r0] := Keep.refl h0 _
  show Go p e below s (QrmS2 Z r0 r1 x0 x1 x2 cs h0 n0) 1 2 (s₁.setTop (entryFrame m #[(.ref r0), (.ref r1), (.int (0 : Int32)), (.int (2 : Int32)), .null] 6))
  generalize hQQ : (QrmS2 Z r0 r1 x0 x1 x2 cs h0 n0) = QQ
  refine gs (fun t k => castTop (g' := (mkF m 0 #[rv r0, rv r1, iv 0, iv 2, .val .null, .unset] [])) (by first | (simp [entryFrame, mkF, argsToLocals, Value.category, maxLocals]; done) | rfl) k) ?_
  show Go p e below s QQ 1 2 (s₁.setTop (mkF m 0 #[rv r0, rv r1, iv 0, iv 2, .val .null, .unset] []))
  refine gs (fun t => XS.aloadN X0.here hx rfl (hb hby d3_0) rfl rfl) ?_
  show Go p e below s QQ 1 2 (s₁.setTop (mkF m 1 #[rv r0, rv r1, iv 0, iv 2, .val .null, .unset] [(.ref r0)]))
  obtain ⟨T23, X23, e23, st23⟩ := initO X0 hx hZ hown (hw _ (List.mem_of_getElem? (i := 15) rfl)) (hw _ (List.mem_of_getElem? (i := 16) rfl)) (hw _ (List.mem_of_getElem? (i := 17) rfl)) e0 (g := (mkF m 1 #[rv r0, rv r1, iv 0, iv 2, .val .null, .unset] [(.ref r0)])) rfl (by rw [hml]; rfl) rfl (hb hby d3_1) (by decide) (W := 0) (by show 2 * 0 + _ ≤ _; exact Nat.le_of_eq rfl) (by decide)
  refine gs st23 ?_
  show Go p e below s QQ 1 2 (T23.setTop (mkF m 4 #[rv r0, rv r1, iv 0, iv 2, .val .null, .unset] []))
  refine gs (fun t => XS.iloadN X23.here hx rfl (hb hby d3_4) rfl) ?_
  show Go p e below s QQ 1 2 (T23.setTop (mkF m 5 #[rv r0, rv r1, iv 0, iv 2, .val .null, .unset] [(.int (2 : Int32))]))
  refine gs (fun t => XS.ifYes X23.here hx rfl (pc0 := 5) (pc' := 27) rfl (hb hby d3_5) rfl ((if0 _ _).trans (feq (by decide : ¬ ((2 : Int32) = (0 : Int32)))).2) (by decide) (by decide)) ?_
  show Go p e below s QQ 1 2 (T23.setTop (mkF m 27 #[rv r0, rv r1, iv 0, iv 2, .val .null, .unset] []))
  obtain ⟨T24, X24, e24, st24⟩ := getS2 X23 hx hZ hown (host := "") (Or.inl (hw _ (List.mem_of_getElem? (i := 18) rfl))) Via.refl e23 (CS.ext OLD.2) (g := (mkF m 27 #[rv r0, rv r1, iv 0, iv 2, .val .null, .unset] [])) rfl (hb hby d3_27)
  refine gs st24 ?_
  show Go p e below s QQ 1 2 (T24.setTop (mkF m 30 #[rv r0, rv r1, iv 0, iv 2, .val .null, .unset] [(.int cs)]))
  refine gs (fun t => XS.ifNo X24.here hx rfl (hb hby d3_30) rfl ((if0 _ _).trans (feq (hcs : ¬ (cs = (0 : Int32)))).1)) ?_
  show Go p e below s QQ 1 2 (T24.setTop (mkF m 33 #[rv r0, rv r1, iv 0, iv 2, .val .null, .unset] []))
  refine gs (fun t => XS.aloadN X24.here hx rfl (hb hby d3_33) rfl rfl) ?_
  show Go p e below s QQ 1 2 (T24.setTop (mkF m 34 #[rv r0, rv r1, iv 0, iv 2, .val .null, .unset] [(.ref r1)]))
  refine gs (fun t => XS.iloadN X24.here hx rfl (hb hby d3_34) rfl) ?_
  show Go p e below s QQ 1 2 (T24.setTop (mkF m 35 #[rv r0, rv r1, iv 0, iv 2, .val .null, .unset] [(.int (0 : Int32)), (.ref r1)]))
  refine gs (fun t => XS.iloadN X24.here hx rfl (hb hby d3_35) rfl) ?_
  show Go p e below s QQ 1 2 (T24.setTop (mkF m 36 #[rv r0, rv r1, iv 0, iv 2, .val .null, .unset] [(.int (2 : Int32)), (.int (0 : Int32)), (.ref r1)]))
  have ZZm25 := ZZ
  have KKm25 := KK
  have lt25_r0 := F_value_r0.lt
  have lt25_r1 := V_r1.lt
  obtain ⟨_, _, ⟨T26, L26, k26, n26⟩, -, X26, ⟨Lc26, hQ26, l26, y26, z26⟩, st26⟩ := Jvm.LawKit.callS X24 hx (y := (⟨"java/lang/StringUTF16", "compress", "([CII)[B"⟩ : MethodName)) hown (mvT hZ (hw _ (List.mem_of_getElem? (i := 19) rfl))) (mvT hZ (hw _ (List.mem_of_getElem? (i := 20) rfl))) (mvT hZ (hw _ (List.mem_of_getElem? (i := 21) rfl))) (mvT hZ (hw _ (List.mem_of_getElem? (i := 22) rfl))) (by decide) (backOf (W := 0) (rmR2 l Z a0 hw [] r1 x0 x1 x2 h0 n0 ZZ V_r1 hx0 hx1 hx2) hZ (hw _ (List.mem_of_getElem? (i := 22) rfl)) (hw _ (List.mem_of_getElem? (i := 21) rfl)) (by decide) (by decide)) (g := (mkF m 36 #[rv r0, rv r1, iv 0, iv 2, .val .null, .unset] [(.int (2 : Int32)), (.int (0 : Int32)), (.ref r1)])) rfl (by rw [hml]; rfl) (argsL := [(.ref r1), (.int (0 : Int32)), (.int (2 : Int32))]) (rest := []) (lenOf pd_2 rfl) rfl (by show 2 * 0 + _ ≤ _; exact Nat.le_of_eq rfl) (hb hby d3_36) (fun _ _ => ⟨rfl, e24, (by decide : 0 + 1 ≤ _), (by decide : 0 + 2 ≤ _)⟩)
  dsimp only [Pt.U, Pt.locs, Pt.cells, Pt.slots] at X26 l26 y26 z26 st26 hQ26
  subst l26 y26 z26
  obtain ⟨b26, rfl, N26q, gb26, K26, V26⟩ := hQ26
  replace N0 := Fr.app N0 N26q
  refine gs st26 ?_
  show Go p e below s QQ 1 2 (T26.setTop (mkF m 39 #[rv r0, rv r1, iv 0, iv 2, .val .null, .unset] [(.ref b26)]))
  replace F_value_r0 := F_value_r0.keep K26 nin0
  replace F_coder_r0 := F_coder_r0.keep K26 nin0
  replace E_r0 := E_r0.keep K26
  replace V_r1 := V_r1.keep K26 nin0
  replace OLD := OLD.keep K26 all0
  replace ZZ := Nat.le_trans ZZ K26.1
  replace KK := KK.trans K26 all0
  have ne_r0_b26 : r0 ≠ b26 := Nat.ne_of_lt (Nat.lt_of_lt_of_le lt25_r0 gb26)
  have ne_r1_b26 : r1 ≠ b26 := Nat.ne_of_lt (Nat.lt_of_lt_of_le lt25_r1 gb26)
  have ge_b26 : n0 ≤ b26 := Nat.le_trans ZZm25 gb26
  have sz_b26 : h0.size ≤ b26 := Nat.le_trans KKm25.1 gb26
  refine gs (fun t => XS.astore X26.here hx rfl (hb hby d3_39) rfl rfl (l' := #[rv r0, rv r1, iv 0, iv 2, .val .null, rv b26]) rfl) ?_
  show Go p e below s QQ 1 2 (T26.setTop (mkF m 41 #[rv r0, rv r1, iv 0, iv 2, .val .null, rv b26] []))
  refine gs (fun t => XS.aloadN X26.here hx rfl (hb hby d3_41) rfl rfl) ?_
  show Go p e below s QQ 1 2 (T26.setTop (mkF m 42 #[rv r0, rv r1, iv 0, iv 2, .val .null, rv b26] [(.ref r0)]))
  refine gs (fun t => XS.aload X26.here hx rfl (hb hby d3_42) rfl rfl) ?_
  show Go p e below s QQ 1 2 (T26.setTop (mkF m 44 #[rv r0, rv r1, iv 0, iv 2, .val .null, rv b26] [(.ref b26), (.ref r0)]))
  refine gs (fun t => XS.iloadN X26.here hx rfl (hb hby d3_44) rfl) ?_
  show Go p e below s QQ 1 2 (T26.setTop (mkF m 45 #[rv r0, rv r1, iv 0, iv 2, .val .null, rv b26] [(.int (2 : Int32)), (.ref b26), (.ref r0)]))
  obtain ⟨_, _, ⟨T27, L27, k27, n27⟩, -, X27, ⟨Lc27, hQ27, l27, y27, z27⟩, st27⟩ := Jvm.LawKit.callS X26 hx (y := (⟨"java/lang/StringUTF16", "coderFromArrayLen", "([BI)B"⟩ : MethodName)) hown (mvT hZ (hw _ (List.mem_of_getElem? (i := 27) rfl))) (mvT hZ (hw _ (List.mem_of_getElem? (i := 28) rfl))) (mvT hZ (hw _ (List.mem_of_getElem? (i := 21) rfl))) (mvT hZ (hw _ (List.mem_of_getElem? (i := 29) rfl))) (by decide) (backOf (W := 1) (rmD2 l Z a0 hw [] b26 (own_b x0 x1 x2) T26.heap n0 ZZ V26) hZ (hw _ (List.mem_of_getElem? (i := 29) rfl)) (hw _ (List.mem_of_getElem? (i := 21) rfl)) (by decide) (by decide)) (g := (mkF m 45 #[rv r0, rv r1, iv 0, iv 2, .val .null, rv b26] [(.int (2 : Int32)), (.ref b26), (.ref r0)])) rfl (by rw [hml]; rfl) (argsL := [(.ref b26), (.int (2 : Int32))]) (rest := [(.ref r0)]) (lenOf pd_3 rfl) rfl (by show 2 * 0 + _ ≤ _; exact Nat.le_of_eq rfl) (hb hby d3_45) (fun _ _ => ⟨rfl, rfl, (by decide : 1 + 0 ≤ _), (by decide : 2 + 0 ≤ _)⟩)
  dsimp only [Pt.U, Pt.locs, Pt.cells, Pt.slots] at X27 l27 y27 z27 st27 hQ27
  subst l27 y27 z27
  obtain ⟨rfl, N27q, e27⟩ := hQ27
  replace N0 := Fr.app N0 N27q
  refine gs st27 ?_
  show Go p e below s QQ 1 2 (T27.setTop (mkF m 48 #[rv r0, rv r1, iv 0, iv 2, .val .null, rv b26] [(.int (0 : Int32)), (.ref r0)]))
  obtain ⟨T28, h28, X28, e28, W28, st28⟩ := putFN X27 hx hZ hown (hw _ (List.mem_of_getElem? (i := 30) rfl)) Via.refl e27 F_coder_r0 E_r0 (Or.inr ⟨(hw _ (List.mem_of_getElem? (i := 31) rfl)), rfl, hnm⟩) (hw _ (List.mem_of_getElem? (i := 6) rfl)) (ty := .byte) (v' := .int (0 : Int32)) (by decide) (by first | rfl | simp [narrow]) (by first | decide | exact fits_nar_byte _) (g := (mkF m 48 #[rv r0, rv r1, iv 0, iv 2, .val .null, rv b26] [(.int (0 : Int32)), (.ref r0)])) rfl rfl (hb hby d3_48)
  replace N0 := Fr.snoc X28 N0 ge_r0
  refine gs st28 ?_
  show Go p e below s QQ 1 2 (T28.setTop (mkF m 51 #[rv r0, rv r1, iv 0, iv 2, .val .null, rv b26] []))
  replace F_value_r0 := F_value_r0.other W28 (Or.inr (slot_ne (Or.inr (hw _ (List.mem_of_getElem? (i := 33) rfl))) (Or.inr (hw _ (List.mem_of_getElem? (i := 31) rfl))) (by decide) (t := (.array .byte)) (t' := .byte) (by decide) (by decide)))
  replace F_coder_r0 := F_coder_r0.same W28
  replace E_r0 := E_r0.wr W28
  replace V_r1 := V_r1.other W28 (Ne.symm ne_r0_r1)
  replace OLD := OLD.wr W28 ge_r0
  replace V26 := V26.other W28 (Ne.symm ne_r0_b26)
  replace ZZ : n0 ≤ h28.size := by rw [W28.size]; exact ZZ
  replace KK := KK.wr W28 (Or.inl (by simp))
  refine gs (fun t => XS.aloadN X28.here hx rfl (hb hby d3_51) rfl rfl) ?_
  show Go p e below s QQ 1 2 (T28.setTop (mkF m 52 #[rv r0, rv r1, iv 0, iv 2, .val .null, rv b26] [(.ref r0)]))
  refine gs (fun t => XS.aload X28.here hx rfl (hb hby d3_52) rfl rfl) ?_
  show Go p e below s QQ 1 2 (T28.setTop (mkF m 54 #[rv r0, rv r1, iv 0, iv 2, .val .null, rv b26] [(.ref b26), (.ref r0)]))
  obtain ⟨T29, h29, X29, e29, W29, st29⟩ := putF X28 hx hZ hown (host := "") (Or.inl (hw _ (List.mem_of_getElem? (i := 32) rfl))) Via.refl e28 F_value_r0 E_r0 (Or.inr ⟨(hw _ (List.mem_of_getElem? (i := 33) rfl)), rfl, hnm⟩) (hw _ (List.mem_of_getElem? (i := 6) rfl)) (ty := (.array .byte)) (by decide) rfl rfl (g := (mkF m 54 #[rv r0, rv r1, iv 0, iv 2, .val .null, rv b26] [(.ref b26), (.ref r0)])) rfl rfl (hb hby d3_54)
  replace N0 := Fr.snoc X29 N0 ge_r0
  refine gs st29 ?_
  show Go p e below s QQ 1 2 (T29.setTop (mkF m 57 #[rv r0, rv r1, iv 0, iv 2, .val .null, rv b26] []))
  replace F_value_r0 := F_value_r0.same W29
  replace F_coder_r0 := F_coder_r0.other W29 (Or.inr (slot_ne (Or.inr (hw _ (List.mem_of_getElem? (i := 31) rfl))) (Or.inr (hw _ (List.mem_of_getElem? (i := 33) rfl))) (by decide) (t := .byte) (t' := (.array .byte)) (by decide) (by decide)))
  replace E_r0 := E_r0.wr W29
  replace V_r1 := V_r1.other W29 (Ne.symm ne_r0_r1)
  replace OLD := OLD.wr W29 ge_r0
  replace V26 := V26.other W29 (Ne.symm ne_r0_b26)
  replace ZZ : n0 ≤ h29.size := by rw [W29.size]; exact ZZ
  replace KK := KK.wr W29 (Or.inl (by simp))
  exact goV X29 hx Bd.notSynchronized Bd.returns (hb hby d3_57) (by rw [← hQQ, e29]; exact ⟨rfl, N0, KK, _, F_value_r0, F_coder_r0, V26⟩) (by decide) (by decide)
def QrmT2 (Z : State) (r0 : Addr) (r1 : Addr) (x0 : Int32) (x1 : Int32) (x2 : Int32) (cs : Int32) (h0 : Heap) (n0 : Nat) (v : Option Value) (h : Heap) (L : List Loc) : Prop := v = none ∧ Fr n0 L ∧ Keep h0 h [r0] ∧ ∃ d : Addr, Fld Z h r0 "java/lang/String" "value" "[B" (.ref d) ∧ Fld Z h r0 "java/lang/String" "coder" "B" (.int (0 : Int32)) ∧ Arf Z h d .byte 2 (own_b x0 x1 x2)
set_option maxRecDepth 65536 in
set_option maxHeartbeats 40000000 in
theorem rmT2 (l : Launch) (Z : State) (a0 : Array Value) (hw : ∀ d ∈ tables_1, d.before a0 Z = true) (ws : List Jvm.Cond) (r0 : Addr) (r1 : Addr) (x0 : Int32) (x1 : Int32) (x2 : Int32) (cs : Int32) (h0 : Heap) (n0 : Nat) (Z0 : n0 ≤ h0.size) (OLD : Old Z n0 h0) (CS : Sta Z Z.heap "java/lang/String" "COMPACT_STRINGS" "Z" (.int cs)) (hcs : ¬ (cs = (0 : Int32))) (F_value_r0 : Fld Z h0 r0 "java/lang/String" "value" "[B" .null) (F_coder_r0 : Fld Z h0 r0 "java/lang/String" "coder" "B" (.int (0 : Int32))) (E_r0 : Exa Z h0 r0 "java/lang/String") (ge_r0 : n0 ≤ r0) (ne_r0_r1 : r0 ≠ r1) (V_r1 : Arf Z h0 r1 .char 2 (own_c x0 x1 x2)) (hx0 : ¬ ((255 : Int32) < x0)) (hx1 : ¬ ((255 : Int32) < x1)) (hx2 : ¬ ((255 : Int32) < x2)) :
    MetFree l (⟨"java/lang/String", "<init>", "([C)V"⟩ : MethodName) (head1 (Jvm.Cond.code (⟨"java/lang/String", "<init>", "([C)V"⟩ : MethodName) jdk_42_method_3_code 2 none :: ws) ({ frames := 3, cells := 1, slots := 2, locals := 52 } : Room)) (fun a U => a = #[(.ref r0), (.ref r1)] ∧ Z.Warmed39 U.vm ∧ U.heap = h0) (fun _ _ _ _ _ => True) (fun _ U o U' => ∃ v L, o = .returned v ∧ QrmT2 Z r0 r1 x0 x1 x2 cs h0 n0 v U'.heap L ∧ FrameEnd U o U' L ({ frames := 3, cells := 1, slots := 2, locals := 52 } : Room).cells ({ frames := 3, cells := 1, slots := 2, locals := 52 } : Room).slots) := by
  refine MetFree.of_bodySF (plainFor_of_name pn_2) hisR ?_
  intro p e s m args below meth c s₁ Bd hml0 hP hK
  obtain ⟨rfl, hZ, hh⟩ := hP
  have hx := Bd.exec
  have hby := Bd.bytes
  have hml : c.maxLocals = 2 := hml0
  have hown : s.vm.findClass "java/lang/String" = some m.cls := findClass_of_methodNamed Bd.named
  have hnm := (name_of_methodNamed Bd.named Bd.method).1
  have X0 : Stand p l e ({ frames := 3, cells := 1, slots := 2, locals := 52 } : Room) s m #[(.ref r0), (.ref r1)] below meth c s₁ [] 0 0 := Stand.of_body Bd
  have e0 : s₁.heap = h0 := by rw [← hh, Bd.state]; rfl
  have N0 := Fr.nil n0
  have ZZ := Z0
  have KK : Keep h0 h0 [r0] := Keep.refl h0 _
  show Go p e below s (QrmT2 Z r0 r1 x0 x1 x2 cs h0 n0) 1 2 (s₁.setTop (entryFrame m #[(.ref r0), (.ref r1)] 2))
  generalize hQQ : (QrmT2 Z r0 r1 x0 x1 x2 cs h0 n0) = QQ
  refine gs (fun t k => castTop (g' := (mkF m 0 #[rv r0, rv r1] [])) (by first | (simp [entryFrame, mkF, argsToLocals, Value.category, maxLocals]; done) | rfl) k) ?_
  show Go p e below s QQ 1 2 (s₁.setTop (mkF m 0 #[rv r0, rv r1] []))
  refine gs (fun t => XS.aloadN X0.here hx rfl (hb hby d2_0) rfl rfl) ?_
  show Go p e below s QQ 1 2 (s₁.setTop (mkF m 1 #[rv r0, rv r1] [(.ref r0)]))
  refine gs (fun t => XS.aloadN X0.here hx rfl (hb hby d2_1) rfl rfl) ?_
  show Go p e below s QQ 1 2 (s₁.setTop (mkF m 2 #[rv r0, rv r1] [(.ref r1), (.ref r0)]))
  refine gs (fun t => XS.iconst X0.here hx rfl (hb hby d2_2)) ?_
  show Go p e below s QQ 1 2 (s₁.setTop (mkF m 3 #[rv r0, rv r1] [(.int (0 : Int32)), (.ref r1), (.ref r0)]))
  refine gs (fun t => XS.aloadN X0.here hx rfl (hb hby d2_3) rfl rfl) ?_
  show Go p e below s QQ 1 2 (s₁.setTop (mkF m 4 #[rv r0, rv r1] [(.ref r1), (.int (0 : Int32)), (.ref r1), (.ref r0)]))
  refine gs (fun t => lenf X0 hx hZ e0 V_r1 (z := (2 : Int32)) rfl (g := (mkF m 4 #[rv r0, rv r1] [(.ref r1), (.int (0 : Int32)), (.ref r1), (.ref r0)])) rfl rfl (hb hby d2_4) t) ?_
  show Go p e below s QQ 1 2 (s₁.setTop (mkF m 5 #[rv r0, rv r1] [(.int (2 : Int32)), (.int (0 : Int32)), (.ref r1), (.ref r0)]))
  refine gs (fun t => XS.aconstNull X0.here hx rfl (hb hby d2_5)) ?_
  show Go p e below s QQ 1 2 (s₁.setTop (mkF m 6 #[rv r0, rv r1] [.null, (.int (2 : Int32)), (.int (0 : Int32)), (.ref r1), (.ref r0)]))
  obtain ⟨_, _, ⟨T30, L30, k30, n30⟩, -, X30, ⟨Lc30, hQ30, l30, y30, z30⟩, st30⟩ := X0.specialBack hx (y := (⟨"java/lang/String", "<init>", "([CIILjava/lang/Void;)V"⟩ : MethodName)) rfl hown (mvT hZ (hw _ (List.mem_of_getElem? (i := 11) rfl))) (mvT hZ (hw _ (List.mem_of_getElem? (i := 12) rfl))) (mvT hZ (hw _ (List.mem_of_getElem? (i := 14) rfl))) (by decide) (backOf (W := 0) (rmS2 l Z a0 hw [] r0 r1 x0 x1 x2 cs h0 n0 ZZ OLD CS hcs F_value_r0 F_coder_r0 E_r0 ge_r0 ne_r0_r1 V_r1 hx0 hx1 hx2) hZ (hw _ (List.mem_of_getElem? (i := 14) rfl)) (hw _ (List.mem_of_getElem? (i := 7) rfl)) (by decide) (by decide)) (g := (mkF m 6 #[rv r0, rv r1] [.null, (.int (2 : Int32)), (.int (0 : Int32)), (.ref r1), (.ref r0)])) rfl (by rw [hml]; rfl) (Steps.refl _) (a := r0) (argsL := [(.ref r1), (.int (0 : Int32)), (.int (2 : Int32)), .null]) (rest := []) (lenOf pd_0 rfl) rfl (by show 2 * 0 + _ ≤ _; exact Nat.le_of_eq rfl) (hb hby d2_6) (fun _ _ => ⟨rfl, e0, (by decide : 0 + 1 ≤ _), (by decide : 0 + 2 ≤ _)⟩)
  dsimp only [Pt.U, Pt.locs, Pt.cells, Pt.slots] at X30 l30 y30 z30 st30 hQ30
  subst l30 y30 z30
  obtain ⟨rfl, N30q, K30, d30, F1_30, F2_30, A30⟩ := hQ30
  replace N0 := Fr.app N0 N30q
  refine gt st30 ?_
  show Go p e below s QQ 1 2 (T30.setTop (mkF m 9 #[rv r0, rv r1] []))
  replace E_r0 := E_r0.keep K30
  replace V_r1 := V_r1.keep K30 (ninS (Ne.symm ne_r0_r1) nin0)
  replace OLD := OLD.keep K30 (allS ge_r0 all0)
  replace ZZ := Nat.le_trans ZZ K30.1
  replace KK := KK.trans K30 (allS (Or.inl (by simp)) all0)
  exact goV X30 hx Bd.notSynchronized Bd.returns (hb hby d2_9) (by rw [← hQQ]; exact ⟨rfl, N0, KK, _, F1_30, F2_30, A30⟩) (by decide) (by decide)
def QrmP3 (Z : State) (r0 : Addr) (r2 : Addr) (x0 : Int32) (x1 : Int32) (x2 : Int32) (h0 : Heap) (n0 : Nat) (v : Option Value) (h : Heap) (L : List Loc) : Prop := v = some (.int 3) ∧ Fr n0 L ∧ Keep h0 h [r2] ∧ Arf Z h r2 .byte 3 (own_b x0 x1 x2)
set_option maxRecDepth 65536 in
set_option maxHeartbeats 40000000 in
theorem rmP3 (l : Launch) (Z : State) (a0 : Array Value) (hw : ∀ d ∈ tables_1, d.before a0 Z = true) (ws : List Jvm.Cond) (r0 : Addr) (r2 : Addr) (x0 : Int32) (x1 : Int32) (x2 : Int32) (h0 : Heap) (n0 : Nat) (Z0 : n0 ≤ h0.size) (V_r0 : Arf Z h0 r0 .char 3 (own_c x0 x1 x2)) (V_r2 : Arf Z h0 r2 .byte 3 (fun _ => .int 0)) (ne_r0_r2 : r0 ≠ r2) (ge_r2 : n0 ≤ r2) (hx0 : ¬ ((255 : Int32) < x0)) (hx1 : ¬ ((255 : Int32) < x1)) (hx2 : ¬ ((255 : Int32) < x2)) :
    MetFree l (⟨"java/lang/StringUTF16", "compress", "([CI[BII)I"⟩ : MethodName) (head1 (Jvm.Cond.code (⟨"java/lang/StringUTF16", "compress", "([CI[BII)I"⟩ : MethodName) jdk_52_method_21_code 7 (some .int) :: ws) ({ frames := 0, cells := 0, slots := 0, locals := 0 } : Room)) (fun a U => a = #[(.ref r0), (.int (0 : Int32)), (.ref r2), (.int (0 : Int32)), (.int (3 : Int32))] ∧ Z.Warmed39 U.vm ∧ U.heap = h0) (fun _ _ _ _ _ => True) (fun _ U o U' => ∃ v L, o = .returned v ∧ QrmP3 Z r0 r2 x0 x1 x2 h0 n0 v U'.heap L ∧ FrameEnd U o U' L ({ frames := 0, cells := 0, slots := 0, locals := 0 } : Room).cells ({ frames := 0, cells := 0, slots := 0, locals := 0 } : Room).slots) := by
  refine MetFree.of_bodySF (plainFor_of_name pn_6) hisR ?_
  intro p e s m args below meth c s₁ Bd hml0 hP hK
  obtain ⟨rfl, hZ, hh⟩ := hP
  have hx := Bd.exec
  have hby := Bd.bytes
  have hml : c.maxLocals = 7 := hml0
  have hown : s.vm.findClass "java/lang/StringUTF16" = some m.cls := findClass_of_methodNamed Bd.named
  have hnm := (name_of_methodNamed Bd.named Bd.method).1
  have X0 : Stand p l e ({ frames := 0, cells := 0, slots := 0, locals := 0 } : Room) s m #[(.ref r0), (.int (0 : Int32)), (.ref r2), (.int (0 : Int32)), (.int (3 : Int32))] below meth c s₁ [] 0 0 := Stand.of_body Bd
  have e0 : s₁.heap = h0 := by rw [← hh, Bd.state]; rfl
  have N0 := Fr.nil n0
  have ZZ := Z0
  have KK : Keep h0 h0 [r2] := Keep.refl h0 _
  show Go p e below s (QrmP3 Z r0 r2 x0 x1 x2 h0 n0) 0 0 (s₁.setTop (entryFrame m #[(.ref r0), (.int (0 : Int32)), (.ref r2), (.int (0 : Int32)), (.int (3 : Int32))] 7))
  generalize hQQ : (QrmP3 Z r0 r2 x0 x1 x2 h0 n0) = QQ
  refine gs (fun t k => castTop (g' := (mkF m 0 #[rv r0, iv 0, rv r2, iv 0, iv 3, .unset, .unset] [])) (by first | (simp [entryFrame, mkF, argsToLocals, Value.category, maxLocals]; done) | rfl) k) ?_
  show Go p e below s QQ 0 0 (s₁.setTop (mkF m 0 #[rv r0, iv 0, rv r2, iv 0, iv 3, .unset, .unset] []))
  refine gs (fun t => XS.iconst X0.here hx rfl (hb hby d6_0)) ?_
  show Go p e below s QQ 0 0 (s₁.setTop (mkF m 1 #[rv r0, iv 0, rv r2, iv 0, iv 3, .unset, .unset] [(.int (0 : Int32))]))
  refine gs (fun t => XS.istore X0.here hx rfl (hb hby d6_1) rfl (l' := #[rv r0, iv 0, rv r2, iv 0, iv 3, iv 0, .unset]) rfl) ?_
  show Go p e below s QQ 0 0 (s₁.setTop (mkF m 3 #[rv r0, iv 0, rv r2, iv 0, iv 3, iv 0, .unset] []))
  refine gs (fun t => XS.iload X0.here hx rfl (hb hby d6_3) rfl) ?_
  show Go p e below s QQ 0 0 (s₁.setTop (mkF m 5 #[rv r0, iv 0, rv r2, iv 0, iv 3, iv 0, .unset] [(.int (0 : Int32))]))
  refine gs (fun t => XS.iload X0.here hx rfl (hb hby d6_5) rfl) ?_
  show Go p e below s QQ 0 0 (s₁.setTop (mkF m 7 #[rv r0, iv 0, rv r2, iv 0, iv 3, iv 0, .unset] [(.int (3 : Int32)), (.int (0 : Int32))]))
  refine gs (fun t => XS.icmpNo X0.here hx rfl (hb hby d6_7) rfl (tlt (by decide : (0 : Int32) < (3 : Int32))).2.1) ?_
  show Go p e below s QQ 0 0 (s₁.setTop (mkF m 10 #[rv r0, iv 0, rv r2, iv 0, iv 3, iv 0, .unset] []))
  refine gs (fun t => XS.aloadN X0.here hx rfl (hb hby d6_10) rfl rfl) ?_
  show Go p e below s QQ 0 0 (s₁.setTop (mkF m 11 #[rv r0, iv 0, rv r2, iv 0, iv 3, iv 0, .unset] [(.ref r0)]))
  refine gs (fun t => XS.iloadN X0.here hx rfl (hb hby d6_11) rfl) ?_
  show Go p e below s QQ 0 0 (s₁.setTop (mkF m 12 #[rv r0, iv 0, rv r2, iv 0, iv 3, iv 0, .unset] [(.int (0 : Int32)), (.ref r0)]))
  refine gs (fun t => ldCf X0 hx hZ e0 V_r0 (j := (0 : Int32)) (v := (.int x0)) (by decide) rfl (g := (mkF m 12 #[rv r0, iv 0, rv r2, iv 0, iv 3, iv 0, .unset] [(.int (0 : Int32)), (.ref r0)])) rfl rfl (hb hby d6_12) t) ?_
  show Go p e below s QQ 0 0 (s₁.setTop (mkF m 13 #[rv r0, iv 0, rv r2, iv 0, iv 3, iv 0, .unset] [(.int x0)]))
  refine gs (fun t => XS.istore X0.here hx rfl (hb hby d6_13) rfl (l' := #[rv r0, iv 0, rv r2, iv 0, iv 3, iv 0, iv x0]) rfl) ?_
  show Go p e below s QQ 0 0 (s₁.setTop (mkF m 15 #[rv r0, iv 0, rv r2, iv 0, iv 3, iv 0, iv x0] []))
  refine gs (fun t => XS.iload X0.here hx rfl (hb hby d6_15) rfl) ?_
  show Go p e below s QQ 0 0 (s₁.setTop (mkF m 17 #[rv r0, iv 0, rv r2, iv 0, iv 3, iv 0, iv x0] [(.int x0)]))
  refine gs (fun t => XS.sipush X0.here hx rfl (hb hby d6_17)) ?_
  show Go p e below s QQ 0 0 (s₁.setTop (mkF m 20 #[rv r0, iv 0, rv r2, iv 0, iv 3, iv 0, iv x0] [(.int (255 : Int32)), (.int x0)]))
  refine gs (fun t => XS.icmpYes X0.here hx rfl (pc0 := 20) (pc' := 26) rfl (hb hby d6_20) rfl (flt (hx0 : ¬ ((255 : Int32) < x0))).2.2.2 (by decide) (by decide)) ?_
  show Go p e below s QQ 0 0 (s₁.setTop (mkF m 26 #[rv r0, iv 0, rv r2, iv 0, iv 3, iv 0, iv x0] []))
  refine gs (fun t => XS.aloadN X0.here hx rfl (hb hby d6_26) rfl rfl) ?_
  show Go p e below s QQ 0 0 (s₁.setTop (mkF m 27 #[rv r0, iv 0, rv r2, iv 0, iv 3, iv 0, iv x0] [(.ref r2)]))
  refine gs (fun t => XS.iloadN X0.here hx rfl (hb hby d6_27) rfl) ?_
  show Go p e below s QQ 0 0 (s₁.setTop (mkF m 28 #[rv r0, iv 0, rv r2, iv 0, iv 3, iv 0, iv x0] [(.int (0 : Int32)), (.ref r2)]))
  refine gs (fun t => XS.iload X0.here hx rfl (hb hby d6_28) rfl) ?_
  show Go p e below s QQ 0 0 (s₁.setTop (mkF m 30 #[rv r0, iv 0, rv r2, iv 0, iv 3, iv 0, iv x0] [(.int x0), (.int (0 : Int32)), (.ref r2)]))
  refine gs (fun t => XS.i2b X0.here hx rfl (hb hby d6_30) rfl) ?_
  show Go p e below s QQ 0 0 (s₁.setTop (mkF m 31 #[rv r0, iv 0, rv r2, iv 0, iv 3, iv 0, iv x0] [(.int (x0.toInt8.toInt32)), (.int (0 : Int32)), (.ref r2)]))
  obtain ⟨T31, h31, X31, e31, W31, V31, st31⟩ := stBf X0 hx hZ e0 V_r2 (j := (0 : Int32)) (by decide) (g := (mkF m 31 #[rv r0, iv 0, rv r2, iv 0, iv 3, iv 0, iv x0] [(.int (x0.toInt8.toInt32)), (.int (0 : Int32)), (.ref r2)])) rfl rfl (hb hby d6_31)
  replace N0 := Fr.snoc X31 N0 ge_r2
  refine gs st31 ?_
  show Go p e below s QQ 0 0 (T31.setTop (mkF m 32 #[rv r0, iv 0, rv r2, iv 0, iv 3, iv 0, iv x0] []))
  replace V_r0 := V_r0.other W31 ne_r0_r2
  replace ZZ : n0 ≤ h31.size := by rw [W31.size]; exact ZZ
  replace KK := KK.wr W31 (Or.inl (by simp))
  replace V_r2 : Arf Z h31 r2 .byte 3 (updv (fun _ => .int 0) 0 (.int (nar .byte (x0.toInt8.toInt32)))) := V31
  refine gs (fun t => XS.iinc X31.here hx rfl (hb hby d6_32) rfl (l' := #[rv r0, iv 1, rv r2, iv 0, iv 3, iv 0, iv x0]) rfl) ?_
  show Go p e below s QQ 0 0 (T31.setTop (mkF m 35 #[rv r0, iv 1, rv r2, iv 0, iv 3, iv 0, iv x0] []))
  refine gs (fun t => XS.iinc X31.here hx rfl (hb hby d6_35) rfl (l' := #[rv r0, iv 1, rv r2, iv 1, iv 3, iv 0, iv x0]) rfl) ?_
  show Go p e below s QQ 0 0 (T31.setTop (mkF m 38 #[rv r0, iv 1, rv r2, iv 1, iv 3, iv 0, iv x0] []))
  refine gs (fun t => XS.iinc X31.here hx rfl (hb hby d6_38) rfl (l' := #[rv r0, iv 1, rv r2, iv 1, iv 3, iv 1, iv x0]) rfl) ?_
  show Go p e below s QQ 0 0 (T31.setTop (mkF m 41 #[rv r0, iv 1, rv r2, iv 1, iv 3, iv 1, iv x0] []))
  refine gs (fun t => XS.goto X31.here hx rfl (pc0 := 41) (pc' := 3) rfl (hb hby d6_41) (by decide) (by decide)) ?_
  show Go p e below s QQ 0 0 (T31.setTop (mkF m 3 #[rv r0, iv 1, rv r2, iv 1, iv 3, iv 1, iv x0] []))
  refine gs (fun t => XS.iload X31.here hx rfl (hb hby d6_3) rfl) ?_
  show Go p e below s QQ 0 0 (T31.setTop (mkF m 5 #[rv r0, iv 1, rv r2, iv 1, iv 3, iv 1, iv x0] [(.int (1 : Int32))]))
  refine gs (fun t => XS.iload X31.here hx rfl (hb hby d6_5) rfl) ?_
  show Go p e below s QQ 0 0 (T31.setTop (mkF m 7 #[rv r0, iv 1, rv r2, iv 1, iv 3, iv 1, iv x0] [(.int (3 : Int32)), (.int (1 : Int32))]))
  refine gs (fun t => XS.icmpNo X31.here hx rfl (hb hby d6_7) rfl (tlt (by decide : (1 : Int32) < (3 : Int32))).2.1) ?_
  show Go p e below s QQ 0 0 (T31.setTop (mkF m 10 #[rv r0, iv 1, rv r2, iv 1, iv 3, iv 1, iv x0] []))
  refine gs (fun t => XS.aloadN X31.here hx rfl (hb hby d6_10) rfl rfl) ?_
  show Go p e below s QQ 0 0 (T31.setTop (mkF m 11 #[rv r0, iv 1, rv r2, iv 1, iv 3, iv 1, iv x0] [(.ref r0)]))
  refine gs (fun t => XS.iloadN X31.here hx rfl (hb hby d6_11) rfl) ?_
  show Go p e below s QQ 0 0 (T31.setTop (mkF m 12 #[rv r0, iv 1, rv r2, iv 1, iv 3, iv 1, iv x0] [(.int (1 : Int32)), (.ref r0)]))
  refine gs (fun t => ldCf X31 hx hZ e31 V_r0 (j := (1 : Int32)) (v := (.int x1)) (by decide) rfl (g := (mkF m 12 #[rv r0, iv 1, rv r2, iv 1, iv 3, iv 1, iv x0] [(.int (1 : Int32)), (.ref r0)])) rfl rfl (hb hby d6_12) t) ?_
  show Go p e below s QQ 0 0 (T31.setTop (mkF m 13 #[rv r0, iv 1, rv r2, iv 1, iv 3, iv 1, iv x0] [(.int x1)]))
  refine gs (fun t => XS.istore X31.here hx rfl (hb hby d6_13) rfl (l' := #[rv r0, iv 1, rv r2, iv 1, iv 3, iv 1, iv x1]) rfl) ?_
  show Go p e below s QQ 0 0 (T31.setTop (mkF m 15 #[rv r0, iv 1, rv r2, iv 1, iv 3, iv 1, iv x1] []))
  refine gs (fun t => XS.iload X31.here hx rfl (hb hby d6_15) rfl) ?_
  show Go p e below s QQ 0 0 (T31.setTop (mkF m 17 #[rv r0, iv 1, rv r2, iv 1, iv 3, iv 1, iv x1] [(.int x1)]))
  refine gs (fun t => XS.sipush X31.here hx rfl (hb hby d6_17)) ?_
  show Go p e below s QQ 0 0 (T31.setTop (mkF m 20 #[rv r0, iv 1, rv r2, iv 1, iv 3, iv 1, iv x1] [(.int (255 : Int32)), (.int x1)]))
  refine gs (fun t => XS.icmpYes X31.here hx rfl (pc0 := 20) (pc' := 26) rfl (hb hby d6_20) rfl (flt (hx1 : ¬ ((255 : Int32) < x1))).2.2.2 (by decide) (by decide)) ?_
  show Go p e below s QQ 0 0 (T31.setTop (mkF m 26 #[rv r0, iv 1, rv r2, iv 1, iv 3, iv 1, iv x1] []))
  refine gs (fun t => XS.aloadN X31.here hx rfl (hb hby d6_26) rfl rfl) ?_
  show Go p e below s QQ 0 0 (T31.setTop (mkF m 27 #[rv r0, iv 1, rv r2, iv 1, iv 3, iv 1, iv x1] [(.ref r2)]))
  refine gs (fun t => XS.iloadN X31.here hx rfl (hb hby d6_27) rfl) ?_
  show Go p e below s QQ 0 0 (T31.setTop (mkF m 28 #[rv r0, iv 1, rv r2, iv 1, iv 3, iv 1, iv x1] [(.int (1 : Int32)), (.ref r2)]))
  refine gs (fun t => XS.iload X31.here hx rfl (hb hby d6_28) rfl) ?_
  show Go p e below s QQ 0 0 (T31.setTop (mkF m 30 #[rv r0, iv 1, rv r2, iv 1, iv 3, iv 1, iv x1] [(.int x1), (.int (1 : Int32)), (.ref r2)]))
  refine gs (fun t => XS.i2b X31.here hx rfl (hb hby d6_30) rfl) ?_
  show Go p e below s QQ 0 0 (T31.setTop (mkF m 31 #[rv r0, iv 1, rv r2, iv 1, iv 3, iv 1, iv x1] [(.int (x1.toInt8.toInt32)), (.int (1 : Int32)), (.ref r2)]))
  obtain ⟨T32, h32, X32, e32, W32, V32, st32⟩ := stBf X31 hx hZ e31 V_r2 (j := (1 : Int32)) (by decide) (g := (mkF m 31 #[rv r0, iv 1, rv r2, iv 1, iv 3, iv 1, iv x1] [(.int (x1.toInt8.toInt32)), (.int (1 : Int32)), (.ref r2)])) rfl rfl (hb hby d6_31)
  replace N0 := Fr.snoc X32 N0 ge_r2
  refine gs st32 ?_
  show Go p e below s QQ 0 0 (T32.setTop (mkF m 32 #[rv r0, iv 1, rv r2, iv 1, iv 3, iv 1, iv x1] []))
  replace V_r0 := V_r0.other W32 ne_r0_r2
  replace ZZ : n0 ≤ h32.size := by rw [W32.size]; exact ZZ
  replace KK := KK.wr W32 (Or.inl (by simp))
  replace V_r2 : Arf Z h32 r2 .byte 3 (updv (updv (fun _ => .int 0) 0 (.int (nar .byte (x0.toInt8.toInt32)))) 1 (.int (nar .byte (x1.toInt8.toInt32)))) := V32
  refine gs (fun t => XS.iinc X32.here hx rfl (hb hby d6_32) rfl (l' := #[rv r0, iv 2, rv r2, iv 1, iv 3, iv 1, iv x1]) rfl) ?_
  show Go p e below s QQ 0 0 (T32.setTop (mkF m 35 #[rv r0, iv 2, rv r2, iv 1, iv 3, iv 1, iv x1] []))
  refine gs (fun t => XS.iinc X32.here hx rfl (hb hby d6_35) rfl (l' := #[rv r0, iv 2, rv r2, iv 2, iv 3, iv 1, iv x1]) rfl) ?_
  show Go p e below s QQ 0 0 (T32.setTop (mkF m 38 #[rv r0, iv 2, rv r2, iv 2, iv 3, iv 1, iv x1] []))
  refine gs (fun t => XS.iinc X32.here hx rfl (hb hby d6_38) rfl (l' := #[rv r0, iv 2, rv r2, iv 2, iv 3, iv 2, iv x1]) rfl) ?_
  show Go p e below s QQ 0 0 (T32.setTop (mkF m 41 #[rv r0, iv 2, rv r2, iv 2, iv 3, iv 2, iv x1] []))
  refine gs (fun t => XS.goto X32.here hx rfl (pc0 := 41) (pc' := 3) rfl (hb hby d6_41) (by decide) (by decide)) ?_
  show Go p e below s QQ 0 0 (T32.setTop (mkF m 3 #[rv r0, iv 2, rv r2, iv 2, iv 3, iv 2, iv x1] []))
  refine gs (fun t => XS.iload X32.here hx rfl (hb hby d6_3) rfl) ?_
  show Go p e below s QQ 0 0 (T32.setTop (mkF m 5 #[rv r0, iv 2, rv r2, iv 2, iv 3, iv 2, iv x1] [(.int (2 : Int32))]))
  refine gs (fun t => XS.iload X32.here hx rfl (hb hby d6_5) rfl) ?_
  show Go p e below s QQ 0 0 (T32.setTop (mkF m 7 #[rv r0, iv 2, rv r2, iv 2, iv 3, iv 2, iv x1] [(.int (3 : Int32)), (.int (2 : Int32))]))
  refine gs (fun t => XS.icmpNo X32.here hx rfl (hb hby d6_7) rfl (tlt (by decide : (2 : Int32) < (3 : Int32))).2.1) ?_
  show Go p e below s QQ 0 0 (T32.setTop (mkF m 10 #[rv r0, iv 2, rv r2, iv 2, iv 3, iv 2, iv x1] []))
  refine gs (fun t => XS.aloadN X32.here hx rfl (hb hby d6_10) rfl rfl) ?_
  show Go p e below s QQ 0 0 (T32.setTop (mkF m 11 #[rv r0, iv 2, rv r2, iv 2, iv 3, iv 2, iv x1] [(.ref r0)]))
  refine gs (fun t => XS.iloadN X32.here hx rfl (hb hby d6_11) rfl) ?_
  show Go p e below s QQ 0 0 (T32.setTop (mkF m 12 #[rv r0, iv 2, rv r2, iv 2, iv 3, iv 2, iv x1] [(.int (2 : Int32)), (.ref r0)]))
  refine gs (fun t => ldCf X32 hx hZ e32 V_r0 (j := (2 : Int32)) (v := (.int x2)) (by decide) rfl (g := (mkF m 12 #[rv r0, iv 2, rv r2, iv 2, iv 3, iv 2, iv x1] [(.int (2 : Int32)), (.ref r0)])) rfl rfl (hb hby d6_12) t) ?_
  show Go p e below s QQ 0 0 (T32.setTop (mkF m 13 #[rv r0, iv 2, rv r2, iv 2, iv 3, iv 2, iv x1] [(.int x2)]))
  refine gs (fun t => XS.istore X32.here hx rfl (hb hby d6_13) rfl (l' := #[rv r0, iv 2, rv r2, iv 2, iv 3, iv 2, iv x2]) rfl) ?_
  show Go p e below s QQ 0 0 (T32.setTop (mkF m 15 #[rv r0, iv 2, rv r2, iv 2, iv 3, iv 2, iv x2] []))
  refine gs (fun t => XS.iload X32.here hx rfl (hb hby d6_15) rfl) ?_
  show Go p e below s QQ 0 0 (T32.setTop (mkF m 17 #[rv r0, iv 2, rv r2, iv 2, iv 3, iv 2, iv x2] [(.int x2)]))
  refine gs (fun t => XS.sipush X32.here hx rfl (hb hby d6_17)) ?_
  show Go p e below s QQ 0 0 (T32.setTop (mkF m 20 #[rv r0, iv 2, rv r2, iv 2, iv 3, iv 2, iv x2] [(.int (255 : Int32)), (.int x2)]))
  refine gs (fun t => XS.icmpYes X32.here hx rfl (pc0 := 20) (pc' := 26) rfl (hb hby d6_20) rfl (flt (hx2 : ¬ ((255 : Int32) < x2))).2.2.2 (by decide) (by decide)) ?_
  show Go p e below s QQ 0 0 (T32.setTop (mkF m 26 #[rv r0, iv 2, rv r2, iv 2, iv 3, iv 2, iv x2] []))
  refine gs (fun t => XS.aloadN X32.here hx rfl (hb hby d6_26) rfl rfl) ?_
  show Go p e below s QQ 0 0 (T32.setTop (mkF m 27 #[rv r0, iv 2, rv r2, iv 2, iv 3, iv 2, iv x2] [(.ref r2)]))
  refine gs (fun t => XS.iloadN X32.here hx rfl (hb hby d6_27) rfl) ?_
  show Go p e below s QQ 0 0 (T32.setTop (mkF m 28 #[rv r0, iv 2, rv r2, iv 2, iv 3, iv 2, iv x2] [(.int (2 : Int32)), (.ref r2)]))
  refine gs (fun t => XS.iload X32.here hx rfl (hb hby d6_28) rfl) ?_
  show Go p e below s QQ 0 0 (T32.setTop (mkF m 30 #[rv r0, iv 2, rv r2, iv 2, iv 3, iv 2, iv x2] [(.int x2), (.int (2 : Int32)), (.ref r2)]))
  refine gs (fun t => XS.i2b X32.here hx rfl (hb hby d6_30) rfl) ?_
  show Go p e below s QQ 0 0 (T32.setTop (mkF m 31 #[rv r0, iv 2, rv r2, iv 2, iv 3, iv 2, iv x2] [(.int (x2.toInt8.toInt32)), (.int (2 : Int32)), (.ref r2)]))
  obtain ⟨T33, h33, X33, e33, W33, V33, st33⟩ := stBf X32 hx hZ e32 V_r2 (j := (2 : Int32)) (by decide) (g := (mkF m 31 #[rv r0, iv 2, rv r2, iv 2, iv 3, iv 2, iv x2] [(.int (x2.toInt8.toInt32)), (.int (2 : Int32)), (.ref r2)])) rfl rfl (hb hby d6_31)
  replace N0 := Fr.snoc X33 N0 ge_r2
  refine gs st33 ?_
  show Go p e below s QQ 0 0 (T33.setTop (mkF m 32 #[rv r0, iv 2, rv r2, iv 2, iv 3, iv 2, iv x2] []))
  replace V_r0 := V_r0.other W33 ne_r0_r2
  replace ZZ : n0 ≤ h33.size := by rw [W33.size]; exact ZZ
  replace KK := KK.wr W33 (Or.inl (by simp))
  replace V_r2 : Arf Z h33 r2 .byte 3 (updv (updv (updv (fun _ => .int 0) 0 (.int (nar .byte (x0.toInt8.toInt32)))) 1 (.int (nar .byte (x1.toInt8.toInt32)))) 2 (.int (nar .byte (x2.toInt8.toInt32)))) := V33
  refine gs (fun t => XS.iinc X33.here hx rfl (hb hby d6_32) rfl (l' := #[rv r0, iv 3, rv r2, iv 2, iv 3, iv 2, iv x2]) rfl) ?_
  show Go p e below s QQ 0 0 (T33.setTop (mkF m 35 #[rv r0, iv 3, rv r2, iv 2, iv 3, iv 2, iv x2] []))
  refine gs (fun t => XS.iinc X33.here hx rfl (hb hby d6_35) rfl (l' := #[rv r0, iv 3, rv r2, iv 3, iv 3, iv 2, iv x2]) rfl) ?_
  show Go p e below s QQ 0 0 (T33.setTop (mkF m 38 #[rv r0, iv 3, rv r2, iv 3, iv 3, iv 2, iv x2] []))
  refine gs (fun t => XS.iinc X33.here hx rfl (hb hby d6_38) rfl (l' := #[rv r0, iv 3, rv r2, iv 3, iv 3, iv 3, iv x2]) rfl) ?_
  show Go p e below s QQ 0 0 (T33.setTop (mkF m 41 #[rv r0, iv 3, rv r2, iv 3, iv 3, iv 3, iv x2] []))
  refine gs (fun t => XS.goto X33.here hx rfl (pc0 := 41) (pc' := 3) rfl (hb hby d6_41) (by decide) (by decide)) ?_
  show Go p e below s QQ 0 0 (T33.setTop (mkF m 3 #[rv r0, iv 3, rv r2, iv 3, iv 3, iv 3, iv x2] []))
  refine gs (fun t => XS.iload X33.here hx rfl (hb hby d6_3) rfl) ?_
  show Go p e below s QQ 0 0 (T33.setTop (mkF m 5 #[rv r0, iv 3, rv r2, iv 3, iv 3, iv 3, iv x2] [(.int (3 : Int32))]))
  refine gs (fun t => XS.iload X33.here hx rfl (hb hby d6_5) rfl) ?_
  show Go p e below s QQ 0 0 (T33.setTop (mkF m 7 #[rv r0, iv 3, rv r2, iv 3, iv 3, iv 3, iv x2] [(.int (3 : Int32)), (.int (3 : Int32))]))
  refine gs (fun t => XS.icmpYes X33.here hx rfl (pc0 := 7) (pc' := 44) rfl (hb hby d6_7) rfl (flt (by decide : ¬ ((3 : Int32) < (3 : Int32)))).2.1 (by decide) (by decide)) ?_
  show Go p e below s QQ 0 0 (T33.setTop (mkF m 44 #[rv r0, iv 3, rv r2, iv 3, iv 3, iv 3, iv x2] []))
  refine gs (fun t => XS.iload X33.here hx rfl (hb hby d6_44) rfl) ?_
  show Go p e below s QQ 0 0 (T33.setTop (mkF m 46 #[rv r0, iv 3, rv r2, iv 3, iv 3, iv 3, iv x2] [(.int (3 : Int32))]))
  replace V_r2 : Arf Z h33 r2 .byte 3 (own_b x0 x1 x2) := V_r2.congr (by intro i hi; have q : i = 0 ∨ i = 1 ∨ i = 2 := (by omega); rcases q with rfl | rfl | rfl <;> first | rfl | simp [updv, own_b])
  exact goI X33 hx Bd.notSynchronized Bd.returns (hb hby d6_46) (by rw [← hQQ, e33]; exact ⟨rfl, N0, KK, V_r2⟩) (by decide) (by decide)
def QrmR3 (Z : State) (r0 : Addr) (x0 : Int32) (x1 : Int32) (x2 : Int32) (h0 : Heap) (n0 : Nat) (v : Option Value) (h : Heap) (L : List Loc) : Prop := ∃ b : Addr, v = some (.ref b) ∧ Fr n0 L ∧ h0.size ≤ b ∧ Keep h0 h [] ∧ Arf Z h b .byte 3 (own_b x0 x1 x2)
set_option maxRecDepth 65536 in
set_option maxHeartbeats 40000000 in
theorem rmR3 (l : Launch) (Z : State) (a0 : Array Value) (hw : ∀ d ∈ tables_1, d.before a0 Z = true) (ws : List Jvm.Cond) (r0 : Addr) (x0 : Int32) (x1 : Int32) (x2 : Int32) (h0 : Heap) (n0 : Nat) (Z0 : n0 ≤ h0.size) (V_r0 : Arf Z h0 r0 .char 3 (own_c x0 x1 x2)) (hx0 : ¬ ((255 : Int32) < x0)) (hx1 : ¬ ((255 : Int32) < x1)) (hx2 : ¬ ((255 : Int32) < x2)) :
    MetFree l (⟨"java/lang/StringUTF16", "compress", "([CII)[B"⟩ : MethodName) (head1 (Jvm.Cond.code (⟨"java/lang/StringUTF16", "compress", "([CII)[B"⟩ : MethodName) jdk_52_method_16_code 6 (some (.array .byte)) :: ws) ({ frames := 1, cells := 1, slots := 3, locals := 18 } : Room)) (fun a U => a = #[(.ref r0), (.int (0 : Int32)), (.int (3 : Int32))] ∧ Z.Warmed39 U.vm ∧ U.heap = h0) (fun _ _ _ _ _ => True) (fun _ U o U' => ∃ v L, o = .returned v ∧ QrmR3 Z r0 x0 x1 x2 h0 n0 v U'.heap L ∧ FrameEnd U o U' L ({ frames := 1, cells := 1, slots := 3, locals := 18 } : Room).cells ({ frames := 1, cells := 1, slots := 3, locals := 18 } : Room).slots) := by
  refine MetFree.of_bodySF (plainFor_of_name pn_5) hisR ?_
  intro p e s m args below meth c s₁ Bd hml0 hP hK
  obtain ⟨rfl, hZ, hh⟩ := hP
  have hx := Bd.exec
  have hby := Bd.bytes
  have hml : c.maxLocals = 6 := hml0
  have hown : s.vm.findClass "java/lang/StringUTF16" = some m.cls := findClass_of_methodNamed Bd.named
  have hnm := (name_of_methodNamed Bd.named Bd.method).1
  have X0 : Stand p l e ({ frames := 1, cells := 1, slots := 3, locals := 18 } : Room) s m #[(.ref r0), (.int (0 : Int32)), (.int (3 : Int32))] below meth c s₁ [] 0 0 := Stand.of_body Bd
  have e0 : s₁.heap = h0 := by rw [← hh, Bd.state]; rfl
  have N0 := Fr.nil n0
  have ZZ := Z0
  have KK : Keep h0 h0 [] := Keep.refl h0 _
  show Go p e below s (QrmR3 Z r0 x0 x1 x2 h0 n0) 1 3 (s₁.setTop (entryFrame m #[(.ref r0), (.int (0 : Int32)), (.int (3 : Int32))] 6))
  generalize hQQ : (QrmR3 Z r0 x0 x1 x2 h0 n0) = QQ
  refine gs (fun t k => castTop (g' := (mkF m 0 #[rv r0, iv 0, iv 3, .unset, .unset, .unset] [])) (by first | (simp [entryFrame, mkF, argsToLocals, Value.category, maxLocals]; done) | rfl) k) ?_
  show Go p e below s QQ 1 3 (s₁.setTop (mkF m 0 #[rv r0, iv 0, iv 3, .unset, .unset, .unset] []))
  refine gs (fun t => XS.iloadN X0.here hx rfl (hb hby d5_0) rfl) ?_
  show Go p e below s QQ 1 3 (s₁.setTop (mkF m 1 #[rv r0, iv 0, iv 3, .unset, .unset, .unset] [(.int (3 : Int32))]))
  obtain ⟨T34, h34, k34, X34, e34, E34, A34, st34⟩ := newP X0 hx hZ (hw _ (List.mem_of_getElem? (i := 23) rfl)) e0 (g := (mkF m 1 #[rv r0, iv 0, iv 3, .unset, .unset, .unset] [(.int (3 : Int32))])) rfl (hb hby d5_1) rfl (by decide) (cap := 3) (by decide) (by decide) (by decide) (by decide)
  obtain ⟨b34, g34⟩ : ∃ z, z = h0.size := ⟨_, rfl⟩
  rw [← g34] at A34 st34
  have ge_b34 : n0 ≤ b34 := by rw [g34]; exact ZZ
  have sz_b34 : h0.size ≤ b34 := by rw [g34]; exact KK.1
  have ne_r0_b34 : r0 ≠ b34 := by rw [g34]; exact Nat.ne_of_lt V_r0.lt
  refine gs st34 ?_
  show Go p e below s QQ 1 3 (T34.setTop (mkF m 3 #[rv r0, iv 0, iv 3, .unset, .unset, .unset] [(.ref b34)]))
  replace V_r0 := V_r0.ext E34
  replace ZZ := Nat.le_trans ZZ E34.1
  replace KK := KK.ext E34
  have V_b34 : Arf Z h34 b34 .byte 3 (fun _ => .int 0) := Arf.new A34
  refine gs (fun t => XS.astoreN X34.here hx rfl (hb hby d5_3) rfl rfl (l' := #[rv r0, iv 0, iv 3, rv b34, .unset, .unset]) rfl) ?_
  show Go p e below s QQ 1 3 (T34.setTop (mkF m 4 #[rv r0, iv 0, iv 3, rv b34, .unset, .unset] []))
  refine gs (fun t => XS.aloadN X34.here hx rfl (hb hby d5_4) rfl rfl) ?_
  show Go p e below s QQ 1 3 (T34.setTop (mkF m 5 #[rv r0, iv 0, iv 3, rv b34, .unset, .unset] [(.ref r0)]))
  refine gs (fun t => XS.iloadN X34.here hx rfl (hb hby d5_5) rfl) ?_
  show Go p e below s QQ 1 3 (T34.setTop (mkF m 6 #[rv r0, iv 0, iv 3, rv b34, .unset, .unset] [(.int (0 : Int32)), (.ref r0)]))
  refine gs (fun t => XS.aloadN X34.here hx rfl (hb hby d5_6) rfl rfl) ?_
  show Go p e below s QQ 1 3 (T34.setTop (mkF m 7 #[rv r0, iv 0, iv 3, rv b34, .unset, .unset] [(.ref b34), (.int (0 : Int32)), (.ref r0)]))
  refine gs (fun t => XS.iconst X34.here hx rfl (hb hby d5_7)) ?_
  show Go p e below s QQ 1 3 (T34.setTop (mkF m 8 #[rv r0, iv 0, iv 3, rv b34, .unset, .unset] [(.int (0 : Int32)), (.ref b34), (.int (0 : Int32)), (.ref r0)]))
  refine gs (fun t => XS.iloadN X34.here hx rfl (hb hby d5_8) rfl) ?_
  show Go p e below s QQ 1 3 (T34.setTop (mkF m 9 #[rv r0, iv 0, iv 3, rv b34, .unset, .unset] [(.int (3 : Int32)), (.int (0 : Int32)), (.ref b34), (.int (0 : Int32)), (.ref r0)]))
  obtain ⟨_, _, ⟨T35, L35, k35, n35⟩, -, X35, ⟨Lc35, hQ35, l35, y35, z35⟩, st35⟩ := Jvm.LawKit.callS X34 hx (y := (⟨"java/lang/StringUTF16", "compress", "([CI[BII)I"⟩ : MethodName)) hown (mvT hZ (hw _ (List.mem_of_getElem? (i := 24) rfl))) (mvT hZ (hw _ (List.mem_of_getElem? (i := 25) rfl))) (mvT hZ (hw _ (List.mem_of_getElem? (i := 21) rfl))) (mvT hZ (hw _ (List.mem_of_getElem? (i := 26) rfl))) (by decide) (backOf (W := 0) (rmP3 l Z a0 hw [] r0 b34 x0 x1 x2 h34 n0 ZZ V_r0 V_b34 ne_r0_b34 ge_b34 hx0 hx1 hx2) hZ (hw _ (List.mem_of_getElem? (i := 26) rfl)) (hw _ (List.mem_of_getElem? (i := 21) rfl)) (by decide) (by decide)) (g := (mkF m 9 #[rv r0, iv 0, iv 3, rv b34, .unset, .unset] [(.int (3 : Int32)), (.int (0 : Int32)), (.ref b34), (.int (0 : Int32)), (.ref r0)])) rfl (by rw [hml]; rfl) (argsL := [(.ref r0), (.int (0 : Int32)), (.ref b34), (.int (0 : Int32)), (.int (3 : Int32))]) (rest := []) (lenOf pd_1 rfl) rfl (by show 2 * 0 + _ ≤ _; exact Nat.le_of_eq rfl) (hb hby d5_9) (fun _ _ => ⟨rfl, e34, (by decide : 1 + 0 ≤ _), (by decide : 3 + 0 ≤ _)⟩)
  dsimp only [Pt.U, Pt.locs, Pt.cells, Pt.slots] at X35 l35 y35 z35 st35 hQ35
  subst l35 y35 z35
  obtain ⟨rfl, N35q, K35, V35⟩ := hQ35
  replace N0 := Fr.app N0 N35q
  refine gs st35 ?_
  show Go p e below s QQ 1 3 (T35.setTop (mkF m 12 #[rv r0, iv 0, iv 3, rv b34, .unset, .unset] [(.int (3 : Int32))]))
  replace V_r0 := V_r0.keep K35 (ninS ne_r0_b34 nin0)
  replace ZZ := Nat.le_trans ZZ K35.1
  replace KK := KK.trans K35 (allS (Or.inr sz_b34) all0)
  refine gs (fun t => XS.istore X35.here hx rfl (hb hby d5_12) rfl (l' := #[rv r0, iv 0, iv 3, rv b34, iv 3, .unset]) rfl) ?_
  show Go p e below s QQ 1 3 (T35.setTop (mkF m 14 #[rv r0, iv 0, iv 3, rv b34, iv 3, .unset] []))
  refine gs (fun t => XS.iload X35.here hx rfl (hb hby d5_14) rfl) ?_
  show Go p e below s QQ 1 3 (T35.setTop (mkF m 16 #[rv r0, iv 0, iv 3, rv b34, iv 3, .unset] [(.int (3 : Int32))]))
  refine gs (fun t => XS.iloadN X35.here hx rfl (hb hby d5_16) rfl) ?_
  show Go p e below s QQ 1 3 (T35.setTop (mkF m 17 #[rv r0, iv 0, iv 3, rv b34, iv 3, .unset] [(.int (3 : Int32)), (.int (3 : Int32))]))
  refine gs (fun t => XS.icmpYes X35.here hx rfl (pc0 := 17) (pc' := 57) rfl (hb hby d5_17) rfl (teq (by decide : (3 : Int32) = (3 : Int32))).1 (by decide) (by decide)) ?_
  show Go p e below s QQ 1 3 (T35.setTop (mkF m 57 #[rv r0, iv 0, iv 3, rv b34, iv 3, .unset] []))
  refine gs (fun t => XS.aloadN X35.here hx rfl (hb hby d5_57) rfl rfl) ?_
  show Go p e below s QQ 1 3 (T35.setTop (mkF m 58 #[rv r0, iv 0, iv 3, rv b34, iv 3, .unset] [(.ref b34)]))
  exact goR X35 hx Bd.notSynchronized Bd.returns rfl rfl (hb hby d5_58) (by rw [← hQQ]; exact ⟨_, rfl, N0, sz_b34, KK, V35⟩) (by decide) (by decide)
def QrmD3 (Z : State) (r0 : Addr) (fb : Nat → Value) (h0 : Heap) (n0 : Nat) (v : Option Value) (h : Heap) (L : List Loc) : Prop := v = some (.int 0) ∧ Fr n0 L ∧ h = h0
set_option maxRecDepth 65536 in
set_option maxHeartbeats 40000000 in
theorem rmD3 (l : Launch) (Z : State) (a0 : Array Value) (hw : ∀ d ∈ tables_1, d.before a0 Z = true) (ws : List Jvm.Cond) (r0 : Addr) (fb : Nat → Value) (h0 : Heap) (n0 : Nat) (Z0 : n0 ≤ h0.size) (V_r0 : Arf Z h0 r0 .byte 3 fb) :
    MetFree l (⟨"java/lang/StringUTF16", "coderFromArrayLen", "([BI)B"⟩ : MethodName) (head1 (Jvm.Cond.code (⟨"java/lang/StringUTF16", "coderFromArrayLen", "([BI)B"⟩ : MethodName) jdk_52_method_15_code 2 (some .byte) :: ws) ({ frames := 0, cells := 0, slots := 0, locals := 0 } : Room)) (fun a U => a = #[(.ref r0), (.int (3 : Int32))] ∧ Z.Warmed39 U.vm ∧ U.heap = h0) (fun _ _ _ _ _ => True) (fun _ U o U' => ∃ v L, o = .returned v ∧ QrmD3 Z r0 fb h0 n0 v U'.heap L ∧ FrameEnd U o U' L ({ frames := 0, cells := 0, slots := 0, locals := 0 } : Room).cells ({ frames := 0, cells := 0, slots := 0, locals := 0 } : Room).slots) := by
  refine MetFree.of_bodySF (plainFor_of_name pn_7) hisR ?_
  intro p e s m args below meth c s₁ Bd hml0 hP hK
  obtain ⟨rfl, hZ, hh⟩ := hP
  have hx := Bd.exec
  have hby := Bd.bytes
  have hml : c.maxLocals = 2 := hml0
  have hown : s.vm.findClass "java/lang/StringUTF16" = some m.cls := findClass_of_methodNamed Bd.named
  have hnm := (name_of_methodNamed Bd.named Bd.method).1
  have X0 : Stand p l e ({ frames := 0, cells := 0, slots := 0, locals := 0 } : Room) s m #[(.ref r0), (.int (3 : Int32))] below meth c s₁ [] 0 0 := Stand.of_body Bd
  have e0 : s₁.heap = h0 := by rw [← hh, Bd.state]; rfl
  have N0 := Fr.nil n0
  have ZZ := Z0
  show Go p e below s (QrmD3 Z r0 fb h0 n0) 0 0 (s₁.setTop (entryFrame m #[(.ref r0), (.int (3 : Int32))] 2))
  generalize hQQ : (QrmD3 Z r0 fb h0 n0) = QQ
  refine gs (fun t k => castTop (g' := (mkF m 0 #[rv r0, iv 3] [])) (by first | (simp [entryFrame, mkF, argsToLocals, Value.category, maxLocals]; done) | rfl) k) ?_
  show Go p e below s QQ 0 0 (s₁.setTop (mkF m 0 #[rv r0, iv 3] []))
  refine gs (fun t => XS.iloadN X0.here hx rfl (hb hby d7_0) rfl) ?_
  show Go p e below s QQ 0 0 (s₁.setTop (mkF m 1 #[rv r0, iv 3] [(.int (3 : Int32))]))
  refine gs (fun t => XS.aloadN X0.here hx rfl (hb hby d7_1) rfl rfl) ?_
  show Go p e below s QQ 0 0 (s₁.setTop (mkF m 2 #[rv r0, iv 3] [(.ref r0), (.int (3 : Int32))]))
  refine gs (fun t => lenf X0 hx hZ e0 V_r0 (z := (3 : Int32)) rfl (g := (mkF m 2 #[rv r0, iv 3] [(.ref r0), (.int (3 : Int32))])) rfl rfl (hb hby d7_2) t) ?_
  show Go p e below s QQ 0 0 (s₁.setTop (mkF m 3 #[rv r0, iv 3] [(.int (3 : Int32)), (.int (3 : Int32))]))
  refine gs (fun t => XS.isub X0.here hx rfl (hb hby d7_3) rfl) ?_
  show Go p e below s QQ 0 0 (s₁.setTop (mkF m 4 #[rv r0, iv 3] [(.int (0 : Int32))]))
  refine gs (fun t => XS.bipush X0.here hx rfl (hb hby d7_4)) ?_
  show Go p e below s QQ 0 0 (s₁.setTop (mkF m 6 #[rv r0, iv 3] [(.int (31 : Int32)), (.int (0 : Int32))]))
  refine gs (fun t => XS.iushr X0.here hx rfl (hb hby d7_6) rfl) ?_
  show Go p e below s QQ 0 0 (s₁.setTop (mkF m 7 #[rv r0, iv 3] [(.int (((0 : Int32).toUInt32 >>> ((31 : Int32) &&& 31).toUInt32).toInt32))]))
  rw [show (((0 : Int32).toUInt32 >>> ((31 : Int32) &&& 31).toUInt32).toInt32) = (0 : Int32) from (by decide)]
  show Go p e below s QQ 0 0 (s₁.setTop (mkF m 7 #[rv r0, iv 3] [(.int (0 : Int32))]))
  refine gs (fun t => XS.i2b X0.here hx rfl (hb hby d7_7) rfl) ?_
  show Go p e below s QQ 0 0 (s₁.setTop (mkF m 8 #[rv r0, iv 3] [(.int ((0 : Int32).toInt8.toInt32))]))
  rw [show ((0 : Int32).toInt8.toInt32) = (0 : Int32) from (by decide)]
  show Go p e below s QQ 0 0 (s₁.setTop (mkF m 8 #[rv r0, iv 3] [(.int (0 : Int32))]))
  exact goB X0 hx Bd.notSynchronized Bd.returns (by simp) (w := (0 : Int32)) (by first | rfl | decide) (hb hby d7_8) (by rw [← hQQ, e0]; exact ⟨rfl, N0, rfl⟩) (by decide) (by decide)
def QrmS3 (Z : State) (r0 : Addr) (r1 : Addr) (x0 : Int32) (x1 : Int32) (x2 : Int32) (cs : Int32) (h0 : Heap) (n0 : Nat) (v : Option Value) (h : Heap) (L : List Loc) : Prop := v = none ∧ Fr n0 L ∧ Keep h0 h [r0] ∧ ∃ d : Addr, Fld Z h r0 "java/lang/String" "value" "[B" (.ref d) ∧ Fld Z h r0 "java/lang/String" "coder" "B" (.int (0 : Int32)) ∧ Arf Z h d .byte 3 (own_b x0 x1 x2)
set_option maxRecDepth 65536 in
set_option maxHeartbeats 40000000 in
theorem rmS3 (l : Launch) (Z : State) (a0 : Array Value) (hw : ∀ d ∈ tables_1, d.before a0 Z = true) (ws : List Jvm.Cond) (r0 : Addr) (r1 : Addr) (x0 : Int32) (x1 : Int32) (x2 : Int32) (cs : Int32) (h0 : Heap) (n0 : Nat) (Z0 : n0 ≤ h0.size) (OLD : Old Z n0 h0) (CS : Sta Z Z.heap "java/lang/String" "COMPACT_STRINGS" "Z" (.int cs)) (hcs : ¬ (cs = (0 : Int32))) (F_value_r0 : Fld Z h0 r0 "java/lang/String" "value" "[B" .null) (F_coder_r0 : Fld Z h0 r0 "java/lang/String" "coder" "B" (.int (0 : Int32))) (E_r0 : Exa Z h0 r0 "java/lang/String") (ge_r0 : n0 ≤ r0) (ne_r0_r1 : r0 ≠ r1) (V_r1 : Arf Z h0 r1 .char 3 (own_c x0 x1 x2)) (hx0 : ¬ ((255 : Int32) < x0)) (hx1 : ¬ ((255 : Int32) < x1)) (hx2 : ¬ ((255 : Int32) < x2)) :
    MetFree l (⟨"java/lang/String", "<init>", "([CIILjava/lang/Void;)V"⟩ : MethodName) (head1 (Jvm.Cond.code (⟨"java/lang/String", "<init>", "([CIILjava/lang/Void;)V"⟩ : MethodName) jdk_42_method_149_code 6 none :: ws) ({ frames := 2, cells := 1, slots := 3, locals := 35 } : Room)) (fun a U => a = #[(.ref r0), (.ref r1), (.int (0 : Int32)), (.int (3 : Int32)), .null] ∧ Z.Warmed39 U.vm ∧ U.heap = h0) (fun _ _ _ _ _ => True) (fun _ U o U' => ∃ v L, o = .returned v ∧ QrmS3 Z r0 r1 x0 x1 x2 cs h0 n0 v U'.heap L ∧ FrameEnd U o U' L ({ frames := 2, cells := 1, slots := 3, locals := 35 } : Room).cells ({ frames := 2, cells := 1, slots := 3, locals := 35 } : Room).slots) := by
  refine MetFree.of_bodySF (plainFor_of_name pn_3) hisR ?_
  intro p e s m args below meth c s₁ Bd hml0 hP hK
  obtain ⟨rfl, hZ, hh⟩ := hP
  have hx := Bd.exec
  have hby := Bd.bytes
  have hml : c.maxLocals = 6 := hml0
  have hown : s.vm.findClass "java/lang/String" = some m.cls := findClass_of_methodNamed Bd.named
  have hnm := (name_of_methodNamed Bd.named Bd.method).1
  have X0 : Stand p l e ({ frames := 2, cells := 1, slots := 3, locals := 35 } : Room) s m #[(.ref r0), (.ref r1), (.int (0 : Int32)), (.int (3 : Int32)), .null] below meth c s₁ [] 0 0 := Stand.of_body Bd
  have e0 : s₁.heap = h0 := by rw [← hh, Bd.state]; rfl
  have N0 := Fr.nil n0
  have ZZ := Z0
  have KK : Keep h0 h0 [r0] := Keep.refl h0 _
  show Go p e below s (QrmS3 Z r0 r1 x0 x1 x2 cs h0 n0) 1 3 (s₁.setTop (entryFrame m #[(.ref r0), (.ref r1), (.int (0 : Int32)), (.int (3 : Int32)), .null] 6))
  generalize hQQ : (QrmS3 Z r0 r1 x0 x1 x2 cs h0 n0) = QQ
  refine gs (fun t k => castTop (g' := (mkF m 0 #[rv r0, rv r1, iv 0, iv 3, .val .null, .unset] [])) (by first | (simp [entryFrame, mkF, argsToLocals, Value.category, maxLocals]; done) | rfl) k) ?_
  show Go p e below s QQ 1 3 (s₁.setTop (mkF m 0 #[rv r0, rv r1, iv 0, iv 3, .val .null, .unset] []))
  refine gs (fun t => XS.aloadN X0.here hx rfl (hb hby d3_0) rfl rfl) ?_
  show Go p e below s QQ 1 3 (s₁.setTop (mkF m 1 #[rv r0, rv r1, iv 0, iv 3, .val .null, .unset] [(.ref r0)]))
  obtain ⟨T36, X36, e36, st36⟩ := initO X0 hx hZ hown (hw _ (List.mem_of_getElem? (i := 15) rfl)) (hw _ (List.mem_of_getElem? (i := 16) rfl)) (hw _ (List.mem_of_getElem? (i := 17) rfl)) e0 (g := (mkF m 1 #[rv r0, rv r1, iv 0, iv 3, .val .null, .unset] [(.ref r0)])) rfl (by rw [hml]; rfl) rfl (hb hby d3_1) (by decide) (W := 0) (by show 2 * 0 + _ ≤ _; exact Nat.le_of_eq rfl) (by decide)
  refine gs st36 ?_
  show Go p e below s QQ 1 3 (T36.setTop (mkF m 4 #[rv r0, rv r1, iv 0, iv 3, .val .null, .unset] []))
  refine gs (fun t => XS.iloadN X36.here hx rfl (hb hby d3_4) rfl) ?_
  show Go p e below s QQ 1 3 (T36.setTop (mkF m 5 #[rv r0, rv r1, iv 0, iv 3, .val .null, .unset] [(.int (3 : Int32))]))
  refine gs (fun t => XS.ifYes X36.here hx rfl (pc0 := 5) (pc' := 27) rfl (hb hby d3_5) rfl ((if0 _ _).trans (feq (by decide : ¬ ((3 : Int32) = (0 : Int32)))).2) (by decide) (by decide)) ?_
  show Go p e below s QQ 1 3 (T36.setTop (mkF m 27 #[rv r0, rv r1, iv 0, iv 3, .val .null, .unset] []))
  obtain ⟨T37, X37, e37, st37⟩ := getS2 X36 hx hZ hown (host := "") (Or.inl (hw _ (List.mem_of_getElem? (i := 18) rfl))) Via.refl e36 (CS.ext OLD.2) (g := (mkF m 27 #[rv r0, rv r1, iv 0, iv 3, .val .null, .unset] [])) rfl (hb hby d3_27)
  refine gs st37 ?_
  show Go p e below s QQ 1 3 (T37.setTop (mkF m 30 #[rv r0, rv r1, iv 0, iv 3, .val .null, .unset] [(.int cs)]))
  refine gs (fun t => XS.ifNo X37.here hx rfl (hb hby d3_30) rfl ((if0 _ _).trans (feq (hcs : ¬ (cs = (0 : Int32)))).1)) ?_
  show Go p e below s QQ 1 3 (T37.setTop (mkF m 33 #[rv r0, rv r1, iv 0, iv 3, .val .null, .unset] []))
  refine gs (fun t => XS.aloadN X37.here hx rfl (hb hby d3_33) rfl rfl) ?_
  show Go p e below s QQ 1 3 (T37.setTop (mkF m 34 #[rv r0, rv r1, iv 0, iv 3, .val .null, .unset] [(.ref r1)]))
  refine gs (fun t => XS.iloadN X37.here hx rfl (hb hby d3_34) rfl) ?_
  show Go p e below s QQ 1 3 (T37.setTop (mkF m 35 #[rv r0, rv r1, iv 0, iv 3, .val .null, .unset] [(.int (0 : Int32)), (.ref r1)]))
  refine gs (fun t => XS.iloadN X37.here hx rfl (hb hby d3_35) rfl) ?_
  show Go p e below s QQ 1 3 (T37.setTop (mkF m 36 #[rv r0, rv r1, iv 0, iv 3, .val .null, .unset] [(.int (3 : Int32)), (.int (0 : Int32)), (.ref r1)]))
  have ZZm38 := ZZ
  have KKm38 := KK
  have lt38_r0 := F_value_r0.lt
  have lt38_r1 := V_r1.lt
  obtain ⟨_, _, ⟨T39, L39, k39, n39⟩, -, X39, ⟨Lc39, hQ39, l39, y39, z39⟩, st39⟩ := Jvm.LawKit.callS X37 hx (y := (⟨"java/lang/StringUTF16", "compress", "([CII)[B"⟩ : MethodName)) hown (mvT hZ (hw _ (List.mem_of_getElem? (i := 19) rfl))) (mvT hZ (hw _ (List.mem_of_getElem? (i := 20) rfl))) (mvT hZ (hw _ (List.mem_of_getElem? (i := 21) rfl))) (mvT hZ (hw _ (List.mem_of_getElem? (i := 22) rfl))) (by decide) (backOf (W := 0) (rmR3 l Z a0 hw [] r1 x0 x1 x2 h0 n0 ZZ V_r1 hx0 hx1 hx2) hZ (hw _ (List.mem_of_getElem? (i := 22) rfl)) (hw _ (List.mem_of_getElem? (i := 21) rfl)) (by decide) (by decide)) (g := (mkF m 36 #[rv r0, rv r1, iv 0, iv 3, .val .null, .unset] [(.int (3 : Int32)), (.int (0 : Int32)), (.ref r1)])) rfl (by rw [hml]; rfl) (argsL := [(.ref r1), (.int (0 : Int32)), (.int (3 : Int32))]) (rest := []) (lenOf pd_2 rfl) rfl (by show 2 * 0 + _ ≤ _; exact Nat.le_of_eq rfl) (hb hby d3_36) (fun _ _ => ⟨rfl, e37, (by decide : 0 + 1 ≤ _), (by decide : 0 + 3 ≤ _)⟩)
  dsimp only [Pt.U, Pt.locs, Pt.cells, Pt.slots] at X39 l39 y39 z39 st39 hQ39
  subst l39 y39 z39
  obtain ⟨b39, rfl, N39q, gb39, K39, V39⟩ := hQ39
  replace N0 := Fr.app N0 N39q
  refine gs st39 ?_
  show Go p e below s QQ 1 3 (T39.setTop (mkF m 39 #[rv r0, rv r1, iv 0, iv 3, .val .null, .unset] [(.ref b39)]))
  replace F_value_r0 := F_value_r0.keep K39 nin0
  replace F_coder_r0 := F_coder_r0.keep K39 nin0
  replace E_r0 := E_r0.keep K39
  replace V_r1 := V_r1.keep K39 nin0
  replace OLD := OLD.keep K39 all0
  replace ZZ := Nat.le_trans ZZ K39.1
  replace KK := KK.trans K39 all0
  have ne_r0_b39 : r0 ≠ b39 := Nat.ne_of_lt (Nat.lt_of_lt_of_le lt38_r0 gb39)
  have ne_r1_b39 : r1 ≠ b39 := Nat.ne_of_lt (Nat.lt_of_lt_of_le lt38_r1 gb39)
  have ge_b39 : n0 ≤ b39 := Nat.le_trans ZZm38 gb39
  have sz_b39 : h0.size ≤ b39 := Nat.le_trans KKm38.1 gb39
  refine gs (fun t => XS.astore X39.here hx rfl (hb hby d3_39) rfl rfl (l' := #[rv r0, rv r1, iv 0, iv 3, .val .null, rv b39]) rfl) ?_
  show Go p e below s QQ 1 3 (T39.setTop (mkF m 41 #[rv r0, rv r1, iv 0, iv 3, .val .null, rv b39] []))
  refine gs (fun t => XS.aloadN X39.here hx rfl (hb hby d3_41) rfl rfl) ?_
  show Go p e below s QQ 1 3 (T39.setTop (mkF m 42 #[rv r0, rv r1, iv 0, iv 3, .val .null, rv b39] [(.ref r0)]))
  refine gs (fun t => XS.aload X39.here hx rfl (hb hby d3_42) rfl rfl) ?_
  show Go p e below s QQ 1 3 (T39.setTop (mkF m 44 #[rv r0, rv r1, iv 0, iv 3, .val .null, rv b39] [(.ref b39), (.ref r0)]))
  refine gs (fun t => XS.iloadN X39.here hx rfl (hb hby d3_44) rfl) ?_
  show Go p e below s QQ 1 3 (T39.setTop (mkF m 45 #[rv r0, rv r1, iv 0, iv 3, .val .null, rv b39] [(.int (3 : Int32)), (.ref b39), (.ref r0)]))
  obtain ⟨_, _, ⟨T40, L40, k40, n40⟩, -, X40, ⟨Lc40, hQ40, l40, y40, z40⟩, st40⟩ := Jvm.LawKit.callS X39 hx (y := (⟨"java/lang/StringUTF16", "coderFromArrayLen", "([BI)B"⟩ : MethodName)) hown (mvT hZ (hw _ (List.mem_of_getElem? (i := 27) rfl))) (mvT hZ (hw _ (List.mem_of_getElem? (i := 28) rfl))) (mvT hZ (hw _ (List.mem_of_getElem? (i := 21) rfl))) (mvT hZ (hw _ (List.mem_of_getElem? (i := 29) rfl))) (by decide) (backOf (W := 1) (rmD3 l Z a0 hw [] b39 (own_b x0 x1 x2) T39.heap n0 ZZ V39) hZ (hw _ (List.mem_of_getElem? (i := 29) rfl)) (hw _ (List.mem_of_getElem? (i := 21) rfl)) (by decide) (by decide)) (g := (mkF m 45 #[rv r0, rv r1, iv 0, iv 3, .val .null, rv b39] [(.int (3 : Int32)), (.ref b39), (.ref r0)])) rfl (by rw [hml]; rfl) (argsL := [(.ref b39), (.int (3 : Int32))]) (rest := [(.ref r0)]) (lenOf pd_3 rfl) rfl (by show 2 * 0 + _ ≤ _; exact Nat.le_of_eq rfl) (hb hby d3_45) (fun _ _ => ⟨rfl, rfl, (by decide : 1 + 0 ≤ _), (by decide : 3 + 0 ≤ _)⟩)
  dsimp only [Pt.U, Pt.locs, Pt.cells, Pt.slots] at X40 l40 y40 z40 st40 hQ40
  subst l40 y40 z40
  obtain ⟨rfl, N40q, e40⟩ := hQ40
  replace N0 := Fr.app N0 N40q
  refine gs st40 ?_
  show Go p e below s QQ 1 3 (T40.setTop (mkF m 48 #[rv r0, rv r1, iv 0, iv 3, .val .null, rv b39] [(.int (0 : Int32)), (.ref r0)]))
  obtain ⟨T41, h41, X41, e41, W41, st41⟩ := putFN X40 hx hZ hown (hw _ (List.mem_of_getElem? (i := 30) rfl)) Via.refl e40 F_coder_r0 E_r0 (Or.inr ⟨(hw _ (List.mem_of_getElem? (i := 31) rfl)), rfl, hnm⟩) (hw _ (List.mem_of_getElem? (i := 6) rfl)) (ty := .byte) (v' := .int (0 : Int32)) (by decide) (by first | rfl | simp [narrow]) (by first | decide | exact fits_nar_byte _) (g := (mkF m 48 #[rv r0, rv r1, iv 0, iv 3, .val .null, rv b39] [(.int (0 : Int32)), (.ref r0)])) rfl rfl (hb hby d3_48)
  replace N0 := Fr.snoc X41 N0 ge_r0
  refine gs st41 ?_
  show Go p e below s QQ 1 3 (T41.setTop (mkF m 51 #[rv r0, rv r1, iv 0, iv 3, .val .null, rv b39] []))
  replace F_value_r0 := F_value_r0.other W41 (Or.inr (slot_ne (Or.inr (hw _ (List.mem_of_getElem? (i := 33) rfl))) (Or.inr (hw _ (List.mem_of_getElem? (i := 31) rfl))) (by decide) (t := (.array .byte)) (t' := .byte) (by decide) (by decide)))
  replace F_coder_r0 := F_coder_r0.same W41
  replace E_r0 := E_r0.wr W41
  replace V_r1 := V_r1.other W41 (Ne.symm ne_r0_r1)
  replace OLD := OLD.wr W41 ge_r0
  replace V39 := V39.other W41 (Ne.symm ne_r0_b39)
  replace ZZ : n0 ≤ h41.size := by rw [W41.size]; exact ZZ
  replace KK := KK.wr W41 (Or.inl (by simp))
  refine gs (fun t => XS.aloadN X41.here hx rfl (hb hby d3_51) rfl rfl) ?_
  show Go p e below s QQ 1 3 (T41.setTop (mkF m 52 #[rv r0, rv r1, iv 0, iv 3, .val .null, rv b39] [(.ref r0)]))
  refine gs (fun t => XS.aload X41.here hx rfl (hb hby d3_52) rfl rfl) ?_
  show Go p e below s QQ 1 3 (T41.setTop (mkF m 54 #[rv r0, rv r1, iv 0, iv 3, .val .null, rv b39] [(.ref b39), (.ref r0)]))
  obtain ⟨T42, h42, X42, e42, W42, st42⟩ := putF X41 hx hZ hown (host := "") (Or.inl (hw _ (List.mem_of_getElem? (i := 32) rfl))) Via.refl e41 F_value_r0 E_r0 (Or.inr ⟨(hw _ (List.mem_of_getElem? (i := 33) rfl)), rfl, hnm⟩) (hw _ (List.mem_of_getElem? (i := 6) rfl)) (ty := (.array .byte)) (by decide) rfl rfl (g := (mkF m 54 #[rv r0, rv r1, iv 0, iv 3, .val .null, rv b39] [(.ref b39), (.ref r0)])) rfl rfl (hb hby d3_54)
  replace N0 := Fr.snoc X42 N0 ge_r0
  refine gs st42 ?_
  show Go p e below s QQ 1 3 (T42.setTop (mkF m 57 #[rv r0, rv r1, iv 0, iv 3, .val .null, rv b39] []))
  replace F_value_r0 := F_value_r0.same W42
  replace F_coder_r0 := F_coder_r0.other W42 (Or.inr (slot_ne (Or.inr (hw _ (List.mem_of_getElem? (i := 31) rfl))) (Or.inr (hw _ (List.mem_of_getElem? (i := 33) rfl))) (by decide) (t := .byte) (t' := (.array .byte)) (by decide) (by decide)))
  replace E_r0 := E_r0.wr W42
  replace V_r1 := V_r1.other W42 (Ne.symm ne_r0_r1)
  replace OLD := OLD.wr W42 ge_r0
  replace V39 := V39.other W42 (Ne.symm ne_r0_b39)
  replace ZZ : n0 ≤ h42.size := by rw [W42.size]; exact ZZ
  replace KK := KK.wr W42 (Or.inl (by simp))
  exact goV X42 hx Bd.notSynchronized Bd.returns (hb hby d3_57) (by rw [← hQQ, e42]; exact ⟨rfl, N0, KK, _, F_value_r0, F_coder_r0, V39⟩) (by decide) (by decide)
def QrmT3 (Z : State) (r0 : Addr) (r1 : Addr) (x0 : Int32) (x1 : Int32) (x2 : Int32) (cs : Int32) (h0 : Heap) (n0 : Nat) (v : Option Value) (h : Heap) (L : List Loc) : Prop := v = none ∧ Fr n0 L ∧ Keep h0 h [r0] ∧ ∃ d : Addr, Fld Z h r0 "java/lang/String" "value" "[B" (.ref d) ∧ Fld Z h r0 "java/lang/String" "coder" "B" (.int (0 : Int32)) ∧ Arf Z h d .byte 3 (own_b x0 x1 x2)
set_option maxRecDepth 65536 in
set_option maxHeartbeats 40000000 in
theorem rmT3 (l : Launch) (Z : State) (a0 : Array Value) (hw : ∀ d ∈ tables_1, d.before a0 Z = true) (ws : List Jvm.Cond) (r0 : Addr) (r1 : Addr) (x0 : Int32) (x1 : Int32) (x2 : Int32) (cs : Int32) (h0 : Heap) (n0 : Nat) (Z0 : n0 ≤ h0.size) (OLD : Old Z n0 h0) (CS : Sta Z Z.heap "java/lang/String" "COMPACT_STRINGS" "Z" (.int cs)) (hcs : ¬ (cs = (0 : Int32))) (F_value_r0 : Fld Z h0 r0 "java/lang/String" "value" "[B" .null) (F_coder_r0 : Fld Z h0 r0 "java/lang/String" "coder" "B" (.int (0 : Int32))) (E_r0 : Exa Z h0 r0 "java/lang/String") (ge_r0 : n0 ≤ r0) (ne_r0_r1 : r0 ≠ r1) (V_r1 : Arf Z h0 r1 .char 3 (own_c x0 x1 x2)) (hx0 : ¬ ((255 : Int32) < x0)) (hx1 : ¬ ((255 : Int32) < x1)) (hx2 : ¬ ((255 : Int32) < x2)) :
    MetFree l (⟨"java/lang/String", "<init>", "([C)V"⟩ : MethodName) (head1 (Jvm.Cond.code (⟨"java/lang/String", "<init>", "([C)V"⟩ : MethodName) jdk_42_method_3_code 2 none :: ws) ({ frames := 3, cells := 1, slots := 3, locals := 52 } : Room)) (fun a U => a = #[(.ref r0), (.ref r1)] ∧ Z.Warmed39 U.vm ∧ U.heap = h0) (fun _ _ _ _ _ => True) (fun _ U o U' => ∃ v L, o = .returned v ∧ QrmT3 Z r0 r1 x0 x1 x2 cs h0 n0 v U'.heap L ∧ FrameEnd U o U' L ({ frames := 3, cells := 1, slots := 3, locals := 52 } : Room).cells ({ frames := 3, cells := 1, slots := 3, locals := 52 } : Room).slots) := by
  refine MetFree.of_bodySF (plainFor_of_name pn_2) hisR ?_
  intro p e s m args below meth c s₁ Bd hml0 hP hK
  obtain ⟨rfl, hZ, hh⟩ := hP
  have hx := Bd.exec
  have hby := Bd.bytes
  have hml : c.maxLocals = 2 := hml0
  have hown : s.vm.findClass "java/lang/String" = some m.cls := findClass_of_methodNamed Bd.named
  have hnm := (name_of_methodNamed Bd.named Bd.method).1
  have X0 : Stand p l e ({ frames := 3, cells := 1, slots := 3, locals := 52 } : Room) s m #[(.ref r0), (.ref r1)] below meth c s₁ [] 0 0 := Stand.of_body Bd
  have e0 : s₁.heap = h0 := by rw [← hh, Bd.state]; rfl
  have N0 := Fr.nil n0
  have ZZ := Z0
  have KK : Keep h0 h0 [r0] := Keep.refl h0 _
  show Go p e below s (QrmT3 Z r0 r1 x0 x1 x2 cs h0 n0) 1 3 (s₁.setTop (entryFrame m #[(.ref r0), (.ref r1)] 2))
  generalize hQQ : (QrmT3 Z r0 r1 x0 x1 x2 cs h0 n0) = QQ
  refine gs (fun t k => castTop (g' := (mkF m 0 #[rv r0, rv r1] [])) (by first | (simp [entryFrame, mkF, argsToLocals, Value.category, maxLocals]; done) | rfl) k) ?_
  show Go p e below s QQ 1 3 (s₁.setTop (mkF m 0 #[rv r0, rv r1] []))
  refine gs (fun t => XS.aloadN X0.here hx rfl (hb hby d2_0) rfl rfl) ?_
  show Go p e below s QQ 1 3 (s₁.setTop (mkF m 1 #[rv r0, rv r1] [(.ref r0)]))
  refine gs (fun t => XS.aloadN X0.here hx rfl (hb hby d2_1) rfl rfl) ?_
  show Go p e below s QQ 1 3 (s₁.setTop (mkF m 2 #[rv r0, rv r1] [(.ref r1), (.ref r0)]))
  refine gs (fun t => XS.iconst X0.here hx rfl (hb hby d2_2)) ?_
  show Go p e below s QQ 1 3 (s₁.setTop (mkF m 3 #[rv r0, rv r1] [(.int (0 : Int32)), (.ref r1), (.ref r0)]))
  refine gs (fun t => XS.aloadN X0.here hx rfl (hb hby d2_3) rfl rfl) ?_
  show Go p e below s QQ 1 3 (s₁.setTop (mkF m 4 #[rv r0, rv r1] [(.ref r1), (.int (0 : Int32)), (.ref r1), (.ref r0)]))
  refine gs (fun t => lenf X0 hx hZ e0 V_r1 (z := (3 : Int32)) rfl (g := (mkF m 4 #[rv r0, rv r1] [(.ref r1), (.int (0 : Int32)), (.ref r1), (.ref r0)])) rfl rfl (hb hby d2_4) t) ?_
  show Go p e below s QQ 1 3 (s₁.setTop (mkF m 5 #[rv r0, rv r1] [(.int (3 : Int32)), (.int (0 : Int32)), (.ref r1), (.ref r0)]))
  refine gs (fun t => XS.aconstNull X0.here hx rfl (hb hby d2_5)) ?_
  show Go p e below s QQ 1 3 (s₁.setTop (mkF m 6 #[rv r0, rv r1] [.null, (.int (3 : Int32)), (.int (0 : Int32)), (.ref r1), (.ref r0)]))
  obtain ⟨_, _, ⟨T43, L43, k43, n43⟩, -, X43, ⟨Lc43, hQ43, l43, y43, z43⟩, st43⟩ := X0.specialBack hx (y := (⟨"java/lang/String", "<init>", "([CIILjava/lang/Void;)V"⟩ : MethodName)) rfl hown (mvT hZ (hw _ (List.mem_of_getElem? (i := 11) rfl))) (mvT hZ (hw _ (List.mem_of_getElem? (i := 12) rfl))) (mvT hZ (hw _ (List.mem_of_getElem? (i := 14) rfl))) (by decide) (backOf (W := 0) (rmS3 l Z a0 hw [] r0 r1 x0 x1 x2 cs h0 n0 ZZ OLD CS hcs F_value_r0 F_coder_r0 E_r0 ge_r0 ne_r0_r1 V_r1 hx0 hx1 hx2) hZ (hw _ (List.mem_of_getElem? (i := 14) rfl)) (hw _ (List.mem_of_getElem? (i := 7) rfl)) (by decide) (by decide)) (g := (mkF m 6 #[rv r0, rv r1] [.null, (.int (3 : Int32)), (.int (0 : Int32)), (.ref r1), (.ref r0)])) rfl (by rw [hml]; rfl) (Steps.refl _) (a := r0) (argsL := [(.ref r1), (.int (0 : Int32)), (.int (3 : Int32)), .null]) (rest := []) (lenOf pd_0 rfl) rfl (by show 2 * 0 + _ ≤ _; exact Nat.le_of_eq rfl) (hb hby d2_6) (fun _ _ => ⟨rfl, e0, (by decide : 0 + 1 ≤ _), (by decide : 0 + 3 ≤ _)⟩)
  dsimp only [Pt.U, Pt.locs, Pt.cells, Pt.slots] at X43 l43 y43 z43 st43 hQ43
  subst l43 y43 z43
  obtain ⟨rfl, N43q, K43, d43, F1_43, F2_43, A43⟩ := hQ43
  replace N0 := Fr.app N0 N43q
  refine gt st43 ?_
  show Go p e below s QQ 1 3 (T43.setTop (mkF m 9 #[rv r0, rv r1] []))
  replace E_r0 := E_r0.keep K43
  replace V_r1 := V_r1.keep K43 (ninS (Ne.symm ne_r0_r1) nin0)
  replace OLD := OLD.keep K43 (allS ge_r0 all0)
  replace ZZ := Nat.le_trans ZZ K43.1
  replace KK := KK.trans K43 (allS (Or.inl (by simp)) all0)
  exact goV X43 hx Bd.notSynchronized Bd.returns (hb hby d2_9) (by rw [← hQQ]; exact ⟨rfl, N0, KK, _, F1_43, F2_43, A43⟩) (by decide) (by decide)
theorem d1_0 : decode method_2_code 0 = .ok (.iload_n 0, 1) := by decide +kernel
theorem d1_1 : decode method_2_code 1 = .ok (.sipush 255, 3) := by decide +kernel
theorem d1_4 : decode method_2_code 4 = .ok (.iand, 1) := by decide +kernel
theorem d1_5 : decode method_2_code 5 = .ok (.i2c, 1) := by decide +kernel
theorem d1_6 : decode method_2_code 6 = .ok (.istore 4, 2) := by decide +kernel
theorem d1_8 : decode method_2_code 8 = .ok (.iload_n 1, 1) := by decide +kernel
theorem d1_9 : decode method_2_code 9 = .ok (.sipush 255, 3) := by decide +kernel
theorem d1_12 : decode method_2_code 12 = .ok (.iand, 1) := by decide +kernel
theorem d1_13 : decode method_2_code 13 = .ok (.i2c, 1) := by decide +kernel
theorem d1_14 : decode method_2_code 14 = .ok (.istore 5, 2) := by decide +kernel
theorem d1_16 : decode method_2_code 16 = .ok (.iload_n 2, 1) := by decide +kernel
theorem d1_17 : decode method_2_code 17 = .ok (.sipush 255, 3) := by decide +kernel
theorem d1_20 : decode method_2_code 20 = .ok (.iand, 1) := by decide +kernel
theorem d1_21 : decode method_2_code 21 = .ok (.i2c, 1) := by decide +kernel
theorem d1_22 : decode method_2_code 22 = .ok (.istore 6, 2) := by decide +kernel
theorem d1_24 : decode method_2_code 24 = .ok (.iload_n 3, 1) := by decide +kernel
theorem d1_25 : decode method_2_code 25 = .ok (.ifCond .ne 11, 3) := by decide +kernel
theorem d1_28 : decode method_2_code 28 = .ok (.iconst 0, 1) := by decide +kernel
theorem d1_29 : decode method_2_code 29 = .ok (.newarray .char, 2) := by decide +kernel
theorem d1_31 : decode method_2_code 31 = .ok (.astore 7, 2) := by decide +kernel
theorem d1_33 : decode method_2_code 33 = .ok (.goto 64, 3) := by decide +kernel
theorem d1_36 : decode method_2_code 36 = .ok (.iload_n 3, 1) := by decide +kernel
theorem d1_37 : decode method_2_code 37 = .ok (.iconst 1, 1) := by decide +kernel
theorem d1_38 : decode method_2_code 38 = .ok (.if_icmp .ne 16, 3) := by decide +kernel
theorem d1_41 : decode method_2_code 41 = .ok (.iconst 1, 1) := by decide +kernel
theorem d1_42 : decode method_2_code 42 = .ok (.newarray .char, 2) := by decide +kernel
theorem d1_44 : decode method_2_code 44 = .ok (.dup, 1) := by decide +kernel
theorem d1_45 : decode method_2_code 45 = .ok (.iconst 0, 1) := by decide +kernel
theorem d1_46 : decode method_2_code 46 = .ok (.iload 4, 2) := by decide +kernel
theorem d1_48 : decode method_2_code 48 = .ok (.castore, 1) := by decide +kernel
theorem d1_49 : decode method_2_code 49 = .ok (.astore 7, 2) := by decide +kernel
theorem d1_51 : decode method_2_code 51 = .ok (.goto 46, 3) := by decide +kernel
theorem d1_54 : decode method_2_code 54 = .ok (.iload_n 3, 1) := by decide +kernel
theorem d1_55 : decode method_2_code 55 = .ok (.iconst 2, 1) := by decide +kernel
theorem d1_56 : decode method_2_code 56 = .ok (.if_icmp .ne 21, 3) := by decide +kernel
theorem d1_59 : decode method_2_code 59 = .ok (.iconst 2, 1) := by decide +kernel
theorem d1_60 : decode method_2_code 60 = .ok (.newarray .char, 2) := by decide +kernel
theorem d1_62 : decode method_2_code 62 = .ok (.dup, 1) := by decide +kernel
theorem d1_63 : decode method_2_code 63 = .ok (.iconst 0, 1) := by decide +kernel
theorem d1_64 : decode method_2_code 64 = .ok (.iload 4, 2) := by decide +kernel
theorem d1_66 : decode method_2_code 66 = .ok (.castore, 1) := by decide +kernel
theorem d1_67 : decode method_2_code 67 = .ok (.dup, 1) := by decide +kernel
theorem d1_68 : decode method_2_code 68 = .ok (.iconst 1, 1) := by decide +kernel
theorem d1_69 : decode method_2_code 69 = .ok (.iload 5, 2) := by decide +kernel
theorem d1_71 : decode method_2_code 71 = .ok (.castore, 1) := by decide +kernel
theorem d1_72 : decode method_2_code 72 = .ok (.astore 7, 2) := by decide +kernel
theorem d1_74 : decode method_2_code 74 = .ok (.goto 23, 3) := by decide +kernel
theorem d1_77 : decode method_2_code 77 = .ok (.iconst 3, 1) := by decide +kernel
theorem d1_78 : decode method_2_code 78 = .ok (.newarray .char, 2) := by decide +kernel
theorem d1_80 : decode method_2_code 80 = .ok (.dup, 1) := by decide +kernel
theorem d1_81 : decode method_2_code 81 = .ok (.iconst 0, 1) := by decide +kernel
theorem d1_82 : decode method_2_code 82 = .ok (.iload 4, 2) := by decide +kernel
theorem d1_84 : decode method_2_code 84 = .ok (.castore, 1) := by decide +kernel
theorem d1_85 : decode method_2_code 85 = .ok (.dup, 1) := by decide +kernel
theorem d1_86 : decode method_2_code 86 = .ok (.iconst 1, 1) := by decide +kernel
theorem d1_87 : decode method_2_code 87 = .ok (.iload 5, 2) := by decide +kernel
theorem d1_89 : decode method_2_code 89 = .ok (.castore, 1) := by decide +kernel
theorem d1_90 : decode method_2_code 90 = .ok (.dup, 1) := by decide +kernel
theorem d1_91 : decode method_2_code 91 = .ok (.iconst 2, 1) := by decide +kernel
theorem d1_92 : decode method_2_code 92 = .ok (.iload 6, 2) := by decide +kernel
theorem d1_94 : decode method_2_code 94 = .ok (.castore, 1) := by decide +kernel
theorem d1_95 : decode method_2_code 95 = .ok (.astore 7, 2) := by decide +kernel
theorem d1_97 : decode method_2_code 97 = .ok (.new 7, 3) := by decide +kernel
theorem d1_100 : decode method_2_code 100 = .ok (.dup, 1) := by decide +kernel
theorem d1_101 : decode method_2_code 101 = .ok (.aload 7, 2) := by decide +kernel
theorem d1_103 : decode method_2_code 103 = .ok (.invokespecial 9, 3) := by decide +kernel
theorem d1_106 : decode method_2_code 106 = .ok (.areturn, 1) := by decide +kernel
theorem pn_1 : plainName "com/example/outboxd/outboxd/relay/OutcomeUnconfirmedPinLaw" = true := by first | (simp [plainName, overriddenIn]; done) | decide +kernel
def QrmDraw (Z : State) (p0 : Int32) (p1 : Int32) (p2 : Int32) (p3 : Int32) (cs : Int32) (h0 : Heap) (n0 : Nat) (v : Option Value) (h : Heap) (L : List Loc) : Prop := ∃ (b d : Addr) (nn : Nat), v = some (.ref b) ∧ Fr n0 L ∧ h0.size ≤ b ∧ Keep h0 h [] ∧ Exa Z h b "java/lang/String" ∧ Fld Z h b "java/lang/String" "value" "[B" (.ref d) ∧ Fld Z h b "java/lang/String" "coder" "B" (.int (0 : Int32)) ∧ Arf Z h d .byte nn (own_b (p0 &&& (255 : Int32)) (p1 &&& (255 : Int32)) (p2 &&& (255 : Int32))) ∧ nn.toInt32 = p3
set_option maxRecDepth 65536 in
set_option maxHeartbeats 40000000 in
theorem rmDraw (l : Launch) (Z : State) (a0 : Array Value) (hw : ∀ d ∈ tables_1, d.before a0 Z = true) (ws : List Jvm.Cond) (p0 : Int32) (p1 : Int32) (p2 : Int32) (p3 : Int32) (cs : Int32) (h0 : Heap) (n0 : Nat) (Z0 : n0 ≤ h0.size) (OLD : Old Z n0 h0) (CS : Sta Z Z.heap "java/lang/String" "COMPACT_STRINGS" "Z" (.int cs)) (hcs : ¬ (cs = (0 : Int32))) (hp3 : p3 = (0 : Int32) ∨ p3 = (1 : Int32) ∨ p3 = (2 : Int32) ∨ p3 = (3 : Int32)) :
    MetFree l (⟨"com/example/outboxd/outboxd/relay/OutcomeUnconfirmedPinLaw", "draw", "(IIII)Ljava/lang/String;"⟩ : MethodName) (head1 (Jvm.Cond.code (⟨"com/example/outboxd/outboxd/relay/OutcomeUnconfirmedPinLaw", "draw", "(IIII)Ljava/lang/String;"⟩ : MethodName) method_2_code 8 (some (.object "java/lang/String")) :: ws) ({ frames := 4, cells := 4, slots := 10, locals := 66 } : Room)) (fun a U => a = #[(.int p0), (.int p1), (.int p2), (.int p3)] ∧ Z.Warmed39 U.vm ∧ U.heap = h0 ∧ CHv Z own_EL U.vm h0) (fun _ _ _ _ _ => True) (fun _ U o U' => ∃ v L, o = .returned v ∧ QrmDraw Z p0 p1 p2 p3 cs h0 n0 v U'.heap L ∧ ReturnedEndW U o U' L ({ frames := 4, cells := 4, slots := 10, locals := 66 } : Room).cells ({ frames := 4, cells := 4, slots := 10, locals := 66 } : Room).slots) := by
  refine MetFree.of_bodySF (plainFor_of_name pn_1) hisR ?_
  intro p e s m args below meth c s₁ Bd hml0 hP hK
  obtain ⟨rfl, hZ, hh, CH⟩ := hP
  have hx := Bd.exec
  have hby := Bd.bytes
  have hml : c.maxLocals = 8 := hml0
  have hown : s.vm.findClass "com/example/outboxd/outboxd/relay/OutcomeUnconfirmedPinLaw" = some m.cls := findClass_of_methodNamed Bd.named
  have hnm := (name_of_methodNamed Bd.named Bd.method).1
  have X0 : Stand p l e ({ frames := 4, cells := 4, slots := 10, locals := 66 } : Room) s m #[(.int p0), (.int p1), (.int p2), (.int p3)] below meth c s₁ [] 0 0 := Stand.of_body Bd
  have e0 : s₁.heap = h0 := by rw [← hh, Bd.state]; rfl
  have N0 := Fr.nil n0
  have ZZ := Z0
  obtain ⟨v0, hv0⟩ : ∃ z, z = s.vm := ⟨_, rfl⟩
  have SS : s.Since v0 h0.size := by rw [hv0]; exact (State.WarmedH.refl s).since _
  have SK : h0.size ≤ h0.size := Nat.le_refl _
  replace X0 : Stand p l e ({ frames := 4, cells := 4, slots := 10, locals := 66 } : Room) (s.setVm v0) m #[(.int p0), (.int p1), (.int p2), (.int p3)] below meth c s₁ [] 0 0 := by rw [hv0]; exact X0
  replace hZ : Z.Warmed39 (s.setVm v0).vm := by rw [hv0]; exact hZ
  replace hown : (s.setVm v0).vm.findClass "com/example/outboxd/outboxd/relay/OutcomeUnconfirmedPinLaw" = some m.cls := by rw [hv0]; exact hown
  replace CH : CHv Z own_EL v0 h0 := by rw [hv0]; exact CH
  have KK : Keep h0 h0 [] := Keep.refl h0 _
  show GoW p e below s (QrmDraw Z p0 p1 p2 p3 cs h0 n0) 4 10 (s₁.setTop (entryFrame m #[(.int p0), (.int p1), (.int p2), (.int p3)] 8))
  generalize hQQ : (QrmDraw Z p0 p1 p2 p3 cs h0 n0) = QQ
  refine gsW (fun t k => castTop (g' := (mkF m 0 #[iv p0, iv p1, iv p2, iv p3, .unset, .unset, .unset, .unset] [])) (by first | (simp [entryFrame, mkF, argsToLocals, Value.category, maxLocals]; done) | rfl) k) ?_
  show GoW p e below s QQ 4 10 (s₁.setTop (mkF m 0 #[iv p0, iv p1, iv p2, iv p3, .unset, .unset, .unset, .unset] []))
  refine gsW (fun t => XS.iloadN X0.here hx rfl (hb hby d1_0) rfl) ?_
  show GoW p e below s QQ 4 10 (s₁.setTop (mkF m 1 #[iv p0, iv p1, iv p2, iv p3, .unset, .unset, .unset, .unset] [(.int p0)]))
  refine gsW (fun t => XS.sipush X0.here hx rfl (hb hby d1_1)) ?_
  show GoW p e below s QQ 4 10 (s₁.setTop (mkF m 4 #[iv p0, iv p1, iv p2, iv p3, .unset, .unset, .unset, .unset] [(.int (255 : Int32)), (.int p0)]))
  refine gsW (fun t => XS.iand X0.here hx rfl (hb hby d1_4) rfl) ?_
  show GoW p e below s QQ 4 10 (s₁.setTop (mkF m 5 #[iv p0, iv p1, iv p2, iv p3, .unset, .unset, .unset, .unset] [(.int (p0 &&& (255 : Int32)))]))
  refine gsW (fun t => XS.i2c X0.here hx rfl (hb hby d1_5) rfl) ?_
  show GoW p e below s QQ 4 10 (s₁.setTop (mkF m 6 #[iv p0, iv p1, iv p2, iv p3, .unset, .unset, .unset, .unset] [(.int ((p0 &&& (255 : Int32)).toUInt32.toUInt16.toUInt32.toInt32))]))
  rw [show ((p0 &&& (255 : Int32)).toUInt32.toUInt16.toUInt32.toInt32) = (p0 &&& (255 : Int32)) from i2c_mask p0]
  show GoW p e below s QQ 4 10 (s₁.setTop (mkF m 6 #[iv p0, iv p1, iv p2, iv p3, .unset, .unset, .unset, .unset] [(.int (p0 &&& (255 : Int32)))]))
  refine gsW (fun t => XS.istore X0.here hx rfl (hb hby d1_6) rfl (l' := #[iv p0, iv p1, iv p2, iv p3, iv (p0 &&& (255 : Int32)), .unset, .unset, .unset]) rfl) ?_
  show GoW p e below s QQ 4 10 (s₁.setTop (mkF m 8 #[iv p0, iv p1, iv p2, iv p3, iv (p0 &&& (255 : Int32)), .unset, .unset, .unset] []))
  refine gsW (fun t => XS.iloadN X0.here hx rfl (hb hby d1_8) rfl) ?_
  show GoW p e below s QQ 4 10 (s₁.setTop (mkF m 9 #[iv p0, iv p1, iv p2, iv p3, iv (p0 &&& (255 : Int32)), .unset, .unset, .unset] [(.int p1)]))
  refine gsW (fun t => XS.sipush X0.here hx rfl (hb hby d1_9)) ?_
  show GoW p e below s QQ 4 10 (s₁.setTop (mkF m 12 #[iv p0, iv p1, iv p2, iv p3, iv (p0 &&& (255 : Int32)), .unset, .unset, .unset] [(.int (255 : Int32)), (.int p1)]))
  refine gsW (fun t => XS.iand X0.here hx rfl (hb hby d1_12) rfl) ?_
  show GoW p e below s QQ 4 10 (s₁.setTop (mkF m 13 #[iv p0, iv p1, iv p2, iv p3, iv (p0 &&& (255 : Int32)), .unset, .unset, .unset] [(.int (p1 &&& (255 : Int32)))]))
  refine gsW (fun t => XS.i2c X0.here hx rfl (hb hby d1_13) rfl) ?_
  show GoW p e below s QQ 4 10 (s₁.setTop (mkF m 14 #[iv p0, iv p1, iv p2, iv p3, iv (p0 &&& (255 : Int32)), .unset, .unset, .unset] [(.int ((p1 &&& (255 : Int32)).toUInt32.toUInt16.toUInt32.toInt32))]))
  rw [show ((p1 &&& (255 : Int32)).toUInt32.toUInt16.toUInt32.toInt32) = (p1 &&& (255 : Int32)) from i2c_mask p1]
  show GoW p e below s QQ 4 10 (s₁.setTop (mkF m 14 #[iv p0, iv p1, iv p2, iv p3, iv (p0 &&& (255 : Int32)), .unset, .unset, .unset] [(.int (p1 &&& (255 : Int32)))]))
  refine gsW (fun t => XS.istore X0.here hx rfl (hb hby d1_14) rfl (l' := #[iv p0, iv p1, iv p2, iv p3, iv (p0 &&& (255 : Int32)), iv (p1 &&& (255 : Int32)), .unset, .unset]) rfl) ?_
  show GoW p e below s QQ 4 10 (s₁.setTop (mkF m 16 #[iv p0, iv p1, iv p2, iv p3, iv (p0 &&& (255 : Int32)), iv (p1 &&& (255 : Int32)), .unset, .unset] []))
  refine gsW (fun t => XS.iloadN X0.here hx rfl (hb hby d1_16) rfl) ?_
  show GoW p e below s QQ 4 10 (s₁.setTop (mkF m 17 #[iv p0, iv p1, iv p2, iv p3, iv (p0 &&& (255 : Int32)), iv (p1 &&& (255 : Int32)), .unset, .unset] [(.int p2)]))
  refine gsW (fun t => XS.sipush X0.here hx rfl (hb hby d1_17)) ?_
  show GoW p e below s QQ 4 10 (s₁.setTop (mkF m 20 #[iv p0, iv p1, iv p2, iv p3, iv (p0 &&& (255 : Int32)), iv (p1 &&& (255 : Int32)), .unset, .unset] [(.int (255 : Int32)), (.int p2)]))
  refine gsW (fun t => XS.iand X0.here hx rfl (hb hby d1_20) rfl) ?_
  show GoW p e below s QQ 4 10 (s₁.setTop (mkF m 21 #[iv p0, iv p1, iv p2, iv p3, iv (p0 &&& (255 : Int32)), iv (p1 &&& (255 : Int32)), .unset, .unset] [(.int (p2 &&& (255 : Int32)))]))
  refine gsW (fun t => XS.i2c X0.here hx rfl (hb hby d1_21) rfl) ?_
  show GoW p e below s QQ 4 10 (s₁.setTop (mkF m 22 #[iv p0, iv p1, iv p2, iv p3, iv (p0 &&& (255 : Int32)), iv (p1 &&& (255 : Int32)), .unset, .unset] [(.int ((p2 &&& (255 : Int32)).toUInt32.toUInt16.toUInt32.toInt32))]))
  rw [show ((p2 &&& (255 : Int32)).toUInt32.toUInt16.toUInt32.toInt32) = (p2 &&& (255 : Int32)) from i2c_mask p2]
  show GoW p e below s QQ 4 10 (s₁.setTop (mkF m 22 #[iv p0, iv p1, iv p2, iv p3, iv (p0 &&& (255 : Int32)), iv (p1 &&& (255 : Int32)), .unset, .unset] [(.int (p2 &&& (255 : Int32)))]))
  refine gsW (fun t => XS.istore X0.here hx rfl (hb hby d1_22) rfl (l' := #[iv p0, iv p1, iv p2, iv p3, iv (p0 &&& (255 : Int32)), iv (p1 &&& (255 : Int32)), iv (p2 &&& (255 : Int32)), .unset]) rfl) ?_
  show GoW p e below s QQ 4 10 (s₁.setTop (mkF m 24 #[iv p0, iv p1, iv p2, iv p3, iv (p0 &&& (255 : Int32)), iv (p1 &&& (255 : Int32)), iv (p2 &&& (255 : Int32)), .unset] []))
  refine gsW (fun t => XS.iloadN X0.here hx rfl (hb hby d1_24) rfl) ?_
  show GoW p e below s QQ 4 10 (s₁.setTop (mkF m 25 #[iv p0, iv p1, iv p2, iv p3, iv (p0 &&& (255 : Int32)), iv (p1 &&& (255 : Int32)), iv (p2 &&& (255 : Int32)), .unset] [(.int p3)]))
  by_cases hq0 : p3 = (0 : Int32)
  · skip
    refine gsW (fun t => XS.ifNo X0.here hx rfl (hb hby d1_25) rfl ((if0 _ _).trans (teq hq0).2)) ?_
    show GoW p e below s QQ 4 10 (s₁.setTop (mkF m 28 #[iv p0, iv p1, iv p2, iv p3, iv (p0 &&& (255 : Int32)), iv (p1 &&& (255 : Int32)), iv (p2 &&& (255 : Int32)), .unset] []))
    refine gsW (fun t => XS.iconst X0.here hx rfl (hb hby d1_28)) ?_
    show GoW p e below s QQ 4 10 (s₁.setTop (mkF m 29 #[iv p0, iv p1, iv p2, iv p3, iv (p0 &&& (255 : Int32)), iv (p1 &&& (255 : Int32)), iv (p2 &&& (255 : Int32)), .unset] [(.int (0 : Int32))]))
    obtain ⟨T44, h44, k44, X44, e44, E44, A44, st44⟩ := newP X0 hx hZ (hw _ (List.mem_of_getElem? (i := 4) rfl)) e0 (g := (mkF m 29 #[iv p0, iv p1, iv p2, iv p3, iv (p0 &&& (255 : Int32)), iv (p1 &&& (255 : Int32)), iv (p2 &&& (255 : Int32)), .unset] [(.int (0 : Int32))])) rfl (hb hby d1_29) rfl (by decide) (cap := 0) (by decide) (by decide) (by decide) (by decide)
    obtain ⟨b44, g44⟩ : ∃ z, z = h0.size := ⟨_, rfl⟩
    rw [← g44] at A44 st44
    have ge_b44 : n0 ≤ b44 := by rw [g44]; exact ZZ
    have sz_b44 : h0.size ≤ b44 := by rw [g44]; exact KK.1
    refine gsW st44 ?_
    show GoW p e below s QQ 4 10 (T44.setTop (mkF m 31 #[iv p0, iv p1, iv p2, iv p3, iv (p0 &&& (255 : Int32)), iv (p1 &&& (255 : Int32)), iv (p2 &&& (255 : Int32)), .unset] [(.ref b44)]))
    replace OLD := OLD.ext E44
    replace ZZ := Nat.le_trans ZZ E44.1
    replace SK := Nat.le_trans SK E44.1
    replace CH := CH.ext E44
    replace KK := KK.ext E44
    have V_b44 : Arf Z h44 b44 .char 0 (fun _ => .int 0) := Arf.new A44
    replace V_b44 : Arf Z h44 b44 .char 0 (own_c (p0 &&& (255 : Int32)) (p1 &&& (255 : Int32)) (p2 &&& (255 : Int32))) := V_b44.congr (fun i hi => absurd hi (Nat.not_lt_zero _))
    refine gsW (fun t => XS.astore X44.here hx rfl (hb hby d1_31) rfl rfl (l' := #[iv p0, iv p1, iv p2, iv p3, iv (p0 &&& (255 : Int32)), iv (p1 &&& (255 : Int32)), iv (p2 &&& (255 : Int32)), rv b44]) rfl) ?_
    show GoW p e below s QQ 4 10 (T44.setTop (mkF m 33 #[iv p0, iv p1, iv p2, iv p3, iv (p0 &&& (255 : Int32)), iv (p1 &&& (255 : Int32)), iv (p2 &&& (255 : Int32)), rv b44] []))
    refine gsW (fun t => XS.goto X44.here hx rfl (pc0 := 33) (pc' := 97) rfl (hb hby d1_33) (by decide) (by decide)) ?_
    show GoW p e below s QQ 4 10 (T44.setTop (mkF m 97 #[iv p0, iv p1, iv p2, iv p3, iv (p0 &&& (255 : Int32)), iv (p1 &&& (255 : Int32)), iv (p2 &&& (255 : Int32)), rv b44] []))
    obtain ⟨T45, h45, X45, e45, E45, A45, D45, -, st45⟩ := newO X44 hx hZ hown (hw _ (List.mem_of_getElem? (i := 5) rfl)) (hw _ (List.mem_of_getElem? (i := 6) rfl)) (hw _ (List.mem_of_getElem? (i := 7) rfl)) e44 (g := (mkF m 97 #[iv p0, iv p1, iv p2, iv p3, iv (p0 &&& (255 : Int32)), iv (p1 &&& (255 : Int32)), iv (p2 &&& (255 : Int32)), rv b44] [])) rfl (hb hby d1_97) (by decide) (by decide)
    obtain ⟨b45, g45⟩ : ∃ z, z = h44.size := ⟨_, rfl⟩
    rw [← g45] at A45 D45 st45
    have ge_b45 : n0 ≤ b45 := by rw [g45]; exact ZZ
    have sz_b45 : h0.size ≤ b45 := by rw [g45]; exact KK.1
    have ne_b44_b45 : b44 ≠ b45 := by rw [g45]; exact Nat.ne_of_lt V_b44.lt
    refine gsW st45 ?_
    show GoW p e below s QQ 4 10 (T45.setTop (mkF m 100 #[iv p0, iv p1, iv p2, iv p3, iv (p0 &&& (255 : Int32)), iv (p1 &&& (255 : Int32)), iv (p2 &&& (255 : Int32)), rv b44] [(.ref b45)]))
    replace OLD := OLD.ext E45
    replace V_b44 := V_b44.ext E45
    replace ZZ := Nat.le_trans ZZ E45.1
    replace SK := Nat.le_trans SK E45.1
    replace CH := CH.ext E45
    replace KK := KK.ext E45
    have Ex_b45 := A45
    have F_coder_b45 : Fld Z h45 b45 "java/lang/String" "coder" "B" (.int (0 : Int32)) := D45 (Or.inr (hw _ (List.mem_of_getElem? (i := 31) rfl))) (ty := .byte) (by decide)
    have F_value_b45 : Fld Z h45 b45 "java/lang/String" "value" "[B" .null := D45 (Or.inr (hw _ (List.mem_of_getElem? (i := 33) rfl))) (ty := (.array .byte)) (by decide)
    refine gsW (fun t => XS.dup X45.here hx rfl (hb hby d1_100) rfl rfl) ?_
    show GoW p e below s QQ 4 10 (T45.setTop (mkF m 101 #[iv p0, iv p1, iv p2, iv p3, iv (p0 &&& (255 : Int32)), iv (p1 &&& (255 : Int32)), iv (p2 &&& (255 : Int32)), rv b44] [(.ref b45), (.ref b45)]))
    refine gsW (fun t => XS.aload X45.here hx rfl (hb hby d1_101) rfl rfl) ?_
    show GoW p e below s QQ 4 10 (T45.setTop (mkF m 103 #[iv p0, iv p1, iv p2, iv p3, iv (p0 &&& (255 : Int32)), iv (p1 &&& (255 : Int32)), iv (p2 &&& (255 : Int32)), rv b44] [(.ref b44), (.ref b45), (.ref b45)]))
    obtain ⟨_, _, ⟨T46, L46, k46, n46⟩, -, X46, S46, G46, ⟨Lc46, hQ46, l46, y46, z46⟩, st46⟩ := X45.specialBackS hx (y := (⟨"java/lang/String", "<init>", "([C)V"⟩ : MethodName)) rfl hown (mvT hZ (hw _ (List.mem_of_getElem? (i := 8) rfl))) (mvT hZ (hw _ (List.mem_of_getElem? (i := 9) rfl))) (mvT hZ (hw _ (List.mem_of_getElem? (i := 10) rfl))) (by decide) (own_backH (EL := own_EL) (W := 1) (rmT0 l Z a0 hw [] b45 b44 (p0 &&& (255 : Int32)) (p1 &&& (255 : Int32)) (p2 &&& (255 : Int32)) cs h45 n0 ZZ OLD CS hcs F_value_b45 F_coder_b45 Ex_b45 ge_b45 (Ne.symm ne_b44_b45) V_b44 (own_le p0) (own_le p1) (own_le p2)) hZ (hw _ (List.mem_of_getElem? (i := 10) rfl)) (hw _ (List.mem_of_getElem? (i := 7) rfl)) (by decide) (by decide) (own_EW hw) CH) (g := (mkF m 103 #[iv p0, iv p1, iv p2, iv p3, iv (p0 &&& (255 : Int32)), iv (p1 &&& (255 : Int32)), iv (p2 &&& (255 : Int32)), rv b44] [(.ref b44), (.ref b45), (.ref b45)])) rfl (by rw [hml]; rfl) (Steps.refl _) (a := b45) (argsL := [(.ref b44)]) (rest := [(.ref b45)]) (lenOf pd_4 rfl) rfl (by show 2 * 0 + _ ≤ _; exact Nat.le_of_eq rfl) (hb hby d1_103) (fun _ _ => ⟨rfl, e45, (by decide : 2 + 2 ≤ _), (by decide : 4 + 4 ≤ _)⟩)
    dsimp only [Pt.U, Pt.locs, Pt.cells, Pt.slots] at X46 l46 y46 z46 st46 hQ46
    subst l46 y46 z46
    replace X46 : Stand p l e ({ frames := 4, cells := 4, slots := 10, locals := 66 } : Room) (s.setVm T46.vm) m #[(.int p0), (.int p1), (.int p2), (.int p3)] below meth c T46 _ _ _ := X46
    obtain ⟨hZ, hown, SS⟩ := own_reb hZ hown SS S46 (Nat.le_trans SK (by rw [← e45]; exact G46))
    have SK : T46.heap.size ≤ T46.heap.size := Nat.le_refl _
    obtain ⟨rfl, N46q, K46, d46, F1_46, F2_46, A46⟩ := hQ46
    replace N0 := Fr.app N0 N46q
    refine gtW st46 ?_
    show GoW p e below s QQ 4 10 (T46.setTop (mkF m 106 #[iv p0, iv p1, iv p2, iv p3, iv (p0 &&& (255 : Int32)), iv (p1 &&& (255 : Int32)), iv (p2 &&& (255 : Int32)), rv b44] [(.ref b45)]))
    replace OLD := OLD.keep K46 (allS ge_b45 all0)
    replace V_b44 := V_b44.keep K46 (ninS ne_b44_b45 nin0)
    replace Ex_b45 := Ex_b45.keep K46
    replace ZZ := Nat.le_trans ZZ K46.1
    replace KK := KK.trans K46 (allS (Or.inr sz_b45) all0)
    exact goRW SS SK X46 hx Bd.notSynchronized Bd.returns rfl rfl (hb hby d1_106) (by rw [← hQQ]; exact ⟨_, _, 0, rfl, N0, sz_b45, KK, Ex_b45, F1_46, F2_46, A46, by rw [hq0]; rfl⟩) (by decide) (by decide)
  · skip
    refine gsW (fun t => XS.ifYes X0.here hx rfl (pc0 := 25) (pc' := 36) rfl (hb hby d1_25) rfl ((if0 _ _).trans (feq hq0).2) (by decide) (by decide)) ?_
    show GoW p e below s QQ 4 10 (s₁.setTop (mkF m 36 #[iv p0, iv p1, iv p2, iv p3, iv (p0 &&& (255 : Int32)), iv (p1 &&& (255 : Int32)), iv (p2 &&& (255 : Int32)), .unset] []))
    refine gsW (fun t => XS.iloadN X0.here hx rfl (hb hby d1_36) rfl) ?_
    show GoW p e below s QQ 4 10 (s₁.setTop (mkF m 37 #[iv p0, iv p1, iv p2, iv p3, iv (p0 &&& (255 : Int32)), iv (p1 &&& (255 : Int32)), iv (p2 &&& (255 : Int32)), .unset] [(.int p3)]))
    refine gsW (fun t => XS.iconst X0.here hx rfl (hb hby d1_37)) ?_
    show GoW p e below s QQ 4 10 (s₁.setTop (mkF m 38 #[iv p0, iv p1, iv p2, iv p3, iv (p0 &&& (255 : Int32)), iv (p1 &&& (255 : Int32)), iv (p2 &&& (255 : Int32)), .unset] [(.int (1 : Int32)), (.int p3)]))
    by_cases hq1 : p3 = (1 : Int32)
    · skip
      refine gsW (fun t => XS.icmpNo X0.here hx rfl (hb hby d1_38) rfl (teq hq1).2) ?_
      show GoW p e below s QQ 4 10 (s₁.setTop (mkF m 41 #[iv p0, iv p1, iv p2, iv p3, iv (p0 &&& (255 : Int32)), iv (p1 &&& (255 : Int32)), iv (p2 &&& (255 : Int32)), .unset] []))
      refine gsW (fun t => XS.iconst X0.here hx rfl (hb hby d1_41)) ?_
      show GoW p e below s QQ 4 10 (s₁.setTop (mkF m 42 #[iv p0, iv p1, iv p2, iv p3, iv (p0 &&& (255 : Int32)), iv (p1 &&& (255 : Int32)), iv (p2 &&& (255 : Int32)), .unset] [(.int (1 : Int32))]))
      obtain ⟨T47, h47, k47, X47, e47, E47, A47, st47⟩ := newP X0 hx hZ (hw _ (List.mem_of_getElem? (i := 4) rfl)) e0 (g := (mkF m 42 #[iv p0, iv p1, iv p2, iv p3, iv (p0 &&& (255 : Int32)), iv (p1 &&& (255 : Int32)), iv (p2 &&& (255 : Int32)), .unset] [(.int (1 : Int32))])) rfl (hb hby d1_42) rfl (by decide) (cap := 1) (by decide) (by decide) (by decide) (by decide)
      obtain ⟨b47, g47⟩ : ∃ z, z = h0.size := ⟨_, rfl⟩
      rw [← g47] at A47 st47
      have ge_b47 : n0 ≤ b47 := by rw [g47]; exact ZZ
      have sz_b47 : h0.size ≤ b47 := by rw [g47]; exact KK.1
      refine gsW st47 ?_
      show GoW p e below s QQ 4 10 (T47.setTop (mkF m 44 #[iv p0, iv p1, iv p2, iv p3, iv (p0 &&& (255 : Int32)), iv (p1 &&& (255 : Int32)), iv (p2 &&& (255 : Int32)), .unset] [(.ref b47)]))
      replace OLD := OLD.ext E47
      replace ZZ := Nat.le_trans ZZ E47.1
      replace SK := Nat.le_trans SK E47.1
      replace CH := CH.ext E47
      replace KK := KK.ext E47
      have V_b47 : Arf Z h47 b47 .char 1 (fun _ => .int 0) := Arf.new A47
      refine gsW (fun t => XS.dup X47.here hx rfl (hb hby d1_44) rfl rfl) ?_
      show GoW p e below s QQ 4 10 (T47.setTop (mkF m 45 #[iv p0, iv p1, iv p2, iv p3, iv (p0 &&& (255 : Int32)), iv (p1 &&& (255 : Int32)), iv (p2 &&& (255 : Int32)), .unset] [(.ref b47), (.ref b47)]))
      refine gsW (fun t => XS.iconst X47.here hx rfl (hb hby d1_45)) ?_
      show GoW p e below s QQ 4 10 (T47.setTop (mkF m 46 #[iv p0, iv p1, iv p2, iv p3, iv (p0 &&& (255 : Int32)), iv (p1 &&& (255 : Int32)), iv (p2 &&& (255 : Int32)), .unset] [(.int (0 : Int32)), (.ref b47), (.ref b47)]))
      refine gsW (fun t => XS.iload X47.here hx rfl (hb hby d1_46) rfl) ?_
      show GoW p e below s QQ 4 10 (T47.setTop (mkF m 48 #[iv p0, iv p1, iv p2, iv p3, iv (p0 &&& (255 : Int32)), iv (p1 &&& (255 : Int32)), iv (p2 &&& (255 : Int32)), .unset] [(.int (p0 &&& (255 : Int32))), (.int (0 : Int32)), (.ref b47), (.ref b47)]))
      obtain ⟨T48, h48, X48, e48, W48, V48, st48⟩ := stCf X47 hx hZ e47 V_b47 (j := (0 : Int32)) (by decide) (g := (mkF m 48 #[iv p0, iv p1, iv p2, iv p3, iv (p0 &&& (255 : Int32)), iv (p1 &&& (255 : Int32)), iv (p2 &&& (255 : Int32)), .unset] [(.int (p0 &&& (255 : Int32))), (.int (0 : Int32)), (.ref b47), (.ref b47)])) rfl rfl (hb hby d1_48)
      rw [(own_char p0)] at W48 V48
      replace N0 := Fr.snoc X48 N0 ge_b47
      refine gsW st48 ?_
      show GoW p e below s QQ 4 10 (T48.setTop (mkF m 49 #[iv p0, iv p1, iv p2, iv p3, iv (p0 &&& (255 : Int32)), iv (p1 &&& (255 : Int32)), iv (p2 &&& (255 : Int32)), .unset] [(.ref b47)]))
      replace OLD := OLD.wr W48 ge_b47
      replace ZZ : n0 ≤ h48.size := by rw [W48.size]; exact ZZ
      replace SK := Nat.le_trans SK (Nat.le_of_eq W48.size.symm)
      replace KK := KK.wr W48 (Or.inr sz_b47)
      replace V_b47 : Arf Z h48 b47 .char 1 (updv (fun _ => .int 0) 0 (.int (p0 &&& (255 : Int32)))) := V48
      replace V_b47 : Arf Z h48 b47 .char 1 (own_c (p0 &&& (255 : Int32)) (p1 &&& (255 : Int32)) (p2 &&& (255 : Int32))) := V_b47.congr (by intro i hi; have q : i = 0 := (by omega); rcases q with rfl <;> first | rfl | simp [updv, own_c])
      refine gsW (fun t => XS.astore X48.here hx rfl (hb hby d1_49) rfl rfl (l' := #[iv p0, iv p1, iv p2, iv p3, iv (p0 &&& (255 : Int32)), iv (p1 &&& (255 : Int32)), iv (p2 &&& (255 : Int32)), rv b47]) rfl) ?_
      show GoW p e below s QQ 4 10 (T48.setTop (mkF m 51 #[iv p0, iv p1, iv p2, iv p3, iv (p0 &&& (255 : Int32)), iv (p1 &&& (255 : Int32)), iv (p2 &&& (255 : Int32)), rv b47] []))
      refine gsW (fun t => XS.goto X48.here hx rfl (pc0 := 51) (pc' := 97) rfl (hb hby d1_51) (by decide) (by decide)) ?_
      show GoW p e below s QQ 4 10 (T48.setTop (mkF m 97 #[iv p0, iv p1, iv p2, iv p3, iv (p0 &&& (255 : Int32)), iv (p1 &&& (255 : Int32)), iv (p2 &&& (255 : Int32)), rv b47] []))
      obtain ⟨T49, h49, X49, e49, E49, A49, D49, -, st49⟩ := newO X48 hx hZ hown (hw _ (List.mem_of_getElem? (i := 5) rfl)) (hw _ (List.mem_of_getElem? (i := 6) rfl)) (hw _ (List.mem_of_getElem? (i := 7) rfl)) e48 (g := (mkF m 97 #[iv p0, iv p1, iv p2, iv p3, iv (p0 &&& (255 : Int32)), iv (p1 &&& (255 : Int32)), iv (p2 &&& (255 : Int32)), rv b47] [])) rfl (hb hby d1_97) (by decide) (by decide)
      obtain ⟨b49, g49⟩ : ∃ z, z = h48.size := ⟨_, rfl⟩
      rw [← g49] at A49 D49 st49
      have ge_b49 : n0 ≤ b49 := by rw [g49]; exact ZZ
      have sz_b49 : h0.size ≤ b49 := by rw [g49]; exact KK.1
      have ne_b47_b49 : b47 ≠ b49 := by rw [g49]; exact Nat.ne_of_lt V_b47.lt
      refine gsW st49 ?_
      show GoW p e below s QQ 4 10 (T49.setTop (mkF m 100 #[iv p0, iv p1, iv p2, iv p3, iv (p0 &&& (255 : Int32)), iv (p1 &&& (255 : Int32)), iv (p2 &&& (255 : Int32)), rv b47] [(.ref b49)]))
      replace OLD := OLD.ext E49
      replace V_b47 := V_b47.ext E49
      replace ZZ := Nat.le_trans ZZ E49.1
      replace SK := Nat.le_trans SK E49.1
      replace KK := KK.ext E49
      have Ex_b49 := A49
      have F_coder_b49 : Fld Z h49 b49 "java/lang/String" "coder" "B" (.int (0 : Int32)) := D49 (Or.inr (hw _ (List.mem_of_getElem? (i := 31) rfl))) (ty := .byte) (by decide)
      have F_value_b49 : Fld Z h49 b49 "java/lang/String" "value" "[B" .null := D49 (Or.inr (hw _ (List.mem_of_getElem? (i := 33) rfl))) (ty := (.array .byte)) (by decide)
      refine gsW (fun t => XS.dup X49.here hx rfl (hb hby d1_100) rfl rfl) ?_
      show GoW p e below s QQ 4 10 (T49.setTop (mkF m 101 #[iv p0, iv p1, iv p2, iv p3, iv (p0 &&& (255 : Int32)), iv (p1 &&& (255 : Int32)), iv (p2 &&& (255 : Int32)), rv b47] [(.ref b49), (.ref b49)]))
      refine gsW (fun t => XS.aload X49.here hx rfl (hb hby d1_101) rfl rfl) ?_
      show GoW p e below s QQ 4 10 (T49.setTop (mkF m 103 #[iv p0, iv p1, iv p2, iv p3, iv (p0 &&& (255 : Int32)), iv (p1 &&& (255 : Int32)), iv (p2 &&& (255 : Int32)), rv b47] [(.ref b47), (.ref b49), (.ref b49)]))
      obtain ⟨_, _, ⟨T50, L50, k50, n50⟩, -, X50, ⟨Lc50, hQ50, l50, y50, z50⟩, st50⟩ := X49.specialBack hx (y := (⟨"java/lang/String", "<init>", "([C)V"⟩ : MethodName)) rfl hown (mvT hZ (hw _ (List.mem_of_getElem? (i := 8) rfl))) (mvT hZ (hw _ (List.mem_of_getElem? (i := 9) rfl))) (mvT hZ (hw _ (List.mem_of_getElem? (i := 10) rfl))) (by decide) (backOf (W := 1) (rmT1 l Z a0 hw [] b49 b47 (p0 &&& (255 : Int32)) (p1 &&& (255 : Int32)) (p2 &&& (255 : Int32)) cs h49 n0 ZZ OLD CS hcs F_value_b49 F_coder_b49 Ex_b49 ge_b49 (Ne.symm ne_b47_b49) V_b47 (own_le p0) (own_le p1) (own_le p2)) hZ (hw _ (List.mem_of_getElem? (i := 10) rfl)) (hw _ (List.mem_of_getElem? (i := 7) rfl)) (by decide) (by decide)) (g := (mkF m 103 #[iv p0, iv p1, iv p2, iv p3, iv (p0 &&& (255 : Int32)), iv (p1 &&& (255 : Int32)), iv (p2 &&& (255 : Int32)), rv b47] [(.ref b47), (.ref b49), (.ref b49)])) rfl (by rw [hml]; rfl) (Steps.refl _) (a := b49) (argsL := [(.ref b47)]) (rest := [(.ref b49)]) (lenOf pd_4 rfl) rfl (by show 2 * 0 + _ ≤ _; exact Nat.le_of_eq rfl) (hb hby d1_103) (fun _ _ => ⟨rfl, e49, (by decide : 2 + 1 ≤ _), (by decide : 5 + 1 ≤ _)⟩)
      dsimp only [Pt.U, Pt.locs, Pt.cells, Pt.slots] at X50 l50 y50 z50 st50 hQ50
      subst l50 y50 z50
      obtain ⟨rfl, N50q, K50, d50, F1_50, F2_50, A50⟩ := hQ50
      replace N0 := Fr.app N0 N50q
      refine gtW st50 ?_
      show GoW p e below s QQ 4 10 (T50.setTop (mkF m 106 #[iv p0, iv p1, iv p2, iv p3, iv (p0 &&& (255 : Int32)), iv (p1 &&& (255 : Int32)), iv (p2 &&& (255 : Int32)), rv b47] [(.ref b49)]))
      replace OLD := OLD.keep K50 (allS ge_b49 all0)
      replace V_b47 := V_b47.keep K50 (ninS ne_b47_b49 nin0)
      replace Ex_b49 := Ex_b49.keep K50
      replace ZZ := Nat.le_trans ZZ K50.1
      replace SK := Nat.le_trans SK K50.1
      replace KK := KK.trans K50 (allS (Or.inr sz_b49) all0)
      exact goRW SS SK X50 hx Bd.notSynchronized Bd.returns rfl rfl (hb hby d1_106) (by rw [← hQQ]; exact ⟨_, _, 1, rfl, N0, sz_b49, KK, Ex_b49, F1_50, F2_50, A50, by rw [hq1]; rfl⟩) (by decide) (by decide)
    · skip
      refine gsW (fun t => XS.icmpYes X0.here hx rfl (pc0 := 38) (pc' := 54) rfl (hb hby d1_38) rfl (feq hq1).2 (by decide) (by decide)) ?_
      show GoW p e below s QQ 4 10 (s₁.setTop (mkF m 54 #[iv p0, iv p1, iv p2, iv p3, iv (p0 &&& (255 : Int32)), iv (p1 &&& (255 : Int32)), iv (p2 &&& (255 : Int32)), .unset] []))
      refine gsW (fun t => XS.iloadN X0.here hx rfl (hb hby d1_54) rfl) ?_
      show GoW p e below s QQ 4 10 (s₁.setTop (mkF m 55 #[iv p0, iv p1, iv p2, iv p3, iv (p0 &&& (255 : Int32)), iv (p1 &&& (255 : Int32)), iv (p2 &&& (255 : Int32)), .unset] [(.int p3)]))
      refine gsW (fun t => XS.iconst X0.here hx rfl (hb hby d1_55)) ?_
      show GoW p e below s QQ 4 10 (s₁.setTop (mkF m 56 #[iv p0, iv p1, iv p2, iv p3, iv (p0 &&& (255 : Int32)), iv (p1 &&& (255 : Int32)), iv (p2 &&& (255 : Int32)), .unset] [(.int (2 : Int32)), (.int p3)]))
      by_cases hq2 : p3 = (2 : Int32)
      · skip
        refine gsW (fun t => XS.icmpNo X0.here hx rfl (hb hby d1_56) rfl (teq hq2).2) ?_
        show GoW p e below s QQ 4 10 (s₁.setTop (mkF m 59 #[iv p0, iv p1, iv p2, iv p3, iv (p0 &&& (255 : Int32)), iv (p1 &&& (255 : Int32)), iv (p2 &&& (255 : Int32)), .unset] []))
        refine gsW (fun t => XS.iconst X0.here hx rfl (hb hby d1_59)) ?_
        show GoW p e below s QQ 4 10 (s₁.setTop (mkF m 60 #[iv p0, iv p1, iv p2, iv p3, iv (p0 &&& (255 : Int32)), iv (p1 &&& (255 : Int32)), iv (p2 &&& (255 : Int32)), .unset] [(.int (2 : Int32))]))
        obtain ⟨T51, h51, k51, X51, e51, E51, A51, st51⟩ := newP X0 hx hZ (hw _ (List.mem_of_getElem? (i := 4) rfl)) e0 (g := (mkF m 60 #[iv p0, iv p1, iv p2, iv p3, iv (p0 &&& (255 : Int32)), iv (p1 &&& (255 : Int32)), iv (p2 &&& (255 : Int32)), .unset] [(.int (2 : Int32))])) rfl (hb hby d1_60) rfl (by decide) (cap := 2) (by decide) (by decide) (by decide) (by decide)
        obtain ⟨b51, g51⟩ : ∃ z, z = h0.size := ⟨_, rfl⟩
        rw [← g51] at A51 st51
        have ge_b51 : n0 ≤ b51 := by rw [g51]; exact ZZ
        have sz_b51 : h0.size ≤ b51 := by rw [g51]; exact KK.1
        refine gsW st51 ?_
        show GoW p e below s QQ 4 10 (T51.setTop (mkF m 62 #[iv p0, iv p1, iv p2, iv p3, iv (p0 &&& (255 : Int32)), iv (p1 &&& (255 : Int32)), iv (p2 &&& (255 : Int32)), .unset] [(.ref b51)]))
        replace OLD := OLD.ext E51
        replace ZZ := Nat.le_trans ZZ E51.1
        replace SK := Nat.le_trans SK E51.1
        replace CH := CH.ext E51
        replace KK := KK.ext E51
        have V_b51 : Arf Z h51 b51 .char 2 (fun _ => .int 0) := Arf.new A51
        refine gsW (fun t => XS.dup X51.here hx rfl (hb hby d1_62) rfl rfl) ?_
        show GoW p e below s QQ 4 10 (T51.setTop (mkF m 63 #[iv p0, iv p1, iv p2, iv p3, iv (p0 &&& (255 : Int32)), iv (p1 &&& (255 : Int32)), iv (p2 &&& (255 : Int32)), .unset] [(.ref b51), (.ref b51)]))
        refine gsW (fun t => XS.iconst X51.here hx rfl (hb hby d1_63)) ?_
        show GoW p e below s QQ 4 10 (T51.setTop (mkF m 64 #[iv p0, iv p1, iv p2, iv p3, iv (p0 &&& (255 : Int32)), iv (p1 &&& (255 : Int32)), iv (p2 &&& (255 : Int32)), .unset] [(.int (0 : Int32)), (.ref b51), (.ref b51)]))
        refine gsW (fun t => XS.iload X51.here hx rfl (hb hby d1_64) rfl) ?_
        show GoW p e below s QQ 4 10 (T51.setTop (mkF m 66 #[iv p0, iv p1, iv p2, iv p3, iv (p0 &&& (255 : Int32)), iv (p1 &&& (255 : Int32)), iv (p2 &&& (255 : Int32)), .unset] [(.int (p0 &&& (255 : Int32))), (.int (0 : Int32)), (.ref b51), (.ref b51)]))
        obtain ⟨T52, h52, X52, e52, W52, V52, st52⟩ := stCf X51 hx hZ e51 V_b51 (j := (0 : Int32)) (by decide) (g := (mkF m 66 #[iv p0, iv p1, iv p2, iv p3, iv (p0 &&& (255 : Int32)), iv (p1 &&& (255 : Int32)), iv (p2 &&& (255 : Int32)), .unset] [(.int (p0 &&& (255 : Int32))), (.int (0 : Int32)), (.ref b51), (.ref b51)])) rfl rfl (hb hby d1_66)
        rw [(own_char p0)] at W52 V52
        replace N0 := Fr.snoc X52 N0 ge_b51
        refine gsW st52 ?_
        show GoW p e below s QQ 4 10 (T52.setTop (mkF m 67 #[iv p0, iv p1, iv p2, iv p3, iv (p0 &&& (255 : Int32)), iv (p1 &&& (255 : Int32)), iv (p2 &&& (255 : Int32)), .unset] [(.ref b51)]))
        replace OLD := OLD.wr W52 ge_b51
        replace ZZ : n0 ≤ h52.size := by rw [W52.size]; exact ZZ
        replace SK := Nat.le_trans SK (Nat.le_of_eq W52.size.symm)
        replace KK := KK.wr W52 (Or.inr sz_b51)
        replace V_b51 : Arf Z h52 b51 .char 2 (updv (fun _ => .int 0) 0 (.int (p0 &&& (255 : Int32)))) := V52
        refine gsW (fun t => XS.dup X52.here hx rfl (hb hby d1_67) rfl rfl) ?_
        show GoW p e below s QQ 4 10 (T52.setTop (mkF m 68 #[iv p0, iv p1, iv p2, iv p3, iv (p0 &&& (255 : Int32)), iv (p1 &&& (255 : Int32)), iv (p2 &&& (255 : Int32)), .unset] [(.ref b51), (.ref b51)]))
        refine gsW (fun t => XS.iconst X52.here hx rfl (hb hby d1_68)) ?_
        show GoW p e below s QQ 4 10 (T52.setTop (mkF m 69 #[iv p0, iv p1, iv p2, iv p3, iv (p0 &&& (255 : Int32)), iv (p1 &&& (255 : Int32)), iv (p2 &&& (255 : Int32)), .unset] [(.int (1 : Int32)), (.ref b51), (.ref b51)]))
        refine gsW (fun t => XS.iload X52.here hx rfl (hb hby d1_69) rfl) ?_
        show GoW p e below s QQ 4 10 (T52.setTop (mkF m 71 #[iv p0, iv p1, iv p2, iv p3, iv (p0 &&& (255 : Int32)), iv (p1 &&& (255 : Int32)), iv (p2 &&& (255 : Int32)), .unset] [(.int (p1 &&& (255 : Int32))), (.int (1 : Int32)), (.ref b51), (.ref b51)]))
        obtain ⟨T53, h53, X53, e53, W53, V53, st53⟩ := stCf X52 hx hZ e52 V_b51 (j := (1 : Int32)) (by decide) (g := (mkF m 71 #[iv p0, iv p1, iv p2, iv p3, iv (p0 &&& (255 : Int32)), iv (p1 &&& (255 : Int32)), iv (p2 &&& (255 : Int32)), .unset] [(.int (p1 &&& (255 : Int32))), (.int (1 : Int32)), (.ref b51), (.ref b51)])) rfl rfl (hb hby d1_71)
        rw [(own_char p1)] at W53 V53
        replace N0 := Fr.snoc X53 N0 ge_b51
        refine gsW st53 ?_
        show GoW p e below s QQ 4 10 (T53.setTop (mkF m 72 #[iv p0, iv p1, iv p2, iv p3, iv (p0 &&& (255 : Int32)), iv (p1 &&& (255 : Int32)), iv (p2 &&& (255 : Int32)), .unset] [(.ref b51)]))
        replace OLD := OLD.wr W53 ge_b51
        replace ZZ : n0 ≤ h53.size := by rw [W53.size]; exact ZZ
        replace SK := Nat.le_trans SK (Nat.le_of_eq W53.size.symm)
        replace KK := KK.wr W53 (Or.inr sz_b51)
        replace V_b51 : Arf Z h53 b51 .char 2 (updv (updv (fun _ => .int 0) 0 (.int (p0 &&& (255 : Int32)))) 1 (.int (p1 &&& (255 : Int32)))) := V53
        replace V_b51 : Arf Z h53 b51 .char 2 (own_c (p0 &&& (255 : Int32)) (p1 &&& (255 : Int32)) (p2 &&& (255 : Int32))) := V_b51.congr (by intro i hi; have q : i = 0 ∨ i = 1 := (by omega); rcases q with rfl | rfl <;> first | rfl | simp [updv, own_c])
        refine gsW (fun t => XS.astore X53.here hx rfl (hb hby d1_72) rfl rfl (l' := #[iv p0, iv p1, iv p2, iv p3, iv (p0 &&& (255 : Int32)), iv (p1 &&& (255 : Int32)), iv (p2 &&& (255 : Int32)), rv b51]) rfl) ?_
        show GoW p e below s QQ 4 10 (T53.setTop (mkF m 74 #[iv p0, iv p1, iv p2, iv p3, iv (p0 &&& (255 : Int32)), iv (p1 &&& (255 : Int32)), iv (p2 &&& (255 : Int32)), rv b51] []))
        refine gsW (fun t => XS.goto X53.here hx rfl (pc0 := 74) (pc' := 97) rfl (hb hby d1_74) (by decide) (by decide)) ?_
        show GoW p e below s QQ 4 10 (T53.setTop (mkF m 97 #[iv p0, iv p1, iv p2, iv p3, iv (p0 &&& (255 : Int32)), iv (p1 &&& (255 : Int32)), iv (p2 &&& (255 : Int32)), rv b51] []))
        obtain ⟨T54, h54, X54, e54, E54, A54, D54, -, st54⟩ := newO X53 hx hZ hown (hw _ (List.mem_of_getElem? (i := 5) rfl)) (hw _ (List.mem_of_getElem? (i := 6) rfl)) (hw _ (List.mem_of_getElem? (i := 7) rfl)) e53 (g := (mkF m 97 #[iv p0, iv p1, iv p2, iv p3, iv (p0 &&& (255 : Int32)), iv (p1 &&& (255 : Int32)), iv (p2 &&& (255 : Int32)), rv b51] [])) rfl (hb hby d1_97) (by decide) (by decide)
        obtain ⟨b54, g54⟩ : ∃ z, z = h53.size := ⟨_, rfl⟩
        rw [← g54] at A54 D54 st54
        have ge_b54 : n0 ≤ b54 := by rw [g54]; exact ZZ
        have sz_b54 : h0.size ≤ b54 := by rw [g54]; exact KK.1
        have ne_b51_b54 : b51 ≠ b54 := by rw [g54]; exact Nat.ne_of_lt V_b51.lt
        refine gsW st54 ?_
        show GoW p e below s QQ 4 10 (T54.setTop (mkF m 100 #[iv p0, iv p1, iv p2, iv p3, iv (p0 &&& (255 : Int32)), iv (p1 &&& (255 : Int32)), iv (p2 &&& (255 : Int32)), rv b51] [(.ref b54)]))
        replace OLD := OLD.ext E54
        replace V_b51 := V_b51.ext E54
        replace ZZ := Nat.le_trans ZZ E54.1
        replace SK := Nat.le_trans SK E54.1
        replace KK := KK.ext E54
        have Ex_b54 := A54
        have F_coder_b54 : Fld Z h54 b54 "java/lang/String" "coder" "B" (.int (0 : Int32)) := D54 (Or.inr (hw _ (List.mem_of_getElem? (i := 31) rfl))) (ty := .byte) (by decide)
        have F_value_b54 : Fld Z h54 b54 "java/lang/String" "value" "[B" .null := D54 (Or.inr (hw _ (List.mem_of_getElem? (i := 33) rfl))) (ty := (.array .byte)) (by decide)
        refine gsW (fun t => XS.dup X54.here hx rfl (hb hby d1_100) rfl rfl) ?_
        show GoW p e below s QQ 4 10 (T54.setTop (mkF m 101 #[iv p0, iv p1, iv p2, iv p3, iv (p0 &&& (255 : Int32)), iv (p1 &&& (255 : Int32)), iv (p2 &&& (255 : Int32)), rv b51] [(.ref b54), (.ref b54)]))
        refine gsW (fun t => XS.aload X54.here hx rfl (hb hby d1_101) rfl rfl) ?_
        show GoW p e below s QQ 4 10 (T54.setTop (mkF m 103 #[iv p0, iv p1, iv p2, iv p3, iv (p0 &&& (255 : Int32)), iv (p1 &&& (255 : Int32)), iv (p2 &&& (255 : Int32)), rv b51] [(.ref b51), (.ref b54), (.ref b54)]))
        obtain ⟨_, _, ⟨T55, L55, k55, n55⟩, -, X55, ⟨Lc55, hQ55, l55, y55, z55⟩, st55⟩ := X54.specialBack hx (y := (⟨"java/lang/String", "<init>", "([C)V"⟩ : MethodName)) rfl hown (mvT hZ (hw _ (List.mem_of_getElem? (i := 8) rfl))) (mvT hZ (hw _ (List.mem_of_getElem? (i := 9) rfl))) (mvT hZ (hw _ (List.mem_of_getElem? (i := 10) rfl))) (by decide) (backOf (W := 1) (rmT2 l Z a0 hw [] b54 b51 (p0 &&& (255 : Int32)) (p1 &&& (255 : Int32)) (p2 &&& (255 : Int32)) cs h54 n0 ZZ OLD CS hcs F_value_b54 F_coder_b54 Ex_b54 ge_b54 (Ne.symm ne_b51_b54) V_b51 (own_le p0) (own_le p1) (own_le p2)) hZ (hw _ (List.mem_of_getElem? (i := 10) rfl)) (hw _ (List.mem_of_getElem? (i := 7) rfl)) (by decide) (by decide)) (g := (mkF m 103 #[iv p0, iv p1, iv p2, iv p3, iv (p0 &&& (255 : Int32)), iv (p1 &&& (255 : Int32)), iv (p2 &&& (255 : Int32)), rv b51] [(.ref b51), (.ref b54), (.ref b54)])) rfl (by rw [hml]; rfl) (Steps.refl _) (a := b54) (argsL := [(.ref b51)]) (rest := [(.ref b54)]) (lenOf pd_4 rfl) rfl (by show 2 * 0 + _ ≤ _; exact Nat.le_of_eq rfl) (hb hby d1_103) (fun _ _ => ⟨rfl, e54, (by decide : 2 + 1 ≤ _), (by decide : 6 + 2 ≤ _)⟩)
        dsimp only [Pt.U, Pt.locs, Pt.cells, Pt.slots] at X55 l55 y55 z55 st55 hQ55
        subst l55 y55 z55
        obtain ⟨rfl, N55q, K55, d55, F1_55, F2_55, A55⟩ := hQ55
        replace N0 := Fr.app N0 N55q
        refine gtW st55 ?_
        show GoW p e below s QQ 4 10 (T55.setTop (mkF m 106 #[iv p0, iv p1, iv p2, iv p3, iv (p0 &&& (255 : Int32)), iv (p1 &&& (255 : Int32)), iv (p2 &&& (255 : Int32)), rv b51] [(.ref b54)]))
        replace OLD := OLD.keep K55 (allS ge_b54 all0)
        replace V_b51 := V_b51.keep K55 (ninS ne_b51_b54 nin0)
        replace Ex_b54 := Ex_b54.keep K55
        replace ZZ := Nat.le_trans ZZ K55.1
        replace SK := Nat.le_trans SK K55.1
        replace KK := KK.trans K55 (allS (Or.inr sz_b54) all0)
        exact goRW SS SK X55 hx Bd.notSynchronized Bd.returns rfl rfl (hb hby d1_106) (by rw [← hQQ]; exact ⟨_, _, 2, rfl, N0, sz_b54, KK, Ex_b54, F1_55, F2_55, A55, by rw [hq2]; rfl⟩) (by decide) (by decide)
      · skip
        refine gsW (fun t => XS.icmpYes X0.here hx rfl (pc0 := 56) (pc' := 77) rfl (hb hby d1_56) rfl (feq hq2).2 (by decide) (by decide)) ?_
        show GoW p e below s QQ 4 10 (s₁.setTop (mkF m 77 #[iv p0, iv p1, iv p2, iv p3, iv (p0 &&& (255 : Int32)), iv (p1 &&& (255 : Int32)), iv (p2 &&& (255 : Int32)), .unset] []))
        have h3 : p3 = (3 : Int32) := by rcases hp3 with q | q | q | q <;> first | exact absurd q hq0 | exact absurd q hq1 | exact absurd q hq2 | exact q
        refine gsW (fun t => XS.iconst X0.here hx rfl (hb hby d1_77)) ?_
        show GoW p e below s QQ 4 10 (s₁.setTop (mkF m 78 #[iv p0, iv p1, iv p2, iv p3, iv (p0 &&& (255 : Int32)), iv (p1 &&& (255 : Int32)), iv (p2 &&& (255 : Int32)), .unset] [(.int (3 : Int32))]))
        obtain ⟨T56, h56, k56, X56, e56, E56, A56, st56⟩ := newP X0 hx hZ (hw _ (List.mem_of_getElem? (i := 4) rfl)) e0 (g := (mkF m 78 #[iv p0, iv p1, iv p2, iv p3, iv (p0 &&& (255 : Int32)), iv (p1 &&& (255 : Int32)), iv (p2 &&& (255 : Int32)), .unset] [(.int (3 : Int32))])) rfl (hb hby d1_78) rfl (by decide) (cap := 3) (by decide) (by decide) (by decide) (by decide)
        obtain ⟨b56, g56⟩ : ∃ z, z = h0.size := ⟨_, rfl⟩
        rw [← g56] at A56 st56
        have ge_b56 : n0 ≤ b56 := by rw [g56]; exact ZZ
        have sz_b56 : h0.size ≤ b56 := by rw [g56]; exact KK.1
        refine gsW st56 ?_
        show GoW p e below s QQ 4 10 (T56.setTop (mkF m 80 #[iv p0, iv p1, iv p2, iv p3, iv (p0 &&& (255 : Int32)), iv (p1 &&& (255 : Int32)), iv (p2 &&& (255 : Int32)), .unset] [(.ref b56)]))
        replace OLD := OLD.ext E56
        replace ZZ := Nat.le_trans ZZ E56.1
        replace SK := Nat.le_trans SK E56.1
        replace CH := CH.ext E56
        replace KK := KK.ext E56
        have V_b56 : Arf Z h56 b56 .char 3 (fun _ => .int 0) := Arf.new A56
        refine gsW (fun t => XS.dup X56.here hx rfl (hb hby d1_80) rfl rfl) ?_
        show GoW p e below s QQ 4 10 (T56.setTop (mkF m 81 #[iv p0, iv p1, iv p2, iv p3, iv (p0 &&& (255 : Int32)), iv (p1 &&& (255 : Int32)), iv (p2 &&& (255 : Int32)), .unset] [(.ref b56), (.ref b56)]))
        refine gsW (fun t => XS.iconst X56.here hx rfl (hb hby d1_81)) ?_
        show GoW p e below s QQ 4 10 (T56.setTop (mkF m 82 #[iv p0, iv p1, iv p2, iv p3, iv (p0 &&& (255 : Int32)), iv (p1 &&& (255 : Int32)), iv (p2 &&& (255 : Int32)), .unset] [(.int (0 : Int32)), (.ref b56), (.ref b56)]))
        refine gsW (fun t => XS.iload X56.here hx rfl (hb hby d1_82) rfl) ?_
        show GoW p e below s QQ 4 10 (T56.setTop (mkF m 84 #[iv p0, iv p1, iv p2, iv p3, iv (p0 &&& (255 : Int32)), iv (p1 &&& (255 : Int32)), iv (p2 &&& (255 : Int32)), .unset] [(.int (p0 &&& (255 : Int32))), (.int (0 : Int32)), (.ref b56), (.ref b56)]))
        obtain ⟨T57, h57, X57, e57, W57, V57, st57⟩ := stCf X56 hx hZ e56 V_b56 (j := (0 : Int32)) (by decide) (g := (mkF m 84 #[iv p0, iv p1, iv p2, iv p3, iv (p0 &&& (255 : Int32)), iv (p1 &&& (255 : Int32)), iv (p2 &&& (255 : Int32)), .unset] [(.int (p0 &&& (255 : Int32))), (.int (0 : Int32)), (.ref b56), (.ref b56)])) rfl rfl (hb hby d1_84)
        rw [(own_char p0)] at W57 V57
        replace N0 := Fr.snoc X57 N0 ge_b56
        refine gsW st57 ?_
        show GoW p e below s QQ 4 10 (T57.setTop (mkF m 85 #[iv p0, iv p1, iv p2, iv p3, iv (p0 &&& (255 : Int32)), iv (p1 &&& (255 : Int32)), iv (p2 &&& (255 : Int32)), .unset] [(.ref b56)]))
        replace OLD := OLD.wr W57 ge_b56
        replace ZZ : n0 ≤ h57.size := by rw [W57.size]; exact ZZ
        replace SK := Nat.le_trans SK (Nat.le_of_eq W57.size.symm)
        replace KK := KK.wr W57 (Or.inr sz_b56)
        replace V_b56 : Arf Z h57 b56 .char 3 (updv (fun _ => .int 0) 0 (.int (p0 &&& (255 : Int32)))) := V57
        refine gsW (fun t => XS.dup X57.here hx rfl (hb hby d1_85) rfl rfl) ?_
        show GoW p e below s QQ 4 10 (T57.setTop (mkF m 86 #[iv p0, iv p1, iv p2, iv p3, iv (p0 &&& (255 : Int32)), iv (p1 &&& (255 : Int32)), iv (p2 &&& (255 : Int32)), .unset] [(.ref b56), (.ref b56)]))
        refine gsW (fun t => XS.iconst X57.here hx rfl (hb hby d1_86)) ?_
        show GoW p e below s QQ 4 10 (T57.setTop (mkF m 87 #[iv p0, iv p1, iv p2, iv p3, iv (p0 &&& (255 : Int32)), iv (p1 &&& (255 : Int32)), iv (p2 &&& (255 : Int32)), .unset] [(.int (1 : Int32)), (.ref b56), (.ref b56)]))
        refine gsW (fun t => XS.iload X57.here hx rfl (hb hby d1_87) rfl) ?_
        show GoW p e below s QQ 4 10 (T57.setTop (mkF m 89 #[iv p0, iv p1, iv p2, iv p3, iv (p0 &&& (255 : Int32)), iv (p1 &&& (255 : Int32)), iv (p2 &&& (255 : Int32)), .unset] [(.int (p1 &&& (255 : Int32))), (.int (1 : Int32)), (.ref b56), (.ref b56)]))
        obtain ⟨T58, h58, X58, e58, W58, V58, st58⟩ := stCf X57 hx hZ e57 V_b56 (j := (1 : Int32)) (by decide) (g := (mkF m 89 #[iv p0, iv p1, iv p2, iv p3, iv (p0 &&& (255 : Int32)), iv (p1 &&& (255 : Int32)), iv (p2 &&& (255 : Int32)), .unset] [(.int (p1 &&& (255 : Int32))), (.int (1 : Int32)), (.ref b56), (.ref b56)])) rfl rfl (hb hby d1_89)
        rw [(own_char p1)] at W58 V58
        replace N0 := Fr.snoc X58 N0 ge_b56
        refine gsW st58 ?_
        show GoW p e below s QQ 4 10 (T58.setTop (mkF m 90 #[iv p0, iv p1, iv p2, iv p3, iv (p0 &&& (255 : Int32)), iv (p1 &&& (255 : Int32)), iv (p2 &&& (255 : Int32)), .unset] [(.ref b56)]))
        replace OLD := OLD.wr W58 ge_b56
        replace ZZ : n0 ≤ h58.size := by rw [W58.size]; exact ZZ
        replace SK := Nat.le_trans SK (Nat.le_of_eq W58.size.symm)
        replace KK := KK.wr W58 (Or.inr sz_b56)
        replace V_b56 : Arf Z h58 b56 .char 3 (updv (updv (fun _ => .int 0) 0 (.int (p0 &&& (255 : Int32)))) 1 (.int (p1 &&& (255 : Int32)))) := V58
        refine gsW (fun t => XS.dup X58.here hx rfl (hb hby d1_90) rfl rfl) ?_
        show GoW p e below s QQ 4 10 (T58.setTop (mkF m 91 #[iv p0, iv p1, iv p2, iv p3, iv (p0 &&& (255 : Int32)), iv (p1 &&& (255 : Int32)), iv (p2 &&& (255 : Int32)), .unset] [(.ref b56), (.ref b56)]))
        refine gsW (fun t => XS.iconst X58.here hx rfl (hb hby d1_91)) ?_
        show GoW p e below s QQ 4 10 (T58.setTop (mkF m 92 #[iv p0, iv p1, iv p2, iv p3, iv (p0 &&& (255 : Int32)), iv (p1 &&& (255 : Int32)), iv (p2 &&& (255 : Int32)), .unset] [(.int (2 : Int32)), (.ref b56), (.ref b56)]))
        refine gsW (fun t => XS.iload X58.here hx rfl (hb hby d1_92) rfl) ?_
        show GoW p e below s QQ 4 10 (T58.setTop (mkF m 94 #[iv p0, iv p1, iv p2, iv p3, iv (p0 &&& (255 : Int32)), iv (p1 &&& (255 : Int32)), iv (p2 &&& (255 : Int32)), .unset] [(.int (p2 &&& (255 : Int32))), (.int (2 : Int32)), (.ref b56), (.ref b56)]))
        obtain ⟨T59, h59, X59, e59, W59, V59, st59⟩ := stCf X58 hx hZ e58 V_b56 (j := (2 : Int32)) (by decide) (g := (mkF m 94 #[iv p0, iv p1, iv p2, iv p3, iv (p0 &&& (255 : Int32)), iv (p1 &&& (255 : Int32)), iv (p2 &&& (255 : Int32)), .unset] [(.int (p2 &&& (255 : Int32))), (.int (2 : Int32)), (.ref b56), (.ref b56)])) rfl rfl (hb hby d1_94)
        rw [(own_char p2)] at W59 V59
        replace N0 := Fr.snoc X59 N0 ge_b56
        refine gsW st59 ?_
        show GoW p e below s QQ 4 10 (T59.setTop (mkF m 95 #[iv p0, iv p1, iv p2, iv p3, iv (p0 &&& (255 : Int32)), iv (p1 &&& (255 : Int32)), iv (p2 &&& (255 : Int32)), .unset] [(.ref b56)]))
        replace OLD := OLD.wr W59 ge_b56
        replace ZZ : n0 ≤ h59.size := by rw [W59.size]; exact ZZ
        replace SK := Nat.le_trans SK (Nat.le_of_eq W59.size.symm)
        replace KK := KK.wr W59 (Or.inr sz_b56)
        replace V_b56 : Arf Z h59 b56 .char 3 (updv (updv (updv (fun _ => .int 0) 0 (.int (p0 &&& (255 : Int32)))) 1 (.int (p1 &&& (255 : Int32)))) 2 (.int (p2 &&& (255 : Int32)))) := V59
        replace V_b56 : Arf Z h59 b56 .char 3 (own_c (p0 &&& (255 : Int32)) (p1 &&& (255 : Int32)) (p2 &&& (255 : Int32))) := V_b56.congr (by intro i hi; have q : i = 0 ∨ i = 1 ∨ i = 2 := (by omega); rcases q with rfl | rfl | rfl <;> first | rfl | simp [updv, own_c])
        refine gsW (fun t => XS.astore X59.here hx rfl (hb hby d1_95) rfl rfl (l' := #[iv p0, iv p1, iv p2, iv p3, iv (p0 &&& (255 : Int32)), iv (p1 &&& (255 : Int32)), iv (p2 &&& (255 : Int32)), rv b56]) rfl) ?_
        show GoW p e below s QQ 4 10 (T59.setTop (mkF m 97 #[iv p0, iv p1, iv p2, iv p3, iv (p0 &&& (255 : Int32)), iv (p1 &&& (255 : Int32)), iv (p2 &&& (255 : Int32)), rv b56] []))
        obtain ⟨T60, h60, X60, e60, E60, A60, D60, -, st60⟩ := newO X59 hx hZ hown (hw _ (List.mem_of_getElem? (i := 5) rfl)) (hw _ (List.mem_of_getElem? (i := 6) rfl)) (hw _ (List.mem_of_getElem? (i := 7) rfl)) e59 (g := (mkF m 97 #[iv p0, iv p1, iv p2, iv p3, iv (p0 &&& (255 : Int32)), iv (p1 &&& (255 : Int32)), iv (p2 &&& (255 : Int32)), rv b56] [])) rfl (hb hby d1_97) (by decide) (by decide)
        obtain ⟨b60, g60⟩ : ∃ z, z = h59.size := ⟨_, rfl⟩
        rw [← g60] at A60 D60 st60
        have ge_b60 : n0 ≤ b60 := by rw [g60]; exact ZZ
        have sz_b60 : h0.size ≤ b60 := by rw [g60]; exact KK.1
        have ne_b56_b60 : b56 ≠ b60 := by rw [g60]; exact Nat.ne_of_lt V_b56.lt
        refine gsW st60 ?_
        show GoW p e below s QQ 4 10 (T60.setTop (mkF m 100 #[iv p0, iv p1, iv p2, iv p3, iv (p0 &&& (255 : Int32)), iv (p1 &&& (255 : Int32)), iv (p2 &&& (255 : Int32)), rv b56] [(.ref b60)]))
        replace OLD := OLD.ext E60
        replace V_b56 := V_b56.ext E60
        replace ZZ := Nat.le_trans ZZ E60.1
        replace SK := Nat.le_trans SK E60.1
        replace KK := KK.ext E60
        have Ex_b60 := A60
        have F_coder_b60 : Fld Z h60 b60 "java/lang/String" "coder" "B" (.int (0 : Int32)) := D60 (Or.inr (hw _ (List.mem_of_getElem? (i := 31) rfl))) (ty := .byte) (by decide)
        have F_value_b60 : Fld Z h60 b60 "java/lang/String" "value" "[B" .null := D60 (Or.inr (hw _ (List.mem_of_getElem? (i := 33) rfl))) (ty := (.array .byte)) (by decide)
        refine gsW (fun t => XS.dup X60.here hx rfl (hb hby d1_100) rfl rfl) ?_
        show GoW p e below s QQ 4 10 (T60.setTop (mkF m 101 #[iv p0, iv p1, iv p2, iv p3, iv (p0 &&& (255 : Int32)), iv (p1 &&& (255 : Int32)), iv (p2 &&& (255 : Int32)), rv b56] [(.ref b60), (.ref b60)]))
        refine gsW (fun t => XS.aload X60.here hx rfl (hb hby d1_101) rfl rfl) ?_
        show GoW p e below s QQ 4 10 (T60.setTop (mkF m 103 #[iv p0, iv p1, iv p2, iv p3, iv (p0 &&& (255 : Int32)), iv (p1 &&& (255 : Int32)), iv (p2 &&& (255 : Int32)), rv b56] [(.ref b56), (.ref b60), (.ref b60)]))
        obtain ⟨_, _, ⟨T61, L61, k61, n61⟩, -, X61, ⟨Lc61, hQ61, l61, y61, z61⟩, st61⟩ := X60.specialBack hx (y := (⟨"java/lang/String", "<init>", "([C)V"⟩ : MethodName)) rfl hown (mvT hZ (hw _ (List.mem_of_getElem? (i := 8) rfl))) (mvT hZ (hw _ (List.mem_of_getElem? (i := 9) rfl))) (mvT hZ (hw _ (List.mem_of_getElem? (i := 10) rfl))) (by decide) (backOf (W := 1) (rmT3 l Z a0 hw [] b60 b56 (p0 &&& (255 : Int32)) (p1 &&& (255 : Int32)) (p2 &&& (255 : Int32)) cs h60 n0 ZZ OLD CS hcs F_value_b60 F_coder_b60 Ex_b60 ge_b60 (Ne.symm ne_b56_b60) V_b56 (own_le p0) (own_le p1) (own_le p2)) hZ (hw _ (List.mem_of_getElem? (i := 10) rfl)) (hw _ (List.mem_of_getElem? (i := 7) rfl)) (by decide) (by decide)) (g := (mkF m 103 #[iv p0, iv p1, iv p2, iv p3, iv (p0 &&& (255 : Int32)), iv (p1 &&& (255 : Int32)), iv (p2 &&& (255 : Int32)), rv b56] [(.ref b56), (.ref b60), (.ref b60)])) rfl (by rw [hml]; rfl) (Steps.refl _) (a := b60) (argsL := [(.ref b56)]) (rest := [(.ref b60)]) (lenOf pd_4 rfl) rfl (by show 2 * 0 + _ ≤ _; exact Nat.le_of_eq rfl) (hb hby d1_103) (fun _ _ => ⟨rfl, e60, (by decide : 2 + 1 ≤ _), (by decide : 7 + 3 ≤ _)⟩)
        dsimp only [Pt.U, Pt.locs, Pt.cells, Pt.slots] at X61 l61 y61 z61 st61 hQ61
        subst l61 y61 z61
        obtain ⟨rfl, N61q, K61, d61, F1_61, F2_61, A61⟩ := hQ61
        replace N0 := Fr.app N0 N61q
        refine gtW st61 ?_
        show GoW p e below s QQ 4 10 (T61.setTop (mkF m 106 #[iv p0, iv p1, iv p2, iv p3, iv (p0 &&& (255 : Int32)), iv (p1 &&& (255 : Int32)), iv (p2 &&& (255 : Int32)), rv b56] [(.ref b60)]))
        replace OLD := OLD.keep K61 (allS ge_b60 all0)
        replace V_b56 := V_b56.keep K61 (ninS ne_b56_b60 nin0)
        replace Ex_b60 := Ex_b60.keep K61
        replace ZZ := Nat.le_trans ZZ K61.1
        replace SK := Nat.le_trans SK K61.1
        replace KK := KK.trans K61 (allS (Or.inr sz_b60) all0)
        exact goRW SS SK X61 hx Bd.notSynchronized Bd.returns rfl rfl (hb hby d1_106) (by rw [← hQQ]; exact ⟨_, _, 3, rfl, N0, sz_b60, KK, Ex_b60, F1_61, F2_61, A61, by rw [h3]; rfl⟩) (by decide) (by decide)
theorem d10_0 : decode prog_14_method_1_code 0 = .ok (.aload_n 0, 1) := by decide +kernel
theorem d10_1 : decode prog_14_method_1_code 1 = .ok (.invokespecial 1, 3) := by decide +kernel
theorem d10_4 : decode prog_14_method_1_code 4 = .ok (.aload_n 0, 1) := by decide +kernel
theorem d10_5 : decode prog_14_method_1_code 5 = .ok (.aload_n 1, 1) := by decide +kernel
theorem d10_6 : decode prog_14_method_1_code 6 = .ok (.putfield 7, 3) := by decide +kernel
theorem d10_9 : decode prog_14_method_1_code 9 = .ok (.aload_n 0, 1) := by decide +kernel
theorem d10_10 : decode prog_14_method_1_code 10 = .ok (.aload_n 2, 1) := by decide +kernel
theorem d10_11 : decode prog_14_method_1_code 11 = .ok (.putfield 13, 3) := by decide +kernel
theorem d10_14 : decode prog_14_method_1_code 14 = .ok (.return_, 1) := by decide +kernel
theorem pn_10 : plainName "com/example/outboxd/outboxd/relay/Outcome" = true := by first | (simp [plainName, overriddenIn]; done) | decide +kernel
def QrmO (Z : State) (r0 : Addr) (r1 : Addr) (r2 : Addr) (h0 : Heap) (n0 : Nat) (v : Option Value) (h : Heap) (L : List Loc) : Prop := v = none ∧ Fr n0 L ∧ Keep h0 h [r0] ∧ Fld Z h r0 "com/example/outboxd/outboxd/relay/Outcome" "kind" "Lcom/example/outboxd/outboxd/relay/Outcome$Kind;" (.ref r1) ∧ Fld Z h r0 "com/example/outboxd/outboxd/relay/Outcome" "reason" "Ljava/lang/String;" (.ref r2)
set_option maxRecDepth 65536 in
set_option maxHeartbeats 40000000 in
theorem rmO (l : Launch) (Z : State) (a0 : Array Value) (hw : ∀ d ∈ tables_1, d.before a0 Z = true) (ws : List Jvm.Cond) (r0 : Addr) (r1 : Addr) (r2 : Addr) (h0 : Heap) (n0 : Nat) (Z0 : n0 ≤ h0.size) (F_kind_r0 : Fld Z h0 r0 "com/example/outboxd/outboxd/relay/Outcome" "kind" "Lcom/example/outboxd/outboxd/relay/Outcome$Kind;" .null) (F_reason_r0 : Fld Z h0 r0 "com/example/outboxd/outboxd/relay/Outcome" "reason" "Ljava/lang/String;" .null) (E_r0 : Exa Z h0 r0 "com/example/outboxd/outboxd/relay/Outcome") (ge_r0 : n0 ≤ r0) :
    MetFree l (⟨"com/example/outboxd/outboxd/relay/Outcome", "<init>", "(Lcom/example/outboxd/outboxd/relay/Outcome$Kind;Ljava/lang/String;)V"⟩ : MethodName) (head1 (Jvm.Cond.code (⟨"com/example/outboxd/outboxd/relay/Outcome", "<init>", "(Lcom/example/outboxd/outboxd/relay/Outcome$Kind;Ljava/lang/String;)V"⟩ : MethodName) prog_14_method_1_code 3 none :: ws) ({ frames := 1, cells := 0, slots := 0, locals := 12 } : Room)) (fun a U => a = #[(.ref r0), (.ref r1), (.ref r2)] ∧ Z.Warmed39 U.vm ∧ U.heap = h0) (fun _ _ _ _ _ => True) (fun _ U o U' => ∃ v L, o = .returned v ∧ QrmO Z r0 r1 r2 h0 n0 v U'.heap L ∧ FrameEnd U o U' L ({ frames := 1, cells := 0, slots := 0, locals := 12 } : Room).cells ({ frames := 1, cells := 0, slots := 0, locals := 12 } : Room).slots) := by
  refine MetFree.of_bodySF (plainFor_of_name pn_10) hisR ?_
  intro p e s m args below meth c s₁ Bd hml0 hP hK
  obtain ⟨rfl, hZ, hh⟩ := hP
  have hx := Bd.exec
  have hby := Bd.bytes
  have hml : c.maxLocals = 3 := hml0
  have hown : s.vm.findClass "com/example/outboxd/outboxd/relay/Outcome" = some m.cls := findClass_of_methodNamed Bd.named
  have hnm := (name_of_methodNamed Bd.named Bd.method).1
  have X0 : Stand p l e ({ frames := 1, cells := 0, slots := 0, locals := 12 } : Room) s m #[(.ref r0), (.ref r1), (.ref r2)] below meth c s₁ [] 0 0 := Stand.of_body Bd
  have e0 : s₁.heap = h0 := by rw [← hh, Bd.state]; rfl
  have N0 := Fr.nil n0
  have ZZ := Z0
  have KK : Keep h0 h0 [r0] := Keep.refl h0 _
  show Go p e below s (QrmO Z r0 r1 r2 h0 n0) 0 0 (s₁.setTop (entryFrame m #[(.ref r0), (.ref r1), (.ref r2)] 3))
  generalize hQQ : (QrmO Z r0 r1 r2 h0 n0) = QQ
  refine gs (fun t k => castTop (g' := (mkF m 0 #[rv r0, rv r1, rv r2] [])) (by first | (simp [entryFrame, mkF, argsToLocals, Value.category, maxLocals]; done) | rfl) k) ?_
  show Go p e below s QQ 0 0 (s₁.setTop (mkF m 0 #[rv r0, rv r1, rv r2] []))
  refine gs (fun t => XS.aloadN X0.here hx rfl (hb hby d10_0) rfl rfl) ?_
  show Go p e below s QQ 0 0 (s₁.setTop (mkF m 1 #[rv r0, rv r1, rv r2] [(.ref r0)]))
  obtain ⟨T62, X62, e62, st62⟩ := initO X0 hx hZ hown (hw _ (List.mem_of_getElem? (i := 54) rfl)) (hw _ (List.mem_of_getElem? (i := 16) rfl)) (hw _ (List.mem_of_getElem? (i := 17) rfl)) e0 (g := (mkF m 1 #[rv r0, rv r1, rv r2] [(.ref r0)])) rfl (by rw [hml]; rfl) rfl (hb hby d10_1) (by decide) (W := 0) (by show 2 * 0 + _ ≤ _; exact Nat.le_of_eq rfl) (by decide)
  refine gs st62 ?_
  show Go p e below s QQ 0 0 (T62.setTop (mkF m 4 #[rv r0, rv r1, rv r2] []))
  refine gs (fun t => XS.aloadN X62.here hx rfl (hb hby d10_4) rfl rfl) ?_
  show Go p e below s QQ 0 0 (T62.setTop (mkF m 5 #[rv r0, rv r1, rv r2] [(.ref r0)]))
  refine gs (fun t => XS.aloadN X62.here hx rfl (hb hby d10_5) rfl rfl) ?_
  show Go p e below s QQ 0 0 (T62.setTop (mkF m 6 #[rv r0, rv r1, rv r2] [(.ref r1), (.ref r0)]))
  obtain ⟨T63, h63, X63, e63, W63, st63⟩ := putF X62 hx hZ hown (host := "") (Or.inl (hw _ (List.mem_of_getElem? (i := 55) rfl))) Via.refl e62 F_kind_r0 E_r0 (Or.inr ⟨(hw _ (List.mem_of_getElem? (i := 56) rfl)), rfl, hnm⟩) (hw _ (List.mem_of_getElem? (i := 39) rfl)) (ty := (.object "com/example/outboxd/outboxd/relay/Outcome$Kind")) (by decide) rfl rfl (g := (mkF m 6 #[rv r0, rv r1, rv r2] [(.ref r1), (.ref r0)])) rfl rfl (hb hby d10_6)
  replace N0 := Fr.snoc X63 N0 ge_r0
  refine gs st63 ?_
  show Go p e below s QQ 0 0 (T63.setTop (mkF m 9 #[rv r0, rv r1, rv r2] []))
  replace F_kind_r0 := F_kind_r0.same W63
  replace F_reason_r0 := F_reason_r0.other W63 (Or.inr (slot_ne (Or.inr (hw _ (List.mem_of_getElem? (i := 58) rfl))) (Or.inr (hw _ (List.mem_of_getElem? (i := 56) rfl))) (by decide) (t := (.object "java/lang/String")) (t' := (.object "com/example/outboxd/outboxd/relay/Outcome$Kind")) (by decide) (by decide)))
  replace E_r0 := E_r0.wr W63
  replace ZZ : n0 ≤ h63.size := by rw [W63.size]; exact ZZ
  replace KK := KK.wr W63 (Or.inl (by simp))
  refine gs (fun t => XS.aloadN X63.here hx rfl (hb hby d10_9) rfl rfl) ?_
  show Go p e below s QQ 0 0 (T63.setTop (mkF m 10 #[rv r0, rv r1, rv r2] [(.ref r0)]))
  refine gs (fun t => XS.aloadN X63.here hx rfl (hb hby d10_10) rfl rfl) ?_
  show Go p e below s QQ 0 0 (T63.setTop (mkF m 11 #[rv r0, rv r1, rv r2] [(.ref r2), (.ref r0)]))
  obtain ⟨T64, h64, X64, e64, W64, st64⟩ := putF X63 hx hZ hown (host := "") (Or.inl (hw _ (List.mem_of_getElem? (i := 57) rfl))) Via.refl e63 F_reason_r0 E_r0 (Or.inr ⟨(hw _ (List.mem_of_getElem? (i := 58) rfl)), rfl, hnm⟩) (hw _ (List.mem_of_getElem? (i := 39) rfl)) (ty := (.object "java/lang/String")) (by decide) rfl rfl (g := (mkF m 11 #[rv r0, rv r1, rv r2] [(.ref r2), (.ref r0)])) rfl rfl (hb hby d10_11)
  replace N0 := Fr.snoc X64 N0 ge_r0
  refine gs st64 ?_
  show Go p e below s QQ 0 0 (T64.setTop (mkF m 14 #[rv r0, rv r1, rv r2] []))
  replace F_kind_r0 := F_kind_r0.other W64 (Or.inr (slot_ne (Or.inr (hw _ (List.mem_of_getElem? (i := 56) rfl))) (Or.inr (hw _ (List.mem_of_getElem? (i := 58) rfl))) (by decide) (t := (.object "com/example/outboxd/outboxd/relay/Outcome$Kind")) (t' := (.object "java/lang/String")) (by decide) (by decide)))
  replace F_reason_r0 := F_reason_r0.same W64
  replace E_r0 := E_r0.wr W64
  replace ZZ : n0 ≤ h64.size := by rw [W64.size]; exact ZZ
  replace KK := KK.wr W64 (Or.inl (by simp))
  exact goV X64 hx Bd.notSynchronized Bd.returns (hb hby d10_14) (by rw [← hQQ, e64]; exact ⟨rfl, N0, KK, F_kind_r0, F_reason_r0⟩) (by decide) (by decide)
theorem d9_0 : decode jdk_31_method_11_code 0 = .ok (.aload_n 0, 1) := by decide +kernel
theorem d9_1 : decode jdk_31_method_11_code 1 = .ok (.ifnonnull 12, 3) := by decide +kernel
theorem d9_4 : decode jdk_31_method_11_code 4 = .ok (.new 84, 3) := by decide +kernel
theorem d9_7 : decode jdk_31_method_11_code 7 = .ok (.dup, 1) := by decide +kernel
theorem d9_8 : decode jdk_31_method_11_code 8 = .ok (.aload_n 1, 1) := by decide +kernel
theorem d9_9 : decode jdk_31_method_11_code 9 = .ok (.invokespecial 87, 3) := by decide +kernel
theorem d9_12 : decode jdk_31_method_11_code 12 = .ok (.athrow, 1) := by decide +kernel
theorem d9_13 : decode jdk_31_method_11_code 13 = .ok (.aload_n 0, 1) := by decide +kernel
theorem d9_14 : decode jdk_31_method_11_code 14 = .ok (.areturn, 1) := by decide +kernel
theorem pn_9 : plainName "java/util/Objects" = true := by first | (simp [plainName, overriddenIn]; done) | decide +kernel
def QrmN (Z : State) (r0 : Addr) (r1 : Addr) (h0 : Heap) (n0 : Nat) (v : Option Value) (h : Heap) (L : List Loc) : Prop := v = some (.ref r0) ∧ Fr n0 L ∧ h = h0
set_option maxRecDepth 65536 in
set_option maxHeartbeats 40000000 in
theorem rmN (l : Launch) (Z : State) (a0 : Array Value) (hw : ∀ d ∈ tables_1, d.before a0 Z = true) (ws : List Jvm.Cond) (r0 : Addr) (r1 : Addr) (h0 : Heap) (n0 : Nat) (Z0 : n0 ≤ h0.size) :
    MetFree l (⟨"java/util/Objects", "requireNonNull", "(Ljava/lang/Object;Ljava/lang/String;)Ljava/lang/Object;"⟩ : MethodName) (head1 (Jvm.Cond.code (⟨"java/util/Objects", "requireNonNull", "(Ljava/lang/Object;Ljava/lang/String;)Ljava/lang/Object;"⟩ : MethodName) jdk_31_method_11_code 2 (some (.object "java/lang/Object")) :: ws) ({ frames := 0, cells := 0, slots := 0, locals := 0 } : Room)) (fun a U => a = #[(.ref r0), (.ref r1)] ∧ Z.Warmed39 U.vm ∧ U.heap = h0) (fun _ _ _ _ _ => True) (fun _ U o U' => ∃ v L, o = .returned v ∧ QrmN Z r0 r1 h0 n0 v U'.heap L ∧ FrameEnd U o U' L ({ frames := 0, cells := 0, slots := 0, locals := 0 } : Room).cells ({ frames := 0, cells := 0, slots := 0, locals := 0 } : Room).slots) := by
  refine MetFree.of_bodySF (plainFor_of_name pn_9) hisR ?_
  intro p e s m args below meth c s₁ Bd hml0 hP hK
  obtain ⟨rfl, hZ, hh⟩ := hP
  have hx := Bd.exec
  have hby := Bd.bytes
  have hml : c.maxLocals = 2 := hml0
  have hown : s.vm.findClass "java/util/Objects" = some m.cls := findClass_of_methodNamed Bd.named
  have hnm := (name_of_methodNamed Bd.named Bd.method).1
  have X0 : Stand p l e ({ frames := 0, cells := 0, slots := 0, locals := 0 } : Room) s m #[(.ref r0), (.ref r1)] below meth c s₁ [] 0 0 := Stand.of_body Bd
  have e0 : s₁.heap = h0 := by rw [← hh, Bd.state]; rfl
  have N0 := Fr.nil n0
  have ZZ := Z0
  show Go p e below s (QrmN Z r0 r1 h0 n0) 0 0 (s₁.setTop (entryFrame m #[(.ref r0), (.ref r1)] 2))
  generalize hQQ : (QrmN Z r0 r1 h0 n0) = QQ
  refine gs (fun t k => castTop (g' := (mkF m 0 #[rv r0, rv r1] [])) (by first | (simp [entryFrame, mkF, argsToLocals, Value.category, maxLocals]; done) | rfl) k) ?_
  show Go p e below s QQ 0 0 (s₁.setTop (mkF m 0 #[rv r0, rv r1] []))
  refine gs (fun t => XS.aloadN X0.here hx rfl (hb hby d9_0) rfl rfl) ?_
  show Go p e below s QQ 0 0 (s₁.setTop (mkF m 1 #[rv r0, rv r1] [(.ref r0)]))
  refine gs (fun t => XS.ifnonnullYes X0.here hx rfl (pc0 := 1) (pc' := 13) rfl (hb hby d9_1) rfl (by decide) (by decide)) ?_
  show Go p e below s QQ 0 0 (s₁.setTop (mkF m 13 #[rv r0, rv r1] []))
  refine gs (fun t => XS.aloadN X0.here hx rfl (hb hby d9_13) rfl rfl) ?_
  show Go p e below s QQ 0 0 (s₁.setTop (mkF m 14 #[rv r0, rv r1] [(.ref r0)]))
  exact goR X0 hx Bd.notSynchronized Bd.returns rfl rfl (hb hby d9_14) (by rw [← hQQ, e0]; exact ⟨rfl, N0, rfl⟩) (by decide) (by decide)
theorem d8_0 : decode prog_14_method_4_code 0 = .ok (.new 8, 3) := by decide +kernel
theorem d8_3 : decode prog_14_method_4_code 3 = .ok (.dup, 1) := by decide +kernel
theorem d8_4 : decode prog_14_method_4_code 4 = .ok (.getstatic 38, 3) := by decide +kernel
theorem d8_7 : decode prog_14_method_4_code 7 = .ok (.aload_n 0, 1) := by decide +kernel
theorem d8_8 : decode prog_14_method_4_code 8 = .ok (.ldc 26, 2) := by decide +kernel
theorem d8_10 : decode prog_14_method_4_code 10 = .ok (.invokestatic 27, 3) := by decide +kernel
theorem d8_13 : decode prog_14_method_4_code 13 = .ok (.checkcast 33, 3) := by decide +kernel
theorem d8_16 : decode prog_14_method_4_code 16 = .ok (.invokespecial 35, 3) := by decide +kernel
theorem d8_19 : decode prog_14_method_4_code 19 = .ok (.areturn, 1) := by decide +kernel
theorem pn_8 : plainName "com/example/outboxd/outboxd/relay/Outcome" = true := by first | (simp [plainName, overriddenIn]; done) | decide +kernel
def QrmU (Z : State) (r0 : Addr) (xk : Addr) (h0 : Heap) (n0 : Nat) (v : Option Value) (h : Heap) (L : List Loc) : Prop := ∃ b : Addr, v = some (.ref b) ∧ Fr n0 L ∧ h0.size ≤ b ∧ Keep h0 h [] ∧ Exa Z h b "com/example/outboxd/outboxd/relay/Outcome" ∧ Fld Z h b "com/example/outboxd/outboxd/relay/Outcome" "kind" "Lcom/example/outboxd/outboxd/relay/Outcome$Kind;" (.ref xk) ∧ Fld Z h b "com/example/outboxd/outboxd/relay/Outcome" "reason" "Ljava/lang/String;" (.ref r0)
set_option maxRecDepth 65536 in
set_option maxHeartbeats 40000000 in
theorem rmU (l : Launch) (Z : State) (a0 : Array Value) (hw : ∀ d ∈ tables_1, d.before a0 Z = true) (ws : List Jvm.Cond) (r0 : Addr) (xk : Addr) (h0 : Heap) (n0 : Nat) (Z0 : n0 ≤ h0.size) (OLD : Old Z n0 h0) (S_k : Sta Z Z.heap "com/example/outboxd/outboxd/relay/Outcome$Kind" "UNCONFIRMED" "Lcom/example/outboxd/outboxd/relay/Outcome$Kind;" (.ref xk)) (E_r0 : Exa Z h0 r0 "java/lang/String") :
    MetFree l (⟨"com/example/outboxd/outboxd/relay/Outcome", "unconfirmed", "(Ljava/lang/String;)Lcom/example/outboxd/outboxd/relay/Outcome;"⟩ : MethodName) (head1 (Jvm.Cond.code (⟨"com/example/outboxd/outboxd/relay/Outcome", "unconfirmed", "(Ljava/lang/String;)Lcom/example/outboxd/outboxd/relay/Outcome;"⟩ : MethodName) prog_14_method_4_code 1 (some (.object "com/example/outboxd/outboxd/relay/Outcome")) :: ws) ({ frames := 2, cells := 3, slots := 30, locals := 27 } : Room)) (fun a U => a = #[(.ref r0)] ∧ Z.Warmed39 U.vm ∧ U.heap = h0 ∧ CHv Z [] U.vm h0) (fun _ _ _ _ _ => True) (fun _ U o U' => ∃ v L, o = .returned v ∧ QrmU Z r0 xk h0 n0 v U'.heap L ∧ ReturnedEndW U o U' L ({ frames := 2, cells := 3, slots := 30, locals := 27 } : Room).cells ({ frames := 2, cells := 3, slots := 30, locals := 27 } : Room).slots) := by
  refine MetFree.of_bodySF (plainFor_of_name pn_8) hisR ?_
  intro p e s m args below meth c s₁ Bd hml0 hP hK
  obtain ⟨rfl, hZ, hh, CH⟩ := hP
  have hx := Bd.exec
  have hby := Bd.bytes
  have hml : c.maxLocals = 1 := hml0
  have hown : s.vm.findClass "com/example/outboxd/outboxd/relay/Outcome" = some m.cls := findClass_of_methodNamed Bd.named
  have hnm := (name_of_methodNamed Bd.named Bd.method).1
  have X0 : Stand p l e ({ frames := 2, cells := 3, slots := 30, locals := 27 } : Room) s m #[(.ref r0)] below meth c s₁ [] 0 0 := Stand.of_body Bd
  have e0 : s₁.heap = h0 := by rw [← hh, Bd.state]; rfl
  have N0 := Fr.nil n0
  have ZZ := Z0
  obtain ⟨v0, hv0⟩ : ∃ z, z = s.vm := ⟨_, rfl⟩
  have SS : s.Since v0 h0.size := by rw [hv0]; exact (State.WarmedH.refl s).since _
  have SK : h0.size ≤ h0.size := Nat.le_refl _
  replace X0 : Stand p l e ({ frames := 2, cells := 3, slots := 30, locals := 27 } : Room) (s.setVm v0) m #[(.ref r0)] below meth c s₁ [] 0 0 := by rw [hv0]; exact X0
  replace hZ : Z.Warmed39 (s.setVm v0).vm := by rw [hv0]; exact hZ
  replace hown : (s.setVm v0).vm.findClass "com/example/outboxd/outboxd/relay/Outcome" = some m.cls := by rw [hv0]; exact hown
  replace CH : CHv Z [] v0 h0 := by rw [hv0]; exact CH
  have KK : Keep h0 h0 [] := Keep.refl h0 _
  show GoW p e below s (QrmU Z r0 xk h0 n0) 3 30 (s₁.setTop (entryFrame m #[(.ref r0)] 1))
  generalize hQQ : (QrmU Z r0 xk h0 n0) = QQ
  refine gsW (fun t k => castTop (g' := (mkF m 0 #[rv r0] [])) (by first | (simp [entryFrame, mkF, argsToLocals, Value.category, maxLocals]; done) | rfl) k) ?_
  show GoW p e below s QQ 3 30 (s₁.setTop (mkF m 0 #[rv r0] []))
  obtain ⟨T65, h65, X65, e65, E65, A65, D65, -, st65⟩ := newO X0 hx hZ hown (hw _ (List.mem_of_getElem? (i := 38) rfl)) (hw _ (List.mem_of_getElem? (i := 39) rfl)) (hw _ (List.mem_of_getElem? (i := 36) rfl)) e0 (g := (mkF m 0 #[rv r0] [])) rfl (hb hby d8_0) (by decide) (by decide)
  obtain ⟨b65, g65⟩ : ∃ z, z = h0.size := ⟨_, rfl⟩
  rw [← g65] at A65 D65 st65
  have ge_b65 : n0 ≤ b65 := by rw [g65]; exact ZZ
  have sz_b65 : h0.size ≤ b65 := by rw [g65]; exact KK.1
  have ne_r0_b65 : r0 ≠ b65 := by rw [g65]; exact Nat.ne_of_lt E_r0.lt
  refine gsW st65 ?_
  show GoW p e below s QQ 3 30 (T65.setTop (mkF m 3 #[rv r0] [(.ref b65)]))
  replace E_r0 := E_r0.ext E65
  replace OLD := OLD.ext E65
  replace ZZ := Nat.le_trans ZZ E65.1
  replace SK := Nat.le_trans SK E65.1
  replace KK := KK.ext E65
  have Ex_b65 := A65
  have F_kind_b65 : Fld Z h65 b65 "com/example/outboxd/outboxd/relay/Outcome" "kind" "Lcom/example/outboxd/outboxd/relay/Outcome$Kind;" .null := D65 (Or.inr (hw _ (List.mem_of_getElem? (i := 56) rfl))) (ty := (.object "com/example/outboxd/outboxd/relay/Outcome$Kind")) (by decide)
  have F_reason_b65 : Fld Z h65 b65 "com/example/outboxd/outboxd/relay/Outcome" "reason" "Ljava/lang/String;" .null := D65 (Or.inr (hw _ (List.mem_of_getElem? (i := 58) rfl))) (ty := (.object "java/lang/String")) (by decide)
  refine gsW (fun t => XS.dup X65.here hx rfl (hb hby d8_3) rfl rfl) ?_
  show GoW p e below s QQ 3 30 (T65.setTop (mkF m 4 #[rv r0] [(.ref b65), (.ref b65)]))
  obtain ⟨T66, X66, e66, st66⟩ := getS2 X65 hx hZ hown (host := "") (Or.inl (hw _ (List.mem_of_getElem? (i := 40) rfl))) Via.refl e65 (S_k.ext OLD.2) (g := (mkF m 4 #[rv r0] [(.ref b65), (.ref b65)])) rfl (hb hby d8_4)
  refine gsW st66 ?_
  show GoW p e below s QQ 3 30 (T66.setTop (mkF m 7 #[rv r0] [(.ref xk), (.ref b65), (.ref b65)]))
  refine gsW (fun t => XS.aloadN X66.here hx rfl (hb hby d8_7) rfl rfl) ?_
  show GoW p e below s QQ 3 30 (T66.setTop (mkF m 8 #[rv r0] [(.ref r0), (.ref xk), (.ref b65), (.ref b65)]))
  obtain ⟨b67, T67, h67, k67, X67, e67, E67, S67, SK67, hZ67, hown67, -, L67, st67⟩ := ldcOH (EL := []) X66 hx hZ hown (hw _ (List.mem_of_getElem? (i := 43) rfl)) (own_wS hw) e66 SS SK EW.nil own_chNil (g := (mkF m 8 #[rv r0] [(.ref r0), (.ref xk), (.ref b65), (.ref b65)])) rfl (hb hby d8_8) (n := 24) (by decide) (by decide) (by decide) (by decide)
  replace hZ := hZ67
  replace hown := hown67
  refine gsW st67 ?_
  show GoW p e below s QQ 3 30 (T67.setTop (mkF m 10 #[rv r0] [(.ref b67), (.ref r0), (.ref xk), (.ref b65), (.ref b65)]))
  replace E_r0 := E_r0.ext E67
  replace OLD := OLD.ext E67
  replace Ex_b65 := Ex_b65.ext E67
  replace F_kind_b65 := F_kind_b65.ext E67
  replace F_reason_b65 := F_reason_b65.ext E67
  replace ZZ := Nat.le_trans ZZ E67.1
  replace SK := Nat.le_trans SK E67.1
  replace KK := KK.ext E67
  replace SS := S67
  replace SK := SK67
  obtain ⟨_, _, ⟨T68, L68, k68, n68⟩, -, X68, ⟨Lc68, hQ68, l68, y68, z68⟩, st68⟩ := Jvm.LawKit.callS X67 hx (y := (⟨"java/util/Objects", "requireNonNull", "(Ljava/lang/Object;Ljava/lang/String;)Ljava/lang/Object;"⟩ : MethodName)) hown (mvT hZ (hw _ (List.mem_of_getElem? (i := 46) rfl))) (mvT hZ (hw _ (List.mem_of_getElem? (i := 47) rfl))) (mvT hZ (hw _ (List.mem_of_getElem? (i := 48) rfl))) (mvT hZ (hw _ (List.mem_of_getElem? (i := 49) rfl))) (by decide) (backOf (W := 3) (rmN l Z a0 hw [] r0 b67 h67 n0 ZZ ) hZ (hw _ (List.mem_of_getElem? (i := 49) rfl)) (hw _ (List.mem_of_getElem? (i := 48) rfl)) (by decide) (by decide)) (g := (mkF m 10 #[rv r0] [(.ref b67), (.ref r0), (.ref xk), (.ref b65), (.ref b65)])) rfl (by rw [hml]; rfl) (argsL := [(.ref r0), (.ref b67)]) (rest := [(.ref xk), (.ref b65), (.ref b65)]) (lenOf pd_5 rfl) rfl (by show 2 * 0 + _ ≤ _; exact Nat.le_of_eq rfl) (hb hby d8_10) (fun _ _ => ⟨rfl, e67, (by decide : 3 + 0 ≤ _), (by decide : 30 + 0 ≤ _)⟩)
  dsimp only [Pt.U, Pt.locs, Pt.cells, Pt.slots] at X68 l68 y68 z68 st68 hQ68
  subst l68 y68 z68
  obtain ⟨rfl, N68q, e68⟩ := hQ68
  replace N0 := Fr.app N0 N68q
  refine gsW st68 ?_
  show GoW p e below s QQ 3 30 (T68.setTop (mkF m 13 #[rv r0] [(.ref r0), (.ref xk), (.ref b65), (.ref b65)]))
  obtain ⟨T69, X69, e69, st69⟩ := castY X68 hx hZ hown (hw _ (List.mem_of_getElem? (i := 50) rfl)) e68 (Ins.self E_r0) (g := (mkF m 13 #[rv r0] [(.ref r0), (.ref xk), (.ref b65), (.ref b65)])) rfl rfl (hb hby d8_13)
  refine gsW st69 ?_
  show GoW p e below s QQ 3 30 (T69.setTop (mkF m 16 #[rv r0] [(.ref r0), (.ref xk), (.ref b65), (.ref b65)]))
  obtain ⟨_, _, ⟨T70, L70, k70, n70⟩, -, X70, ⟨Lc70, hQ70, l70, y70, z70⟩, st70⟩ := X69.specialBack hx (y := (⟨"com/example/outboxd/outboxd/relay/Outcome", "<init>", "(Lcom/example/outboxd/outboxd/relay/Outcome$Kind;Ljava/lang/String;)V"⟩ : MethodName)) rfl hown (mvT hZ (hw _ (List.mem_of_getElem? (i := 51) rfl))) (mvT hZ (hw _ (List.mem_of_getElem? (i := 52) rfl))) (mvT hZ (hw _ (List.mem_of_getElem? (i := 53) rfl))) (by decide) (backOf (W := 1) (rmO l Z a0 hw [] b65 xk r0 h67 n0 ZZ F_kind_b65 F_reason_b65 Ex_b65 ge_b65) hZ (hw _ (List.mem_of_getElem? (i := 53) rfl)) (hw _ (List.mem_of_getElem? (i := 36) rfl)) (by decide) (by decide)) (g := (mkF m 16 #[rv r0] [(.ref r0), (.ref xk), (.ref b65), (.ref b65)])) rfl (by rw [hml]; rfl) (Steps.refl _) (a := b65) (argsL := [(.ref xk), (.ref r0)]) (rest := [(.ref b65)]) (lenOf pd_6 rfl) rfl (by show 2 * 0 + _ ≤ _; exact Nat.le_of_eq rfl) (hb hby d8_16) (fun _ _ => ⟨rfl, e69, (by decide : 3 + 0 ≤ _), (by decide : 30 + 0 ≤ _)⟩)
  dsimp only [Pt.U, Pt.locs, Pt.cells, Pt.slots] at X70 l70 y70 z70 st70 hQ70
  subst l70 y70 z70
  obtain ⟨rfl, N70q, K70, F1_70, F2_70⟩ := hQ70
  replace N0 := Fr.app N0 N70q
  refine gtW st70 ?_
  show GoW p e below s QQ 3 30 (T70.setTop (mkF m 19 #[rv r0] [(.ref b65)]))
  replace E_r0 := E_r0.keep K70
  replace OLD := OLD.keep K70 (allS ge_b65 all0)
  replace Ex_b65 := Ex_b65.keep K70
  replace ZZ := Nat.le_trans ZZ K70.1
  replace SK := Nat.le_trans SK K70.1
  replace KK := KK.trans K70 (allS (Or.inr sz_b65) all0)
  exact goRW SS SK X70 hx Bd.notSynchronized Bd.returns rfl rfl (hb hby d8_19) (by rw [← hQQ]; exact ⟨_, rfl, N0, sz_b65, KK, Ex_b65, F1_70, F2_70⟩) (by decide) (by decide)
theorem d11_0 : decode prog_14_method_5_code 0 = .ok (.aload_n 0, 1) := by decide +kernel
theorem d11_1 : decode prog_14_method_5_code 1 = .ok (.getfield 7, 3) := by decide +kernel
theorem d11_4 : decode prog_14_method_5_code 4 = .ok (.areturn, 1) := by decide +kernel
theorem pn_11 : plainName "com/example/outboxd/outboxd/relay/Outcome" = true := by first | (simp [plainName, overriddenIn]; done) | decide +kernel
def Qrm_kind (Z : State) (r0 : Addr) (q : Addr) (h0 : Heap) (n0 : Nat) (v : Option Value) (h : Heap) (L : List Loc) : Prop := v = some (.ref q) ∧ Fr n0 L ∧ h = h0
set_option maxRecDepth 65536 in
set_option maxHeartbeats 40000000 in
theorem rm_kind (l : Launch) (Z : State) (a0 : Array Value) (hw : ∀ d ∈ tables_1, d.before a0 Z = true) (ws : List Jvm.Cond) (r0 : Addr) (q : Addr) (h0 : Heap) (n0 : Nat) (Z0 : n0 ≤ h0.size) (F_kind_r0 : Fld Z h0 r0 "com/example/outboxd/outboxd/relay/Outcome" "kind" "Lcom/example/outboxd/outboxd/relay/Outcome$Kind;" (.ref q)) :
    MetFree l (⟨"com/example/outboxd/outboxd/relay/Outcome", "kind", "()Lcom/example/outboxd/outboxd/relay/Outcome$Kind;"⟩ : MethodName) (head1 (Jvm.Cond.code (⟨"com/example/outboxd/outboxd/relay/Outcome", "kind", "()Lcom/example/outboxd/outboxd/relay/Outcome$Kind;"⟩ : MethodName) prog_14_method_5_code 1 (some (.object "com/example/outboxd/outboxd/relay/Outcome$Kind")) :: ws) ({ frames := 0, cells := 0, slots := 0, locals := 0 } : Room)) (fun a U => a = #[(.ref r0)] ∧ Z.Warmed39 U.vm ∧ U.heap = h0) (fun _ _ _ _ _ => True) (fun _ U o U' => ∃ v L, o = .returned v ∧ Qrm_kind Z r0 q h0 n0 v U'.heap L ∧ FrameEnd U o U' L ({ frames := 0, cells := 0, slots := 0, locals := 0 } : Room).cells ({ frames := 0, cells := 0, slots := 0, locals := 0 } : Room).slots) := by
  refine MetFree.of_bodySF (plainFor_of_name pn_11) hisR ?_
  intro p e s m args below meth c s₁ Bd hml0 hP hK
  obtain ⟨rfl, hZ, hh⟩ := hP
  have hx := Bd.exec
  have hby := Bd.bytes
  have hml : c.maxLocals = 1 := hml0
  have hown : s.vm.findClass "com/example/outboxd/outboxd/relay/Outcome" = some m.cls := findClass_of_methodNamed Bd.named
  have hnm := (name_of_methodNamed Bd.named Bd.method).1
  have X0 : Stand p l e ({ frames := 0, cells := 0, slots := 0, locals := 0 } : Room) s m #[(.ref r0)] below meth c s₁ [] 0 0 := Stand.of_body Bd
  have e0 : s₁.heap = h0 := by rw [← hh, Bd.state]; rfl
  have N0 := Fr.nil n0
  have ZZ := Z0
  show Go p e below s (Qrm_kind Z r0 q h0 n0) 0 0 (s₁.setTop (entryFrame m #[(.ref r0)] 1))
  generalize hQQ : (Qrm_kind Z r0 q h0 n0) = QQ
  refine gs (fun t k => castTop (g' := (mkF m 0 #[rv r0] [])) (by first | (simp [entryFrame, mkF, argsToLocals, Value.category, maxLocals]; done) | rfl) k) ?_
  show Go p e below s QQ 0 0 (s₁.setTop (mkF m 0 #[rv r0] []))
  refine gs (fun t => XS.aloadN X0.here hx rfl (hb hby d11_0) rfl rfl) ?_
  show Go p e below s QQ 0 0 (s₁.setTop (mkF m 1 #[rv r0] [(.ref r0)]))
  obtain ⟨T71, X71, e71, st71⟩ := getF X0 hx hZ hown (host := "") (Or.inl (hw _ (List.mem_of_getElem? (i := 55) rfl))) Via.refl e0 F_kind_r0 (g := (mkF m 1 #[rv r0] [(.ref r0)])) rfl rfl (hb hby d11_1)
  refine gs st71 ?_
  show Go p e below s QQ 0 0 (T71.setTop (mkF m 4 #[rv r0] [(.ref q)]))
  exact goR X71 hx Bd.notSynchronized Bd.returns rfl rfl (hb hby d11_4) (by rw [← hQQ, e71]; exact ⟨rfl, N0, rfl⟩) (by decide) (by decide)
theorem d12_0 : decode prog_14_method_6_code 0 = .ok (.aload_n 0, 1) := by decide +kernel
theorem d12_1 : decode prog_14_method_6_code 1 = .ok (.getfield 13, 3) := by decide +kernel
theorem d12_4 : decode prog_14_method_6_code 4 = .ok (.areturn, 1) := by decide +kernel
theorem pn_12 : plainName "com/example/outboxd/outboxd/relay/Outcome" = true := by first | (simp [plainName, overriddenIn]; done) | decide +kernel
def Qrm_reason (Z : State) (r0 : Addr) (q : Addr) (h0 : Heap) (n0 : Nat) (v : Option Value) (h : Heap) (L : List Loc) : Prop := v = some (.ref q) ∧ Fr n0 L ∧ h = h0
set_option maxRecDepth 65536 in
set_option maxHeartbeats 40000000 in
theorem rm_reason (l : Launch) (Z : State) (a0 : Array Value) (hw : ∀ d ∈ tables_1, d.before a0 Z = true) (ws : List Jvm.Cond) (r0 : Addr) (q : Addr) (h0 : Heap) (n0 : Nat) (Z0 : n0 ≤ h0.size) (F_reason_r0 : Fld Z h0 r0 "com/example/outboxd/outboxd/relay/Outcome" "reason" "Ljava/lang/String;" (.ref q)) :
    MetFree l (⟨"com/example/outboxd/outboxd/relay/Outcome", "reason", "()Ljava/lang/String;"⟩ : MethodName) (head1 (Jvm.Cond.code (⟨"com/example/outboxd/outboxd/relay/Outcome", "reason", "()Ljava/lang/String;"⟩ : MethodName) prog_14_method_6_code 1 (some (.object "java/lang/String")) :: ws) ({ frames := 0, cells := 0, slots := 0, locals := 0 } : Room)) (fun a U => a = #[(.ref r0)] ∧ Z.Warmed39 U.vm ∧ U.heap = h0) (fun _ _ _ _ _ => True) (fun _ U o U' => ∃ v L, o = .returned v ∧ Qrm_reason Z r0 q h0 n0 v U'.heap L ∧ FrameEnd U o U' L ({ frames := 0, cells := 0, slots := 0, locals := 0 } : Room).cells ({ frames := 0, cells := 0, slots := 0, locals := 0 } : Room).slots) := by
  refine MetFree.of_bodySF (plainFor_of_name pn_12) hisR ?_
  intro p e s m args below meth c s₁ Bd hml0 hP hK
  obtain ⟨rfl, hZ, hh⟩ := hP
  have hx := Bd.exec
  have hby := Bd.bytes
  have hml : c.maxLocals = 1 := hml0
  have hown : s.vm.findClass "com/example/outboxd/outboxd/relay/Outcome" = some m.cls := findClass_of_methodNamed Bd.named
  have hnm := (name_of_methodNamed Bd.named Bd.method).1
  have X0 : Stand p l e ({ frames := 0, cells := 0, slots := 0, locals := 0 } : Room) s m #[(.ref r0)] below meth c s₁ [] 0 0 := Stand.of_body Bd
  have e0 : s₁.heap = h0 := by rw [← hh, Bd.state]; rfl
  have N0 := Fr.nil n0
  have ZZ := Z0
  show Go p e below s (Qrm_reason Z r0 q h0 n0) 0 0 (s₁.setTop (entryFrame m #[(.ref r0)] 1))
  generalize hQQ : (Qrm_reason Z r0 q h0 n0) = QQ
  refine gs (fun t k => castTop (g' := (mkF m 0 #[rv r0] [])) (by first | (simp [entryFrame, mkF, argsToLocals, Value.category, maxLocals]; done) | rfl) k) ?_
  show Go p e below s QQ 0 0 (s₁.setTop (mkF m 0 #[rv r0] []))
  refine gs (fun t => XS.aloadN X0.here hx rfl (hb hby d12_0) rfl rfl) ?_
  show Go p e below s QQ 0 0 (s₁.setTop (mkF m 1 #[rv r0] [(.ref r0)]))
  obtain ⟨T72, X72, e72, st72⟩ := getF X0 hx hZ hown (host := "") (Or.inl (hw _ (List.mem_of_getElem? (i := 57) rfl))) Via.refl e0 F_reason_r0 (g := (mkF m 1 #[rv r0] [(.ref r0)])) rfl rfl (hb hby d12_1)
  refine gs st72 ?_
  show Go p e below s QQ 0 0 (T72.setTop (mkF m 4 #[rv r0] [(.ref q)]))
  exact goR X72 hx Bd.notSynchronized Bd.returns rfl rfl (hb hby d12_4) (by rw [← hQQ, e72]; exact ⟨rfl, N0, rfl⟩) (by decide) (by decide)
theorem d14_0 : decode jdk_42_method_152_code 0 = .ok (.getstatic 38, 3) := by decide +kernel
theorem d14_3 : decode jdk_42_method_152_code 3 = .ok (.ifCond .eq 10, 3) := by decide +kernel
theorem d14_6 : decode jdk_42_method_152_code 6 = .ok (.aload_n 0, 1) := by decide +kernel
theorem d14_7 : decode jdk_42_method_152_code 7 = .ok (.getfield 15, 3) := by decide +kernel
theorem d14_10 : decode jdk_42_method_152_code 10 = .ok (.goto 4, 3) := by decide +kernel
theorem d14_13 : decode jdk_42_method_152_code 13 = .ok (.iconst 1, 1) := by decide +kernel
theorem d14_14 : decode jdk_42_method_152_code 14 = .ok (.ireturn, 1) := by decide +kernel
theorem pn_14 : plainName "java/lang/String" = true := by first | (simp [plainName, overriddenIn]; done) | decide +kernel
def QrmCoder (Z : State) (r0 : Addr) (vb : Addr) (cs : Int32) (h0 : Heap) (n0 : Nat) (v : Option Value) (h : Heap) (L : List Loc) : Prop := v = some (.int 0) ∧ Fr n0 L ∧ h = h0
set_option maxRecDepth 65536 in
set_option maxHeartbeats 40000000 in
theorem rmCoder (l : Launch) (Z : State) (a0 : Array Value) (hw : ∀ d ∈ tables_1, d.before a0 Z = true) (ws : List Jvm.Cond) (r0 : Addr) (vb : Addr) (cs : Int32) (h0 : Heap) (n0 : Nat) (Z0 : n0 ≤ h0.size) (OLD : Old Z n0 h0) (CS : Sta Z Z.heap "java/lang/String" "COMPACT_STRINGS" "Z" (.int cs)) (hcs : ¬ (cs = (0 : Int32))) (F_value_r0 : Fld Z h0 r0 "java/lang/String" "value" "[B" (.ref vb)) (F_coder_r0 : Fld Z h0 r0 "java/lang/String" "coder" "B" (.int (0 : Int32))) :
    MetFree l (⟨"java/lang/String", "coder", "()B"⟩ : MethodName) (head1 (Jvm.Cond.code (⟨"java/lang/String", "coder", "()B"⟩ : MethodName) jdk_42_method_152_code 1 (some .byte) :: ws) ({ frames := 0, cells := 0, slots := 0, locals := 0 } : Room)) (fun a U => a = #[(.ref r0)] ∧ Z.Warmed39 U.vm ∧ U.heap = h0) (fun _ _ _ _ _ => True) (fun _ U o U' => ∃ v L, o = .returned v ∧ QrmCoder Z r0 vb cs h0 n0 v U'.heap L ∧ FrameEnd U o U' L ({ frames := 0, cells := 0, slots := 0, locals := 0 } : Room).cells ({ frames := 0, cells := 0, slots := 0, locals := 0 } : Room).slots) := by
  refine MetFree.of_bodySF (plainFor_of_name pn_14) hisR ?_
  intro p e s m args below meth c s₁ Bd hml0 hP hK
  obtain ⟨rfl, hZ, hh⟩ := hP
  have hx := Bd.exec
  have hby := Bd.bytes
  have hml : c.maxLocals = 1 := hml0
  have hown : s.vm.findClass "java/lang/String" = some m.cls := findClass_of_methodNamed Bd.named
  have hnm := (name_of_methodNamed Bd.named Bd.method).1
  have X0 : Stand p l e ({ frames := 0, cells := 0, slots := 0, locals := 0 } : Room) s m #[(.ref r0)] below meth c s₁ [] 0 0 := Stand.of_body Bd
  have e0 : s₁.heap = h0 := by rw [← hh, Bd.state]; rfl
  have N0 := Fr.nil n0
  have ZZ := Z0
  show Go p e below s (QrmCoder Z r0 vb cs h0 n0) 0 0 (s₁.setTop (entryFrame m #[(.ref r0)] 1))
  generalize hQQ : (QrmCoder Z r0 vb cs h0 n0) = QQ
  refine gs (fun t k => castTop (g' := (mkF m 0 #[rv r0] [])) (by first | (simp [entryFrame, mkF, argsToLocals, Value.category, maxLocals]; done) | rfl) k) ?_
  show Go p e below s QQ 0 0 (s₁.setTop (mkF m 0 #[rv r0] []))
  obtain ⟨T73, X73, e73, st73⟩ := getS2 X0 hx hZ hown (host := "") (Or.inl (hw _ (List.mem_of_getElem? (i := 18) rfl))) Via.refl e0 (CS.ext OLD.2) (g := (mkF m 0 #[rv r0] [])) rfl (hb hby d14_0)
  refine gs st73 ?_
  show Go p e below s QQ 0 0 (T73.setTop (mkF m 3 #[rv r0] [(.int cs)]))
  refine gs (fun t => XS.ifNo X73.here hx rfl (hb hby d14_3) rfl ((if0 _ _).trans (feq (hcs : ¬ (cs = (0 : Int32)))).1)) ?_
  show Go p e below s QQ 0 0 (T73.setTop (mkF m 6 #[rv r0] []))
  refine gs (fun t => XS.aloadN X73.here hx rfl (hb hby d14_6) rfl rfl) ?_
  show Go p e below s QQ 0 0 (T73.setTop (mkF m 7 #[rv r0] [(.ref r0)]))
  obtain ⟨T74, X74, e74, st74⟩ := getF X73 hx hZ hown (host := "") (Or.inl (hw _ (List.mem_of_getElem? (i := 30) rfl))) Via.refl e73 F_coder_r0 (g := (mkF m 7 #[rv r0] [(.ref r0)])) rfl rfl (hb hby d14_7)
  refine gs st74 ?_
  show Go p e below s QQ 0 0 (T74.setTop (mkF m 10 #[rv r0] [(.int (0 : Int32))]))
  refine gs (fun t => XS.goto X74.here hx rfl (pc0 := 10) (pc' := 14) rfl (hb hby d14_10) (by decide) (by decide)) ?_
  show Go p e below s QQ 0 0 (T74.setTop (mkF m 14 #[rv r0] [(.int (0 : Int32))]))
  exact goB X74 hx Bd.notSynchronized Bd.returns (by simp) (w := (0 : Int32)) (by first | rfl | decide) (hb hby d14_14) (by rw [← hQQ, e74]; exact ⟨rfl, N0, rfl⟩) (by decide) (by decide)
theorem d13_0 : decode jdk_42_method_54_code 0 = .ok (.aload_n 0, 1) := by decide +kernel
theorem d13_1 : decode jdk_42_method_54_code 1 = .ok (.getfield 9, 3) := by decide +kernel
theorem d13_4 : decode jdk_42_method_54_code 4 = .ok (.arraylength, 1) := by decide +kernel
theorem d13_5 : decode jdk_42_method_54_code 5 = .ok (.aload_n 0, 1) := by decide +kernel
theorem d13_6 : decode jdk_42_method_54_code 6 = .ok (.invokevirtual 335, 3) := by decide +kernel
theorem d13_9 : decode jdk_42_method_54_code 9 = .ok (.ishr, 1) := by decide +kernel
theorem d13_10 : decode jdk_42_method_54_code 10 = .ok (.ireturn, 1) := by decide +kernel
theorem pn_13 : plainName "java/lang/String" = true := by first | (simp [plainName, overriddenIn]; done) | decide +kernel
def QrmLen (Z : State) (r0 : Addr) (vb : Addr) (cs : Int32) (nn : Nat) (fb : Nat → Value) (z : Int32) (h0 : Heap) (n0 : Nat) (v : Option Value) (h : Heap) (L : List Loc) : Prop := v = some (.int z) ∧ Fr n0 L ∧ h = h0
set_option maxRecDepth 65536 in
set_option maxHeartbeats 40000000 in
theorem rmLen (l : Launch) (Z : State) (a0 : Array Value) (hw : ∀ d ∈ tables_1, d.before a0 Z = true) (ws : List Jvm.Cond) (r0 : Addr) (vb : Addr) (cs : Int32) (nn : Nat) (fb : Nat → Value) (z : Int32) (h0 : Heap) (n0 : Nat) (Z0 : n0 ≤ h0.size) (OLD : Old Z n0 h0) (CS : Sta Z Z.heap "java/lang/String" "COMPACT_STRINGS" "Z" (.int cs)) (hcs : ¬ (cs = (0 : Int32))) (F_value_r0 : Fld Z h0 r0 "java/lang/String" "value" "[B" (.ref vb)) (F_coder_r0 : Fld Z h0 r0 "java/lang/String" "coder" "B" (.int (0 : Int32))) (E_r0 : Exa Z h0 r0 "java/lang/String") (V_vb : Arf Z h0 vb .byte nn fb) (hz : nn.toInt32 = z) :
    MetFree l (⟨"java/lang/String", "length", "()I"⟩ : MethodName) (head1 (Jvm.Cond.code (⟨"java/lang/String", "length", "()I"⟩ : MethodName) jdk_42_method_54_code 1 (some .int) :: ws) ({ frames := 1, cells := 0, slots := 0, locals := 13 } : Room)) (fun a U => a = #[(.ref r0)] ∧ Z.Warmed39 U.vm ∧ U.heap = h0) (fun _ _ _ _ _ => True) (fun _ U o U' => ∃ v L, o = .returned v ∧ QrmLen Z r0 vb cs nn fb z h0 n0 v U'.heap L ∧ FrameEnd U o U' L ({ frames := 1, cells := 0, slots := 0, locals := 13 } : Room).cells ({ frames := 1, cells := 0, slots := 0, locals := 13 } : Room).slots) := by
  refine MetFree.of_bodySF (plainFor_of_name pn_13) hisR ?_
  intro p e s m args below meth c s₁ Bd hml0 hP hK
  obtain ⟨rfl, hZ, hh⟩ := hP
  have hx := Bd.exec
  have hby := Bd.bytes
  have hml : c.maxLocals = 1 := hml0
  have hown : s.vm.findClass "java/lang/String" = some m.cls := findClass_of_methodNamed Bd.named
  have hnm := (name_of_methodNamed Bd.named Bd.method).1
  have X0 : Stand p l e ({ frames := 1, cells := 0, slots := 0, locals := 13 } : Room) s m #[(.ref r0)] below meth c s₁ [] 0 0 := Stand.of_body Bd
  have e0 : s₁.heap = h0 := by rw [← hh, Bd.state]; rfl
  have N0 := Fr.nil n0
  have ZZ := Z0
  show Go p e below s (QrmLen Z r0 vb cs nn fb z h0 n0) 0 0 (s₁.setTop (entryFrame m #[(.ref r0)] 1))
  generalize hQQ : (QrmLen Z r0 vb cs nn fb z h0 n0) = QQ
  refine gs (fun t k => castTop (g' := (mkF m 0 #[rv r0] [])) (by first | (simp [entryFrame, mkF, argsToLocals, Value.category, maxLocals]; done) | rfl) k) ?_
  show Go p e below s QQ 0 0 (s₁.setTop (mkF m 0 #[rv r0] []))
  refine gs (fun t => XS.aloadN X0.here hx rfl (hb hby d13_0) rfl rfl) ?_
  show Go p e below s QQ 0 0 (s₁.setTop (mkF m 1 #[rv r0] [(.ref r0)]))
  obtain ⟨T75, X75, e75, st75⟩ := getF X0 hx hZ hown (host := "") (Or.inl (hw _ (List.mem_of_getElem? (i := 32) rfl))) Via.refl e0 F_value_r0 (g := (mkF m 1 #[rv r0] [(.ref r0)])) rfl rfl (hb hby d13_1)
  refine gs st75 ?_
  show Go p e below s QQ 0 0 (T75.setTop (mkF m 4 #[rv r0] [(.ref vb)]))
  refine gs (fun t => lenf X75 hx hZ e75 V_vb (z := z) hz (g := (mkF m 4 #[rv r0] [(.ref vb)])) rfl rfl (hb hby d13_4) t) ?_
  show Go p e below s QQ 0 0 (T75.setTop (mkF m 5 #[rv r0] [(.int z)]))
  refine gs (fun t => XS.aloadN X75.here hx rfl (hb hby d13_5) rfl rfl) ?_
  show Go p e below s QQ 0 0 (T75.setTop (mkF m 6 #[rv r0] [(.ref r0), (.int z)]))
  obtain ⟨cq76, kq76, q76a, q76b, q76c⟩ := isOf hZ e75 E_r0
  obtain ⟨_, _, ⟨T76, L76, k76, n76⟩, -, X76, ⟨Lc76, hQ76, l76, y76, z76⟩, st76⟩ := X75.virtualBack hx (y := (⟨"java/lang/String", "coder", "()B"⟩ : MethodName)) (z := (⟨"java/lang/String", "coder", "()B"⟩ : MethodName)) hown (mvT hZ (hw _ (List.mem_of_getElem? (i := 75) rfl))) (mvT hZ (hw _ (List.mem_of_getElem? (i := 76) rfl))) (notFace_of_selects (args := #[]) (mvT hZ (hw _ (List.mem_of_getElem? (i := 78) rfl)))) (mvT hZ (hw _ (List.mem_of_getElem? (i := 78) rfl))) (mvT hZ (hw _ (List.mem_of_getElem? (i := 77) rfl))) (by decide) (backOf (W := 1) (rmCoder l Z a0 hw [] r0 vb cs h0 n0 ZZ OLD CS hcs F_value_r0 F_coder_r0) hZ (hw _ (List.mem_of_getElem? (i := 79) rfl)) (hw _ (List.mem_of_getElem? (i := 7) rfl)) (by decide) (by decide)) q76a q76c (g := (mkF m 6 #[rv r0] [(.ref r0), (.int z)])) rfl (by rw [hml]; rfl) (Steps.refl _) (argsL := []) (rest := [(.int z)]) (lenOf pd_7 rfl) rfl (by show 2 * 0 + _ ≤ _; exact Nat.le_of_eq rfl) (hb hby d13_6) (fun _ _ => ⟨rfl, e75, (by decide : 0 + 0 ≤ _), (by decide : 0 + 0 ≤ _)⟩)
  dsimp only [Pt.U, Pt.locs, Pt.cells, Pt.slots] at X76 l76 y76 z76 st76 hQ76
  subst l76 y76 z76
  obtain ⟨rfl, N76q, e76⟩ := hQ76
  replace N0 := Fr.app N0 N76q
  refine gt st76 ?_
  show Go p e below s QQ 0 0 (T76.setTop (mkF m 9 #[rv r0] [(.int (0 : Int32)), (.int z)]))
  refine gs (fun t => XS.ishr X76.here hx rfl (hb hby d13_9) rfl) ?_
  show Go p e below s QQ 0 0 (T76.setTop (mkF m 10 #[rv r0] [(.int (z >>> ((0 : Int32) &&& 31)))]))
  rw [show (z >>> ((0 : Int32) &&& 31)) = z from own_shr0 z]
  show Go p e below s QQ 0 0 (T76.setTop (mkF m 10 #[rv r0] [(.int z)]))
  exact goI X76 hx Bd.notSynchronized Bd.returns (hb hby d13_10) (by rw [← hQQ, e76]; exact ⟨rfl, N0, rfl⟩) (by decide) (by decide)
theorem d15_0 : decode jdk_42_method_66_code 0 = .ok (.aload_n 0, 1) := by decide +kernel
theorem d15_1 : decode jdk_42_method_66_code 1 = .ok (.aload_n 1, 1) := by decide +kernel
theorem d15_2 : decode jdk_42_method_66_code 2 = .ok (.if_acmp .ne 5, 3) := by decide +kernel
theorem d15_5 : decode jdk_42_method_66_code 5 = .ok (.iconst 1, 1) := by decide +kernel
theorem d15_6 : decode jdk_42_method_66_code 6 = .ok (.ireturn, 1) := by decide +kernel
theorem d15_7 : decode jdk_42_method_66_code 7 = .ok (.aload_n 1, 1) := by decide +kernel
theorem d15_8 : decode jdk_42_method_66_code 8 = .ok (.instanceof 10, 3) := by decide +kernel
theorem d15_11 : decode jdk_42_method_66_code 11 = .ok (.ifCond .eq 43, 3) := by decide +kernel
theorem d15_14 : decode jdk_42_method_66_code 14 = .ok (.aload_n 1, 1) := by decide +kernel
theorem d15_15 : decode jdk_42_method_66_code 15 = .ok (.checkcast 10, 3) := by decide +kernel
theorem d15_18 : decode jdk_42_method_66_code 18 = .ok (.astore_n 2, 1) := by decide +kernel
theorem d15_19 : decode jdk_42_method_66_code 19 = .ok (.getstatic 38, 3) := by decide +kernel
theorem d15_22 : decode jdk_42_method_66_code 22 = .ok (.ifCond .eq 14, 3) := by decide +kernel
theorem d15_25 : decode jdk_42_method_66_code 25 = .ok (.aload_n 0, 1) := by decide +kernel
theorem d15_26 : decode jdk_42_method_66_code 26 = .ok (.getfield 15, 3) := by decide +kernel
theorem d15_29 : decode jdk_42_method_66_code 29 = .ok (.aload_n 2, 1) := by decide +kernel
theorem d15_30 : decode jdk_42_method_66_code 30 = .ok (.getfield 15, 3) := by decide +kernel
theorem d15_33 : decode jdk_42_method_66_code 33 = .ok (.if_icmp .ne 21, 3) := by decide +kernel
theorem d15_36 : decode jdk_42_method_66_code 36 = .ok (.aload_n 0, 1) := by decide +kernel
theorem d15_37 : decode jdk_42_method_66_code 37 = .ok (.getfield 9, 3) := by decide +kernel
theorem d15_40 : decode jdk_42_method_66_code 40 = .ok (.aload_n 2, 1) := by decide +kernel
theorem d15_41 : decode jdk_42_method_66_code 41 = .ok (.getfield 9, 3) := by decide +kernel
theorem d15_44 : decode jdk_42_method_66_code 44 = .ok (.invokestatic 541, 3) := by decide +kernel
theorem d15_47 : decode jdk_42_method_66_code 47 = .ok (.ifCond .eq 7, 3) := by decide +kernel
theorem d15_50 : decode jdk_42_method_66_code 50 = .ok (.iconst 1, 1) := by decide +kernel
theorem d15_51 : decode jdk_42_method_66_code 51 = .ok (.goto 4, 3) := by decide +kernel
theorem d15_54 : decode jdk_42_method_66_code 54 = .ok (.iconst 0, 1) := by decide +kernel
theorem d15_55 : decode jdk_42_method_66_code 55 = .ok (.ireturn, 1) := by decide +kernel
theorem pn_15 : plainName "java/lang/String" = true := by first | (simp [plainName, overriddenIn]; done) | decide +kernel
def QrmEq (Z : State) (r0 : Addr) (r1 : Addr) (h0 : Heap) (n0 : Nat) (v : Option Value) (h : Heap) (L : List Loc) : Prop := v = some (.int 1) ∧ Fr n0 L ∧ h = h0
set_option maxRecDepth 65536 in
set_option maxHeartbeats 40000000 in
theorem rmEq (l : Launch) (Z : State) (a0 : Array Value) (hw : ∀ d ∈ tables_1, d.before a0 Z = true) (ws : List Jvm.Cond) (r0 : Addr) (r1 : Addr) (h0 : Heap) (n0 : Nat) (Z0 : n0 ≤ h0.size) (hq : r0 = r1) :
    MetFree l (⟨"java/lang/String", "equals", "(Ljava/lang/Object;)Z"⟩ : MethodName) (head1 (Jvm.Cond.code (⟨"java/lang/String", "equals", "(Ljava/lang/Object;)Z"⟩ : MethodName) jdk_42_method_66_code 3 (some .boolean) :: ws) ({ frames := 0, cells := 0, slots := 0, locals := 0 } : Room)) (fun a U => a = #[(.ref r0), (.ref r1)] ∧ Z.Warmed39 U.vm ∧ U.heap = h0) (fun _ _ _ _ _ => True) (fun _ U o U' => ∃ v L, o = .returned v ∧ QrmEq Z r0 r1 h0 n0 v U'.heap L ∧ FrameEnd U o U' L ({ frames := 0, cells := 0, slots := 0, locals := 0 } : Room).cells ({ frames := 0, cells := 0, slots := 0, locals := 0 } : Room).slots) := by
  refine MetFree.of_bodySF (plainFor_of_name pn_15) hisR ?_
  intro p e s m args below meth c s₁ Bd hml0 hP hK
  obtain ⟨rfl, hZ, hh⟩ := hP
  have hx := Bd.exec
  have hby := Bd.bytes
  have hml : c.maxLocals = 3 := hml0
  have hown : s.vm.findClass "java/lang/String" = some m.cls := findClass_of_methodNamed Bd.named
  have hnm := (name_of_methodNamed Bd.named Bd.method).1
  have X0 : Stand p l e ({ frames := 0, cells := 0, slots := 0, locals := 0 } : Room) s m #[(.ref r0), (.ref r1)] below meth c s₁ [] 0 0 := Stand.of_body Bd
  have e0 : s₁.heap = h0 := by rw [← hh, Bd.state]; rfl
  have N0 := Fr.nil n0
  have ZZ := Z0
  show Go p e below s (QrmEq Z r0 r1 h0 n0) 0 0 (s₁.setTop (entryFrame m #[(.ref r0), (.ref r1)] 3))
  generalize hQQ : (QrmEq Z r0 r1 h0 n0) = QQ
  refine gs (fun t k => castTop (g' := (mkF m 0 #[rv r0, rv r1, .unset] [])) (by first | (simp [entryFrame, mkF, argsToLocals, Value.category, maxLocals]; done) | rfl) k) ?_
  show Go p e below s QQ 0 0 (s₁.setTop (mkF m 0 #[rv r0, rv r1, .unset] []))
  refine gs (fun t => XS.aloadN X0.here hx rfl (hb hby d15_0) rfl rfl) ?_
  show Go p e below s QQ 0 0 (s₁.setTop (mkF m 1 #[rv r0, rv r1, .unset] [(.ref r0)]))
  refine gs (fun t => XS.aloadN X0.here hx rfl (hb hby d15_1) rfl rfl) ?_
  show Go p e below s QQ 0 0 (s₁.setTop (mkF m 2 #[rv r0, rv r1, .unset] [(.ref r1), (.ref r0)]))
  refine gs (fun t => Jvm.RoadKit.acmp (g := (mkF m 2 #[rv r0, rv r1, .unset] [(.ref r1), (.ref r0)])) X0 hx rfl rfl rfl (pc0 := 2) (pc' := 5) (same := true) rfl (hb hby d15_2) rfl (decide_eq_true (congrArg _ hq)) (by decide) (by decide)) ?_
  show Go p e below s QQ 0 0 (s₁.setTop (mkF m 5 #[rv r0, rv r1, .unset] []))
  refine gs (fun t => XS.iconst X0.here hx rfl (hb hby d15_5)) ?_
  show Go p e below s QQ 0 0 (s₁.setTop (mkF m 6 #[rv r0, rv r1, .unset] [(.int (1 : Int32))]))
  exact goB X0 hx Bd.notSynchronized Bd.returns (by simp) (w := (1 : Int32)) (by first | rfl | decide) (hb hby d15_6) (by rw [← hQQ, e0]; exact ⟨rfl, N0, rfl⟩) (by decide) (by decide)
theorem pn_0 : plainName "com/example/outboxd/outboxd/relay/OutcomeUnconfirmedPinLaw" = true := by first | (simp [plainName, overriddenIn]; done) | decide +kernel
def Qrm0 (Z : State) (p0 : Int32) (p1 : Int32) (p2 : Int32) (p3 : Int32) (cs : Int32) (xk : Addr) (h0 : Heap) (n0 : Nat) (v : Option Value) (h : Heap) (L : List Loc) : Prop := v = some (.int 1) ∧ Fr n0 L
set_option maxRecDepth 65536 in
set_option maxHeartbeats 40000000 in
theorem rm0 (l : Launch) (Z : State) (a0 : Array Value) (hw : ∀ d ∈ tables_1, d.before a0 Z = true) (ws : List Jvm.Cond) (p0 : Int32) (p1 : Int32) (p2 : Int32) (p3 : Int32) (cs : Int32) (xk : Addr) (h0 : Heap) (n0 : Nat) (Z0 : n0 ≤ h0.size) (OLD : Old Z n0 h0) (CS : Sta Z Z.heap "java/lang/String" "COMPACT_STRINGS" "Z" (.int cs)) (hcs : ¬ (cs = (0 : Int32))) (S_k : Sta Z Z.heap "com/example/outboxd/outboxd/relay/Outcome$Kind" "UNCONFIRMED" "Lcom/example/outboxd/outboxd/relay/Outcome$Kind;" (.ref xk)) :
    MetFree l x (head1 (Jvm.Cond.code x code maxLocals ret :: ws) room_1) (fun a U => a = #[(.int p0), (.int p1), (.int p2), (.int p3)] ∧ Z.Warmed39 U.vm ∧ U.heap = h0 ∧ CHv Z own_EL U.vm h0) (fun _ _ _ _ _ => True) (fun _ U o U' => ∃ v L, o = .returned v ∧ Qrm0 Z p0 p1 p2 p3 cs xk h0 n0 v U'.heap L ∧ ReturnedEndW U o U' L room_1.cells room_1.slots) := by
  refine MetFree.of_bodySF (plainFor_of_name pn_0) hisR ?_
  intro p e s m args below meth c s₁ Bd hml0 hP hK
  obtain ⟨rfl, hZ, hh, CH⟩ := hP
  have hx := Bd.exec
  have hby := Bd.bytes
  have hml : c.maxLocals = 8 := hml0
  have hown : s.vm.findClass "com/example/outboxd/outboxd/relay/OutcomeUnconfirmedPinLaw" = some m.cls := findClass_of_methodNamed Bd.named
  have hnm := (name_of_methodNamed Bd.named Bd.method).1
  have X0 : Stand p l e room_1 s m #[(.int p0), (.int p1), (.int p2), (.int p3)] below meth c s₁ [] 0 0 := Stand.of_body Bd
  have e0 : s₁.heap = h0 := by rw [← hh, Bd.state]; rfl
  have N0 := Fr.nil n0
  have ZZ := Z0
  obtain ⟨v0, hv0⟩ : ∃ z, z = s.vm := ⟨_, rfl⟩
  have SS : s.Since v0 h0.size := by rw [hv0]; exact (State.WarmedH.refl s).since _
  have SK : h0.size ≤ h0.size := Nat.le_refl _
  replace X0 : Stand p l e room_1 (s.setVm v0) m #[(.int p0), (.int p1), (.int p2), (.int p3)] below meth c s₁ [] 0 0 := by rw [hv0]; exact X0
  replace hZ : Z.Warmed39 (s.setVm v0).vm := by rw [hv0]; exact hZ
  replace hown : (s.setVm v0).vm.findClass "com/example/outboxd/outboxd/relay/OutcomeUnconfirmedPinLaw" = some m.cls := by rw [hv0]; exact hown
  replace CH : CHv Z own_EL v0 h0 := by rw [hv0]; exact CH
  show GoW p e below s (Qrm0 Z p0 p1 p2 p3 cs xk h0 n0) room_1.cells room_1.slots (s₁.setTop (entryFrame m #[(.int p0), (.int p1), (.int p2), (.int p3)] maxLocals))
  generalize hQQ : (Qrm0 Z p0 p1 p2 p3 cs xk h0 n0) = QQ
  refine gsW (fun t k => castTop (g' := (mkF m 0 #[iv p0, iv p1, iv p2, iv p3, .unset, .unset, .unset, .unset] [])) (by first | (simp [entryFrame, mkF, argsToLocals, Value.category, maxLocals]; done) | rfl) k) ?_
  show GoW p e below s QQ room_1.cells room_1.slots (s₁.setTop (mkF m 0 #[iv p0, iv p1, iv p2, iv p3, .unset, .unset, .unset, .unset] []))
  refine gsW (fun t => XS.iloadN X0.here hx rfl (hb hby at_0) rfl) ?_
  show GoW p e below s QQ room_1.cells room_1.slots (s₁.setTop (mkF m 1 #[iv p0, iv p1, iv p2, iv p3, .unset, .unset, .unset, .unset] [(.int p3)]))
  refine gsW (fun t => XS.iconst X0.here hx rfl (hb hby at_1)) ?_
  show GoW p e below s QQ room_1.cells room_1.slots (s₁.setTop (mkF m 2 #[iv p0, iv p1, iv p2, iv p3, .unset, .unset, .unset, .unset] [(.int (3 : Int32)), (.int p3)]))
  refine gsW (fun t => XS.iand X0.here hx rfl (hb hby at_2) rfl) ?_
  show GoW p e below s QQ room_1.cells room_1.slots (s₁.setTop (mkF m 3 #[iv p0, iv p1, iv p2, iv p3, .unset, .unset, .unset, .unset] [(.int (p3 &&& (3 : Int32)))]))
  refine gsW (fun t => XS.istore X0.here hx rfl (hb hby at_3) rfl (l' := #[iv p0, iv p1, iv p2, iv p3, iv (p3 &&& (3 : Int32)), .unset, .unset, .unset]) rfl) ?_
  show GoW p e below s QQ room_1.cells room_1.slots (s₁.setTop (mkF m 5 #[iv p0, iv p1, iv p2, iv p3, iv (p3 &&& (3 : Int32)), .unset, .unset, .unset] []))
  refine gsW (fun t => XS.iloadN X0.here hx rfl (hb hby at_5) rfl) ?_
  show GoW p e below s QQ room_1.cells room_1.slots (s₁.setTop (mkF m 6 #[iv p0, iv p1, iv p2, iv p3, iv (p3 &&& (3 : Int32)), .unset, .unset, .unset] [(.int p0)]))
  refine gsW (fun t => XS.iloadN X0.here hx rfl (hb hby at_6) rfl) ?_
  show GoW p e below s QQ room_1.cells room_1.slots (s₁.setTop (mkF m 7 #[iv p0, iv p1, iv p2, iv p3, iv (p3 &&& (3 : Int32)), .unset, .unset, .unset] [(.int p1), (.int p0)]))
  refine gsW (fun t => XS.iloadN X0.here hx rfl (hb hby at_7) rfl) ?_
  show GoW p e below s QQ room_1.cells room_1.slots (s₁.setTop (mkF m 8 #[iv p0, iv p1, iv p2, iv p3, iv (p3 &&& (3 : Int32)), .unset, .unset, .unset] [(.int p2), (.int p1), (.int p0)]))
  refine gsW (fun t => XS.iload X0.here hx rfl (hb hby at_8) rfl) ?_
  show GoW p e below s QQ room_1.cells room_1.slots (s₁.setTop (mkF m 10 #[iv p0, iv p1, iv p2, iv p3, iv (p3 &&& (3 : Int32)), .unset, .unset, .unset] [(.int (p3 &&& (3 : Int32))), (.int p2), (.int p1), (.int p0)]))
  generalize hnl : (p3 &&& (3 : Int32)) = nl
  show GoW p e below s QQ room_1.cells room_1.slots (s₁.setTop (mkF m 10 #[iv p0, iv p1, iv p2, iv p3, iv nl, .unset, .unset, .unset] [(.int nl), (.int p2), (.int p1), (.int p0)]))
  have hp3 := own_3 p3
  rw [hnl] at hp3
  obtain ⟨_, _, ⟨T77, L77, k77, n77⟩, -, X77, S77, G77, ⟨Lc77, hQ77, l77, y77, z77⟩, st77⟩ := callSS X0 hx (y := (⟨"com/example/outboxd/outboxd/relay/OutcomeUnconfirmedPinLaw", "draw", "(IIII)Ljava/lang/String;"⟩ : MethodName)) hown (mvT hZ (hw _ (List.mem_of_getElem? (i := 0) rfl))) (mvT hZ (hw _ (List.mem_of_getElem? (i := 1) rfl))) (mvT hZ (hw _ (List.mem_of_getElem? (i := 2) rfl))) (mvT hZ (hw _ (List.mem_of_getElem? (i := 3) rfl))) (by decide) (own_backH (EL := own_EL) (W := 0) (rmDraw l Z a0 hw [] p0 p1 p2 nl cs h0 n0 ZZ OLD CS hcs hp3) hZ (hw _ (List.mem_of_getElem? (i := 3) rfl)) (hw _ (List.mem_of_getElem? (i := 2) rfl)) (by decide) (by decide) (own_EW hw) CH) (g := (mkF m 10 #[iv p0, iv p1, iv p2, iv p3, iv nl, .unset, .unset, .unset] [(.int nl), (.int p2), (.int p1), (.int p0)])) rfl (by rw [hml]; rfl) (argsL := [(.int p0), (.int p1), (.int p2), (.int nl)]) (rest := []) (lenOf pd_8 rfl) rfl (by show 2 * 0 + _ ≤ _; exact Nat.le_of_eq rfl) (hb hby at_10) (fun _ _ => ⟨rfl, e0, (by decide : 0 + 4 ≤ _), (by decide : 0 + 10 ≤ _)⟩)
  dsimp only [Pt.U, Pt.locs, Pt.cells, Pt.slots] at X77 l77 y77 z77 st77 hQ77
  subst l77 y77 z77
  replace X77 : Stand p l e room_1 (s.setVm T77.vm) m #[(.int p0), (.int p1), (.int p2), (.int p3)] below meth c T77 _ _ _ := X77
  obtain ⟨hZ, hown, SS⟩ := own_reb hZ hown SS S77 (Nat.le_trans SK (by rw [← e0]; exact G77))
  have SK : T77.heap.size ≤ T77.heap.size := Nat.le_refl _
  obtain ⟨b77, d77, nn77, rfl, N77q, gb77, K77, Ex77, F1_77, F2_77, A77, hz77⟩ := hQ77
  replace N0 := Fr.app N0 N77q
  refine gtW st77 ?_
  show GoW p e below s QQ room_1.cells room_1.slots (T77.setTop (mkF m 13 #[iv p0, iv p1, iv p2, iv p3, iv nl, .unset, .unset, .unset] [(.ref b77)]))
  replace OLD := OLD.keep K77 all0
  replace ZZ := Nat.le_trans ZZ K77.1
  refine gsW (fun t => XS.astore X77.here hx rfl (hb hby at_13) rfl rfl (l' := #[iv p0, iv p1, iv p2, iv p3, iv nl, rv b77, .unset, .unset]) rfl) ?_
  show GoW p e below s QQ room_1.cells room_1.slots (T77.setTop (mkF m 15 #[iv p0, iv p1, iv p2, iv p3, iv nl, rv b77, .unset, .unset] []))
  refine gsW (fun t => XS.aload X77.here hx rfl (hb hby at_15) rfl rfl) ?_
  show GoW p e below s QQ room_1.cells room_1.slots (T77.setTop (mkF m 17 #[iv p0, iv p1, iv p2, iv p3, iv nl, rv b77, .unset, .unset] [(.ref b77)]))
  obtain ⟨_, _, ⟨T78, L78, k78, n78⟩, -, X78, S78, G78, ⟨Lc78, hQ78, l78, y78, z78⟩, st78⟩ := callSS X77 hx (y := (⟨"com/example/outboxd/outboxd/relay/Outcome", "unconfirmed", "(Ljava/lang/String;)Lcom/example/outboxd/outboxd/relay/Outcome;"⟩ : MethodName)) hown (mvT hZ (hw _ (List.mem_of_getElem? (i := 34) rfl))) (mvT hZ (hw _ (List.mem_of_getElem? (i := 35) rfl))) (mvT hZ (hw _ (List.mem_of_getElem? (i := 36) rfl))) (mvT hZ (hw _ (List.mem_of_getElem? (i := 37) rfl))) (by decide) (own_backH (EL := []) (W := 0) (rmU l Z a0 hw [] b77 xk T77.heap n0 ZZ OLD S_k Ex77) hZ (hw _ (List.mem_of_getElem? (i := 37) rfl)) (hw _ (List.mem_of_getElem? (i := 36) rfl)) (by decide) (by decide) EW.nil own_chNil) (g := (mkF m 17 #[iv p0, iv p1, iv p2, iv p3, iv nl, rv b77, .unset, .unset] [(.ref b77)])) rfl (by rw [hml]; rfl) (argsL := [(.ref b77)]) (rest := []) (lenOf pd_9 rfl) rfl (by show 2 * 0 + _ ≤ _; exact Nat.le_of_eq rfl) (hb hby at_17) (fun _ _ => ⟨rfl, rfl, (by decide : 4 + 3 ≤ _), (by decide : 10 + 30 ≤ _)⟩)
  dsimp only [Pt.U, Pt.locs, Pt.cells, Pt.slots] at X78 l78 y78 z78 st78 hQ78
  subst l78 y78 z78
  replace X78 : Stand p l e room_1 (s.setVm T78.vm) m #[(.int p0), (.int p1), (.int p2), (.int p3)] below meth c T78 _ _ _ := X78
  obtain ⟨hZ, hown, SS⟩ := own_reb hZ hown SS S78 (Nat.le_trans SK G78)
  have SK : T78.heap.size ≤ T78.heap.size := Nat.le_refl _
  obtain ⟨b78, rfl, N78q, gb78, K78, Ex78, F1_78, F2_78⟩ := hQ78
  replace N0 := Fr.app N0 N78q
  refine gtW st78 ?_
  show GoW p e below s QQ room_1.cells room_1.slots (T78.setTop (mkF m 20 #[iv p0, iv p1, iv p2, iv p3, iv nl, rv b77, .unset, .unset] [(.ref b78)]))
  replace OLD := OLD.keep K78 all0
  replace Ex77 := Ex77.keep K78
  replace F1_77 := F1_77.keep K78 nin0
  replace F2_77 := F2_77.keep K78 nin0
  replace A77 := A77.keep K78 nin0
  replace ZZ := Nat.le_trans ZZ K78.1
  refine gsW (fun t => XS.astore X78.here hx rfl (hb hby at_20) rfl rfl (l' := #[iv p0, iv p1, iv p2, iv p3, iv nl, rv b77, rv b78, .unset]) rfl) ?_
  show GoW p e below s QQ room_1.cells room_1.slots (T78.setTop (mkF m 22 #[iv p0, iv p1, iv p2, iv p3, iv nl, rv b77, rv b78, .unset] []))
  refine gsW (fun t => XS.aload X78.here hx rfl (hb hby at_22) rfl rfl) ?_
  show GoW p e below s QQ room_1.cells room_1.slots (T78.setTop (mkF m 24 #[iv p0, iv p1, iv p2, iv p3, iv nl, rv b77, rv b78, .unset] [(.ref b78)]))
  refine gsW (fun t => XS.ifnonnullYes X78.here hx rfl (pc0 := 24) (pc' := 29) rfl (hb hby at_24) rfl (by decide) (by decide)) ?_
  show GoW p e below s QQ room_1.cells room_1.slots (T78.setTop (mkF m 29 #[iv p0, iv p1, iv p2, iv p3, iv nl, rv b77, rv b78, .unset] []))
  refine gsW (fun t => XS.aload X78.here hx rfl (hb hby at_29) rfl rfl) ?_
  show GoW p e below s QQ room_1.cells room_1.slots (T78.setTop (mkF m 31 #[iv p0, iv p1, iv p2, iv p3, iv nl, rv b77, rv b78, .unset] [(.ref b78)]))
  obtain ⟨cq79, kq79, q79a, q79b, q79c⟩ := isOf hZ rfl Ex78
  obtain ⟨_, _, ⟨T79, L79, k79, n79⟩, -, X79, ⟨Lc79, hQ79, l79, y79, z79⟩, st79⟩ := X78.virtualBack hx (y := (⟨"com/example/outboxd/outboxd/relay/Outcome", "kind", "()Lcom/example/outboxd/outboxd/relay/Outcome$Kind;"⟩ : MethodName)) (z := (⟨"com/example/outboxd/outboxd/relay/Outcome", "kind", "()Lcom/example/outboxd/outboxd/relay/Outcome$Kind;"⟩ : MethodName)) hown (mvT hZ (hw _ (List.mem_of_getElem? (i := 59) rfl))) (mvT hZ (hw _ (List.mem_of_getElem? (i := 60) rfl))) (notFace_of_selects (args := #[]) (mvT hZ (hw _ (List.mem_of_getElem? (i := 62) rfl)))) (mvT hZ (hw _ (List.mem_of_getElem? (i := 62) rfl))) (mvT hZ (hw _ (List.mem_of_getElem? (i := 61) rfl))) (by decide) (backOf (W := 0) (rm_kind l Z a0 hw [] b78 xk T78.heap n0 ZZ F1_78) hZ (hw _ (List.mem_of_getElem? (i := 63) rfl)) (hw _ (List.mem_of_getElem? (i := 36) rfl)) (by decide) (by decide)) q79a q79c (g := (mkF m 31 #[iv p0, iv p1, iv p2, iv p3, iv nl, rv b77, rv b78, .unset] [(.ref b78)])) rfl (by rw [hml]; rfl) (Steps.refl _) (argsL := []) (rest := []) (lenOf pd_10 rfl) rfl (by show 2 * 0 + _ ≤ _; exact Nat.le_of_eq rfl) (hb hby at_31) (fun _ _ => ⟨rfl, rfl, (by decide : 7 + 0 ≤ _), (by decide : 40 + 0 ≤ _)⟩)
  dsimp only [Pt.U, Pt.locs, Pt.cells, Pt.slots] at X79 l79 y79 z79 st79 hQ79
  subst l79 y79 z79
  obtain ⟨rfl, N79q, e79⟩ := hQ79
  replace N0 := Fr.app N0 N79q
  refine gtW st79 ?_
  show GoW p e below s QQ room_1.cells room_1.slots (T79.setTop (mkF m 34 #[iv p0, iv p1, iv p2, iv p3, iv nl, rv b77, rv b78, .unset] [(.ref xk)]))
  obtain ⟨T80, X80, e80, st80⟩ := getS2 X79 hx hZ hown (host := "") (Or.inl (hw _ (List.mem_of_getElem? (i := 64) rfl))) Via.refl e79 (S_k.ext OLD.2) (g := (mkF m 34 #[iv p0, iv p1, iv p2, iv p3, iv nl, rv b77, rv b78, .unset] [(.ref xk)])) rfl (hb hby at_34)
  refine gsW st80 ?_
  show GoW p e below s QQ room_1.cells room_1.slots (T80.setTop (mkF m 37 #[iv p0, iv p1, iv p2, iv p3, iv nl, rv b77, rv b78, .unset] [(.ref xk), (.ref xk)]))
  refine gsW (fun t => Jvm.RoadKit.acmp (g := (mkF m 37 #[iv p0, iv p1, iv p2, iv p3, iv nl, rv b77, rv b78, .unset] [(.ref xk), (.ref xk)])) X80 hx rfl rfl rfl (pc0 := 37) (pc' := 42) (same := true) rfl (hb hby at_37) rfl (decide_eq_true rfl) (by decide) (by decide)) ?_
  show GoW p e below s QQ room_1.cells room_1.slots (T80.setTop (mkF m 42 #[iv p0, iv p1, iv p2, iv p3, iv nl, rv b77, rv b78, .unset] []))
  refine gsW (fun t => XS.aload X80.here hx rfl (hb hby at_42) rfl rfl) ?_
  show GoW p e below s QQ room_1.cells room_1.slots (T80.setTop (mkF m 44 #[iv p0, iv p1, iv p2, iv p3, iv nl, rv b77, rv b78, .unset] [(.ref b78)]))
  obtain ⟨cq81, kq81, q81a, q81b, q81c⟩ := isOf hZ e80 Ex78
  obtain ⟨_, _, ⟨T81, L81, k81, n81⟩, -, X81, ⟨Lc81, hQ81, l81, y81, z81⟩, st81⟩ := X80.virtualBack hx (y := (⟨"com/example/outboxd/outboxd/relay/Outcome", "reason", "()Ljava/lang/String;"⟩ : MethodName)) (z := (⟨"com/example/outboxd/outboxd/relay/Outcome", "reason", "()Ljava/lang/String;"⟩ : MethodName)) hown (mvT hZ (hw _ (List.mem_of_getElem? (i := 65) rfl))) (mvT hZ (hw _ (List.mem_of_getElem? (i := 66) rfl))) (notFace_of_selects (args := #[]) (mvT hZ (hw _ (List.mem_of_getElem? (i := 68) rfl)))) (mvT hZ (hw _ (List.mem_of_getElem? (i := 68) rfl))) (mvT hZ (hw _ (List.mem_of_getElem? (i := 67) rfl))) (by decide) (backOf (W := 0) (rm_reason l Z a0 hw [] b78 b77 T78.heap n0 ZZ F2_78) hZ (hw _ (List.mem_of_getElem? (i := 69) rfl)) (hw _ (List.mem_of_getElem? (i := 36) rfl)) (by decide) (by decide)) q81a q81c (g := (mkF m 44 #[iv p0, iv p1, iv p2, iv p3, iv nl, rv b77, rv b78, .unset] [(.ref b78)])) rfl (by rw [hml]; rfl) (Steps.refl _) (argsL := []) (rest := []) (lenOf pd_11 rfl) rfl (by show 2 * 0 + _ ≤ _; exact Nat.le_of_eq rfl) (hb hby at_44) (fun _ _ => ⟨rfl, e80, (by decide : 7 + 0 ≤ _), (by decide : 40 + 0 ≤ _)⟩)
  dsimp only [Pt.U, Pt.locs, Pt.cells, Pt.slots] at X81 l81 y81 z81 st81 hQ81
  subst l81 y81 z81
  obtain ⟨rfl, N81q, e81⟩ := hQ81
  replace N0 := Fr.app N0 N81q
  refine gtW st81 ?_
  show GoW p e below s QQ room_1.cells room_1.slots (T81.setTop (mkF m 47 #[iv p0, iv p1, iv p2, iv p3, iv nl, rv b77, rv b78, .unset] [(.ref b77)]))
  refine gsW (fun t => XS.astore X81.here hx rfl (hb hby at_47) rfl rfl (l' := #[iv p0, iv p1, iv p2, iv p3, iv nl, rv b77, rv b78, rv b77]) rfl) ?_
  show GoW p e below s QQ room_1.cells room_1.slots (T81.setTop (mkF m 49 #[iv p0, iv p1, iv p2, iv p3, iv nl, rv b77, rv b78, rv b77] []))
  refine gsW (fun t => XS.aload X81.here hx rfl (hb hby at_49) rfl rfl) ?_
  show GoW p e below s QQ room_1.cells room_1.slots (T81.setTop (mkF m 51 #[iv p0, iv p1, iv p2, iv p3, iv nl, rv b77, rv b78, rv b77] [(.ref b77)]))
  refine gsW (fun t => XS.ifnonnullYes X81.here hx rfl (pc0 := 51) (pc' := 56) rfl (hb hby at_51) rfl (by decide) (by decide)) ?_
  show GoW p e below s QQ room_1.cells room_1.slots (T81.setTop (mkF m 56 #[iv p0, iv p1, iv p2, iv p3, iv nl, rv b77, rv b78, rv b77] []))
  refine gsW (fun t => XS.aload X81.here hx rfl (hb hby at_56) rfl rfl) ?_
  show GoW p e below s QQ room_1.cells room_1.slots (T81.setTop (mkF m 58 #[iv p0, iv p1, iv p2, iv p3, iv nl, rv b77, rv b78, rv b77] [(.ref b77)]))
  obtain ⟨cq82, kq82, q82a, q82b, q82c⟩ := isOf hZ e81 Ex77
  obtain ⟨_, _, ⟨T82, L82, k82, n82⟩, -, X82, ⟨Lc82, hQ82, l82, y82, z82⟩, st82⟩ := X81.virtualBack hx (y := (⟨"java/lang/String", "length", "()I"⟩ : MethodName)) (z := (⟨"java/lang/String", "length", "()I"⟩ : MethodName)) hown (mvT hZ (hw _ (List.mem_of_getElem? (i := 70) rfl))) (mvT hZ (hw _ (List.mem_of_getElem? (i := 71) rfl))) (notFace_of_selects (args := #[]) (mvT hZ (hw _ (List.mem_of_getElem? (i := 73) rfl)))) (mvT hZ (hw _ (List.mem_of_getElem? (i := 73) rfl))) (mvT hZ (hw _ (List.mem_of_getElem? (i := 72) rfl))) (by decide) (backOf (W := 0) (rmLen l Z a0 hw [] b77 d77 cs nn77 (own_b (p0 &&& (255 : Int32)) (p1 &&& (255 : Int32)) (p2 &&& (255 : Int32))) nl T78.heap n0 ZZ OLD CS hcs F1_77 F2_77 Ex77 A77 hz77) hZ (hw _ (List.mem_of_getElem? (i := 74) rfl)) (hw _ (List.mem_of_getElem? (i := 7) rfl)) (by decide) (by decide)) q82a q82c (g := (mkF m 58 #[iv p0, iv p1, iv p2, iv p3, iv nl, rv b77, rv b78, rv b77] [(.ref b77)])) rfl (by rw [hml]; rfl) (Steps.refl _) (argsL := []) (rest := []) (lenOf pd_12 rfl) rfl (by show 2 * 0 + _ ≤ _; exact Nat.le_of_eq rfl) (hb hby at_58) (fun _ _ => ⟨rfl, e81, (by decide : 7 + 0 ≤ _), (by decide : 40 + 0 ≤ _)⟩)
  dsimp only [Pt.U, Pt.locs, Pt.cells, Pt.slots] at X82 l82 y82 z82 st82 hQ82
  subst l82 y82 z82
  obtain ⟨rfl, N82q, e82⟩ := hQ82
  replace N0 := Fr.app N0 N82q
  refine gtW st82 ?_
  show GoW p e below s QQ room_1.cells room_1.slots (T82.setTop (mkF m 61 #[iv p0, iv p1, iv p2, iv p3, iv nl, rv b77, rv b78, rv b77] [(.int nl)]))
  refine gsW (fun t => XS.iload X82.here hx rfl (hb hby at_61) rfl) ?_
  show GoW p e below s QQ room_1.cells room_1.slots (T82.setTop (mkF m 63 #[iv p0, iv p1, iv p2, iv p3, iv nl, rv b77, rv b78, rv b77] [(.int nl), (.int nl)]))
  refine gsW (fun t => XS.icmpYes X82.here hx rfl (pc0 := 63) (pc' := 68) rfl (hb hby at_63) rfl (teq (rfl : nl = nl)).1 (by decide) (by decide)) ?_
  show GoW p e below s QQ room_1.cells room_1.slots (T82.setTop (mkF m 68 #[iv p0, iv p1, iv p2, iv p3, iv nl, rv b77, rv b78, rv b77] []))
  refine gsW (fun t => XS.aload X82.here hx rfl (hb hby at_68) rfl rfl) ?_
  show GoW p e below s QQ room_1.cells room_1.slots (T82.setTop (mkF m 70 #[iv p0, iv p1, iv p2, iv p3, iv nl, rv b77, rv b78, rv b77] [(.ref b77)]))
  refine gsW (fun t => XS.aload X82.here hx rfl (hb hby at_70) rfl rfl) ?_
  show GoW p e below s QQ room_1.cells room_1.slots (T82.setTop (mkF m 72 #[iv p0, iv p1, iv p2, iv p3, iv nl, rv b77, rv b78, rv b77] [(.ref b77), (.ref b77)]))
  obtain ⟨cq83, kq83, q83a, q83b, q83c⟩ := isOf hZ e82 Ex77
  obtain ⟨_, _, ⟨T83, L83, k83, n83⟩, -, X83, ⟨Lc83, hQ83, l83, y83, z83⟩, st83⟩ := X82.virtualBack hx (y := (⟨"java/lang/String", "equals", "(Ljava/lang/Object;)Z"⟩ : MethodName)) (z := (⟨"java/lang/String", "equals", "(Ljava/lang/Object;)Z"⟩ : MethodName)) hown (mvT hZ (hw _ (List.mem_of_getElem? (i := 80) rfl))) (mvT hZ (hw _ (List.mem_of_getElem? (i := 81) rfl))) (notFace_of_selects (args := #[]) (mvT hZ (hw _ (List.mem_of_getElem? (i := 83) rfl)))) (mvT hZ (hw _ (List.mem_of_getElem? (i := 83) rfl))) (mvT hZ (hw _ (List.mem_of_getElem? (i := 82) rfl))) (by decide) (backOf (W := 0) (rmEq l Z a0 hw [] b77 b77 T78.heap n0 ZZ rfl) hZ (hw _ (List.mem_of_getElem? (i := 84) rfl)) (hw _ (List.mem_of_getElem? (i := 7) rfl)) (by decide) (by decide)) q83a q83c (g := (mkF m 72 #[iv p0, iv p1, iv p2, iv p3, iv nl, rv b77, rv b78, rv b77] [(.ref b77), (.ref b77)])) rfl (by rw [hml]; rfl) (Steps.refl _) (argsL := [(.ref b77)]) (rest := []) (lenOf pd_13 rfl) rfl (by show 2 * 0 + _ ≤ _; exact Nat.le_of_eq rfl) (hb hby at_72) (fun _ _ => ⟨rfl, e82, (by decide : 7 + 0 ≤ _), (by decide : 40 + 0 ≤ _)⟩)
  dsimp only [Pt.U, Pt.locs, Pt.cells, Pt.slots] at X83 l83 y83 z83 st83 hQ83
  subst l83 y83 z83
  obtain ⟨rfl, N83q, e83⟩ := hQ83
  replace N0 := Fr.app N0 N83q
  refine gtW st83 ?_
  show GoW p e below s QQ room_1.cells room_1.slots (T83.setTop (mkF m 75 #[iv p0, iv p1, iv p2, iv p3, iv nl, rv b77, rv b78, rv b77] [(.int (1 : Int32))]))
  exact goBW SS (by rw [e83]; exact SK) X83 hx Bd.notSynchronized Bd.returns (by simp) (w := (1 : Int32)) (by first | rfl | decide) (hb hby at_75) (by rw [← hQQ, e83]; exact ⟨rfl, N0⟩) (by decide) (by decide)
set_option maxRecDepth 65536 in
set_option maxHeartbeats 40000000 in
theorem comes_1 {Post : Tables → Env → Array Value → State → Outcome → State → Prop} (hpost : ∀ tb e args s v u, (limb_1_1.after args s (.returned v) u = true ∧ limb_1_2.after args s (.returned v) u = true ∧ True) → ReturnedEndW s (.returned v) u (Jvm.fieldLocs frame_1_writes args s ++ Jvm.arrayLocs frame_1_arrays args s ++ Jvm.staticLocs frame_1_statics s) 24 2176 → Post tb e args s (.returned v) u) :
    ArmFor flags0 classFile x code maxLocals ret World_1 tables_1 room_1 Calls_1 rest_1 Pre_1 Post := by
  intro l hfl _ _ p e ha hc hk s m args below hf hA hF happ hP
  obtain ⟨hcalls, hrest, hpre⟩ := hP
  obtain ⟨-, -, -, hnamed, -, -, -, hat⟩ := (Spec.applies_iff hf).mp happ
  obtain ⟨hg, hn⟩ := and_e (Cond.before_iff.mp (show (Jvm.Cond.and given_1 narrow_1).before args s = true from hpre))
  obtain ⟨gc, hg0⟩ := and_e hg
  obtain ⟨w0, w1, w2, w3, rfl⟩ : ∃ w0 w1 w2 w3 : Value, args = #[w0, w1, w2, w3] := by
    have hs : args.size = 4 := by simpa [Cond.value, given_1] using gc
    obtain ⟨L⟩ := args
    match L, hs with
    | [w0, w1, w2, w3], _ => exact ⟨w0, w1, w2, w3, rfl⟩
  obtain ⟨ga0, hg1⟩ := and_e hg0
  obtain ⟨i0, ei0⟩ := is_v ga0
  obtain rfl : w0 = (.int i0) := Option.some.inj ei0
  obtain ⟨ga1, hg2⟩ := and_e hg1
  obtain ⟨i1, ei1⟩ := is_v ga1
  obtain rfl : w1 = (.int i1) := Option.some.inj ei1
  obtain ⟨ga2, hg3⟩ := and_e hg2
  obtain ⟨i2, ei2⟩ := is_v ga2
  obtain rfl : w2 = (.int i2) := Option.some.inj ei2
  obtain ⟨i3, ei3⟩ := is_v hg3
  obtain rfl : w3 = (.int i3) := Option.some.inj ei3
  have hw := fun d (hd : d ∈ tables_1) => atoms_spec (ws := Jvm.Cond.code x code maxLocals ret :: tables_1) hat d (List.mem_cons_of_mem _ hd)
  have hfit : Fit s := fun {y c} hc i hi => by
    obtain ⟨ha, rfl⟩ := Array.getElem?_eq_some_iff.mp hc
    have q := List.all_eq_true.mp ((Array.all_eq_true_iff_forall_mem.mp hF) _ (Array.getElem_mem ha)) i (List.mem_range.mpr hi)
    simpa [Array.getElem?_eq_getElem hi] using q
  obtain ⟨hsets, hown0⟩ := atoms_of _ (rest_1_c_eq ▸ (show rest_1_c.before _ s = true from hrest))
  have hr0 := Cond.before_iff.mp hown0
  obtain ⟨cs, ecs⟩ := is_v (Cond.before_iff.mp (hsets _ (List.mem_of_getElem? (i := 1) rfl)))
  have CS := Sta.start ecs (Or.inl (hsets _ (List.mem_of_getElem? (i := 0) rfl)))
  have hcs : ¬ (cs = (0 : Int32)) := gotF (Cond.eq_ints ecs rfl) (not_v (Cond.before_iff.mp (hsets _ (List.mem_of_getElem? (i := 2) rfl))))
  obtain ⟨x_UNCONFIRMED, ev_x_UNCONFIRMED⟩ := exa_v hn
  have S_x_UNCONFIRMED := Sta.start ev_x_UNCONFIRMED (Or.inr ⟨(hw _ (List.mem_of_getElem? (i := 41) rfl)), (hw _ (List.mem_of_getElem? (i := 42) rfl))⟩)
  have E_x_UNCONFIRMED := Exa.start ev_x_UNCONFIRMED hn
  obtain ⟨n, o, h1, h2, h3, _, L, rfl, ⟨rfl, N⟩, hq⟩ := rm0 l s _ hw tables_1 i0 i1 i2 i3 cs x_UNCONFIRMED s.heap s.heap.size (Nat.le_refl _) (Old.start s) CS hcs S_x_UNCONFIRMED p e ha hc hk s m _ below hf ((Spec.applies_iff_loose hf).mp happ).1 ⟨rfl, State.Warmed39.refl s, rfl, CHv.start (own_EW hw) (fun q hq => hcalls.1 q (own_sub q hq)) (hsets _ (List.mem_of_getElem? (i := 2) rfl)) (hw _ (List.mem_of_getElem? (i := 23) rfl)) (hw _ (List.mem_of_getElem? (i := 6) rfl))⟩ trivial
  refine ⟨n, _, h1, h2, h3, hpost _ _ _ _ _ _ ⟨Cond.after_iff.mpr rfl, Cond.after_iff.mpr (eq_i res_at (Term.int_eval (1)) rfl), trivial⟩ ⟨hq.1, hq.2.1, hq.2.2.1, (hq.2.2.2.sift fun y hy => Or.inr (N y hy)).mono (by decide) (by decide)⟩⟩
theorem main_1_1 : Claimed_1_1 := comes_1 fun _ _ _ _ _ _ h hF => ⟨h.1, hF⟩
theorem main_1_2 : Claimed_1_2 := comes_1 fun _ _ _ _ _ _ h hF => ⟨h.2.1, hF⟩
end Jvm.Pilot.@@N@@
namespace Jvm.Pilot.@@N@@
open Jvm Jvm.ClassFile Sem Op Lib Jvm.Free Jvm.Stand Jvm.Pilot.@@N@@.Jvm.D
/-! MADE BY PROGRAM (witnessworld.py) out of the Statement's table words and the real class files: 21 classes; the members and pool entries that the words name. The judged class is class 1, her method 2. -/
namespace start1
open Jvm.ClassFile
def u (s : String) : CpInfo := .utf8 (stringToUtf16 s)
/-- a pool by its gaps: so many unusable entries, then the entry; so many at the end -/
def gap : Nat → List CpInfo → List CpInfo
  | 0, r => r
  | n + 1, r => .unusable :: gap n r
def poolList (es : List (Nat × CpInfo)) (last : Nat) : List CpInfo := es.foldr (fun e r => gap e.1 (e.2 :: r)) (gap last [])
def pool (es : List (Nat × CpInfo)) (last : Nat) : Array CpInfo := ⟨poolList es last⟩
def fileOf (pool : Array CpInfo) (this : Nat) (attrs : Array Attribute := #[]) (ms : Array MethodInfo := #[]) (fl : Nat := 33) (sup : Nat := 0) (ifs : Array Nat := #[]) (fds : Array FieldInfo := #[]) : ClassFile where
  minorVersion := 0
  majorVersion := 65
  constantPool := pool
  accessFlags := fl
  thisClass := this
  superClass := sup
  interfaces := ifs
  fields := fds
  methods := ms
  attributes := attrs
def plain (name : String) (sup : Option ClassId) : Class where
  name := name
  kind := .ordinary
  loader := none
  accessFlags := 33
  super := sup
  interfaces := #[]
  cf := none
  fields := #[]
  methods := #[]
  instanceTypes := #[]
  staticTypes := #[]
  resolved := #[]
  callSites := []
  init := .initialized
  statics := none
  mirror := none

def pool0 : Array CpInfo := pool [(5, u "<init>"), (0, u "()V"), (1, .class_ 10), (1, u "java/lang/Object")] 113

def k0c0 : Code := { maxStack := 0, maxLocals := 1, code := object_method_1_code, exceptionTable := #[], attributes := #[] }
def k0m0 : Method := { name := "<init>", desc := "()V", sig := { parameters := [], returnType := none }, accessFlags := 1, code := some k0c0 }
/-- java/lang/Object -/
def k0 : Class := { plain "java/lang/Object" none with
  accessFlags := 33
  interfaces := #[]
  cf := some (fileOf pool0 8 #[] #[{ accessFlags := 1, nameIndex := 5, descriptorIndex := 6, attributes := #[] }] 33 0 #[] #[])
  fields := #[]
  methods := #[k0m0]
  instanceTypes := #[]
  staticTypes := #[]
  resolved := Array.replicate 124 none
  statics := none }

def pool1 : Array CpInfo := pool [(2, .class_ 4), (1, u "java/lang/Object"), (0, u "<init>"), (0, u "()V"), (0, .class_ 8), (0, u "java/lang/String"), (0, .methodref 7 10), (0, .nameAndType 5 11), (0, u "([C)V"), (0, .methodref 13 14), (0, .class_ 15), (0, .nameAndType 16 17), (0, u "com/example/outboxd/outboxd/relay/OutcomeUnconfirmedPinLaw"), (0, u "draw"), (0, u "(IIII)Ljava/lang/String;"), (0, .methodref 19 20), (0, .class_ 21), (0, .nameAndType 22 23), (0, u "com/example/outboxd/outboxd/relay/Outcome"), (0, u "unconfirmed"), (0, u "(Ljava/lang/String;)Lcom/example/outboxd/outboxd/relay/Outcome;"), (0, .methodref 19 25), (0, .nameAndType 26 27), (0, u "kind"), (0, u "()Lcom/example/outboxd/outboxd/relay/Outcome$Kind;"), (0, .fieldref 29 30), (0, .class_ 31), (0, .nameAndType 32 33), (0, u "com/example/outboxd/outboxd/relay/Outcome$Kind"), (0, u "UNCONFIRMED"), (0, u "Lcom/example/outboxd/outboxd/relay/Outcome$Kind;"), (0, .methodref 19 35), (0, .nameAndType 36 37), (0, u "reason"), (0, u "()Ljava/lang/String;"), (0, .methodref 7 39), (0, .nameAndType 40 41), (0, u "length"), (0, u "()I"), (0, .methodref 7 43), (0, .nameAndType 44 45), (0, u "equals"), (0, u "(Ljava/lang/Object;)Z"), (5, u "law"), (0, u "(IIII)Z")] 4

def k1m0 : Method := { name := "<init>", desc := "()V", sig := { parameters := [], returnType := none }, accessFlags := 1, code := none }
def k1c1 : Code := { maxStack := 4, maxLocals := 8, code := method_2_code, exceptionTable := #[], attributes := #[] }
def k1m1 : Method := { name := "draw", desc := "(IIII)Ljava/lang/String;", sig := { parameters := [.int, .int, .int, .int], returnType := some (.object "java/lang/String") }, accessFlags := 10, code := some k1c1 }
def k1c2 : Code := { maxStack := 4, maxLocals := 8, code := code, exceptionTable := #[], attributes := #[] }
def k1m2 : Method := { name := "law", desc := "(IIII)Z", sig := { parameters := [.int, .int, .int, .int], returnType := some .boolean }, accessFlags := 9, code := some k1c2 }
/-- com/example/outboxd/outboxd/relay/OutcomeUnconfirmedPinLaw -/
def k1 : Class := { plain "com/example/outboxd/outboxd/relay/OutcomeUnconfirmedPinLaw" (some 0) with
  accessFlags := 49
  interfaces := #[]
  cf := some (fileOf pool1 13 #[] #[{ accessFlags := 1, nameIndex := 5, descriptorIndex := 6, attributes := #[] }, { accessFlags := 10, nameIndex := 16, descriptorIndex := 17, attributes := #[] }, { accessFlags := 9, nameIndex := 51, descriptorIndex := 52, attributes := #[] }] 49 2 #[] #[])
  fields := #[]
  methods := #[k1m0, k1m1, k1m2]
  instanceTypes := #[]
  staticTypes := #[]
  resolved := Array.replicate 57 none
  statics := none }

def pool2 : Array CpInfo := pool [(1, .class_ 2), (0, u "java/io/Serializable"), (0, .class_ 4), (0, u "java/lang/Object")] 2

/-- java/io/Serializable -/
def k2 : Class := { plain "java/io/Serializable" (some 0) with
  accessFlags := 1537
  interfaces := #[]
  cf := some (fileOf pool2 1 #[] #[] 1537 3 #[] #[])
  fields := #[]
  methods := #[]
  instanceTypes := #[]
  staticTypes := #[]
  resolved := Array.replicate 7 none
  statics := none }

def pool3 : Array CpInfo := pool [(1, .class_ 2), (0, u "java/lang/Comparable"), (0, .class_ 4), (0, u "java/lang/Object")] 7

/-- java/lang/Comparable -/
def k3 : Class := { plain "java/lang/Comparable" (some 0) with
  accessFlags := 1537
  interfaces := #[]
  cf := some (fileOf pool3 1 #[] #[] 1537 3 #[] #[])
  fields := #[]
  methods := #[]
  instanceTypes := #[]
  staticTypes := #[]
  resolved := Array.replicate 12 none
  statics := none }

def pool4 : Array CpInfo := pool [(2, .class_ 4), (1, u "java/lang/CharSequence"), (42, .class_ 48), (0, u "java/lang/CharSequence$1CodePointIterator"), (10, .class_ 60), (0, u "java/lang/CharSequence$1CharIterator"), (5, .class_ 67), (0, u "java/lang/Object")] 63

/-- java/lang/CharSequence -/
def k4 : Class := { plain "java/lang/CharSequence" (some 0) with
  accessFlags := 1537
  interfaces := #[]
  cf := some (fileOf pool4 2 #[.nestMembers #[47, 59]] #[] 1537 66 #[] #[])
  fields := #[]
  methods := #[]
  instanceTypes := #[]
  staticTypes := #[]
  resolved := Array.replicate 131 none
  statics := none }

def pool5 : Array CpInfo := pool [(1, .class_ 2), (0, u "java/lang/constant/Constable"), (0, .class_ 4), (0, u "java/lang/Object")] 6

/-- java/lang/constant/Constable -/
def k5 : Class := { plain "java/lang/constant/Constable" (some 0) with
  accessFlags := 1537
  interfaces := #[]
  cf := some (fileOf pool5 1 #[] #[] 1537 3 #[] #[])
  fields := #[]
  methods := #[]
  instanceTypes := #[]
  staticTypes := #[]
  resolved := Array.replicate 11 none
  statics := none }

def pool6 : Array CpInfo := pool [(1, .class_ 2), (0, u "java/lang/constant/ConstantDesc"), (0, .class_ 4), (0, u "java/lang/Object")] 32

/-- java/lang/constant/ConstantDesc -/
def k6 : Class := { plain "java/lang/constant/ConstantDesc" (some 0) with
  accessFlags := 1537
  interfaces := #[]
  cf := some (fileOf pool6 1 #[] #[] 1537 3 #[] #[])
  fields := #[]
  methods := #[]
  instanceTypes := #[]
  staticTypes := #[]
  resolved := Array.replicate 37 none
  statics := none }

def pool7 : Array CpInfo := pool [(1, .methodref 2 3), (0, .class_ 4), (0, .nameAndType 5 6), (0, u "java/lang/Object"), (0, u "<init>"), (0, u "()V"), (0, .string 8), (0, u ""), (0, .fieldref 10 11), (0, .class_ 12), (0, .nameAndType 13 14), (0, u "java/lang/String"), (0, u "value"), (0, u "[B"), (0, .fieldref 10 16), (0, .nameAndType 17 18), (0, u "coder"), (0, u "B"), (2, u "hash"), (0, u "I"), (2, u "hashIsZero"), (0, u "Z"), (0, .methodref 10 28), (0, .nameAndType 5 29), (0, u "([CIILjava/lang/Void;)V"), (8, .fieldref 10 39), (0, .nameAndType 40 26), (0, u "COMPACT_STRINGS"), (1, .class_ 44), (1, u "java/lang/StringUTF16"), (0, u "compress"), (1, .methodref 42 48), (0, .nameAndType 49 50), (0, u "coderFromArrayLen"), (0, u "([BI)B"), (126, .methodref 42 178), (0, .nameAndType 45 179), (0, u "([CII)[B"), (154, u "()I"), (0, .methodref 10 336), (0, .nameAndType 17 337), (0, u "()B"), (169, u "length"), (35, u "equals"), (29, u "(Ljava/lang/Object;)Z"), (1, .class_ 576), (0, u "java/lang/CharSequence"), (22, u "CASE_INSENSITIVE_ORDER"), (0, u "Ljava/util/Comparator;"), (409, u "([C)V"), (90, u "serialPersistentFields"), (0, u "[Ljava/io/ObjectStreamField;"), (0, .class_ 1104), (0, u "java/lang/String$CaseInsensitiveComparator"), (1, .class_ 1107), (0, u "java/io/Serializable"), (0, .class_ 1109), (0, u "java/lang/Comparable"), (0, .class_ 1111), (0, u "java/lang/constant/Constable"), (0, .class_ 1113), (0, u "java/lang/constant/ConstantDesc"), (2, u "serialVersionUID"), (0, u "J"), (3, u "REPL"), (0, u "C"), (2, u "LATIN1"), (1, u "UTF16")] 323

def k7m0 : Method := { name := "<init>", desc := "()V", sig := { parameters := [], returnType := none }, accessFlags := 1, code := none }
def k7c1 : Code := { maxStack := 5, maxLocals := 2, code := jdk_42_method_3_code, exceptionTable := #[], attributes := #[] }
def k7m1 : Method := { name := "<init>", desc := "([C)V", sig := { parameters := [(.array .char)], returnType := none }, accessFlags := 1, code := some k7c1 }
def k7c2 : Code := { maxStack := 2, maxLocals := 1, code := jdk_42_method_54_code, exceptionTable := #[], attributes := #[] }
def k7m2 : Method := { name := "length", desc := "()I", sig := { parameters := [], returnType := some .int }, accessFlags := 1, code := some k7c2 }
def k7c3 : Code := { maxStack := 2, maxLocals := 3, code := jdk_42_method_66_code, exceptionTable := #[], attributes := #[] }
def k7m3 : Method := { name := "equals", desc := "(Ljava/lang/Object;)Z", sig := { parameters := [(.object "java/lang/Object")], returnType := some .boolean }, accessFlags := 1, code := some k7c3 }
def k7c4 : Code := { maxStack := 4, maxLocals := 6, code := jdk_42_method_149_code, exceptionTable := #[], attributes := #[] }
def k7m4 : Method := { name := "<init>", desc := "([CIILjava/lang/Void;)V", sig := { parameters := [(.array .char), .int, .int, (.object "java/lang/Void")], returnType := none }, accessFlags := 2, code := some k7c4 }
def k7c5 : Code := { maxStack := 1, maxLocals := 1, code := jdk_42_method_152_code, exceptionTable := #[], attributes := #[] }
def k7m5 : Method := { name := "coder", desc := "()B", sig := { parameters := [], returnType := some .byte }, accessFlags := 0, code := some k7c5 }
/-- java/lang/String -/
def k7 : Class := { plain "java/lang/String" (some 0) with
  accessFlags := 49
  interfaces := #[2, 3, 4, 5, 6]
  cf := some (fileOf pool7 10 #[.nestMembers #[1103]] #[{ accessFlags := 1, nameIndex := 5, descriptorIndex := 6, attributes := #[] }, { accessFlags := 1, nameIndex := 5, descriptorIndex := 1010, attributes := #[] }, { accessFlags := 1, nameIndex := 507, descriptorIndex := 334, attributes := #[] }, { accessFlags := 1, nameIndex := 543, descriptorIndex := 573, attributes := #[] }, { accessFlags := 2, nameIndex := 5, descriptorIndex := 29, attributes := #[] }, { accessFlags := 0, nameIndex := 17, descriptorIndex := 337, attributes := #[] }] 49 2 #[1106, 1108, 575, 1110, 1112] #[{ accessFlags := 18, nameIndex := 13, descriptorIndex := 14, attributes := #[] }, { accessFlags := 18, nameIndex := 17, descriptorIndex := 18, attributes := #[] }, { accessFlags := 2, nameIndex := 21, descriptorIndex := 22, attributes := #[] }, { accessFlags := 2, nameIndex := 25, descriptorIndex := 26, attributes := #[] }, { accessFlags := 26, nameIndex := 1116, descriptorIndex := 1117, attributes := #[] }, { accessFlags := 24, nameIndex := 40, descriptorIndex := 26, attributes := #[] }, { accessFlags := 26, nameIndex := 1101, descriptorIndex := 1102, attributes := #[] }, { accessFlags := 26, nameIndex := 1121, descriptorIndex := 1122, attributes := #[] }, { accessFlags := 25, nameIndex := 599, descriptorIndex := 600, attributes := #[] }, { accessFlags := 24, nameIndex := 1125, descriptorIndex := 18, attributes := #[] }, { accessFlags := 24, nameIndex := 1127, descriptorIndex := 18, attributes := #[] }])
  fields := #[{ name := "value", type := (.array .byte), accessFlags := 18, slot := 0, constantValue := 0 }, { name := "coder", type := .byte, accessFlags := 18, slot := 1, constantValue := 0 }, { name := "hash", type := .int, accessFlags := 2, slot := 2, constantValue := 0 }, { name := "hashIsZero", type := .boolean, accessFlags := 2, slot := 3, constantValue := 0 }, { name := "serialVersionUID", type := .long, accessFlags := 26, slot := 0, constantValue := 0 }, { name := "COMPACT_STRINGS", type := .boolean, accessFlags := 24, slot := 1, constantValue := 0 }, { name := "serialPersistentFields", type := (.array (.object "java/io/ObjectStreamField")), accessFlags := 26, slot := 2, constantValue := 0 }, { name := "REPL", type := .char, accessFlags := 26, slot := 3, constantValue := 0 }, { name := "CASE_INSENSITIVE_ORDER", type := (.object "java/util/Comparator"), accessFlags := 25, slot := 4, constantValue := 0 }, { name := "LATIN1", type := .byte, accessFlags := 24, slot := 5, constantValue := 0 }, { name := "UTF16", type := .byte, accessFlags := 24, slot := 6, constantValue := 0 }]
  methods := #[k7m0, k7m1, k7m2, k7m3, k7m4, k7m5]
  instanceTypes := #[(.array .byte), .byte, .int, .boolean]
  staticTypes := #[.long, .boolean, (.array (.object "java/io/ObjectStreamField")), .char, (.object "java/util/Comparator"), .byte, .byte]
  resolved := Array.replicate 1451 none
  statics := some 0 }

def pool8 : Array CpInfo := pool [(6, .class_ 8), (1, u "java/lang/Object"), (0, u "<init>"), (0, u "()V"), (1, .class_ 14), (1, u "java/lang/StringUTF16"), (31, u "$assertionsDisabled"), (0, u "Z"), (13, u "HI_BYTE_SHIFT"), (0, u "I"), (2, u "LO_BYTE_SHIFT"), (49, .methodref 12 116), (0, .nameAndType 117 118), (0, u "compress"), (0, u "([CI[BII)I"), (3, u "([CII)[B"), (138, u "coderFromArrayLen"), (0, u "([BI)B"), (106, .class_ 371), (1, u "java/lang/StringUTF16$LinesSpliterator"), (58, u "MAX_LENGTH"), (196, .class_ 628), (0, u "java/lang/StringUTF16$CodePointsSpliterator"), (0, .class_ 630), (0, u "java/lang/StringUTF16$CharsSpliterator")] 4

def k8m0 : Method := { name := "<init>", desc := "()V", sig := { parameters := [], returnType := none }, accessFlags := 0, code := none }
def k8c1 : Code := { maxStack := 2, maxLocals := 2, code := jdk_52_method_15_code, exceptionTable := #[], attributes := #[] }
def k8m1 : Method := { name := "coderFromArrayLen", desc := "([BI)B", sig := { parameters := [(.array .byte), .int], returnType := some .byte }, accessFlags := 8, code := some k8c1 }
def k8c2 : Code := { maxStack := 5, maxLocals := 6, code := jdk_52_method_16_code, exceptionTable := #[], attributes := #[] }
def k8m2 : Method := { name := "compress", desc := "([CII)[B", sig := { parameters := [(.array .char), .int, .int], returnType := some (.array .byte) }, accessFlags := 9, code := some k8c2 }
def k8c3 : Code := { maxStack := 3, maxLocals := 7, code := jdk_52_method_21_code, exceptionTable := #[], attributes := #[] }
def k8m3 : Method := { name := "compress", desc := "([CI[BII)I", sig := { parameters := [(.array .char), .int, (.array .byte), .int, .int], returnType := some .int }, accessFlags := 9, code := some k8c3 }
/-- java/lang/StringUTF16 -/
def k8 : Class := { plain "java/lang/StringUTF16" (some 0) with
  accessFlags := 48
  interfaces := #[]
  cf := some (fileOf pool8 12 #[.nestMembers #[627, 629, 369]] #[{ accessFlags := 0, nameIndex := 9, descriptorIndex := 10, attributes := #[] }, { accessFlags := 8, nameIndex := 261, descriptorIndex := 262, attributes := #[] }, { accessFlags := 9, nameIndex := 117, descriptorIndex := 122, attributes := #[] }, { accessFlags := 9, nameIndex := 117, descriptorIndex := 118, attributes := #[] }] 48 6 #[] #[{ accessFlags := 26, nameIndex := 61, descriptorIndex := 62, attributes := #[] }, { accessFlags := 26, nameIndex := 65, descriptorIndex := 62, attributes := #[] }, { accessFlags := 24, nameIndex := 430, descriptorIndex := 62, attributes := #[] }, { accessFlags := 4120, nameIndex := 46, descriptorIndex := 47, attributes := #[] }])
  fields := #[{ name := "HI_BYTE_SHIFT", type := .int, accessFlags := 26, slot := 0, constantValue := 0 }, { name := "LO_BYTE_SHIFT", type := .int, accessFlags := 26, slot := 1, constantValue := 0 }, { name := "MAX_LENGTH", type := .int, accessFlags := 24, slot := 2, constantValue := 0 }, { name := "$assertionsDisabled", type := .boolean, accessFlags := 4120, slot := 3, constantValue := 0 }]
  methods := #[k8m0, k8m1, k8m2, k8m3]
  instanceTypes := #[]
  staticTypes := #[.int, .int, .int, .boolean]
  resolved := Array.replicate 635 none
  statics := none }

def pool9 : Array CpInfo := pool [(1, .methodref 2 3), (0, .class_ 4), (0, .nameAndType 5 6), (0, u "java/lang/Object"), (0, u "<init>"), (0, u "()V"), (0, .fieldref 8 9), (0, .class_ 10), (0, .nameAndType 11 12), (0, u "com/example/outboxd/outboxd/relay/Outcome"), (0, u "kind"), (0, u "Lcom/example/outboxd/outboxd/relay/Outcome$Kind;"), (0, .fieldref 8 14), (0, .nameAndType 15 16), (0, u "reason"), (0, u "Ljava/lang/String;"), (2, u "CONFIRMED"), (0, u "Lcom/example/outboxd/outboxd/relay/Outcome;"), (1, .class_ 24), (1, u "com/example/outboxd/outboxd/relay/Outcome$Kind"), (1, .string 15), (0, .methodref 28 29), (0, .class_ 30), (0, .nameAndType 31 32), (0, u "java/util/Objects"), (0, u "requireNonNull"), (0, u "(Ljava/lang/Object;Ljava/lang/String;)Ljava/lang/Object;"), (0, .class_ 34), (0, u "java/lang/String"), (0, .methodref 8 36), (0, .nameAndType 5 37), (0, u "(Lcom/example/outboxd/outboxd/relay/Outcome$Kind;Ljava/lang/String;)V"), (0, .fieldref 22 39), (0, .nameAndType 40 12), (0, u "UNCONFIRMED"), (3, u "()Ljava/lang/String;"), (15, u "(Ljava/lang/String;)Lcom/example/outboxd/outboxd/relay/Outcome;"), (0, u "unconfirmed"), (0, u "()Lcom/example/outboxd/outboxd/relay/Outcome$Kind;")] 21

def k9c0 : Code := { maxStack := 2, maxLocals := 3, code := prog_14_method_1_code, exceptionTable := #[], attributes := #[] }
def k9m0 : Method := { name := "<init>", desc := "(Lcom/example/outboxd/outboxd/relay/Outcome$Kind;Ljava/lang/String;)V", sig := { parameters := [(.object "com/example/outboxd/outboxd/relay/Outcome$Kind"), (.object "java/lang/String")], returnType := none }, accessFlags := 2, code := some k9c0 }
def k9c1 : Code := { maxStack := 5, maxLocals := 1, code := prog_14_method_4_code, exceptionTable := #[], attributes := #[] }
def k9m1 : Method := { name := "unconfirmed", desc := "(Ljava/lang/String;)Lcom/example/outboxd/outboxd/relay/Outcome;", sig := { parameters := [(.object "java/lang/String")], returnType := some (.object "com/example/outboxd/outboxd/relay/Outcome") }, accessFlags := 9, code := some k9c1 }
def k9c2 : Code := { maxStack := 1, maxLocals := 1, code := prog_14_method_5_code, exceptionTable := #[], attributes := #[] }
def k9m2 : Method := { name := "kind", desc := "()Lcom/example/outboxd/outboxd/relay/Outcome$Kind;", sig := { parameters := [], returnType := some (.object "com/example/outboxd/outboxd/relay/Outcome$Kind") }, accessFlags := 1, code := some k9c2 }
def k9c3 : Code := { maxStack := 1, maxLocals := 1, code := prog_14_method_6_code, exceptionTable := #[], attributes := #[] }
def k9m3 : Method := { name := "reason", desc := "()Ljava/lang/String;", sig := { parameters := [], returnType := some (.object "java/lang/String") }, accessFlags := 1, code := some k9c3 }
/-- com/example/outboxd/outboxd/relay/Outcome -/
def k9 : Class := { plain "com/example/outboxd/outboxd/relay/Outcome" (some 0) with
  accessFlags := 33
  interfaces := #[]
  cf := some (fileOf pool9 8 #[.nestMembers #[22]] #[{ accessFlags := 2, nameIndex := 5, descriptorIndex := 37, attributes := #[] }, { accessFlags := 9, nameIndex := 61, descriptorIndex := 60, attributes := #[] }, { accessFlags := 1, nameIndex := 11, descriptorIndex := 62, attributes := #[] }, { accessFlags := 1, nameIndex := 15, descriptorIndex := 44, attributes := #[] }] 33 2 #[] #[{ accessFlags := 26, nameIndex := 19, descriptorIndex := 20, attributes := #[] }, { accessFlags := 18, nameIndex := 11, descriptorIndex := 12, attributes := #[] }, { accessFlags := 18, nameIndex := 15, descriptorIndex := 16, attributes := #[] }])
  fields := #[{ name := "CONFIRMED", type := (.object "com/example/outboxd/outboxd/relay/Outcome"), accessFlags := 26, slot := 0, constantValue := 0 }, { name := "kind", type := (.object "com/example/outboxd/outboxd/relay/Outcome$Kind"), accessFlags := 18, slot := 0, constantValue := 0 }, { name := "reason", type := (.object "java/lang/String"), accessFlags := 18, slot := 1, constantValue := 0 }]
  methods := #[k9m0, k9m1, k9m2, k9m3]
  instanceTypes := #[(.object "com/example/outboxd/outboxd/relay/Outcome$Kind"), (.object "java/lang/String")]
  staticTypes := #[(.object "com/example/outboxd/outboxd/relay/Outcome")]
  resolved := Array.replicate 84 none
  statics := none }

def pool10 : Array CpInfo := pool [(2, .class_ 4), (1, u "java/lang/Enum"), (0, u "name"), (0, u "Ljava/lang/String;"), (2, u "ordinal"), (0, u "I"), (1, .class_ 14), (1, u "java/lang/Object"), (4, u "hash"), (86, .class_ 108), (1, u "java/lang/Enum$EnumDesc"), (2, .class_ 112), (0, u "java/lang/constant/Constable"), (0, .class_ 114), (0, u "java/lang/Comparable"), (0, .class_ 116), (0, u "java/io/Serializable")] 87

/-- java/lang/Enum -/
def k10 : Class := { plain "java/lang/Enum" (some 0) with
  accessFlags := 1057
  interfaces := #[5, 3, 2]
  cf := some (fileOf pool10 2 #[.nestMembers #[106]] #[] 1057 12 #[111, 113, 115] #[{ accessFlags := 18, nameIndex := 5, descriptorIndex := 6, attributes := #[] }, { accessFlags := 18, nameIndex := 9, descriptorIndex := 10, attributes := #[] }, { accessFlags := 2, nameIndex := 19, descriptorIndex := 10, attributes := #[] }])
  fields := #[{ name := "name", type := (.object "java/lang/String"), accessFlags := 18, slot := 0, constantValue := 0 }, { name := "ordinal", type := .int, accessFlags := 18, slot := 1, constantValue := 0 }, { name := "hash", type := .int, accessFlags := 2, slot := 2, constantValue := 0 }]
  methods := #[]
  instanceTypes := #[(.object "java/lang/String"), .int, .int]
  staticTypes := #[]
  resolved := Array.replicate 204 none
  statics := none }

def pool11 : Array CpInfo := pool [(1, .class_ 2), (0, u "com/example/outboxd/outboxd/relay/Outcome$Kind"), (2, u "CONFIRMED"), (0, u "Lcom/example/outboxd/outboxd/relay/Outcome$Kind;"), (2, u "FAILED"), (2, u "UNCONFIRMED"), (2, u "$VALUES"), (0, u "[Lcom/example/outboxd/outboxd/relay/Outcome$Kind;"), (6, .class_ 25), (1, u "java/lang/Enum"), (26, .class_ 53), (0, u "com/example/outboxd/outboxd/relay/Outcome")] 2

/-- com/example/outboxd/outboxd/relay/Outcome$Kind -/
def k11 : Class := { plain "com/example/outboxd/outboxd/relay/Outcome$Kind" (some 10) with
  accessFlags := 16433
  interfaces := #[]
  cf := some (fileOf pool11 1 #[.nestHost 52] #[] 16433 23 #[] #[{ accessFlags := 16409, nameIndex := 5, descriptorIndex := 6, attributes := #[] }, { accessFlags := 16409, nameIndex := 9, descriptorIndex := 6, attributes := #[] }, { accessFlags := 16409, nameIndex := 12, descriptorIndex := 6, attributes := #[] }, { accessFlags := 4122, nameIndex := 15, descriptorIndex := 16, attributes := #[] }])
  fields := #[{ name := "CONFIRMED", type := (.object "com/example/outboxd/outboxd/relay/Outcome$Kind"), accessFlags := 16409, slot := 0, constantValue := 0 }, { name := "FAILED", type := (.object "com/example/outboxd/outboxd/relay/Outcome$Kind"), accessFlags := 16409, slot := 1, constantValue := 0 }, { name := "UNCONFIRMED", type := (.object "com/example/outboxd/outboxd/relay/Outcome$Kind"), accessFlags := 16409, slot := 2, constantValue := 0 }, { name := "$VALUES", type := (.array (.object "com/example/outboxd/outboxd/relay/Outcome$Kind")), accessFlags := 4122, slot := 3, constantValue := 0 }]
  methods := #[]
  instanceTypes := #[(.object "java/lang/String"), .int, .int]
  staticTypes := #[(.object "com/example/outboxd/outboxd/relay/Outcome$Kind"), (.object "com/example/outboxd/outboxd/relay/Outcome$Kind"), (.object "com/example/outboxd/outboxd/relay/Outcome$Kind"), (.array (.object "com/example/outboxd/outboxd/relay/Outcome$Kind"))]
  resolved := Array.replicate 56 none
  statics := some 1 }

def pool12 : Array CpInfo := pool [(2, .class_ 4), (1, u "java/lang/Object"), (0, u "<init>"), (0, u "()V"), (35, .class_ 44), (1, u "java/util/Objects"), (0, u "requireNonNull"), (48, u "(Ljava/lang/Object;Ljava/lang/String;)Ljava/lang/Object;")] 89

def k12m0 : Method := { name := "<init>", desc := "()V", sig := { parameters := [], returnType := none }, accessFlags := 2, code := none }
def k12c1 : Code := { maxStack := 3, maxLocals := 2, code := jdk_31_method_11_code, exceptionTable := #[], attributes := #[] }
def k12m1 : Method := { name := "requireNonNull", desc := "(Ljava/lang/Object;Ljava/lang/String;)Ljava/lang/Object;", sig := { parameters := [(.object "java/lang/Object"), (.object "java/lang/String")], returnType := some (.object "java/lang/Object") }, accessFlags := 9, code := some k12c1 }
/-- java/util/Objects -/
def k12 : Class := { plain "java/util/Objects" (some 0) with
  accessFlags := 49
  interfaces := #[]
  cf := some (fileOf pool12 42 #[] #[{ accessFlags := 2, nameIndex := 5, descriptorIndex := 6, attributes := #[] }, { accessFlags := 9, nameIndex := 45, descriptorIndex := 94, attributes := #[] }] 49 2 #[] #[])
  fields := #[]
  methods := #[k12m0, k12m1]
  instanceTypes := #[]
  staticTypes := #[]
  resolved := Array.replicate 184 none
  statics := none }

def pool13 : Array CpInfo := pool [(4, .class_ 6), (1, u "java/lang/Object"), (0, u "<init>"), (0, u "()V"), (5, .class_ 16), (1, u "java/lang/StringLatin1"), (104, u "$assertionsDisabled"), (0, u "Z"), (98, .class_ 223), (1, u "java/lang/StringLatin1$LinesSpliterator"), (166, .class_ 391), (0, u "java/lang/StringLatin1$CharsSpliterator")] 3

def k13m0 : Method := { name := "<init>", desc := "()V", sig := { parameters := [], returnType := none }, accessFlags := 0, code := none }
/-- java/lang/StringLatin1 -/
def k13 : Class := { plain "java/lang/StringLatin1" (some 0) with
  accessFlags := 48
  interfaces := #[]
  cf := some (fileOf pool13 14 #[.nestMembers #[390, 221]] #[{ accessFlags := 0, nameIndex := 7, descriptorIndex := 8, attributes := #[] }] 48 4 #[] #[{ accessFlags := 4120, nameIndex := 121, descriptorIndex := 122, attributes := #[] }])
  fields := #[{ name := "$assertionsDisabled", type := .boolean, accessFlags := 4120, slot := 0, constantValue := 0 }]
  methods := #[k13m0]
  instanceTypes := #[]
  staticTypes := #[.boolean]
  resolved := Array.replicate 395 none
  statics := none }

def pool14 : Array CpInfo := pool [(2, .class_ 4), (1, u "java/lang/Object"), (0, u "<init>"), (0, u "()V"), (17, .class_ 26), (1, u "jdk/internal/util/Preconditions"), (28, .class_ 56), (0, u "jdk/internal/util/Preconditions$4"), (57, .class_ 115), (0, u "jdk/internal/util/Preconditions$1"), (7, u "SIOOBE_FORMATTER"), (0, u "Ljava/util/function/BiFunction;"), (0, .class_ 126), (0, u "jdk/internal/util/Preconditions$2"), (3, u "AIOOBE_FORMATTER"), (0, .class_ 132), (0, u "jdk/internal/util/Preconditions$3"), (3, u "IOOBE_FORMATTER")] 57

def k14m0 : Method := { name := "<init>", desc := "()V", sig := { parameters := [], returnType := none }, accessFlags := 1, code := none }
/-- jdk/internal/util/Preconditions -/
def k14 : Class := { plain "jdk/internal/util/Preconditions" (some 0) with
  accessFlags := 33
  interfaces := #[]
  cf := some (fileOf pool14 24 #[.nestMembers #[55, 131, 125, 114]] #[{ accessFlags := 1, nameIndex := 5, descriptorIndex := 6, attributes := #[] }] 33 2 #[] #[{ accessFlags := 25, nameIndex := 123, descriptorIndex := 124, attributes := #[] }, { accessFlags := 25, nameIndex := 130, descriptorIndex := 124, attributes := #[] }, { accessFlags := 25, nameIndex := 136, descriptorIndex := 124, attributes := #[] }])
  fields := #[{ name := "SIOOBE_FORMATTER", type := (.object "java/util/function/BiFunction"), accessFlags := 25, slot := 0, constantValue := 0 }, { name := "AIOOBE_FORMATTER", type := (.object "java/util/function/BiFunction"), accessFlags := 25, slot := 1, constantValue := 0 }, { name := "IOOBE_FORMATTER", type := (.object "java/util/function/BiFunction"), accessFlags := 25, slot := 2, constantValue := 0 }]
  methods := #[k14m0]
  instanceTypes := #[]
  staticTypes := #[(.object "java/util/function/BiFunction"), (.object "java/util/function/BiFunction"), (.object "java/util/function/BiFunction")]
  resolved := Array.replicate 194 none
  statics := some 2 }

def pool15 : Array CpInfo := pool [(9, u "<init>"), (6, .class_ 18), (1, u "java/lang/Object"), (0, u "()V"), (1, .class_ 23), (1, u "jdk/internal/util/ArraysSupport"), (0, u "LOG2_ARRAY_LONG_INDEX_SCALE"), (0, u "I"), (2, u "U"), (0, u "Ljdk/internal/misc/Unsafe;"), (8, u "BIG_ENDIAN"), (0, u "Z"), (8, u "LOG2_BYTE_BIT_SIZE"), (4, u "LOG2_ARRAY_INT_INDEX_SCALE"), (54, u "JLA"), (0, u "Ljdk/internal/access/JavaLangAccess;"), (11, u "LOG2_ARRAY_BOOLEAN_INDEX_SCALE"), (9, u "LOG2_ARRAY_BYTE_INDEX_SCALE"), (5, u "LOG2_ARRAY_CHAR_INDEX_SCALE"), (5, u "LOG2_ARRAY_SHORT_INDEX_SCALE"), (18, u "LOG2_ARRAY_FLOAT_INDEX_SCALE"), (24, u "LOG2_ARRAY_DOUBLE_INDEX_SCALE"), (89, u "T_BOOLEAN"), (2, u "T_CHAR"), (1, u "T_FLOAT"), (1, u "T_DOUBLE"), (1, u "T_BYTE"), (1, u "T_SHORT"), (1, u "T_INT"), (1, u "T_LONG"), (1, u "SOFT_MAX_ARRAY_LENGTH")] 83

def k15m0 : Method := { name := "<init>", desc := "()V", sig := { parameters := [], returnType := none }, accessFlags := 2, code := none }
/-- jdk/internal/util/ArraysSupport -/
def k15 : Class := { plain "jdk/internal/util/ArraysSupport" (some 0) with
  accessFlags := 33
  interfaces := #[]
  cf := some (fileOf pool15 21 #[] #[{ accessFlags := 2, nameIndex := 9, descriptorIndex := 19, attributes := #[] }] 33 16 #[] #[{ accessFlags := 24, nameIndex := 28, descriptorIndex := 29, attributes := #[] }, { accessFlags := 26, nameIndex := 38, descriptorIndex := 39, attributes := #[] }, { accessFlags := 25, nameIndex := 121, descriptorIndex := 25, attributes := #[] }, { accessFlags := 25, nameIndex := 131, descriptorIndex := 25, attributes := #[] }, { accessFlags := 25, nameIndex := 137, descriptorIndex := 25, attributes := #[] }, { accessFlags := 25, nameIndex := 143, descriptorIndex := 25, attributes := #[] }, { accessFlags := 25, nameIndex := 53, descriptorIndex := 25, attributes := #[] }, { accessFlags := 25, nameIndex := 24, descriptorIndex := 25, attributes := #[] }, { accessFlags := 25, nameIndex := 162, descriptorIndex := 25, attributes := #[] }, { accessFlags := 25, nameIndex := 187, descriptorIndex := 25, attributes := #[] }, { accessFlags := 26, nameIndex := 48, descriptorIndex := 25, attributes := #[] }, { accessFlags := 25, nameIndex := 277, descriptorIndex := 25, attributes := #[] }, { accessFlags := 25, nameIndex := 280, descriptorIndex := 25, attributes := #[] }, { accessFlags := 25, nameIndex := 282, descriptorIndex := 25, attributes := #[] }, { accessFlags := 25, nameIndex := 284, descriptorIndex := 25, attributes := #[] }, { accessFlags := 25, nameIndex := 286, descriptorIndex := 25, attributes := #[] }, { accessFlags := 25, nameIndex := 288, descriptorIndex := 25, attributes := #[] }, { accessFlags := 25, nameIndex := 290, descriptorIndex := 25, attributes := #[] }, { accessFlags := 25, nameIndex := 292, descriptorIndex := 25, attributes := #[] }, { accessFlags := 26, nameIndex := 108, descriptorIndex := 109, attributes := #[] }, { accessFlags := 25, nameIndex := 294, descriptorIndex := 25, attributes := #[] }])
  fields := #[{ name := "U", type := (.object "jdk/internal/misc/Unsafe"), accessFlags := 24, slot := 0, constantValue := 0 }, { name := "BIG_ENDIAN", type := .boolean, accessFlags := 26, slot := 1, constantValue := 0 }, { name := "LOG2_ARRAY_BOOLEAN_INDEX_SCALE", type := .int, accessFlags := 25, slot := 2, constantValue := 0 }, { name := "LOG2_ARRAY_BYTE_INDEX_SCALE", type := .int, accessFlags := 25, slot := 3, constantValue := 0 }, { name := "LOG2_ARRAY_CHAR_INDEX_SCALE", type := .int, accessFlags := 25, slot := 4, constantValue := 0 }, { name := "LOG2_ARRAY_SHORT_INDEX_SCALE", type := .int, accessFlags := 25, slot := 5, constantValue := 0 }, { name := "LOG2_ARRAY_INT_INDEX_SCALE", type := .int, accessFlags := 25, slot := 6, constantValue := 0 }, { name := "LOG2_ARRAY_LONG_INDEX_SCALE", type := .int, accessFlags := 25, slot := 7, constantValue := 0 }, { name := "LOG2_ARRAY_FLOAT_INDEX_SCALE", type := .int, accessFlags := 25, slot := 8, constantValue := 0 }, { name := "LOG2_ARRAY_DOUBLE_INDEX_SCALE", type := .int, accessFlags := 25, slot := 9, constantValue := 0 }, { name := "LOG2_BYTE_BIT_SIZE", type := .int, accessFlags := 26, slot := 10, constantValue := 0 }, { name := "T_BOOLEAN", type := .int, accessFlags := 25, slot := 11, constantValue := 0 }, { name := "T_CHAR", type := .int, accessFlags := 25, slot := 12, constantValue := 0 }, { name := "T_FLOAT", type := .int, accessFlags := 25, slot := 13, constantValue := 0 }, { name := "T_DOUBLE", type := .int, accessFlags := 25, slot := 14, constantValue := 0 }, { name := "T_BYTE", type := .int, accessFlags := 25, slot := 15, constantValue := 0 }, { name := "T_SHORT", type := .int, accessFlags := 25, slot := 16, constantValue := 0 }, { name := "T_INT", type := .int, accessFlags := 25, slot := 17, constantValue := 0 }, { name := "T_LONG", type := .int, accessFlags := 25, slot := 18, constantValue := 0 }, { name := "JLA", type := (.object "jdk/internal/access/JavaLangAccess"), accessFlags := 26, slot := 19, constantValue := 0 }, { name := "SOFT_MAX_ARRAY_LENGTH", type := .int, accessFlags := 25, slot := 20, constantValue := 0 }]
  methods := #[k15m0]
  instanceTypes := #[]
  staticTypes := #[(.object "jdk/internal/misc/Unsafe"), .boolean, .int, .int, .int, .int, .int, .int, .int, .int, .int, .int, .int, .int, .int, .int, .int, .int, .int, (.object "jdk/internal/access/JavaLangAccess"), .int]
  resolved := Array.replicate 378 none
  statics := none }

def pool16 : Array CpInfo := pool [(1, u "java/lang/Cloneable"), (0, .class_ 1), (0, u "java/lang/Object"), (0, .class_ 3)] 3

/-- java/lang/Cloneable -/
def k16 : Class := { plain "java/lang/Cloneable" (some 0) with
  accessFlags := 1537
  interfaces := #[]
  cf := some (fileOf pool16 2 #[] #[] 1537 4 #[] #[])
  fields := #[]
  methods := #[]
  instanceTypes := #[]
  staticTypes := #[]
  resolved := Array.replicate 8 none
  statics := none }

/-- the primitive byte -/
def k17 : Class := { plain "byte" none with kind := .primitive 'B', accessFlags := 0x411 }
/-- [B -/
def k18 : Class := { plain "[B" (some 0) with kind := .array 17 .byte, interfaces := #[16, 2], accessFlags := 1041 }

/-- the primitive char -/
def k19 : Class := { plain "char" none with kind := .primitive 'C', accessFlags := 0x411 }
/-- [C -/
def k20 : Class := { plain "[C" (some 0) with kind := .array 19 .char, interfaces := #[16, 2], accessFlags := 1041 }

def heap : Heap := #[{ cls := 7, slots := #[.long 0, .int 1, .null, .int 0, .null, .int 0, .int 0], vm := .statics 7 },
  { cls := 11, slots := #[.null, .null, .ref 3, .null], vm := .statics 11 },
  { cls := 14, slots := #[.null, .null, .null], vm := .statics 14 },
  { cls := 11, slots := #[.null, .int 0, .int 0], vm := .none }]
def classes : Array Class := #[k0, k1, k2, k3, k4, k5, k6, k7, k8, k9, k10, k11, k12, k13, k14, k15, k16, k17, k18, k19, k20]
def interned : List (Array UInt16 × Addr) := []
def slotsUsed : Nat := 17
def theMethod : MethodId := ⟨1, 2⟩
def args0 : Array Value := #[.int 1, .int 2, .int 3, .int 2]
def aboutOver (below : List Frame) : State where
  vm := { classes := classes, interned := interned.toArray }
  heap := heap
  slotsUsed := slotsUsed
  threads := #[{ frames := .invoking theMethod args0 :: below }]
def below0 : List Frame := [.native { method := ⟨0, 0⟩, args := #[] }]
def about1 : State := aboutOver below0
def p0 : Program := .bare "" "" ""
def e0 : Env := launch0.env 0 0 0
theorem w_frames : about1.frames = Frame.invoking theMethod args0 :: below0 := rfl
set_option maxRecDepth 65536 in
theorem w_args : argsFit about1.vm theMethod args0 = true := by decide +kernel
set_option maxRecDepth 65536 in
theorem w_heap : heapFits about1 = true := by decide +kernel
set_option maxRecDepth 65536 in
theorem w_runnable : about1.curStatus? = some .runnable := by decide +kernel
set_option maxRecDepth 65536 in
theorem w_alone : about1.alone = true := by decide +kernel
set_option maxRecDepth 65536 in
theorem w_named : about1.methodNamed? x = some theMethod := by decide +kernel
set_option maxRecDepth 65536 in
theorem w_hears : about1.hears theMethod below0 = true := by decide +kernel
set_option maxRecDepth 65536 in
theorem w_ripe : about1.ripe theMethod args0 below0 = true := by decide +kernel
theorem w_running : about1.status = .running := rfl
set_option maxRecDepth 65536 in
theorem w_room : about1.hasRoom e0.platform room_1 = true :=
  launch0.hasRoom_least _ room_1 (by decide +kernel) (by decide +kernel) (by decide +kernel) (by decide +kernel) (by decide +kernel) (by decide +kernel)
theorem allAtoms_all (ts : List Jvm.Cond) (a : Array Jvm.Value) (st : Jvm.State) : (allAtoms ts).before a st = ts.all (fun c => c.before a st) := by
  induction ts with
  | nil => rfl
  | cons c t ih =>
    show (Jvm.Cond.and c (allAtoms t)).before a st = _
    rw [Jvm.Cond.before_and, ih, List.all_cons]
def words1 : List Jvm.Cond := Jvm.Cond.code x code maxLocals ret :: tables_1
/-- a 'code' word, met by the world's own term for the bytes: nothing is compared byte by byte -/
theorem code_word {y : MethodName} {bytes : ByteArray} {mx : Nat} {rt : Option FieldType} {a : Array Value} {s : State} {m : MethodId} {meth : Method} {c : Code} (h1 : s.methodNamed? y = some m) (h2 : s.vm.method? m = some meth) (h3 : meth.code = some c) (h4 : c.code = bytes)
    (h5 : (c.maxLocals == mx && c.exceptionTable.isEmpty && decide (c.maxStack ≤ mostOperands) && decide (meth.sig.returnType = rt) && !meth.locks && decide (parseMethodDescriptor y.desc = some meth.sig)) = true) : (Jvm.Cond.code y bytes mx rt).before a s = true := by
  simp only [Bool.and_eq_true, beq_iff_eq, Bool.not_eq_true', decide_eq_true_eq] at h5
  obtain ⟨⟨⟨⟨⟨g1, g2⟩, g3⟩, g4⟩, g5⟩, g6⟩ := h5
  simp [Cond.before, Cond.holds, Cond.value, h1, h2, h3, h4, g1, g2, g3, g4, g5, g6]
def isCode : Jvm.Cond → Bool
  | .code _ _ _ _ => true
  | _ => false
theorem all_split {L : List Jvm.Cond} {P : Jvm.Cond → Bool} (h1 : L.all (fun c => isCode c || P c) = true) (h2 : ∀ c ∈ L.filter isCode, P c = true) : L.all P = true := by
  refine List.all_eq_true.mpr fun c hc => ?_
  have h := List.all_eq_true.mp h1 c hc
  rcases Bool.eq_false_or_eq_true (isCode c) with hi | hi
  · exact h2 c (List.mem_filter.mpr ⟨hc, hi⟩)
  · simpa [hi] using h
set_option maxRecDepth 65536 in
theorem w_c0 : (Jvm.Cond.code x code maxLocals ret).before args0 about1 = true := code_word (m := ⟨1, 2⟩) (meth := k1m2) (c := k1c2) (by decide +kernel) rfl rfl rfl (by decide +kernel)
set_option maxRecDepth 65536 in
theorem w_c1 : (Jvm.Cond.code ({ cls := "com/example/outboxd/outboxd/relay/OutcomeUnconfirmedPinLaw", name := "draw", desc := "(IIII)Ljava/lang/String;" } : Jvm.MethodName) method_2_code (8 : Nat) (Option.some (Jvm.ClassFile.FieldType.object "java/lang/String"))).before args0 about1 = true := code_word (m := ⟨1, 1⟩) (meth := k1m1) (c := k1c1) (by decide +kernel) rfl rfl rfl (by decide +kernel)
set_option maxRecDepth 65536 in
theorem w_c2 : (Jvm.Cond.code ({ cls := "java/lang/String", name := "<init>", desc := "([C)V" } : Jvm.MethodName) jdk_42_method_3_code (2 : Nat) (Option.none : Option Jvm.ClassFile.FieldType)).before args0 about1 = true := code_word (m := ⟨7, 1⟩) (meth := k7m1) (c := k7c1) (by decide +kernel) rfl rfl rfl (by decide +kernel)
set_option maxRecDepth 65536 in
theorem w_c3 : (Jvm.Cond.code ({ cls := "java/lang/String", name := "<init>", desc := "([CIILjava/lang/Void;)V" } : Jvm.MethodName) jdk_42_method_149_code (6 : Nat) (Option.none : Option Jvm.ClassFile.FieldType)).before args0 about1 = true := code_word (m := ⟨7, 4⟩) (meth := k7m4) (c := k7c4) (by decide +kernel) rfl rfl rfl (by decide +kernel)
set_option maxRecDepth 65536 in
theorem w_c4 : (Jvm.Cond.code ({ cls := "java/lang/Object", name := "<init>", desc := "()V" } : Jvm.MethodName) object_method_1_code (1 : Nat) (Option.none : Option Jvm.ClassFile.FieldType)).before args0 about1 = true := code_word (m := ⟨0, 0⟩) (meth := k0m0) (c := k0c0) (by decide +kernel) rfl rfl rfl (by decide +kernel)
set_option maxRecDepth 65536 in
theorem w_c5 : (Jvm.Cond.code ({ cls := "java/lang/StringUTF16", name := "compress", desc := "([CII)[B" } : Jvm.MethodName) jdk_52_method_16_code (6 : Nat) (Option.some (Jvm.ClassFile.FieldType.array Jvm.ClassFile.FieldType.byte))).before args0 about1 = true := code_word (m := ⟨8, 2⟩) (meth := k8m2) (c := k8c2) (by decide +kernel) rfl rfl rfl (by decide +kernel)
set_option maxRecDepth 65536 in
theorem w_c6 : (Jvm.Cond.code ({ cls := "java/lang/StringUTF16", name := "compress", desc := "([CI[BII)I" } : Jvm.MethodName) jdk_52_method_21_code (7 : Nat) (Option.some Jvm.ClassFile.FieldType.int)).before args0 about1 = true := code_word (m := ⟨8, 3⟩) (meth := k8m3) (c := k8c3) (by decide +kernel) rfl rfl rfl (by decide +kernel)
set_option maxRecDepth 65536 in
theorem w_c7 : (Jvm.Cond.code ({ cls := "java/lang/StringUTF16", name := "coderFromArrayLen", desc := "([BI)B" } : Jvm.MethodName) jdk_52_method_15_code (2 : Nat) (Option.some Jvm.ClassFile.FieldType.byte)).before args0 about1 = true := code_word (m := ⟨8, 1⟩) (meth := k8m1) (c := k8c1) (by decide +kernel) rfl rfl rfl (by decide +kernel)
set_option maxRecDepth 65536 in
theorem w_c8 : (Jvm.Cond.code ({ cls := "com/example/outboxd/outboxd/relay/Outcome", name := "unconfirmed", desc := "(Ljava/lang/String;)Lcom/example/outboxd/outboxd/relay/Outcome;" } : Jvm.MethodName) prog_14_method_4_code (1 : Nat) (Option.some (Jvm.ClassFile.FieldType.object "com/example/outboxd/outboxd/relay/Outcome"))).before args0 about1 = true := code_word (m := ⟨9, 1⟩) (meth := k9m1) (c := k9c1) (by decide +kernel) rfl rfl rfl (by decide +kernel)
set_option maxRecDepth 65536 in
theorem w_c9 : (Jvm.Cond.code ({ cls := "java/util/Objects", name := "requireNonNull", desc := "(Ljava/lang/Object;Ljava/lang/String;)Ljava/lang/Object;" } : Jvm.MethodName) jdk_31_method_11_code (2 : Nat) (Option.some (Jvm.ClassFile.FieldType.object "java/lang/Object"))).before args0 about1 = true := code_word (m := ⟨12, 1⟩) (meth := k12m1) (c := k12c1) (by decide +kernel) rfl rfl rfl (by decide +kernel)
set_option maxRecDepth 65536 in
theorem w_c10 : (Jvm.Cond.code ({ cls := "com/example/outboxd/outboxd/relay/Outcome", name := "<init>", desc := "(Lcom/example/outboxd/outboxd/relay/Outcome$Kind;Ljava/lang/String;)V" } : Jvm.MethodName) prog_14_method_1_code (3 : Nat) (Option.none : Option Jvm.ClassFile.FieldType)).before args0 about1 = true := code_word (m := ⟨9, 0⟩) (meth := k9m0) (c := k9c0) (by decide +kernel) rfl rfl rfl (by decide +kernel)
set_option maxRecDepth 65536 in
theorem w_c11 : (Jvm.Cond.code ({ cls := "com/example/outboxd/outboxd/relay/Outcome", name := "kind", desc := "()Lcom/example/outboxd/outboxd/relay/Outcome$Kind;" } : Jvm.MethodName) prog_14_method_5_code (1 : Nat) (Option.some (Jvm.ClassFile.FieldType.object "com/example/outboxd/outboxd/relay/Outcome$Kind"))).before args0 about1 = true := code_word (m := ⟨9, 2⟩) (meth := k9m2) (c := k9c2) (by decide +kernel) rfl rfl rfl (by decide +kernel)
set_option maxRecDepth 65536 in
theorem w_c12 : (Jvm.Cond.code ({ cls := "com/example/outboxd/outboxd/relay/Outcome", name := "reason", desc := "()Ljava/lang/String;" } : Jvm.MethodName) prog_14_method_6_code (1 : Nat) (Option.some (Jvm.ClassFile.FieldType.object "java/lang/String"))).before args0 about1 = true := code_word (m := ⟨9, 3⟩) (meth := k9m3) (c := k9c3) (by decide +kernel) rfl rfl rfl (by decide +kernel)
set_option maxRecDepth 65536 in
theorem w_c13 : (Jvm.Cond.code ({ cls := "java/lang/String", name := "length", desc := "()I" } : Jvm.MethodName) jdk_42_method_54_code (1 : Nat) (Option.some Jvm.ClassFile.FieldType.int)).before args0 about1 = true := code_word (m := ⟨7, 2⟩) (meth := k7m2) (c := k7c2) (by decide +kernel) rfl rfl rfl (by decide +kernel)
set_option maxRecDepth 65536 in
theorem w_c14 : (Jvm.Cond.code ({ cls := "java/lang/String", name := "coder", desc := "()B" } : Jvm.MethodName) jdk_42_method_152_code (1 : Nat) (Option.some Jvm.ClassFile.FieldType.byte)).before args0 about1 = true := code_word (m := ⟨7, 5⟩) (meth := k7m5) (c := k7c5) (by decide +kernel) rfl rfl rfl (by decide +kernel)
set_option maxRecDepth 65536 in
theorem w_c15 : (Jvm.Cond.code ({ cls := "java/lang/String", name := "equals", desc := "(Ljava/lang/Object;)Z" } : Jvm.MethodName) jdk_42_method_66_code (3 : Nat) (Option.some Jvm.ClassFile.FieldType.boolean)).before args0 about1 = true := code_word (m := ⟨7, 3⟩) (meth := k7m3) (c := k7c3) (by decide +kernel) rfl rfl rfl (by decide +kernel)
def codes1 : List Jvm.Cond := [Jvm.Cond.code x code maxLocals ret, Jvm.Cond.code ({ cls := "com/example/outboxd/outboxd/relay/OutcomeUnconfirmedPinLaw", name := "draw", desc := "(IIII)Ljava/lang/String;" } : Jvm.MethodName) method_2_code (8 : Nat) (Option.some (Jvm.ClassFile.FieldType.object "java/lang/String")), Jvm.Cond.code ({ cls := "java/lang/String", name := "<init>", desc := "([C)V" } : Jvm.MethodName) jdk_42_method_3_code (2 : Nat) (Option.none : Option Jvm.ClassFile.FieldType), Jvm.Cond.code ({ cls := "java/lang/String", name := "<init>", desc := "([CIILjava/lang/Void;)V" } : Jvm.MethodName) jdk_42_method_149_code (6 : Nat) (Option.none : Option Jvm.ClassFile.FieldType), Jvm.Cond.code ({ cls := "java/lang/Object", name := "<init>", desc := "()V" } : Jvm.MethodName) object_method_1_code (1 : Nat) (Option.none : Option Jvm.ClassFile.FieldType), Jvm.Cond.code ({ cls := "java/lang/StringUTF16", name := "compress", desc := "([CII)[B" } : Jvm.MethodName) jdk_52_method_16_code (6 : Nat) (Option.some (Jvm.ClassFile.FieldType.array Jvm.ClassFile.FieldType.byte)), Jvm.Cond.code ({ cls := "java/lang/StringUTF16", name := "compress", desc := "([CI[BII)I" } : Jvm.MethodName) jdk_52_method_21_code (7 : Nat) (Option.some Jvm.ClassFile.FieldType.int), Jvm.Cond.code ({ cls := "java/lang/StringUTF16", name := "coderFromArrayLen", desc := "([BI)B" } : Jvm.MethodName) jdk_52_method_15_code (2 : Nat) (Option.some Jvm.ClassFile.FieldType.byte), Jvm.Cond.code ({ cls := "com/example/outboxd/outboxd/relay/Outcome", name := "unconfirmed", desc := "(Ljava/lang/String;)Lcom/example/outboxd/outboxd/relay/Outcome;" } : Jvm.MethodName) prog_14_method_4_code (1 : Nat) (Option.some (Jvm.ClassFile.FieldType.object "com/example/outboxd/outboxd/relay/Outcome")), Jvm.Cond.code ({ cls := "java/util/Objects", name := "requireNonNull", desc := "(Ljava/lang/Object;Ljava/lang/String;)Ljava/lang/Object;" } : Jvm.MethodName) jdk_31_method_11_code (2 : Nat) (Option.some (Jvm.ClassFile.FieldType.object "java/lang/Object")), Jvm.Cond.code ({ cls := "com/example/outboxd/outboxd/relay/Outcome", name := "<init>", desc := "(Lcom/example/outboxd/outboxd/relay/Outcome$Kind;Ljava/lang/String;)V" } : Jvm.MethodName) prog_14_method_1_code (3 : Nat) (Option.none : Option Jvm.ClassFile.FieldType), Jvm.Cond.code ({ cls := "com/example/outboxd/outboxd/relay/Outcome", name := "kind", desc := "()Lcom/example/outboxd/outboxd/relay/Outcome$Kind;" } : Jvm.MethodName) prog_14_method_5_code (1 : Nat) (Option.some (Jvm.ClassFile.FieldType.object "com/example/outboxd/outboxd/relay/Outcome$Kind")), Jvm.Cond.code ({ cls := "com/example/outboxd/outboxd/relay/Outcome", name := "reason", desc := "()Ljava/lang/String;" } : Jvm.MethodName) prog_14_method_6_code (1 : Nat) (Option.some (Jvm.ClassFile.FieldType.object "java/lang/String")), Jvm.Cond.code ({ cls := "java/lang/String", name := "length", desc := "()I" } : Jvm.MethodName) jdk_42_method_54_code (1 : Nat) (Option.some Jvm.ClassFile.FieldType.int), Jvm.Cond.code ({ cls := "java/lang/String", name := "coder", desc := "()B" } : Jvm.MethodName) jdk_42_method_152_code (1 : Nat) (Option.some Jvm.ClassFile.FieldType.byte), Jvm.Cond.code ({ cls := "java/lang/String", name := "equals", desc := "(Ljava/lang/Object;)Z" } : Jvm.MethodName) jdk_42_method_66_code (3 : Nat) (Option.some Jvm.ClassFile.FieldType.boolean)]
set_option maxRecDepth 65536 in
theorem codes_eq : words1.filter isCode = codes1 := rfl
theorem w_codes : ∀ c ∈ words1.filter isCode, c.before args0 about1 = true := by
  rw [codes_eq]
  intro c hc
  simp only [codes1, List.mem_cons, List.not_mem_nil, or_false] at hc
  rcases hc with rfl | rfl | rfl | rfl | rfl | rfl | rfl | rfl | rfl | rfl | rfl | rfl | rfl | rfl | rfl | rfl
  · exact w_c0
  · exact w_c1
  · exact w_c2
  · exact w_c3
  · exact w_c4
  · exact w_c5
  · exact w_c6
  · exact w_c7
  · exact w_c8
  · exact w_c9
  · exact w_c10
  · exact w_c11
  · exact w_c12
  · exact w_c13
  · exact w_c14
  · exact w_c15
set_option maxRecDepth 65536 in
theorem w_t1 : (words1.take 24).all (fun c => isCode c || c.before args0 about1) = true := by decide +kernel
set_option maxRecDepth 65536 in
theorem w_t2 : ((words1.drop 24).take 24).all (fun c => isCode c || c.before args0 about1) = true := by decide +kernel
set_option maxRecDepth 65536 in
theorem w_t3 : (((words1.drop 24).drop 24).take 24).all (fun c => isCode c || c.before args0 about1) = true := by decide +kernel
set_option maxRecDepth 65536 in
theorem w_t4 : (((words1.drop 24).drop 24).drop 24).all (fun c => isCode c || c.before args0 about1) = true := by decide +kernel
theorem w_tables : (allAtoms (Jvm.Cond.code x code maxLocals ret :: tables_1)).before args0 about1 = true := by
  rw [allAtoms_all]
  show words1.all (fun c => c.before args0 about1) = true
  refine all_split ?_ w_codes
  rw [← List.take_append_drop 24 words1, List.all_append, w_t1, ← List.take_append_drop 24 (words1.drop 24), List.all_append, w_t2, ← List.take_append_drop 24 ((words1.drop 24).drop 24), List.all_append, w_t3, w_t4]
  rfl
set_option maxRecDepth 65536 in
theorem w_rest : rest_1_c.before args0 about1 = true := by decide +kernel
set_option maxRecDepth 65536 in
theorem w_case : (Jvm.Cond.and given_1 narrow_1).before args0 about1 = true := by decide +kernel
set_option maxRecDepth 65536 in
theorem w_consts : constsHeld consts_1 about1 := Jvm.Lit.constsHeldB_iff.mp (by decide +kernel)
theorem w_applies : (headSpec (Jvm.Cond.code x code maxLocals ret :: tables_1) room_1).applies x e0.platform about1 = true :=
  (Spec.applies_iff w_frames).mpr ⟨w_running, w_runnable, w_alone, w_named, w_hears, w_ripe, w_room, w_tables⟩
theorem atStart : AtStart classFile x code maxLocals ret World_1 tables_1 room_1 Calls_1 rest_1 Pre_1 launch0 p0 e0 about1 theMethod args0 below0 :=
  ⟨lists_1, trivial, launch0.admits_env _ _ _, launch0.least_env, fairChoices_fair.cas, fairChoices_fair.clock, w_frames, w_args, w_heap, w_applies, ⟨w_consts, trivial⟩, w_rest, w_case⟩
end start1
theorem witness_1 : WitnessClaimed_1 := ⟨start1.p0, start1.e0, start1.about1, start1.theMethod, start1.args0, start1.below0, start1.atStart⟩
end Jvm.Pilot.@@N@@
