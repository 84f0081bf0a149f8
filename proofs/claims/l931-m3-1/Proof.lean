import JvmDerived
import JvmDerived.Pilot.@@N@@Statement
import JvmDerived.Pilot.@@N@@Code
set_option linter.unusedVariables false
set_option linter.unusedSimpArgs false
namespace Jvm
abbrev jv (x : Int64) : Slot := .val (.long x)
end Jvm
namespace Jvm.RoadKit
open Sem ClassFile Op Lib Jvm.Stand Jvm.Free Jvm.LawKit
section Own
variable {p : Program} {l : Launch} {e : Env} {R : Room} {s : State} {m : MethodId} {args : Array Value} {below : List Frame} {meth : Method} {c : Code} {T : State} {locs : List Loc} {cells slots : Nat} {Z : State} {h h' : Heap} {a b : Addr} {ty : FieldType} {ws : List Addr}
/-- from the state S the run comes to an end that Q allows -/
def Go (p : Program) (e : Env) (below : List Frame) (s : State) (Q : Option Value → Heap → List Loc → Prop) (K N : Nat) (S : State) : Prop :=
  ∃ (t : State) (o : Outcome), Steps p.tables e below S t ∧ t.status = .running ∧ Ended t below o ∧ ∃ v L, o = .returned v ∧ Q v t.heap L ∧ FrameEnd s o t L K N
variable {Q : Option Value → Heap → List Loc → Prop} {K N : Nat} {S S' : State}
theorem gs (h : ∀ t, Steps p.tables e below S' t → Steps p.tables e below S t) (k : Go p e below s Q K N S') : Go p e below s Q K N S := by
  obtain ⟨t, o, a, b⟩ := k
  exact ⟨t, o, h t a, b⟩
theorem gt (h : Steps p.tables e below S S') (k : Go p e below s Q K N S') : Go p e below s Q K N S := gs (fun _ => h.trans) k
theorem goEnd (X : Stand p l e R s m args below meth c T locs cells slots) {v : Option Value} (hlocks : meth.locks = false) (hv : meth.sig.returnType = none → v = none)
    (hs : ∀ fs, (∀ (f : JFrame) (acts : List Action), f.method = m → f.locked = none → f.entered = [] → (doReturn e (T.setTop f) acts v).1 = T.setFrames fs) → Steps p.tables e below S (T.setFrames fs))
    (hQ : Q v T.heap locs) (hk : cells ≤ K) (hn : slots ≤ N) : Go p e below s Q K N S := by
  obtain ⟨fs, hr, hrun, hended, hW, hsame⟩ := X.leave (v := v) hv hlocks
  exact ⟨_, _, hs fs hr, hrun, hended, v, locs, rfl, hQ, ⟨_, rfl⟩, hW, hsame.mono hk hn⟩
theorem goV (X : Stand p l e R s m args below meth c T locs cells slots) (hx : p.tables.exec = Jvm.exec) (hlocks : meth.locks = false) (hret : meth.sig.returnType = none) {pc : Nat} {Ls : Array Slot} (hd : decode c.code pc = .ok (.return_, 1)) (hQ : Q none T.heap locs) (hk : cells ≤ K) (hn : slots ≤ N) :
    Go p e below s Q K N (T.setTop (mkF m pc Ls [])) := goEnd X hlocks (fun _ => rfl) (fun _ hr => X.returnOut hx hret hd hr) hQ hk hn
theorem goW (X : Stand p l e R s m args below meth c T locs cells slots) (hx : p.tables.exec = Jvm.exec) (hlocks : meth.locks = false) {t : FieldType} (hret : meth.sig.returnType = some t) {pc : Nat} {Ls : Array Slot} {w : Value} {i : Instr} {rest : List Value} (hn0 : narrow t w = w)
    (hi : (i = .ireturn ∧ (t = .int ∨ t = .boolean ∨ t = .byte ∨ t = .char ∨ t = .short) ∧ ∃ z, w = .int z) ∨ (i = .lreturn ∧ t = .long ∧ ∃ z, w = .long z) ∨ (i = .dreturn ∧ t = .double ∧ ∃ z, w = .double z) ∨ (i = .freturn ∧ t = .float ∧ ∃ z, w = .float z) ∨ (i = .areturn ∧ t.isReference = true ∧ w.isRef = true))
    (hd : decode c.code pc = .ok (i, 1)) (hQ : Q (some w) T.heap locs) (hk : cells ≤ K) (hn : slots ≤ N) : Go p e below s Q K N (T.setTop (mkF m pc Ls (w :: rest))) :=
  goEnd X hlocks (fun q => by rw [hret] at q; cases q) (fun _ hr => retOut X hx hret hn0 hi hd hr) hQ hk hn
theorem goI (X : Stand p l e R s m args below meth c T locs cells slots) (hx : p.tables.exec = Jvm.exec) (hlocks : meth.locks = false) (hret : meth.sig.returnType = some .int) {pc : Nat} {Ls : Array Slot} {w : Int32} {rest : List Value} (hd : decode c.code pc = .ok (.ireturn, 1)) (hQ : Q (some (.int w)) T.heap locs) (hk : cells ≤ K) (hn : slots ≤ N) :
    Go p e below s Q K N (T.setTop (mkF m pc Ls (.int w :: rest))) := goW X hx hlocks hret rfl (Or.inl ⟨rfl, Or.inl rfl, w, rfl⟩) hd hQ hk hn
theorem goJ (X : Stand p l e R s m args below meth c T locs cells slots) (hx : p.tables.exec = Jvm.exec) (hlocks : meth.locks = false) (hret : meth.sig.returnType = some .long) {pc : Nat} {Ls : Array Slot} {w : Int64} {rest : List Value} (hd : decode c.code pc = .ok (.lreturn, 1)) (hQ : Q (some (.long w)) T.heap locs) (hk : cells ≤ K) (hn : slots ≤ N) :
    Go p e below s Q K N (T.setTop (mkF m pc Ls (.long w :: rest))) := goW X hx hlocks hret rfl (Or.inr (Or.inl ⟨rfl, rfl, w, rfl⟩)) hd hQ hk hn
theorem goR (X : Stand p l e R s m args below meth c T locs cells slots) (hx : p.tables.exec = Jvm.exec) (hlocks : meth.locks = false) {t : FieldType} (hret : meth.sig.returnType = some t) (ht : t.isReference = true) {pc : Nat} {Ls : Array Slot} {w : Value} (hw : w.isRef = true) {rest : List Value} (hd : decode c.code pc = .ok (.areturn, 1)) (hQ : Q (some w) T.heap locs) (hk : cells ≤ K) (hn : slots ≤ N) :
    Go p e below s Q K N (T.setTop (mkF m pc Ls (w :: rest))) :=
  goW X hx hlocks hret (by cases t <;> simp [FieldType.isReference] at ht <;> rfl) (Or.inr (Or.inr (Or.inr (Or.inr ⟨rfl, ht, hw⟩)))) hd hQ hk hn
theorem goB (X : Stand p l e R s m args below meth c T locs cells slots) (hx : p.tables.exec = Jvm.exec) (hlocks : meth.locks = false) {t : FieldType} (hret : meth.sig.returnType = some t) (ht : t = .boolean ∨ t = .byte ∨ t = .char ∨ t = .short) {pc : Nat} {Ls : Array Slot} {z w : Int32} {rest : List Value} (hz : nar t z = w) (hd : decode c.code pc = .ok (.ireturn, 1)) (hQ : Q (some (.int w)) T.heap locs) (hk : cells ≤ K) (hn : slots ≤ N) :
    Go p e below s Q K N (T.setTop (mkF m pc Ls (.int z :: rest))) := by
  subst hz
  exact goEnd X hlocks (fun q => by rw [hret] at q; cases q) (fun _ hr => retN X hx hret ht hd hr) hQ hk hn
/-- an array of n places; the place i holds f i -/
def Arf (Z : State) (h : Heap) (a : Addr) (ty : FieldType) (n : Nat) (f : Nat → Value) : Prop := ∃ c : Cell, Arr Z h a c ty ∧ c.slots.size = n ∧ n < 2 ^ 31 ∧ ∀ i, i < n → c.slots[i]? = some (f i)
def updv (f : Nat → Value) (j : Nat) (v : Value) : Nat → Value := fun i => if i = j then v else f i
variable {n : Nat} {f g : Nat → Value} {sl : Nat} {v : Value}
theorem Arf.lt (F : Arf Z h a ty n f) : a < h.size := by obtain ⟨c, A, -⟩ := F; exact A.lt
theorem Arf.ext (F : Arf Z h a ty n f) (E : Ext h h') : Arf Z h' a ty n f := by obtain ⟨c, A, r⟩ := F; exact ⟨c, A.ext E, r⟩
theorem Arf.other (F : Arf Z h b ty n f) (W : Wr h h' a sl v) (q : b ≠ a) : Arf Z h' b ty n f := by obtain ⟨c, A, r⟩ := F; exact ⟨c, A.other W q, r⟩
theorem Arf.keep (F : Arf Z h a ty n f) (K : Keep h h' ws) (q : a ∉ ws) : Arf Z h' a ty n f := by obtain ⟨c, A, r⟩ := F; exact ⟨c, ⟨K.2.1 a c A.1 q, A.2⟩, r⟩
theorem Arf.congr (F : Arf Z h a ty n f) (q : ∀ i, i < n → f i = g i) : Arf Z h a ty n g := by
  obtain ⟨c, A, r1, r2, r3⟩ := F
  exact ⟨c, A, r1, r2, fun i hi => by rw [← q i hi]; exact r3 i hi⟩
theorem clampLt (z : Int32) : z.toNatClampNeg < 2 ^ 31 := by
  have h1 := z.toInt_lt
  have h2 : z.toNatClampNeg = z.toInt.toNat := rfl
  omega
theorem clampOf {j : Int32} (h0 : 0 ≤ j.toInt) : (j.toNatClampNeg : Int) = j.toInt := by
  have h2 : j.toNatClampNeg = j.toInt.toNat := rfl
  omega
theorem Arf.new {k : ClassId} {z : Int32} (A : Arr Z h a (newA k ty z) ty) : Arf Z h a ty z.toNatClampNeg (fun _ => defaultValue ty) := by
  refine ⟨_, A, sz_new _ _ _, clampLt z, fun i hi => ?_⟩
  simp [newA, hi]
theorem Arf.set (F : Arf Z h a ty n f) {j : Nat} (W : Wr h h' a j v) (hj : j < n) : Arf Z h' a ty n (updv f j v) := by
  obtain ⟨c, A, r1, r2, r3⟩ := F
  refine ⟨_, A.same W, by rw [sz_set]; exact r1, r2, fun i hi => ?_⟩
  by_cases q : i = j
  · subst q
    simp [Cell.setSlot, updv, r1, hi]
  · have q' : ¬ j = i := fun x => q x.symm
    simp [Cell.setSlot, updv, q, Array.getElem?_setIfInBounds_ne q', r3 i hi]
theorem inI {cl : Cell} (S : cl.slots.size = n) {j : Int32} (hj : 0 ≤ j.toInt ∧ j.toInt < n) : ¬ (j < 0 ∨ cl.slots.size ≤ j.toNatClampNeg) := by
  have q := clampOf hj.1
  rintro (h1 | h1)
  · rw [Int32.lt_iff_toInt_lt] at h1
    have : (0 : Int32).toInt = 0 := rfl
    omega
  · omega
theorem stIf (X : Stand p l e R s m args below meth c T locs cells slots) (hx : p.tables.exec = Jvm.exec) (hZ : Z.Warmed39 s.vm) (eT : T.heap = h) (F : Arf Z h a .int n f) {j x : Int32} (hj : 0 ≤ j.toInt ∧ j.toInt < n) {g : JFrame} (hg : g.method = m) {rest : List Value} (hs : g.stack = .int x :: .int j :: .ref a :: rest) (hd : decode c.code g.pc = .ok (.iastore, 1)) :
    ∃ T' h', Stand p l e R s m args below meth c T' (locs ++ [⟨a, j.toNatClampNeg⟩]) cells slots ∧ T'.heap = h' ∧ Wr h h' a j.toNatClampNeg (.int x) ∧ Arf Z h' a .int n (updv f j.toNatClampNeg (.int x)) ∧ ∀ target, Steps p.tables e below (T'.setTop { g with pc := g.pc + 1, stack := rest }) target → Steps p.tables e below (T.setTop g) target := by
  obtain ⟨cl, A, r1, r2, r3⟩ := id F
  obtain ⟨T', h', X', e', W, st⟩ := stI X hx hZ eT A (j := j) (x := x) (inI r1 hj) hg hs hd
  have q := clampOf hj.1
  exact ⟨T', h', X', e', W, F.set W (by omega), st⟩
theorem stJf (X : Stand p l e R s m args below meth c T locs cells slots) (hx : p.tables.exec = Jvm.exec) (hZ : Z.Warmed39 s.vm) (eT : T.heap = h) (F : Arf Z h a .long n f) {j : Int32} {x : Int64} (hj : 0 ≤ j.toInt ∧ j.toInt < n) {g : JFrame} (hg : g.method = m) {rest : List Value} (hs : g.stack = .long x :: .int j :: .ref a :: rest) (hd : decode c.code g.pc = .ok (.lastore, 1)) :
    ∃ T' h', Stand p l e R s m args below meth c T' (locs ++ [⟨a, j.toNatClampNeg⟩]) cells slots ∧ T'.heap = h' ∧ Wr h h' a j.toNatClampNeg (.long x) ∧ Arf Z h' a .long n (updv f j.toNatClampNeg (.long x)) ∧ ∀ target, Steps p.tables e below (T'.setTop { g with pc := g.pc + 1, stack := rest }) target → Steps p.tables e below (T.setTop g) target := by
  obtain ⟨cl, A, r1, r2, r3⟩ := id F
  obtain ⟨T', h', X', e', W, st⟩ := stJ X hx hZ eT A (j := j) (x := x) (inI r1 hj) hg hs hd
  have q := clampOf hj.1
  exact ⟨T', h', X', e', W, F.set W (by omega), st⟩
theorem stBf (X : Stand p l e R s m args below meth c T locs cells slots) (hx : p.tables.exec = Jvm.exec) (hZ : Z.Warmed39 s.vm) (eT : T.heap = h) (F : Arf Z h a .byte n f) {j x : Int32} (hj : 0 ≤ j.toInt ∧ j.toInt < n) {g : JFrame} (hg : g.method = m) {rest : List Value} (hs : g.stack = .int x :: .int j :: .ref a :: rest) (hd : decode c.code g.pc = .ok (.bastore, 1)) :
    ∃ T' h', Stand p l e R s m args below meth c T' (locs ++ [⟨a, j.toNatClampNeg⟩]) cells slots ∧ T'.heap = h' ∧ Wr h h' a j.toNatClampNeg (.int (nar .byte x)) ∧ Arf Z h' a .byte n (updv f j.toNatClampNeg (.int (nar .byte x))) ∧ ∀ target, Steps p.tables e below (T'.setTop { g with pc := g.pc + 1, stack := rest }) target → Steps p.tables e below (T.setTop g) target := by
  obtain ⟨cl, A, r1, r2, r3⟩ := id F
  obtain ⟨T', h', X', e', W, st⟩ := stB X hx hZ eT A (j := j) (x := x) (inI r1 hj) hg hs hd
  have q := clampOf hj.1
  exact ⟨T', h', X', e', W, F.set W (by omega), st⟩
theorem stZf (X : Stand p l e R s m args below meth c T locs cells slots) (hx : p.tables.exec = Jvm.exec) (hZ : Z.Warmed39 s.vm) (eT : T.heap = h) (F : Arf Z h a .boolean n f) {j x : Int32} (hj : 0 ≤ j.toInt ∧ j.toInt < n) {g : JFrame} (hg : g.method = m) {rest : List Value} (hs : g.stack = .int x :: .int j :: .ref a :: rest) (hd : decode c.code g.pc = .ok (.bastore, 1)) :
    ∃ T' h', Stand p l e R s m args below meth c T' (locs ++ [⟨a, j.toNatClampNeg⟩]) cells slots ∧ T'.heap = h' ∧ Wr h h' a j.toNatClampNeg (.int (nar .boolean x)) ∧ Arf Z h' a .boolean n (updv f j.toNatClampNeg (.int (nar .boolean x))) ∧ ∀ target, Steps p.tables e below (T'.setTop { g with pc := g.pc + 1, stack := rest }) target → Steps p.tables e below (T.setTop g) target := by
  obtain ⟨cl, A, r1, r2, r3⟩ := id F
  obtain ⟨T', h', X', e', W, st⟩ := stZ X hx hZ eT A (j := j) (x := x) (inI r1 hj) hg hs hd
  have q := clampOf hj.1
  exact ⟨T', h', X', e', W, F.set W (by omega), st⟩
theorem stCf (X : Stand p l e R s m args below meth c T locs cells slots) (hx : p.tables.exec = Jvm.exec) (hZ : Z.Warmed39 s.vm) (eT : T.heap = h) (F : Arf Z h a .char n f) {j x : Int32} (hj : 0 ≤ j.toInt ∧ j.toInt < n) {g : JFrame} (hg : g.method = m) {rest : List Value} (hs : g.stack = .int x :: .int j :: .ref a :: rest) (hd : decode c.code g.pc = .ok (.castore, 1)) :
    ∃ T' h', Stand p l e R s m args below meth c T' (locs ++ [⟨a, j.toNatClampNeg⟩]) cells slots ∧ T'.heap = h' ∧ Wr h h' a j.toNatClampNeg (.int (nar .char x)) ∧ Arf Z h' a .char n (updv f j.toNatClampNeg (.int (nar .char x))) ∧ ∀ target, Steps p.tables e below (T'.setTop { g with pc := g.pc + 1, stack := rest }) target → Steps p.tables e below (T.setTop g) target := by
  obtain ⟨cl, A, r1, r2, r3⟩ := id F
  obtain ⟨T', h', X', e', W, st⟩ := stC X hx hZ eT A (j := j) (x := x) (inI r1 hj) hg hs hd
  have q := clampOf hj.1
  exact ⟨T', h', X', e', W, F.set W (by omega), st⟩
theorem stRf (X : Stand p l e R s m args below meth c T locs cells slots) (hx : p.tables.exec = Jvm.exec) (hZ : Z.Warmed39 s.vm) (eT : T.heap = h) (F : Arf Z h a ty n f) (hty : ty.isReference = true) {j : Int32} {v : Value} (hv : Sto Z h a v) (hj : 0 ≤ j.toInt ∧ j.toInt < n) {g : JFrame} (hg : g.method = m) {rest : List Value} (hs : g.stack = v :: .int j :: .ref a :: rest) (hd : decode c.code g.pc = .ok (.aastore, 1)) :
    ∃ T' h', Stand p l e R s m args below meth c T' (locs ++ [⟨a, j.toNatClampNeg⟩]) cells slots ∧ T'.heap = h' ∧ Wr h h' a j.toNatClampNeg v ∧ Arf Z h' a ty n (updv f j.toNatClampNeg v) ∧ ∀ target, Steps p.tables e below (T'.setTop { g with pc := g.pc + 1, stack := rest }) target → Steps p.tables e below (T.setTop g) target := by
  obtain ⟨cl, A, r1, r2, r3⟩ := id F
  obtain ⟨T', h', X', e', W, st⟩ := stR X hx hZ eT A (j := j) (v := v) (inI r1 hj) hty hv hg hs hd
  have q := clampOf hj.1
  exact ⟨T', h', X', e', W, F.set W (by omega), st⟩
theorem ldIf (X : Stand p l e R s m args below meth c T locs cells slots) (hx : p.tables.exec = Jvm.exec) (hZ : Z.Warmed39 s.vm) (eT : T.heap = h) (F : Arf Z h a .int n f) {j : Int32} {v : Value} (hj : 0 ≤ j.toInt ∧ j.toInt < n) (hv : f j.toNatClampNeg = v) {g : JFrame} (hg : g.method = m) {rest : List Value} (hs : g.stack = .int j :: .ref a :: rest) (hd : decode c.code g.pc = .ok (.iaload, 1)) :
    ∀ target, Steps p.tables e below (T.setTop { g with pc := g.pc + 1, stack := v :: rest }) target → Steps p.tables e below (T.setTop g) target := by
  obtain ⟨cl, A, r1, r2, r3⟩ := F
  have q := clampOf hj.1
  exact fun t => X.iaload hx (by rw [eT]; exact A.1) (State.isArrayOf_alike hZ.alike A.2.1) A.2.2 (inI r1 hj) (by rw [← hv]; exact r3 _ (by omega)) hg hs hd t
theorem ldJf (X : Stand p l e R s m args below meth c T locs cells slots) (hx : p.tables.exec = Jvm.exec) (hZ : Z.Warmed39 s.vm) (eT : T.heap = h) (F : Arf Z h a .long n f) {j : Int32} {v : Value} (hj : 0 ≤ j.toInt ∧ j.toInt < n) (hv : f j.toNatClampNeg = v) {g : JFrame} (hg : g.method = m) {rest : List Value} (hs : g.stack = .int j :: .ref a :: rest) (hd : decode c.code g.pc = .ok (.laload, 1)) :
    ∀ target, Steps p.tables e below (T.setTop { g with pc := g.pc + 1, stack := v :: rest }) target → Steps p.tables e below (T.setTop g) target := by
  obtain ⟨cl, A, r1, r2, r3⟩ := F
  have q := clampOf hj.1
  exact fun t => X.laload hx (by rw [eT]; exact A.1) (State.isArrayOf_alike hZ.alike A.2.1) A.2.2 (inI r1 hj) (by rw [← hv]; exact r3 _ (by omega)) hg hs hd t
theorem ldCf (X : Stand p l e R s m args below meth c T locs cells slots) (hx : p.tables.exec = Jvm.exec) (hZ : Z.Warmed39 s.vm) (eT : T.heap = h) (F : Arf Z h a .char n f) {j : Int32} {v : Value} (hj : 0 ≤ j.toInt ∧ j.toInt < n) (hv : f j.toNatClampNeg = v) {g : JFrame} (hg : g.method = m) {rest : List Value} (hs : g.stack = .int j :: .ref a :: rest) (hd : decode c.code g.pc = .ok (.caload, 1)) :
    ∀ target, Steps p.tables e below (T.setTop { g with pc := g.pc + 1, stack := v :: rest }) target → Steps p.tables e below (T.setTop g) target := by
  obtain ⟨cl, A, r1, r2, r3⟩ := F
  have q := clampOf hj.1
  exact fun t => X.caload hx (by rw [eT]; exact A.1) (State.isArrayOf_alike hZ.alike A.2.1) A.2.2 (inI r1 hj) (by rw [← hv]; exact r3 _ (by omega)) hg hs hd t
theorem ldBf (X : Stand p l e R s m args below meth c T locs cells slots) (hx : p.tables.exec = Jvm.exec) (hZ : Z.Warmed39 s.vm) (eT : T.heap = h) (F : Arf Z h a .byte n f) {j : Int32} {v : Value} (hj : 0 ≤ j.toInt ∧ j.toInt < n) (hv : f j.toNatClampNeg = v) {g : JFrame} (hg : g.method = m) {rest : List Value} (hs : g.stack = .int j :: .ref a :: rest) (hd : decode c.code g.pc = .ok (.baload, 1)) :
    ∀ target, Steps p.tables e below (T.setTop { g with pc := g.pc + 1, stack := v :: rest }) target → Steps p.tables e below (T.setTop g) target := by
  obtain ⟨cl, A, r1, r2, r3⟩ := F
  have q := clampOf hj.1
  exact fun t => X.baloadBytes hx (by rw [eT]; exact A.1) (State.isArrayOf_alike hZ.alike A.2.1) A.2.2 (inI r1 hj) (by rw [← hv]; exact r3 _ (by omega)) hg hs hd t
theorem ldZf (X : Stand p l e R s m args below meth c T locs cells slots) (hx : p.tables.exec = Jvm.exec) (hZ : Z.Warmed39 s.vm) (eT : T.heap = h) (F : Arf Z h a .boolean n f) {j : Int32} {v : Value} (hj : 0 ≤ j.toInt ∧ j.toInt < n) (hv : f j.toNatClampNeg = v) {g : JFrame} (hg : g.method = m) {rest : List Value} (hs : g.stack = .int j :: .ref a :: rest) (hd : decode c.code g.pc = .ok (.baload, 1)) :
    ∀ target, Steps p.tables e below (T.setTop { g with pc := g.pc + 1, stack := v :: rest }) target → Steps p.tables e below (T.setTop g) target := by
  obtain ⟨cl, A, r1, r2, r3⟩ := F
  have q := clampOf hj.1
  exact fun t => X.baloadBooleans hx (by rw [eT]; exact A.1) (State.isArrayOf_alike hZ.alike A.2.1) A.2.2 (inI r1 hj) (by rw [← hv]; exact r3 _ (by omega)) hg hs hd t
theorem ldRf (X : Stand p l e R s m args below meth c T locs cells slots) (hx : p.tables.exec = Jvm.exec) (hZ : Z.Warmed39 s.vm) (eT : T.heap = h) (F : Arf Z h a ty n f) (hty : ty.isReference = true) {j : Int32} {v : Value} (hj : 0 ≤ j.toInt ∧ j.toInt < n) (hv : f j.toNatClampNeg = v) {g : JFrame} (hg : g.method = m) {rest : List Value} (hs : g.stack = .int j :: .ref a :: rest) (hd : decode c.code g.pc = .ok (.aaload, 1)) :
    ∀ target, Steps p.tables e below (T.setTop { g with pc := g.pc + 1, stack := v :: rest }) target → Steps p.tables e below (T.setTop g) target := by
  obtain ⟨cl, A, r1, r2, r3⟩ := F
  have q := clampOf hj.1
  exact fun t => X.aaload hx (by rw [eT]; exact A.1) (State.isArrayOf_alike hZ.alike A.2.1) hty A.2.2 (inI r1 hj) (by rw [← hv]; exact r3 _ (by omega)) hg hs hd t
theorem stDf (X : Stand p l e R s m args below meth c T locs cells slots) (hx : p.tables.exec = Jvm.exec) (hZ : Z.Warmed39 s.vm) (eT : T.heap = h) (F : Arf Z h a .double n f) {j : Int32} {x : UInt64} (hj : 0 ≤ j.toInt ∧ j.toInt < n) {g : JFrame} (hg : g.method = m) {rest : List Value} (hs : g.stack = .double x :: .int j :: .ref a :: rest) (hd : decode c.code g.pc = .ok (.dastore, 1)) :
    ∃ T' h', Stand p l e R s m args below meth c T' (locs ++ [⟨a, j.toNatClampNeg⟩]) cells slots ∧ T'.heap = h' ∧ Wr h h' a j.toNatClampNeg (.double x) ∧ Arf Z h' a .double n (updv f j.toNatClampNeg (.double x)) ∧ ∀ target, Steps p.tables e below (T'.setTop { g with pc := g.pc + 1, stack := rest }) target → Steps p.tables e below (T.setTop g) target := by
  obtain ⟨cl, A, r1, r2, r3⟩ := id F
  obtain ⟨T', h', X', e', W, st⟩ := stD X hx hZ eT A (j := j) (x := x) (inI r1 hj) hg hs hd
  have q := clampOf hj.1
  exact ⟨T', h', X', e', W, F.set W (by omega), st⟩
theorem ldDf (X : Stand p l e R s m args below meth c T locs cells slots) (hx : p.tables.exec = Jvm.exec) (hZ : Z.Warmed39 s.vm) (eT : T.heap = h) (F : Arf Z h a .double n f) {j : Int32} {v : Value} (hj : 0 ≤ j.toInt ∧ j.toInt < n) (hv : f j.toNatClampNeg = v) {g : JFrame} (hg : g.method = m) {rest : List Value} (hs : g.stack = .int j :: .ref a :: rest) (hd : decode c.code g.pc = .ok (.daload, 1)) :
    ∀ target, Steps p.tables e below (T.setTop { g with pc := g.pc + 1, stack := v :: rest }) target → Steps p.tables e below (T.setTop g) target := by
  obtain ⟨cl, A, r1, r2, r3⟩ := F
  have q := clampOf hj.1
  exact fun t => X.daload hx (by rw [eT]; exact A.1) (State.isArrayOf_alike hZ.alike A.2.1) A.2.2 (inI r1 hj) (by rw [← hv]; exact r3 _ (by omega)) hg hs hd t
theorem lenf (X : Stand p l e R s m args below meth c T locs cells slots) (hx : p.tables.exec = Jvm.exec) (hZ : Z.Warmed39 s.vm) (eT : T.heap = h) (F : Arf Z h a ty n f) {z : Int32} (hz : n.toInt32 = z) {g : JFrame} (hg : g.method = m) {rest : List Value} (hs : g.stack = .ref a :: rest) (hd : decode c.code g.pc = .ok (.arraylength, 1)) :
    ∀ target, Steps p.tables e below (T.setTop { g with pc := g.pc + 1, stack := .int z :: rest }) target → Steps p.tables e below (T.setTop g) target := by
  obtain ⟨cl, A, r1, r2, r3⟩ := F
  subst hz r1
  exact fun t => X.arraylength hx (by rw [eT]; exact A.1) (State.isArrayOf_alike hZ.alike A.2.1) hg hs hd t
theorem toClamp {z : Int32} (q : 0 ≤ z.toInt) : z.toNatClampNeg.toInt32 = z := (back32 (fun h => by rw [Int32.lt_iff_toInt_lt] at h; have : (0 : Int32).toInt = 0 := rfl; omega)).1
theorem refCat {v : Value} (h : v.isRef = true) : v.category = 1 := by rcases ref_cases h with rfl | ⟨_, rfl⟩ <;> rfl
/-- an array that takes every object of the class C -/
def Tak (Z : State) (h : Heap) (a : Addr) (C : String) : Prop := ∃ (cell : Cell) (k kc : Class) (comp : ClassId) (t : FieldType), h[a]? = some cell ∧ Z.vm.classes[cell.cls]? = some k ∧ k.kind = .array comp t ∧ Z.vm.classes[comp]? = some kc ∧ Z.vm.findClass C = some comp
variable {C : String}
theorem Tak.ext (F : Tak Z h a C) (E : Ext h h') : Tak Z h' a C := by obtain ⟨cell, k, kc, comp, t, h1, r⟩ := F; exact ⟨cell, k, kc, comp, t, E.2 _ _ h1, r⟩
theorem Tak.wr (F : Tak Z h a C) (W : Wr h h' b sl v) : Tak Z h' a C := by
  obtain ⟨cell, k, kc, comp, t, h1, h2, r⟩ := F
  obtain ⟨c', e1, e2, -⟩ := wr_at W h1
  exact ⟨c', k, kc, comp, t, e1, by rw [e2]; exact h2, r⟩
theorem Tak.keep (F : Tak Z h a C) (K : Keep h h' ws) : Tak Z h' a C := by
  obtain ⟨cell, k, kc, comp, t, h1, h2, r⟩ := F
  obtain ⟨c', e1, e2, -⟩ := K.2.2 _ _ h1
  exact ⟨c', k, kc, comp, t, e1, by rw [e2]; exact h2, r⟩
theorem Tak.sto (F : Tak Z h a C) {y : Addr} (I : Ins Z h y C true) : Sto Z h a (.ref y) := by
  obtain ⟨cell, k, kc, comp, t, h1, h2, h3, h4, h5⟩ := F
  obtain ⟨cv, cT, g1, g2, g3⟩ := I
  cases h5.symm.trans g2
  simp only [Bool.and_eq_true, Bool.not_eq_true'] at g3
  have hv : ∃ kv, Z.vm.classes[cv.cls]? = some kv := by
    cases q : Z.vm.classes[cv.cls]? with
    | some kv => exact ⟨kv, rfl⟩
    | none =>
      by_cases e : cv.cls = comp
      · rw [e, h4] at q; cases q
      · have := g3.2
        simp [Vm.assignable, Vm.assignableAux, e, q] at this
  obtain ⟨kv, hkv⟩ := hv
  exact Or.inr ⟨cell, cv, k, kv, kc, comp, t, y, h1, h2, h3, h4, rfl, g1, g3.1, hkv, g3.2⟩
theorem Tak.of {cA : ClassId} {n : Int32} (A : Arr Z h a (newA cA ty n) ty) (O : Ovr Z cA C) : Tak Z h a C := by
  obtain ⟨k, comp, o1, o2, o3⟩ := O
  obtain ⟨kc, q, -⟩ := Vm.findClass_spec o3
  exact ⟨_, k, kc, comp, _, A.1, o1, o2, q, o3⟩
theorem Tak.ofA {cA : ClassId} {n : Int32} {ty' : FieldType} (A : Arr Z h a (newA cA ty n) ty) (O : OvrA Z cA ty' C) : Tak Z h a C := by
  obtain ⟨k, comp, o1, o2, o3⟩ := O
  obtain ⟨kc, q, -⟩ := Vm.findClass_spec o3
  exact ⟨_, k, kc, comp, _, A.1, o1, o2, q, o3⟩
theorem own_eqI {t : Term} {k : Int32} {args : Array Value} {first s : State} {o : Option Outcome} {idx : List Nat} (h : (Cond.eq t (.int k)).value args first o s idx = some true) : t.eval args first o idx s = some (.int k) := by
  simp only [Cond.value, Term.eval] at h
  cases ht : t.eval args first o idx s with
  | none => simp [ht] at h
  | some x => cases x <;> simp [ht] at h ⊢ <;> exact h
end Own
end Jvm.RoadKit
namespace Jvm.Pilot.@@N@@
open Jvm Jvm.ClassFile Sem Op Lib Jvm.Free Jvm.Stand Jvm.LawKit Jvm.RoadKit Bundle Jvm.Pilot.@@N@@.Jvm.D
theorem pd_0 : parseMethodDescriptor "()V" = some ⟨[], none⟩ := by decide +kernel
theorem pd_1 : parseMethodDescriptor "([JJ)V" = some ⟨[(.array .long), .long], none⟩ := by decide +kernel
theorem pd_2 : parseMethodDescriptor "([ZZ)V" = some ⟨[(.array .boolean), .boolean], none⟩ := by decide +kernel
theorem pd_3 : parseMethodDescriptor "(I)V" = some ⟨[.int], none⟩ := by decide +kernel
theorem pd_4 : parseMethodDescriptor "(J)V" = some ⟨[.long], none⟩ := by decide +kernel
theorem pd_5 : parseMethodDescriptor "(ILweirline/runtime/CheckpointBarrier;)V" = some ⟨[.int, (.object "weirline/runtime/CheckpointBarrier")], none⟩ := by decide +kernel
theorem pd_6 : parseMethodDescriptor "(I)Z" = some ⟨[.int], some .boolean⟩ := by decide +kernel
theorem pd_7 : parseMethodDescriptor "()Lweirline/runtime/CheckpointBarrier;" = some ⟨[], some (.object "weirline/runtime/CheckpointBarrier")⟩ := by decide +kernel
def oI (n : Nat) : Int32 := n.toInt32
theorem oI_t {n : Nat} (h : n < 1000) : (oI n).toInt = n := len_toInt (by omega)
theorem oI_c {n : Nat} (h : n < 1000) : (oI n).toNatClampNeg = n := by
  show (oI n).toInt.toNat = n
  rw [oI_t h]; rfl
theorem oI_in {n m : Nat} (h : n < m) (hm : m < 1000) : 0 ≤ (oI n).toInt ∧ (oI n).toInt < (m : Nat) := by rw [oI_t (by omega)]; omega
theorem own_c1 {i : Nat} (h : i < 1) : i = 0 := by omega
theorem own_c2 {i : Nat} (h : i < 2) : i = 0 ∨ i = 1 := by omega
theorem own_c3 {i : Nat} (h : i < 3) : i = 0 ∨ i = 1 ∨ i = 2 := by omega
theorem own_n (x : Int32) {n : Int32} (h : (1 : Int32) + ((x &&& (2147483647 : Int32)) % (3 : Int32)) = n) : n = 1 ∨ n = 2 ∨ n = 3 := by
  have e1 := c_mask x 2147483647 31 (by decide) (by decide)
  have e2 := c_irem (x &&& 2147483647) 3 3 rfl
  have e3 := c_iadd 1 ((x &&& 2147483647) % 3)
  rw [h] at e3
  have k1 : (1 : Int32).toInt = 1 := rfl
  have k2 : (2 : Int32).toInt = 2 := rfl
  have k3 : (3 : Int32).toInt = 3 := rfl
  have r := rng32 n
  rw [← Int32.toInt_inj, ← Int32.toInt_inj, ← Int32.toInt_inj, k1, k2, k3]
  omega
theorem own_a (x : Int32) {N : Nat} {z a' : Int32} (h0 : 0 < N) (hN : N < 1000) (hz : z.toInt = N) (h : (x &&& (2147483647 : Int32)) % z = a') : ∃ a : Nat, a < N ∧ a' = oI a := by
  have e1 := c_mask x 2147483647 31 (by decide) (by decide)
  have e2 := (c_iremV (x &&& 2147483647) z).1 (by omega) (by omega)
  rw [h] at e2
  refine ⟨a'.toInt.toNat, by omega, ?_⟩
  rw [← Int32.toInt_inj, oI_t (by omega)]
  omega
theorem own_rem {a k N : Nat} (ha : a < 10) (hk : k < 10) (h0 : 0 < N) (hN : N < 10) {y z : Int32} (hy : y.toInt = k) (hz : z.toInt = N) : (oI a + y) % z = oI ((a + k) % N) := by
  have e1 := c_iadd (oI a) y
  rw [oI_t (by omega), hy] at e1
  have r1 := rng32 (oI a + y)
  have e0 : (oI a + y).toInt = ((a + k : Nat) : Int) := by omega
  rw [← Int32.toInt_inj, Int32.toInt_mod, e0, hz, oI_t (Nat.lt_of_lt_of_le (Nat.mod_lt _ h0) (by omega))]
  rw [Int.tmod_eq_emod_of_nonneg (by omega)]
  rfl
theorem own_y (y : Int32) {a : Nat} (ha : a < 3) : ∃ cc : Nat, cc < 3 ∧ cc ≠ a ∧ ((oI a + (1 : Int32)) + (y &&& (1 : Int32))) % (3 : Int32) = oI cc := by
  have e1 := c_mask y 1 1 (by decide) (by decide)
  have e2 := c_iadd (oI a) 1
  have e3 := c_iadd (oI a + 1) (y &&& 1)
  have k1 : (1 : Int32).toInt = 1 := rfl
  rw [oI_t (by omega)] at e2
  have r2 := rng32 (oI a + 1)
  have r3 := rng32 ((oI a + 1) + (y &&& 1))
  have e4 := c_irem ((oI a + 1) + (y &&& 1)) 3 3 rfl
  generalize ((oI a + (1 : Int32)) + (y &&& (1 : Int32))) % (3 : Int32) = w at *
  have e5 : ((oI a + 1) + (y &&& 1)).toInt = a + 1 + y.toInt % 2 := by omega
  refine ⟨w.toInt.toNat, by omega, by omega, ?_⟩
  rw [← Int32.toInt_inj, oI_t (by omega)]
  omega
theorem d5_0 : decode jdk_30_method_1_code 0 = .ok (.aload_n 0, 1) := by decide +kernel
theorem d5_1 : decode jdk_30_method_1_code 1 = .ok (.invokespecial 1, 3) := by decide +kernel
theorem d5_4 : decode jdk_30_method_1_code 4 = .ok (.return_, 1) := by decide +kernel
theorem pn_5 : plainName "java/lang/Record" = true := by first | (simp [plainName, overriddenIn]; done) | decide +kernel
def Qrm5 (Z : State) (r0 : Addr) (h0 : Heap) (n0 : Nat) (v : Option Value) (h : Heap) (L : List Loc) : Prop := v = none ∧ Fr n0 L ∧ h = h0
set_option maxRecDepth 65536 in
set_option maxHeartbeats 40000000 in
theorem rm5 (l : Launch) (Z : State) (a0 : Array Value) (hw : ∀ d ∈ tables_1, d.before a0 Z = true) (ws : List Jvm.Cond) (r0 : Addr) (h0 : Heap) (n0 : Nat) (Z0 : n0 ≤ h0.size) :
    MetFree l (⟨"java/lang/Record", "<init>", "()V"⟩ : MethodName) (head1 (Jvm.Cond.code (⟨"java/lang/Record", "<init>", "()V"⟩ : MethodName) jdk_30_method_1_code 1 none :: ws) ({ frames := 1, cells := 0, slots := 0, locals := 12 } : Room)) (fun a U => a = #[(.ref r0)] ∧ Z.Warmed39 U.vm ∧ U.heap = h0) (fun _ _ _ _ _ => True) (fun _ U o U' => ∃ v L, o = .returned v ∧ Qrm5 Z r0 h0 n0 v U'.heap L ∧ FrameEnd U o U' L ({ frames := 1, cells := 0, slots := 0, locals := 12 } : Room).cells ({ frames := 1, cells := 0, slots := 0, locals := 12 } : Room).slots) := by
  refine MetFree.of_bodySF (plainFor_of_name pn_5) hisR ?_
  intro p e s m args below meth c s₁ Bd hml0 hP hK
  obtain ⟨rfl, hZ, hh⟩ := hP
  have hx := Bd.exec
  have hby := Bd.bytes
  have hml : c.maxLocals = 1 := hml0
  have hown : s.vm.findClass "java/lang/Record" = some m.cls := findClass_of_methodNamed Bd.named
  have hnm := (name_of_methodNamed Bd.named Bd.method).1
  have X0 : Stand p l e ({ frames := 1, cells := 0, slots := 0, locals := 12 } : Room) s m #[(.ref r0)] below meth c s₁ [] 0 0 := Stand.of_body Bd
  have e0 : s₁.heap = h0 := by rw [← hh, Bd.state]; rfl
  have N0 := Fr.nil n0
  have ZZ := Z0
  show Go p e below s (Qrm5 Z r0 h0 n0) 0 0 (s₁.setTop (entryFrame m #[(.ref r0)] 1))
  generalize hQQ : (Qrm5 Z r0 h0 n0) = QQ
  refine gs (fun t k => castTop (g' := (mkF m 0 #[rv r0] [])) (by first | (simp [entryFrame, mkF, argsToLocals, Value.category, maxLocals]; done) | rfl) k) ?_
  show Go p e below s QQ 0 0 (s₁.setTop (mkF m 0 #[rv r0] []))
  refine gs (fun t => XS.aloadN X0.here hx rfl (hb hby d5_0) rfl rfl) ?_
  obtain ⟨T1, X1, e1, st1⟩ := initO X0 hx hZ hown (hw _ (List.mem_of_getElem? (i := 40) rfl)) (hw _ (List.mem_of_getElem? (i := 8) rfl)) (hw _ (List.mem_of_getElem? (i := 9) rfl)) e0 (g := (mkF m 1 #[rv r0] [(.ref r0)])) rfl (by rw [hml]; rfl) rfl (hb hby d5_1) (by decide) (W := 0) (by show 2 * 0 + _ ≤ _; exact Nat.le_of_eq rfl) (by decide)
  refine gs st1 ?_
  show Go p e below s QQ 0 0 (T1.setTop (mkF m 4 #[rv r0] []))
  exact goV X1 hx Bd.notSynchronized Bd.returns (hb hby d5_4) (by rw [← hQQ, e1]; exact ⟨rfl, N0, rfl⟩) (by decide) (by decide)
theorem d4_0 : decode prog_135_method_1_code 0 = .ok (.aload_n 0, 1) := by decide +kernel
theorem d4_1 : decode prog_135_method_1_code 1 = .ok (.invokespecial 1, 3) := by decide +kernel
theorem d4_4 : decode prog_135_method_1_code 4 = .ok (.aload_n 0, 1) := by decide +kernel
theorem d4_5 : decode prog_135_method_1_code 5 = .ok (.lload_n 1, 1) := by decide +kernel
theorem d4_6 : decode prog_135_method_1_code 6 = .ok (.putfield 7, 3) := by decide +kernel
theorem d4_9 : decode prog_135_method_1_code 9 = .ok (.return_, 1) := by decide +kernel
theorem pn_4 : plainName "weirline/runtime/CheckpointBarrier" = true := by first | (simp [plainName, overriddenIn]; done) | decide +kernel
def Qrm4 (Z : State) (r0 : Addr) (p1 : Int64) (h0 : Heap) (n0 : Nat) (v : Option Value) (h : Heap) (L : List Loc) : Prop := v = none ∧ Fr n0 L ∧ Keep h0 h [r0]
set_option maxRecDepth 65536 in
set_option maxHeartbeats 40000000 in
theorem rm4 (l : Launch) (Z : State) (a0 : Array Value) (hw : ∀ d ∈ tables_1, d.before a0 Z = true) (ws : List Jvm.Cond) (r0 : Addr) (p1 : Int64) (h0 : Heap) (n0 : Nat) (Z0 : n0 ≤ h0.size) (F_checkpointId_r0 : Fld Z h0 r0 "weirline/runtime/CheckpointBarrier" "checkpointId" "J" (.long (0 : Int64))) (E_r0 : Exa Z h0 r0 "weirline/runtime/CheckpointBarrier") (ge_r0 : n0 ≤ r0) :
    MetFree l (⟨"weirline/runtime/CheckpointBarrier", "<init>", "(J)V"⟩ : MethodName) (head1 (Jvm.Cond.code (⟨"weirline/runtime/CheckpointBarrier", "<init>", "(J)V"⟩ : MethodName) prog_135_method_1_code 3 none :: ws) ({ frames := 2, cells := 0, slots := 0, locals := 24 } : Room)) (fun a U => a = #[(.ref r0), (.long p1)] ∧ Z.Warmed39 U.vm ∧ U.heap = h0) (fun _ _ _ _ _ => True) (fun _ U o U' => ∃ v L, o = .returned v ∧ Qrm4 Z r0 p1 h0 n0 v U'.heap L ∧ FrameEnd U o U' L ({ frames := 2, cells := 0, slots := 0, locals := 24 } : Room).cells ({ frames := 2, cells := 0, slots := 0, locals := 24 } : Room).slots) := by
  refine MetFree.of_bodySF (plainFor_of_name pn_4) hisR ?_
  intro p e s m args below meth c s₁ Bd hml0 hP hK
  obtain ⟨rfl, hZ, hh⟩ := hP
  have hx := Bd.exec
  have hby := Bd.bytes
  have hml : c.maxLocals = 3 := hml0
  have hown : s.vm.findClass "weirline/runtime/CheckpointBarrier" = some m.cls := findClass_of_methodNamed Bd.named
  have hnm := (name_of_methodNamed Bd.named Bd.method).1
  have X0 : Stand p l e ({ frames := 2, cells := 0, slots := 0, locals := 24 } : Room) s m #[(.ref r0), (.long p1)] below meth c s₁ [] 0 0 := Stand.of_body Bd
  have e0 : s₁.heap = h0 := by rw [← hh, Bd.state]; rfl
  have N0 := Fr.nil n0
  have ZZ := Z0
  have KK : Keep h0 h0 [r0] := Keep.refl h0 _
  show Go p e below s (Qrm4 Z r0 p1 h0 n0) 0 0 (s₁.setTop (entryFrame m #[(.ref r0), (.long p1)] 3))
  generalize hQQ : (Qrm4 Z r0 p1 h0 n0) = QQ
  refine gs (fun t k => castTop (g' := (mkF m 0 #[rv r0, jv p1, .second] [])) (by first | (simp [entryFrame, mkF, argsToLocals, Value.category, maxLocals]; done) | rfl) k) ?_
  show Go p e below s QQ 0 0 (s₁.setTop (mkF m 0 #[rv r0, jv p1, .second] []))
  refine gs (fun t => XS.aloadN X0.here hx rfl (hb hby d4_0) rfl rfl) ?_
  obtain ⟨_, _, ⟨T2, L2, k2, n2⟩, -, X2, ⟨Lc2, hQ2, l2, y2, z2⟩, st2⟩ := X0.specialBack hx (y := (⟨"java/lang/Record", "<init>", "()V"⟩ : MethodName)) rfl hown (mvT hZ (hw _ (List.mem_of_getElem? (i := 35) rfl))) (mvT hZ (hw _ (List.mem_of_getElem? (i := 36) rfl))) (mvT hZ (hw _ (List.mem_of_getElem? (i := 39) rfl))) (by decide) (backOf (W := 0) (rm5 l Z a0 hw [] r0 h0 n0 ZZ ) hZ (hw _ (List.mem_of_getElem? (i := 39) rfl)) (hw _ (List.mem_of_getElem? (i := 38) rfl)) (by decide) (by decide)) (g := (mkF m 1 #[rv r0, jv p1, .second] [(.ref r0)])) rfl (by rw [hml]; rfl) (Steps.refl _) (a := r0) (argsL := []) (rest := []) (lenOf pd_0 rfl) rfl (by show 2 * 0 + _ ≤ _; exact Nat.le_of_eq rfl) (hb hby d4_1) (fun _ _ => ⟨rfl, e0, (by decide : 0 + 0 ≤ _), (by decide : 0 + 0 ≤ _)⟩)
  dsimp only [Pt.U, Pt.locs, Pt.cells, Pt.slots] at X2 l2 y2 z2 st2 hQ2
  subst l2 y2 z2
  obtain ⟨rfl, N2q, e2⟩ := hQ2
  replace N0 := Fr.app N0 N2q
  refine gt st2 ?_
  show Go p e below s QQ 0 0 (T2.setTop (mkF m 4 #[rv r0, jv p1, .second] []))
  refine gs (fun t => XS.aloadN X2.here hx rfl (hb hby d4_4) rfl rfl) ?_
  refine gs (fun t => XS.lloadN X2.here hx rfl (hb hby d4_5) rfl) ?_
  obtain ⟨T3, h3, X3, e3, W3, st3⟩ := putF X2 hx hZ hown (host := "") (Or.inl (hw _ (List.mem_of_getElem? (i := 41) rfl))) Via.refl e2 F_checkpointId_r0 E_r0 (Or.inr ⟨(hw _ (List.mem_of_getElem? (i := 42) rfl)), rfl, hnm⟩) (hw _ (List.mem_of_getElem? (i := 30) rfl)) (ty := .long) (by decide) rfl rfl (g := (mkF m 6 #[rv r0, jv p1, .second] [(.long p1), (.ref r0)])) rfl rfl (hb hby d4_6)
  replace N0 := Fr.snoc X3 N0 ge_r0
  refine gs st3 ?_
  show Go p e below s QQ 0 0 (T3.setTop (mkF m 9 #[rv r0, jv p1, .second] []))
  replace F_checkpointId_r0 := F_checkpointId_r0.same W3
  replace E_r0 := E_r0.wr W3
  replace ZZ : n0 ≤ h3.size := by rw [W3.size]; exact ZZ
  replace KK := KK.wr W3 (Or.inl (by simp))
  exact goV X3 hx Bd.notSynchronized Bd.returns (hb hby d4_9) (by rw [← hQQ, e3]; exact ⟨rfl, N0, KK⟩) (by decide) (by decide)
theorem d3_0 : decode jdk_65_method_101_code 0 = .ok (.iconst 0, 1) := by decide +kernel
theorem d3_1 : decode jdk_65_method_101_code 1 = .ok (.istore_n 3, 1) := by decide +kernel
theorem d3_2 : decode jdk_65_method_101_code 2 = .ok (.aload_n 0, 1) := by decide +kernel
theorem d3_3 : decode jdk_65_method_101_code 3 = .ok (.arraylength, 1) := by decide +kernel
theorem d3_4 : decode jdk_65_method_101_code 4 = .ok (.istore 4, 2) := by decide +kernel
theorem d3_6 : decode jdk_65_method_101_code 6 = .ok (.iload_n 3, 1) := by decide +kernel
theorem d3_7 : decode jdk_65_method_101_code 7 = .ok (.iload 4, 2) := by decide +kernel
theorem d3_9 : decode jdk_65_method_101_code 9 = .ok (.if_icmp .ge 13, 3) := by decide +kernel
theorem d3_12 : decode jdk_65_method_101_code 12 = .ok (.aload_n 0, 1) := by decide +kernel
theorem d3_13 : decode jdk_65_method_101_code 13 = .ok (.iload_n 3, 1) := by decide +kernel
theorem d3_14 : decode jdk_65_method_101_code 14 = .ok (.lload_n 1, 1) := by decide +kernel
theorem d3_15 : decode jdk_65_method_101_code 15 = .ok (.lastore, 1) := by decide +kernel
theorem d3_16 : decode jdk_65_method_101_code 16 = .ok (.iinc 3 1, 3) := by decide +kernel
theorem d3_19 : decode jdk_65_method_101_code 19 = .ok (.goto (-13), 3) := by decide +kernel
theorem d3_22 : decode jdk_65_method_101_code 22 = .ok (.return_, 1) := by decide +kernel
theorem pn_3 : plainName "java/util/Arrays" = true := by first | (simp [plainName, overriddenIn]; done) | decide +kernel
def QfillJ1 (Z : State) (r0 : Addr) (p1 : Int64) (ff : Nat → Value) (h0 : Heap) (n0 : Nat) (v : Option Value) (h : Heap) (L : List Loc) : Prop := v = none ∧ Fr n0 L ∧ Keep h0 h [r0]
set_option maxRecDepth 65536 in
set_option maxHeartbeats 40000000 in
theorem fillJ1 (l : Launch) (Z : State) (a0 : Array Value) (hw : ∀ d ∈ tables_1, d.before a0 Z = true) (ws : List Jvm.Cond) (r0 : Addr) (p1 : Int64) (ff : Nat → Value) (h0 : Heap) (n0 : Nat) (Z0 : n0 ≤ h0.size) (V_r0 : Arf Z h0 r0 .long 1 ff) (ge_r0 : n0 ≤ r0) :
    MetFree l (⟨"java/util/Arrays", "fill", "([JJ)V"⟩ : MethodName) (head1 (Jvm.Cond.code (⟨"java/util/Arrays", "fill", "([JJ)V"⟩ : MethodName) jdk_65_method_101_code 5 none :: ws) ({ frames := 0, cells := 0, slots := 0, locals := 0 } : Room)) (fun a U => a = #[(.ref r0), (.long p1)] ∧ Z.Warmed39 U.vm ∧ U.heap = h0) (fun _ _ _ _ _ => True) (fun _ U o U' => ∃ v L, o = .returned v ∧ QfillJ1 Z r0 p1 ff h0 n0 v U'.heap L ∧ FrameEnd U o U' L ({ frames := 0, cells := 0, slots := 0, locals := 0 } : Room).cells ({ frames := 0, cells := 0, slots := 0, locals := 0 } : Room).slots) := by
  refine MetFree.of_bodySF (plainFor_of_name pn_3) hisR ?_
  intro p e s m args below meth c s₁ Bd hml0 hP hK
  obtain ⟨rfl, hZ, hh⟩ := hP
  have hx := Bd.exec
  have hby := Bd.bytes
  have hml : c.maxLocals = 5 := hml0
  have hown : s.vm.findClass "java/util/Arrays" = some m.cls := findClass_of_methodNamed Bd.named
  have hnm := (name_of_methodNamed Bd.named Bd.method).1
  have X0 : Stand p l e ({ frames := 0, cells := 0, slots := 0, locals := 0 } : Room) s m #[(.ref r0), (.long p1)] below meth c s₁ [] 0 0 := Stand.of_body Bd
  have e0 : s₁.heap = h0 := by rw [← hh, Bd.state]; rfl
  have N0 := Fr.nil n0
  have ZZ := Z0
  have KK : Keep h0 h0 [r0] := Keep.refl h0 _
  show Go p e below s (QfillJ1 Z r0 p1 ff h0 n0) 0 0 (s₁.setTop (entryFrame m #[(.ref r0), (.long p1)] 5))
  generalize hQQ : (QfillJ1 Z r0 p1 ff h0 n0) = QQ
  refine gs (fun t k => castTop (g' := (mkF m 0 #[rv r0, jv p1, .second, .unset, .unset] [])) (by first | (simp [entryFrame, mkF, argsToLocals, Value.category, maxLocals]; done) | rfl) k) ?_
  show Go p e below s QQ 0 0 (s₁.setTop (mkF m 0 #[rv r0, jv p1, .second, .unset, .unset] []))
  refine gs (fun t => XS.iconst X0.here hx rfl (hb hby d3_0)) ?_
  refine gs (fun t => XS.istoreN X0.here hx rfl (hb hby d3_1) rfl (l' := #[rv r0, jv p1, .second, iv 0, .unset]) rfl) ?_
  refine gs (fun t => XS.aloadN X0.here hx rfl (hb hby d3_2) rfl rfl) ?_
  refine gs (fun t => lenf X0 hx hZ e0 V_r0 (z := (1 : Int32)) rfl (g := (mkF m 3 #[rv r0, jv p1, .second, iv 0, .unset] [(.ref r0)])) rfl rfl (hb hby d3_3) t) ?_
  refine gs (fun t => XS.istore X0.here hx rfl (hb hby d3_4) rfl (l' := #[rv r0, jv p1, .second, iv 0, iv 1]) rfl) ?_
  refine gs (fun t => XS.iloadN X0.here hx rfl (hb hby d3_6) rfl) ?_
  show Go p e below s QQ 0 0 (s₁.setTop (mkF m 7 #[rv r0, jv p1, .second, iv 0, iv 1] [(.int (0 : Int32))]))
  refine gs (fun t => XS.iload X0.here hx rfl (hb hby d3_7) rfl) ?_
  refine gs (fun t => XS.icmpNo X0.here hx rfl (hb hby d3_9) rfl (tlt (by decide : (0 : Int32) < (1 : Int32))).2.1) ?_
  refine gs (fun t => XS.aloadN X0.here hx rfl (hb hby d3_12) rfl rfl) ?_
  refine gs (fun t => XS.iloadN X0.here hx rfl (hb hby d3_13) rfl) ?_
  refine gs (fun t => XS.lloadN X0.here hx rfl (hb hby d3_14) rfl) ?_
  obtain ⟨T4, h4, X4, e4, W4, V4, st4⟩ := stJf X0 hx hZ e0 V_r0 (j := (0 : Int32)) (by decide) (g := (mkF m 15 #[rv r0, jv p1, .second, iv 0, iv 1] [(.long p1), (.int (0 : Int32)), (.ref r0)])) rfl rfl (hb hby d3_15)
  replace N0 := Fr.snoc X4 N0 ge_r0
  refine gs st4 ?_
  show Go p e below s QQ 0 0 (T4.setTop (mkF m 16 #[rv r0, jv p1, .second, iv 0, iv 1] []))
  replace ZZ : n0 ≤ h4.size := by rw [W4.size]; exact ZZ
  replace KK := KK.wr W4 (Or.inl (by simp))
  replace V_r0 : Arf Z h4 r0 .long 1 (updv ff 0 (.long p1)) := V4
  refine gs (fun t => XS.iinc X4.here hx rfl (hb hby d3_16) rfl (l' := #[rv r0, jv p1, .second, iv 1, iv 1]) rfl) ?_
  refine gs (fun t => XS.goto X4.here hx rfl (pc0 := 19) (pc' := 6) rfl (hb hby d3_19) (by decide) (by decide)) ?_
  refine gs (fun t => XS.iloadN X4.here hx rfl (hb hby d3_6) rfl) ?_
  refine gs (fun t => XS.iload X4.here hx rfl (hb hby d3_7) rfl) ?_
  refine gs (fun t => XS.icmpYes X4.here hx rfl (pc0 := 9) (pc' := 22) rfl (hb hby d3_9) rfl (flt (by decide : ¬ ((1 : Int32) < (1 : Int32)))).2.1 (by decide) (by decide)) ?_
  exact goV X4 hx Bd.notSynchronized Bd.returns (hb hby d3_22) (by rw [← hQQ, e4]; exact ⟨rfl, N0, KK⟩) (by decide) (by decide)
theorem d9_0 : decode jdk_65_method_111_code 0 = .ok (.iconst 0, 1) := by decide +kernel
theorem d9_1 : decode jdk_65_method_111_code 1 = .ok (.istore_n 2, 1) := by decide +kernel
theorem d9_2 : decode jdk_65_method_111_code 2 = .ok (.aload_n 0, 1) := by decide +kernel
theorem d9_3 : decode jdk_65_method_111_code 3 = .ok (.arraylength, 1) := by decide +kernel
theorem d9_4 : decode jdk_65_method_111_code 4 = .ok (.istore_n 3, 1) := by decide +kernel
theorem d9_5 : decode jdk_65_method_111_code 5 = .ok (.iload_n 2, 1) := by decide +kernel
theorem d9_6 : decode jdk_65_method_111_code 6 = .ok (.iload_n 3, 1) := by decide +kernel
theorem d9_7 : decode jdk_65_method_111_code 7 = .ok (.if_icmp .ge 13, 3) := by decide +kernel
theorem d9_10 : decode jdk_65_method_111_code 10 = .ok (.aload_n 0, 1) := by decide +kernel
theorem d9_11 : decode jdk_65_method_111_code 11 = .ok (.iload_n 2, 1) := by decide +kernel
theorem d9_12 : decode jdk_65_method_111_code 12 = .ok (.iload_n 1, 1) := by decide +kernel
theorem d9_13 : decode jdk_65_method_111_code 13 = .ok (.bastore, 1) := by decide +kernel
theorem d9_14 : decode jdk_65_method_111_code 14 = .ok (.iinc 2 1, 3) := by decide +kernel
theorem d9_17 : decode jdk_65_method_111_code 17 = .ok (.goto (-12), 3) := by decide +kernel
theorem d9_20 : decode jdk_65_method_111_code 20 = .ok (.return_, 1) := by decide +kernel
theorem pn_9 : plainName "java/util/Arrays" = true := by first | (simp [plainName, overriddenIn]; done) | decide +kernel
def QfillZ1 (Z : State) (r0 : Addr) (ff : Nat → Value) (h0 : Heap) (n0 : Nat) (v : Option Value) (h : Heap) (L : List Loc) : Prop := v = none ∧ Fr n0 L ∧ Keep h0 h [r0] ∧ Arf Z h r0 .boolean 1 (fun _ => .int 0)
set_option maxRecDepth 65536 in
set_option maxHeartbeats 40000000 in
theorem fillZ1 (l : Launch) (Z : State) (a0 : Array Value) (hw : ∀ d ∈ tables_1, d.before a0 Z = true) (ws : List Jvm.Cond) (r0 : Addr) (ff : Nat → Value) (h0 : Heap) (n0 : Nat) (Z0 : n0 ≤ h0.size) (V_r0 : Arf Z h0 r0 .boolean 1 ff) (ge_r0 : n0 ≤ r0) :
    MetFree l (⟨"java/util/Arrays", "fill", "([ZZ)V"⟩ : MethodName) (head1 (Jvm.Cond.code (⟨"java/util/Arrays", "fill", "([ZZ)V"⟩ : MethodName) jdk_65_method_111_code 4 none :: ws) ({ frames := 0, cells := 0, slots := 0, locals := 0 } : Room)) (fun a U => a = #[(.ref r0), (.int (0 : Int32))] ∧ Z.Warmed39 U.vm ∧ U.heap = h0) (fun _ _ _ _ _ => True) (fun _ U o U' => ∃ v L, o = .returned v ∧ QfillZ1 Z r0 ff h0 n0 v U'.heap L ∧ FrameEnd U o U' L ({ frames := 0, cells := 0, slots := 0, locals := 0 } : Room).cells ({ frames := 0, cells := 0, slots := 0, locals := 0 } : Room).slots) := by
  refine MetFree.of_bodySF (plainFor_of_name pn_9) hisR ?_
  intro p e s m args below meth c s₁ Bd hml0 hP hK
  obtain ⟨rfl, hZ, hh⟩ := hP
  have hx := Bd.exec
  have hby := Bd.bytes
  have hml : c.maxLocals = 4 := hml0
  have hown : s.vm.findClass "java/util/Arrays" = some m.cls := findClass_of_methodNamed Bd.named
  have hnm := (name_of_methodNamed Bd.named Bd.method).1
  have X0 : Stand p l e ({ frames := 0, cells := 0, slots := 0, locals := 0 } : Room) s m #[(.ref r0), (.int (0 : Int32))] below meth c s₁ [] 0 0 := Stand.of_body Bd
  have e0 : s₁.heap = h0 := by rw [← hh, Bd.state]; rfl
  have N0 := Fr.nil n0
  have ZZ := Z0
  have KK : Keep h0 h0 [r0] := Keep.refl h0 _
  show Go p e below s (QfillZ1 Z r0 ff h0 n0) 0 0 (s₁.setTop (entryFrame m #[(.ref r0), (.int (0 : Int32))] 4))
  generalize hQQ : (QfillZ1 Z r0 ff h0 n0) = QQ
  refine gs (fun t k => castTop (g' := (mkF m 0 #[rv r0, iv 0, .unset, .unset] [])) (by first | (simp [entryFrame, mkF, argsToLocals, Value.category, maxLocals]; done) | rfl) k) ?_
  show Go p e below s QQ 0 0 (s₁.setTop (mkF m 0 #[rv r0, iv 0, .unset, .unset] []))
  refine gs (fun t => XS.iconst X0.here hx rfl (hb hby d9_0)) ?_
  refine gs (fun t => XS.istoreN X0.here hx rfl (hb hby d9_1) rfl (l' := #[rv r0, iv 0, iv 0, .unset]) rfl) ?_
  refine gs (fun t => XS.aloadN X0.here hx rfl (hb hby d9_2) rfl rfl) ?_
  refine gs (fun t => lenf X0 hx hZ e0 V_r0 (z := (1 : Int32)) rfl (g := (mkF m 3 #[rv r0, iv 0, iv 0, .unset] [(.ref r0)])) rfl rfl (hb hby d9_3) t) ?_
  refine gs (fun t => XS.istoreN X0.here hx rfl (hb hby d9_4) rfl (l' := #[rv r0, iv 0, iv 0, iv 1]) rfl) ?_
  refine gs (fun t => XS.iloadN X0.here hx rfl (hb hby d9_5) rfl) ?_
  show Go p e below s QQ 0 0 (s₁.setTop (mkF m 6 #[rv r0, iv 0, iv 0, iv 1] [(.int (0 : Int32))]))
  refine gs (fun t => XS.iloadN X0.here hx rfl (hb hby d9_6) rfl) ?_
  refine gs (fun t => XS.icmpNo X0.here hx rfl (hb hby d9_7) rfl (tlt (by decide : (0 : Int32) < (1 : Int32))).2.1) ?_
  refine gs (fun t => XS.aloadN X0.here hx rfl (hb hby d9_10) rfl rfl) ?_
  refine gs (fun t => XS.iloadN X0.here hx rfl (hb hby d9_11) rfl) ?_
  refine gs (fun t => XS.iloadN X0.here hx rfl (hb hby d9_12) rfl) ?_
  obtain ⟨T5, h5, X5, e5, W5, V5, st5⟩ := stZf X0 hx hZ e0 V_r0 (j := (0 : Int32)) (by decide) (g := (mkF m 13 #[rv r0, iv 0, iv 0, iv 1] [(.int (0 : Int32)), (.int (0 : Int32)), (.ref r0)])) rfl rfl (hb hby d9_13)
  replace N0 := Fr.snoc X5 N0 ge_r0
  refine gs st5 ?_
  show Go p e below s QQ 0 0 (T5.setTop (mkF m 14 #[rv r0, iv 0, iv 0, iv 1] []))
  replace ZZ : n0 ≤ h5.size := by rw [W5.size]; exact ZZ
  replace KK := KK.wr W5 (Or.inl (by simp))
  replace V_r0 : Arf Z h5 r0 .boolean 1 (updv ff 0 (.int (nar .boolean (0 : Int32)))) := V5
  refine gs (fun t => XS.iinc X5.here hx rfl (hb hby d9_14) rfl (l' := #[rv r0, iv 0, iv 1, iv 1]) rfl) ?_
  refine gs (fun t => XS.goto X5.here hx rfl (pc0 := 17) (pc' := 5) rfl (hb hby d9_17) (by decide) (by decide)) ?_
  refine gs (fun t => XS.iloadN X5.here hx rfl (hb hby d9_5) rfl) ?_
  refine gs (fun t => XS.iloadN X5.here hx rfl (hb hby d9_6) rfl) ?_
  refine gs (fun t => XS.icmpYes X5.here hx rfl (pc0 := 7) (pc' := 20) rfl (hb hby d9_7) rfl (flt (by decide : ¬ ((1 : Int32) < (1 : Int32)))).2.1 (by decide) (by decide)) ?_
  replace V_r0 : Arf Z h5 r0 .boolean 1 (fun _ => .int 0) := V_r0.congr (fun i hi => by rcases own_c1 hi with rfl <;> rfl)
  exact goV X5 hx Bd.notSynchronized Bd.returns (hb hby d9_20) (by rw [← hQQ, e5]; exact ⟨rfl, N0, KK, V_r0⟩) (by decide) (by decide)
theorem d1_0 : decode prog_151_method_1_code 0 = .ok (.aload_n 0, 1) := by decide +kernel
theorem d1_1 : decode prog_151_method_1_code 1 = .ok (.invokespecial 3, 3) := by decide +kernel
theorem d1_4 : decode prog_151_method_1_code 4 = .ok (.aload_n 0, 1) := by decide +kernel
theorem d1_5 : decode prog_151_method_1_code 5 = .ok (.ldc2_w 9, 3) := by decide +kernel
theorem d1_8 : decode prog_151_method_1_code 8 = .ok (.putfield 11, 3) := by decide +kernel
theorem d1_11 : decode prog_151_method_1_code 11 = .ok (.aload_n 0, 1) := by decide +kernel
theorem d1_12 : decode prog_151_method_1_code 12 = .ok (.iload_n 1, 1) := by decide +kernel
theorem d1_13 : decode prog_151_method_1_code 13 = .ok (.putfield 17, 3) := by decide +kernel
theorem d1_16 : decode prog_151_method_1_code 16 = .ok (.aload_n 0, 1) := by decide +kernel
theorem d1_17 : decode prog_151_method_1_code 17 = .ok (.iload_n 1, 1) := by decide +kernel
theorem d1_18 : decode prog_151_method_1_code 18 = .ok (.newarray .long, 2) := by decide +kernel
theorem d1_20 : decode prog_151_method_1_code 20 = .ok (.putfield 21, 3) := by decide +kernel
theorem d1_23 : decode prog_151_method_1_code 23 = .ok (.aload_n 0, 1) := by decide +kernel
theorem d1_24 : decode prog_151_method_1_code 24 = .ok (.iload_n 1, 1) := by decide +kernel
theorem d1_25 : decode prog_151_method_1_code 25 = .ok (.newarray .boolean, 2) := by decide +kernel
theorem d1_27 : decode prog_151_method_1_code 27 = .ok (.putfield 25, 3) := by decide +kernel
theorem d1_30 : decode prog_151_method_1_code 30 = .ok (.aload_n 0, 1) := by decide +kernel
theorem d1_31 : decode prog_151_method_1_code 31 = .ok (.iload_n 1, 1) := by decide +kernel
theorem d1_32 : decode prog_151_method_1_code 32 = .ok (.newarray .boolean, 2) := by decide +kernel
theorem d1_34 : decode prog_151_method_1_code 34 = .ok (.putfield 29, 3) := by decide +kernel
theorem d1_37 : decode prog_151_method_1_code 37 = .ok (.aload_n 0, 1) := by decide +kernel
theorem d1_38 : decode prog_151_method_1_code 38 = .ok (.iload_n 1, 1) := by decide +kernel
theorem d1_39 : decode prog_151_method_1_code 39 = .ok (.newarray .boolean, 2) := by decide +kernel
theorem d1_41 : decode prog_151_method_1_code 41 = .ok (.putfield 32, 3) := by decide +kernel
theorem d1_44 : decode prog_151_method_1_code 44 = .ok (.aload_n 0, 1) := by decide +kernel
theorem d1_45 : decode prog_151_method_1_code 45 = .ok (.getfield 21, 3) := by decide +kernel
theorem d1_48 : decode prog_151_method_1_code 48 = .ok (.ldc2_w 9, 3) := by decide +kernel
theorem d1_51 : decode prog_151_method_1_code 51 = .ok (.invokestatic 35, 3) := by decide +kernel
theorem d1_54 : decode prog_151_method_1_code 54 = .ok (.return_, 1) := by decide +kernel
theorem pn_1 : plainName "weirline/runtime/InputChannels" = true := by first | (simp [plainName, overriddenIn]; done) | decide +kernel
def Qctor1 (Z : State) (r0 : Addr) (h0 : Heap) (n0 : Nat) (v : Option Value) (h : Heap) (L : List Loc) : Prop := ∃ eb bb : Addr, v = none ∧ Fr n0 L ∧ Keep h0 h [r0] ∧ Fld Z h r0 "weirline/runtime/InputChannels" "count" "I" (.int (1 : Int32)) ∧ Fld Z h r0 "weirline/runtime/InputChannels" "ended" "[Z" (.ref eb) ∧ Fld Z h r0 "weirline/runtime/InputChannels" "endedCount" "I" (.int (0 : Int32)) ∧ Fld Z h r0 "weirline/runtime/InputChannels" "aligning" "Lweirline/runtime/CheckpointBarrier;" .null ∧ Fld Z h r0 "weirline/runtime/InputChannels" "barrierIn" "[Z" (.ref bb) ∧ Fld Z h r0 "weirline/runtime/InputChannels" "barriersIn" "I" (.int (0 : Int32)) ∧ Arf Z h eb .boolean 1 (fun _ => .int 0) ∧ Arf Z h bb .boolean 1 (fun _ => .int 0) ∧ h0.size ≤ eb ∧ h0.size ≤ bb ∧ eb ≠ bb
set_option maxRecDepth 65536 in
set_option maxHeartbeats 40000000 in
theorem ctor1 (l : Launch) (Z : State) (a0 : Array Value) (hw : ∀ d ∈ tables_1, d.before a0 Z = true) (ws : List Jvm.Cond) (r0 : Addr) (h0 : Heap) (n0 : Nat) (Z0 : n0 ≤ h0.size) (F_minimum_r0 : Fld Z h0 r0 "weirline/runtime/InputChannels" "minimum" "J" (.long (0 : Int64))) (F_count_r0 : Fld Z h0 r0 "weirline/runtime/InputChannels" "count" "I" (.int (0 : Int32))) (F_latest_r0 : Fld Z h0 r0 "weirline/runtime/InputChannels" "latest" "[J" .null) (F_channelIdle_r0 : Fld Z h0 r0 "weirline/runtime/InputChannels" "channelIdle" "[Z" .null) (F_ended_r0 : Fld Z h0 r0 "weirline/runtime/InputChannels" "ended" "[Z" .null) (F_barrierIn_r0 : Fld Z h0 r0 "weirline/runtime/InputChannels" "barrierIn" "[Z" .null) (F_aligning_r0 : Fld Z h0 r0 "weirline/runtime/InputChannels" "aligning" "Lweirline/runtime/CheckpointBarrier;" .null) (F_barriersIn_r0 : Fld Z h0 r0 "weirline/runtime/InputChannels" "barriersIn" "I" (.int (0 : Int32))) (F_endedCount_r0 : Fld Z h0 r0 "weirline/runtime/InputChannels" "endedCount" "I" (.int (0 : Int32))) (E_r0 : Exa Z h0 r0 "weirline/runtime/InputChannels") (ge_r0 : n0 ≤ r0) :
    MetFree l (⟨"weirline/runtime/InputChannels", "<init>", "(I)V"⟩ : MethodName) (head1 (Jvm.Cond.code (⟨"weirline/runtime/InputChannels", "<init>", "(I)V"⟩ : MethodName) prog_151_method_1_code 2 none :: ws) ({ frames := 1, cells := 4, slots := 4, locals := 16 } : Room)) (fun a U => a = #[(.ref r0), (.int (1 : Int32))] ∧ Z.Warmed39 U.vm ∧ U.heap = h0) (fun _ _ _ _ _ => True) (fun _ U o U' => ∃ v L, o = .returned v ∧ Qctor1 Z r0 h0 n0 v U'.heap L ∧ FrameEnd U o U' L ({ frames := 1, cells := 4, slots := 4, locals := 16 } : Room).cells ({ frames := 1, cells := 4, slots := 4, locals := 16 } : Room).slots) := by
  refine MetFree.of_bodySF (plainFor_of_name pn_1) hisR ?_
  intro p e s m args below meth c s₁ Bd hml0 hP hK
  obtain ⟨rfl, hZ, hh⟩ := hP
  have hx := Bd.exec
  have hby := Bd.bytes
  have hml : c.maxLocals = 2 := hml0
  have hown : s.vm.findClass "weirline/runtime/InputChannels" = some m.cls := findClass_of_methodNamed Bd.named
  have hnm := (name_of_methodNamed Bd.named Bd.method).1
  have X0 : Stand p l e ({ frames := 1, cells := 4, slots := 4, locals := 16 } : Room) s m #[(.ref r0), (.int (1 : Int32))] below meth c s₁ [] 0 0 := Stand.of_body Bd
  have e0 : s₁.heap = h0 := by rw [← hh, Bd.state]; rfl
  have N0 := Fr.nil n0
  have ZZ := Z0
  have KK : Keep h0 h0 [r0] := Keep.refl h0 _
  show Go p e below s (Qctor1 Z r0 h0 n0) 4 4 (s₁.setTop (entryFrame m #[(.ref r0), (.int (1 : Int32))] 2))
  generalize hQQ : (Qctor1 Z r0 h0 n0) = QQ
  refine gs (fun t k => castTop (g' := (mkF m 0 #[rv r0, iv 1] [])) (by first | (simp [entryFrame, mkF, argsToLocals, Value.category, maxLocals]; done) | rfl) k) ?_
  show Go p e below s QQ 4 4 (s₁.setTop (mkF m 0 #[rv r0, iv 1] []))
  refine gs (fun t => XS.aloadN X0.here hx rfl (hb hby d1_0) rfl rfl) ?_
  obtain ⟨T6, X6, e6, st6⟩ := initO X0 hx hZ hown (hw _ (List.mem_of_getElem? (i := 7) rfl)) (hw _ (List.mem_of_getElem? (i := 8) rfl)) (hw _ (List.mem_of_getElem? (i := 9) rfl)) e0 (g := (mkF m 1 #[rv r0, iv 1] [(.ref r0)])) rfl (by rw [hml]; rfl) rfl (hb hby d1_1) (by decide) (W := 0) (by show 2 * 0 + _ ≤ _; exact Nat.le_of_eq rfl) (by decide)
  refine gs st6 ?_
  show Go p e below s QQ 4 4 (T6.setTop (mkF m 4 #[rv r0, iv 1] []))
  refine gs (fun t => XS.aloadN X6.here hx rfl (hb hby d1_4) rfl rfl) ?_
  refine gs (fun t => X6.ldc2Long hx hown (mvT hZ (hw _ (List.mem_of_getElem? (i := 10) rfl))) (g := (mkF m 5 #[rv r0, iv 1] [(.ref r0)])) rfl (hb hby d1_5) t) ?_
  obtain ⟨T7, h7, X7, e7, W7, st7⟩ := putF X6 hx hZ hown (host := "") (Or.inl (hw _ (List.mem_of_getElem? (i := 11) rfl))) Via.refl e6 F_minimum_r0 E_r0 (Or.inl (hw _ (List.mem_of_getElem? (i := 12) rfl))) (hw _ (List.mem_of_getElem? (i := 2) rfl)) (ty := .long) (by decide) rfl rfl (g := (mkF m 8 #[rv r0, iv 1] [(.long (-9223372036854775808 : Int64)), (.ref r0)])) rfl rfl (hb hby d1_8)
  replace N0 := Fr.snoc X7 N0 ge_r0
  refine gs st7 ?_
  show Go p e below s QQ 4 4 (T7.setTop (mkF m 11 #[rv r0, iv 1] []))
  replace F_minimum_r0 := F_minimum_r0.same W7
  replace F_count_r0 := F_count_r0.other W7 (Or.inr (slot_ne (Or.inr (hw _ (List.mem_of_getElem? (i := 14) rfl))) (Or.inl (hw _ (List.mem_of_getElem? (i := 12) rfl))) (by decide) (t := .int) (t' := .long) (by decide) (by decide)))
  replace F_latest_r0 := F_latest_r0.other W7 (Or.inr (slot_ne (Or.inr (hw _ (List.mem_of_getElem? (i := 17) rfl))) (Or.inl (hw _ (List.mem_of_getElem? (i := 12) rfl))) (by decide) (t := (.array .long)) (t' := .long) (by decide) (by decide)))
  replace F_channelIdle_r0 := F_channelIdle_r0.other W7 (Or.inr (slot_ne (Or.inr (hw _ (List.mem_of_getElem? (i := 20) rfl))) (Or.inl (hw _ (List.mem_of_getElem? (i := 12) rfl))) (by decide) (t := (.array .boolean)) (t' := .long) (by decide) (by decide)))
  replace F_ended_r0 := F_ended_r0.other W7 (Or.inr (slot_ne (Or.inr (hw _ (List.mem_of_getElem? (i := 22) rfl))) (Or.inl (hw _ (List.mem_of_getElem? (i := 12) rfl))) (by decide) (t := (.array .boolean)) (t' := .long) (by decide) (by decide)))
  replace F_barrierIn_r0 := F_barrierIn_r0.other W7 (Or.inr (slot_ne (Or.inr (hw _ (List.mem_of_getElem? (i := 24) rfl))) (Or.inl (hw _ (List.mem_of_getElem? (i := 12) rfl))) (by decide) (t := (.array .boolean)) (t' := .long) (by decide) (by decide)))
  replace F_aligning_r0 := F_aligning_r0.other W7 (Or.inr (slot_ne (Or.inl (hw _ (List.mem_of_getElem? (i := 49) rfl))) (Or.inl (hw _ (List.mem_of_getElem? (i := 12) rfl))) (by decide) (t := (.object "weirline/runtime/CheckpointBarrier")) (t' := .long) (by decide) (by decide)))
  replace F_barriersIn_r0 := F_barriersIn_r0.other W7 (Or.inr (slot_ne (Or.inl (hw _ (List.mem_of_getElem? (i := 51) rfl))) (Or.inl (hw _ (List.mem_of_getElem? (i := 12) rfl))) (by decide) (t := .int) (t' := .long) (by decide) (by decide)))
  replace F_endedCount_r0 := F_endedCount_r0.other W7 (Or.inr (slot_ne (Or.inl (hw _ (List.mem_of_getElem? (i := 63) rfl))) (Or.inl (hw _ (List.mem_of_getElem? (i := 12) rfl))) (by decide) (t := .int) (t' := .long) (by decide) (by decide)))
  replace E_r0 := E_r0.wr W7
  replace ZZ : n0 ≤ h7.size := by rw [W7.size]; exact ZZ
  replace KK := KK.wr W7 (Or.inl (by simp))
  refine gs (fun t => XS.aloadN X7.here hx rfl (hb hby d1_11) rfl rfl) ?_
  refine gs (fun t => XS.iloadN X7.here hx rfl (hb hby d1_12) rfl) ?_
  obtain ⟨T8, h8, X8, e8, W8, st8⟩ := putF X7 hx hZ hown (host := "") (Or.inl (hw _ (List.mem_of_getElem? (i := 13) rfl))) Via.refl e7 F_count_r0 E_r0 (Or.inr ⟨(hw _ (List.mem_of_getElem? (i := 14) rfl)), rfl, hnm⟩) (hw _ (List.mem_of_getElem? (i := 2) rfl)) (ty := .int) (by decide) rfl rfl (g := (mkF m 13 #[rv r0, iv 1] [(.int (1 : Int32)), (.ref r0)])) rfl rfl (hb hby d1_13)
  replace N0 := Fr.snoc X8 N0 ge_r0
  refine gs st8 ?_
  show Go p e below s QQ 4 4 (T8.setTop (mkF m 16 #[rv r0, iv 1] []))
  replace F_minimum_r0 := F_minimum_r0.other W8 (Or.inr (slot_ne (Or.inl (hw _ (List.mem_of_getElem? (i := 12) rfl))) (Or.inr (hw _ (List.mem_of_getElem? (i := 14) rfl))) (by decide) (t := .long) (t' := .int) (by decide) (by decide)))
  replace F_count_r0 := F_count_r0.same W8
  replace F_latest_r0 := F_latest_r0.other W8 (Or.inr (slot_ne (Or.inr (hw _ (List.mem_of_getElem? (i := 17) rfl))) (Or.inr (hw _ (List.mem_of_getElem? (i := 14) rfl))) (by decide) (t := (.array .long)) (t' := .int) (by decide) (by decide)))
  replace F_channelIdle_r0 := F_channelIdle_r0.other W8 (Or.inr (slot_ne (Or.inr (hw _ (List.mem_of_getElem? (i := 20) rfl))) (Or.inr (hw _ (List.mem_of_getElem? (i := 14) rfl))) (by decide) (t := (.array .boolean)) (t' := .int) (by decide) (by decide)))
  replace F_ended_r0 := F_ended_r0.other W8 (Or.inr (slot_ne (Or.inr (hw _ (List.mem_of_getElem? (i := 22) rfl))) (Or.inr (hw _ (List.mem_of_getElem? (i := 14) rfl))) (by decide) (t := (.array .boolean)) (t' := .int) (by decide) (by decide)))
  replace F_barrierIn_r0 := F_barrierIn_r0.other W8 (Or.inr (slot_ne (Or.inr (hw _ (List.mem_of_getElem? (i := 24) rfl))) (Or.inr (hw _ (List.mem_of_getElem? (i := 14) rfl))) (by decide) (t := (.array .boolean)) (t' := .int) (by decide) (by decide)))
  replace F_aligning_r0 := F_aligning_r0.other W8 (Or.inr (slot_ne (Or.inl (hw _ (List.mem_of_getElem? (i := 49) rfl))) (Or.inr (hw _ (List.mem_of_getElem? (i := 14) rfl))) (by decide) (t := (.object "weirline/runtime/CheckpointBarrier")) (t' := .int) (by decide) (by decide)))
  replace F_barriersIn_r0 := F_barriersIn_r0.other W8 (Or.inr (slot_ne (Or.inl (hw _ (List.mem_of_getElem? (i := 51) rfl))) (Or.inr (hw _ (List.mem_of_getElem? (i := 14) rfl))) (by decide) (t := .int) (t' := .int) (by decide) (by decide)))
  replace F_endedCount_r0 := F_endedCount_r0.other W8 (Or.inr (slot_ne (Or.inl (hw _ (List.mem_of_getElem? (i := 63) rfl))) (Or.inr (hw _ (List.mem_of_getElem? (i := 14) rfl))) (by decide) (t := .int) (t' := .int) (by decide) (by decide)))
  replace E_r0 := E_r0.wr W8
  replace ZZ : n0 ≤ h8.size := by rw [W8.size]; exact ZZ
  replace KK := KK.wr W8 (Or.inl (by simp))
  refine gs (fun t => XS.aloadN X8.here hx rfl (hb hby d1_16) rfl rfl) ?_
  refine gs (fun t => XS.iloadN X8.here hx rfl (hb hby d1_17) rfl) ?_
  obtain ⟨T9, h9, k9, X9, e9, E9, A9, st9⟩ := newP X8 hx hZ (hw _ (List.mem_of_getElem? (i := 15) rfl)) e8 (g := (mkF m 18 #[rv r0, iv 1] [(.int (1 : Int32)), (.ref r0)])) rfl (hb hby d1_18) rfl (by decide) (cap := 1) (by decide) (by decide) (by decide) (by decide)
  obtain ⟨b9, g9⟩ : ∃ z, z = h8.size := ⟨_, rfl⟩
  rw [← g9] at A9 st9
  have ge_b9 : n0 ≤ b9 := by rw [g9]; exact ZZ
  have sz_b9 : h0.size ≤ b9 := by rw [g9]; exact KK.1
  have ne_r0_b9 : r0 ≠ b9 := by rw [g9]; exact Nat.ne_of_lt F_minimum_r0.lt
  refine gs st9 ?_
  show Go p e below s QQ 4 4 (T9.setTop (mkF m 20 #[rv r0, iv 1] [(.ref b9), (.ref r0)]))
  replace F_minimum_r0 := F_minimum_r0.ext E9
  replace F_count_r0 := F_count_r0.ext E9
  replace F_latest_r0 := F_latest_r0.ext E9
  replace F_channelIdle_r0 := F_channelIdle_r0.ext E9
  replace F_ended_r0 := F_ended_r0.ext E9
  replace F_barrierIn_r0 := F_barrierIn_r0.ext E9
  replace F_aligning_r0 := F_aligning_r0.ext E9
  replace F_barriersIn_r0 := F_barriersIn_r0.ext E9
  replace F_endedCount_r0 := F_endedCount_r0.ext E9
  replace E_r0 := E_r0.ext E9
  replace ZZ := Nat.le_trans ZZ E9.1
  replace KK := KK.ext E9
  have V_b9 : Arf Z h9 b9 .long 1 (fun _ => .long 0) := Arf.new A9
  obtain ⟨T10, h10, X10, e10, W10, st10⟩ := putF X9 hx hZ hown (host := "") (Or.inl (hw _ (List.mem_of_getElem? (i := 16) rfl))) Via.refl e9 F_latest_r0 E_r0 (Or.inr ⟨(hw _ (List.mem_of_getElem? (i := 17) rfl)), rfl, hnm⟩) (hw _ (List.mem_of_getElem? (i := 2) rfl)) (ty := (.array .long)) (by decide) rfl rfl (g := (mkF m 20 #[rv r0, iv 1] [(.ref b9), (.ref r0)])) rfl rfl (hb hby d1_20)
  replace N0 := Fr.snoc X10 N0 ge_r0
  refine gs st10 ?_
  show Go p e below s QQ 4 4 (T10.setTop (mkF m 23 #[rv r0, iv 1] []))
  replace F_minimum_r0 := F_minimum_r0.other W10 (Or.inr (slot_ne (Or.inl (hw _ (List.mem_of_getElem? (i := 12) rfl))) (Or.inr (hw _ (List.mem_of_getElem? (i := 17) rfl))) (by decide) (t := .long) (t' := (.array .long)) (by decide) (by decide)))
  replace F_count_r0 := F_count_r0.other W10 (Or.inr (slot_ne (Or.inr (hw _ (List.mem_of_getElem? (i := 14) rfl))) (Or.inr (hw _ (List.mem_of_getElem? (i := 17) rfl))) (by decide) (t := .int) (t' := (.array .long)) (by decide) (by decide)))
  replace F_latest_r0 := F_latest_r0.same W10
  replace F_channelIdle_r0 := F_channelIdle_r0.other W10 (Or.inr (slot_ne (Or.inr (hw _ (List.mem_of_getElem? (i := 20) rfl))) (Or.inr (hw _ (List.mem_of_getElem? (i := 17) rfl))) (by decide) (t := (.array .boolean)) (t' := (.array .long)) (by decide) (by decide)))
  replace F_ended_r0 := F_ended_r0.other W10 (Or.inr (slot_ne (Or.inr (hw _ (List.mem_of_getElem? (i := 22) rfl))) (Or.inr (hw _ (List.mem_of_getElem? (i := 17) rfl))) (by decide) (t := (.array .boolean)) (t' := (.array .long)) (by decide) (by decide)))
  replace F_barrierIn_r0 := F_barrierIn_r0.other W10 (Or.inr (slot_ne (Or.inr (hw _ (List.mem_of_getElem? (i := 24) rfl))) (Or.inr (hw _ (List.mem_of_getElem? (i := 17) rfl))) (by decide) (t := (.array .boolean)) (t' := (.array .long)) (by decide) (by decide)))
  replace F_aligning_r0 := F_aligning_r0.other W10 (Or.inr (slot_ne (Or.inl (hw _ (List.mem_of_getElem? (i := 49) rfl))) (Or.inr (hw _ (List.mem_of_getElem? (i := 17) rfl))) (by decide) (t := (.object "weirline/runtime/CheckpointBarrier")) (t' := (.array .long)) (by decide) (by decide)))
  replace F_barriersIn_r0 := F_barriersIn_r0.other W10 (Or.inr (slot_ne (Or.inl (hw _ (List.mem_of_getElem? (i := 51) rfl))) (Or.inr (hw _ (List.mem_of_getElem? (i := 17) rfl))) (by decide) (t := .int) (t' := (.array .long)) (by decide) (by decide)))
  replace F_endedCount_r0 := F_endedCount_r0.other W10 (Or.inr (slot_ne (Or.inl (hw _ (List.mem_of_getElem? (i := 63) rfl))) (Or.inr (hw _ (List.mem_of_getElem? (i := 17) rfl))) (by decide) (t := .int) (t' := (.array .long)) (by decide) (by decide)))
  replace E_r0 := E_r0.wr W10
  replace V_b9 := V_b9.other W10 (Ne.symm ne_r0_b9)
  replace ZZ : n0 ≤ h10.size := by rw [W10.size]; exact ZZ
  replace KK := KK.wr W10 (Or.inl (by simp))
  refine gs (fun t => XS.aloadN X10.here hx rfl (hb hby d1_23) rfl rfl) ?_
  refine gs (fun t => XS.iloadN X10.here hx rfl (hb hby d1_24) rfl) ?_
  obtain ⟨T11, h11, k11, X11, e11, E11, A11, st11⟩ := newP X10 hx hZ (hw _ (List.mem_of_getElem? (i := 18) rfl)) e10 (g := (mkF m 25 #[rv r0, iv 1] [(.int (1 : Int32)), (.ref r0)])) rfl (hb hby d1_25) rfl (by decide) (cap := 1) (by decide) (by decide) (by decide) (by decide)
  obtain ⟨b11, g11⟩ : ∃ z, z = h10.size := ⟨_, rfl⟩
  rw [← g11] at A11 st11
  have ge_b11 : n0 ≤ b11 := by rw [g11]; exact ZZ
  have sz_b11 : h0.size ≤ b11 := by rw [g11]; exact KK.1
  have ne_r0_b11 : r0 ≠ b11 := by rw [g11]; exact Nat.ne_of_lt F_minimum_r0.lt
  have ne_b9_b11 : b9 ≠ b11 := by rw [g11]; exact Nat.ne_of_lt V_b9.lt
  refine gs st11 ?_
  show Go p e below s QQ 4 4 (T11.setTop (mkF m 27 #[rv r0, iv 1] [(.ref b11), (.ref r0)]))
  replace F_minimum_r0 := F_minimum_r0.ext E11
  replace F_count_r0 := F_count_r0.ext E11
  replace F_latest_r0 := F_latest_r0.ext E11
  replace F_channelIdle_r0 := F_channelIdle_r0.ext E11
  replace F_ended_r0 := F_ended_r0.ext E11
  replace F_barrierIn_r0 := F_barrierIn_r0.ext E11
  replace F_aligning_r0 := F_aligning_r0.ext E11
  replace F_barriersIn_r0 := F_barriersIn_r0.ext E11
  replace F_endedCount_r0 := F_endedCount_r0.ext E11
  replace E_r0 := E_r0.ext E11
  replace V_b9 := V_b9.ext E11
  replace ZZ := Nat.le_trans ZZ E11.1
  replace KK := KK.ext E11
  have V_b11 : Arf Z h11 b11 .boolean 1 (fun _ => .int 0) := Arf.new A11
  obtain ⟨T12, h12, X12, e12, W12, st12⟩ := putF X11 hx hZ hown (host := "") (Or.inl (hw _ (List.mem_of_getElem? (i := 19) rfl))) Via.refl e11 F_channelIdle_r0 E_r0 (Or.inr ⟨(hw _ (List.mem_of_getElem? (i := 20) rfl)), rfl, hnm⟩) (hw _ (List.mem_of_getElem? (i := 2) rfl)) (ty := (.array .boolean)) (by decide) rfl rfl (g := (mkF m 27 #[rv r0, iv 1] [(.ref b11), (.ref r0)])) rfl rfl (hb hby d1_27)
  replace N0 := Fr.snoc X12 N0 ge_r0
  refine gs st12 ?_
  show Go p e below s QQ 4 4 (T12.setTop (mkF m 30 #[rv r0, iv 1] []))
  replace F_minimum_r0 := F_minimum_r0.other W12 (Or.inr (slot_ne (Or.inl (hw _ (List.mem_of_getElem? (i := 12) rfl))) (Or.inr (hw _ (List.mem_of_getElem? (i := 20) rfl))) (by decide) (t := .long) (t' := (.array .boolean)) (by decide) (by decide)))
  replace F_count_r0 := F_count_r0.other W12 (Or.inr (slot_ne (Or.inr (hw _ (List.mem_of_getElem? (i := 14) rfl))) (Or.inr (hw _ (List.mem_of_getElem? (i := 20) rfl))) (by decide) (t := .int) (t' := (.array .boolean)) (by decide) (by decide)))
  replace F_latest_r0 := F_latest_r0.other W12 (Or.inr (slot_ne (Or.inr (hw _ (List.mem_of_getElem? (i := 17) rfl))) (Or.inr (hw _ (List.mem_of_getElem? (i := 20) rfl))) (by decide) (t := (.array .long)) (t' := (.array .boolean)) (by decide) (by decide)))
  replace F_channelIdle_r0 := F_channelIdle_r0.same W12
  replace F_ended_r0 := F_ended_r0.other W12 (Or.inr (slot_ne (Or.inr (hw _ (List.mem_of_getElem? (i := 22) rfl))) (Or.inr (hw _ (List.mem_of_getElem? (i := 20) rfl))) (by decide) (t := (.array .boolean)) (t' := (.array .boolean)) (by decide) (by decide)))
  replace F_barrierIn_r0 := F_barrierIn_r0.other W12 (Or.inr (slot_ne (Or.inr (hw _ (List.mem_of_getElem? (i := 24) rfl))) (Or.inr (hw _ (List.mem_of_getElem? (i := 20) rfl))) (by decide) (t := (.array .boolean)) (t' := (.array .boolean)) (by decide) (by decide)))
  replace F_aligning_r0 := F_aligning_r0.other W12 (Or.inr (slot_ne (Or.inl (hw _ (List.mem_of_getElem? (i := 49) rfl))) (Or.inr (hw _ (List.mem_of_getElem? (i := 20) rfl))) (by decide) (t := (.object "weirline/runtime/CheckpointBarrier")) (t' := (.array .boolean)) (by decide) (by decide)))
  replace F_barriersIn_r0 := F_barriersIn_r0.other W12 (Or.inr (slot_ne (Or.inl (hw _ (List.mem_of_getElem? (i := 51) rfl))) (Or.inr (hw _ (List.mem_of_getElem? (i := 20) rfl))) (by decide) (t := .int) (t' := (.array .boolean)) (by decide) (by decide)))
  replace F_endedCount_r0 := F_endedCount_r0.other W12 (Or.inr (slot_ne (Or.inl (hw _ (List.mem_of_getElem? (i := 63) rfl))) (Or.inr (hw _ (List.mem_of_getElem? (i := 20) rfl))) (by decide) (t := .int) (t' := (.array .boolean)) (by decide) (by decide)))
  replace E_r0 := E_r0.wr W12
  replace V_b9 := V_b9.other W12 (Ne.symm ne_r0_b9)
  replace V_b11 := V_b11.other W12 (Ne.symm ne_r0_b11)
  replace ZZ : n0 ≤ h12.size := by rw [W12.size]; exact ZZ
  replace KK := KK.wr W12 (Or.inl (by simp))
  refine gs (fun t => XS.aloadN X12.here hx rfl (hb hby d1_30) rfl rfl) ?_
  refine gs (fun t => XS.iloadN X12.here hx rfl (hb hby d1_31) rfl) ?_
  obtain ⟨T13, h13, k13, X13, e13, E13, A13, st13⟩ := newP X12 hx hZ (hw _ (List.mem_of_getElem? (i := 18) rfl)) e12 (g := (mkF m 32 #[rv r0, iv 1] [(.int (1 : Int32)), (.ref r0)])) rfl (hb hby d1_32) rfl (by decide) (cap := 1) (by decide) (by decide) (by decide) (by decide)
  obtain ⟨b13, g13⟩ : ∃ z, z = h12.size := ⟨_, rfl⟩
  rw [← g13] at A13 st13
  have ge_b13 : n0 ≤ b13 := by rw [g13]; exact ZZ
  have sz_b13 : h0.size ≤ b13 := by rw [g13]; exact KK.1
  have ne_r0_b13 : r0 ≠ b13 := by rw [g13]; exact Nat.ne_of_lt F_minimum_r0.lt
  have ne_b9_b13 : b9 ≠ b13 := by rw [g13]; exact Nat.ne_of_lt V_b9.lt
  have ne_b11_b13 : b11 ≠ b13 := by rw [g13]; exact Nat.ne_of_lt V_b11.lt
  refine gs st13 ?_
  show Go p e below s QQ 4 4 (T13.setTop (mkF m 34 #[rv r0, iv 1] [(.ref b13), (.ref r0)]))
  replace F_minimum_r0 := F_minimum_r0.ext E13
  replace F_count_r0 := F_count_r0.ext E13
  replace F_latest_r0 := F_latest_r0.ext E13
  replace F_channelIdle_r0 := F_channelIdle_r0.ext E13
  replace F_ended_r0 := F_ended_r0.ext E13
  replace F_barrierIn_r0 := F_barrierIn_r0.ext E13
  replace F_aligning_r0 := F_aligning_r0.ext E13
  replace F_barriersIn_r0 := F_barriersIn_r0.ext E13
  replace F_endedCount_r0 := F_endedCount_r0.ext E13
  replace E_r0 := E_r0.ext E13
  replace V_b9 := V_b9.ext E13
  replace V_b11 := V_b11.ext E13
  replace ZZ := Nat.le_trans ZZ E13.1
  replace KK := KK.ext E13
  have V_b13 : Arf Z h13 b13 .boolean 1 (fun _ => .int 0) := Arf.new A13
  obtain ⟨T14, h14, X14, e14, W14, st14⟩ := putF X13 hx hZ hown (host := "") (Or.inl (hw _ (List.mem_of_getElem? (i := 21) rfl))) Via.refl e13 F_ended_r0 E_r0 (Or.inr ⟨(hw _ (List.mem_of_getElem? (i := 22) rfl)), rfl, hnm⟩) (hw _ (List.mem_of_getElem? (i := 2) rfl)) (ty := (.array .boolean)) (by decide) rfl rfl (g := (mkF m 34 #[rv r0, iv 1] [(.ref b13), (.ref r0)])) rfl rfl (hb hby d1_34)
  replace N0 := Fr.snoc X14 N0 ge_r0
  refine gs st14 ?_
  show Go p e below s QQ 4 4 (T14.setTop (mkF m 37 #[rv r0, iv 1] []))
  replace F_minimum_r0 := F_minimum_r0.other W14 (Or.inr (slot_ne (Or.inl (hw _ (List.mem_of_getElem? (i := 12) rfl))) (Or.inr (hw _ (List.mem_of_getElem? (i := 22) rfl))) (by decide) (t := .long) (t' := (.array .boolean)) (by decide) (by decide)))
  replace F_count_r0 := F_count_r0.other W14 (Or.inr (slot_ne (Or.inr (hw _ (List.mem_of_getElem? (i := 14) rfl))) (Or.inr (hw _ (List.mem_of_getElem? (i := 22) rfl))) (by decide) (t := .int) (t' := (.array .boolean)) (by decide) (by decide)))
  replace F_latest_r0 := F_latest_r0.other W14 (Or.inr (slot_ne (Or.inr (hw _ (List.mem_of_getElem? (i := 17) rfl))) (Or.inr (hw _ (List.mem_of_getElem? (i := 22) rfl))) (by decide) (t := (.array .long)) (t' := (.array .boolean)) (by decide) (by decide)))
  replace F_channelIdle_r0 := F_channelIdle_r0.other W14 (Or.inr (slot_ne (Or.inr (hw _ (List.mem_of_getElem? (i := 20) rfl))) (Or.inr (hw _ (List.mem_of_getElem? (i := 22) rfl))) (by decide) (t := (.array .boolean)) (t' := (.array .boolean)) (by decide) (by decide)))
  replace F_ended_r0 := F_ended_r0.same W14
  replace F_barrierIn_r0 := F_barrierIn_r0.other W14 (Or.inr (slot_ne (Or.inr (hw _ (List.mem_of_getElem? (i := 24) rfl))) (Or.inr (hw _ (List.mem_of_getElem? (i := 22) rfl))) (by decide) (t := (.array .boolean)) (t' := (.array .boolean)) (by decide) (by decide)))
  replace F_aligning_r0 := F_aligning_r0.other W14 (Or.inr (slot_ne (Or.inl (hw _ (List.mem_of_getElem? (i := 49) rfl))) (Or.inr (hw _ (List.mem_of_getElem? (i := 22) rfl))) (by decide) (t := (.object "weirline/runtime/CheckpointBarrier")) (t' := (.array .boolean)) (by decide) (by decide)))
  replace F_barriersIn_r0 := F_barriersIn_r0.other W14 (Or.inr (slot_ne (Or.inl (hw _ (List.mem_of_getElem? (i := 51) rfl))) (Or.inr (hw _ (List.mem_of_getElem? (i := 22) rfl))) (by decide) (t := .int) (t' := (.array .boolean)) (by decide) (by decide)))
  replace F_endedCount_r0 := F_endedCount_r0.other W14 (Or.inr (slot_ne (Or.inl (hw _ (List.mem_of_getElem? (i := 63) rfl))) (Or.inr (hw _ (List.mem_of_getElem? (i := 22) rfl))) (by decide) (t := .int) (t' := (.array .boolean)) (by decide) (by decide)))
  replace E_r0 := E_r0.wr W14
  replace V_b9 := V_b9.other W14 (Ne.symm ne_r0_b9)
  replace V_b11 := V_b11.other W14 (Ne.symm ne_r0_b11)
  replace V_b13 := V_b13.other W14 (Ne.symm ne_r0_b13)
  replace ZZ : n0 ≤ h14.size := by rw [W14.size]; exact ZZ
  replace KK := KK.wr W14 (Or.inl (by simp))
  refine gs (fun t => XS.aloadN X14.here hx rfl (hb hby d1_37) rfl rfl) ?_
  refine gs (fun t => XS.iloadN X14.here hx rfl (hb hby d1_38) rfl) ?_
  obtain ⟨T15, h15, k15, X15, e15, E15, A15, st15⟩ := newP X14 hx hZ (hw _ (List.mem_of_getElem? (i := 18) rfl)) e14 (g := (mkF m 39 #[rv r0, iv 1] [(.int (1 : Int32)), (.ref r0)])) rfl (hb hby d1_39) rfl (by decide) (cap := 1) (by decide) (by decide) (by decide) (by decide)
  obtain ⟨b15, g15⟩ : ∃ z, z = h14.size := ⟨_, rfl⟩
  rw [← g15] at A15 st15
  have ge_b15 : n0 ≤ b15 := by rw [g15]; exact ZZ
  have sz_b15 : h0.size ≤ b15 := by rw [g15]; exact KK.1
  have ne_r0_b15 : r0 ≠ b15 := by rw [g15]; exact Nat.ne_of_lt F_minimum_r0.lt
  have ne_b9_b15 : b9 ≠ b15 := by rw [g15]; exact Nat.ne_of_lt V_b9.lt
  have ne_b11_b15 : b11 ≠ b15 := by rw [g15]; exact Nat.ne_of_lt V_b11.lt
  have ne_b13_b15 : b13 ≠ b15 := by rw [g15]; exact Nat.ne_of_lt V_b13.lt
  refine gs st15 ?_
  show Go p e below s QQ 4 4 (T15.setTop (mkF m 41 #[rv r0, iv 1] [(.ref b15), (.ref r0)]))
  replace F_minimum_r0 := F_minimum_r0.ext E15
  replace F_count_r0 := F_count_r0.ext E15
  replace F_latest_r0 := F_latest_r0.ext E15
  replace F_channelIdle_r0 := F_channelIdle_r0.ext E15
  replace F_ended_r0 := F_ended_r0.ext E15
  replace F_barrierIn_r0 := F_barrierIn_r0.ext E15
  replace F_aligning_r0 := F_aligning_r0.ext E15
  replace F_barriersIn_r0 := F_barriersIn_r0.ext E15
  replace F_endedCount_r0 := F_endedCount_r0.ext E15
  replace E_r0 := E_r0.ext E15
  replace V_b9 := V_b9.ext E15
  replace V_b11 := V_b11.ext E15
  replace V_b13 := V_b13.ext E15
  replace ZZ := Nat.le_trans ZZ E15.1
  replace KK := KK.ext E15
  have V_b15 : Arf Z h15 b15 .boolean 1 (fun _ => .int 0) := Arf.new A15
  obtain ⟨T16, h16, X16, e16, W16, st16⟩ := putF X15 hx hZ hown (host := "") (Or.inl (hw _ (List.mem_of_getElem? (i := 23) rfl))) Via.refl e15 F_barrierIn_r0 E_r0 (Or.inr ⟨(hw _ (List.mem_of_getElem? (i := 24) rfl)), rfl, hnm⟩) (hw _ (List.mem_of_getElem? (i := 2) rfl)) (ty := (.array .boolean)) (by decide) rfl rfl (g := (mkF m 41 #[rv r0, iv 1] [(.ref b15), (.ref r0)])) rfl rfl (hb hby d1_41)
  replace N0 := Fr.snoc X16 N0 ge_r0
  refine gs st16 ?_
  show Go p e below s QQ 4 4 (T16.setTop (mkF m 44 #[rv r0, iv 1] []))
  replace F_minimum_r0 := F_minimum_r0.other W16 (Or.inr (slot_ne (Or.inl (hw _ (List.mem_of_getElem? (i := 12) rfl))) (Or.inr (hw _ (List.mem_of_getElem? (i := 24) rfl))) (by decide) (t := .long) (t' := (.array .boolean)) (by decide) (by decide)))
  replace F_count_r0 := F_count_r0.other W16 (Or.inr (slot_ne (Or.inr (hw _ (List.mem_of_getElem? (i := 14) rfl))) (Or.inr (hw _ (List.mem_of_getElem? (i := 24) rfl))) (by decide) (t := .int) (t' := (.array .boolean)) (by decide) (by decide)))
  replace F_latest_r0 := F_latest_r0.other W16 (Or.inr (slot_ne (Or.inr (hw _ (List.mem_of_getElem? (i := 17) rfl))) (Or.inr (hw _ (List.mem_of_getElem? (i := 24) rfl))) (by decide) (t := (.array .long)) (t' := (.array .boolean)) (by decide) (by decide)))
  replace F_channelIdle_r0 := F_channelIdle_r0.other W16 (Or.inr (slot_ne (Or.inr (hw _ (List.mem_of_getElem? (i := 20) rfl))) (Or.inr (hw _ (List.mem_of_getElem? (i := 24) rfl))) (by decide) (t := (.array .boolean)) (t' := (.array .boolean)) (by decide) (by decide)))
  replace F_ended_r0 := F_ended_r0.other W16 (Or.inr (slot_ne (Or.inr (hw _ (List.mem_of_getElem? (i := 22) rfl))) (Or.inr (hw _ (List.mem_of_getElem? (i := 24) rfl))) (by decide) (t := (.array .boolean)) (t' := (.array .boolean)) (by decide) (by decide)))
  replace F_barrierIn_r0 := F_barrierIn_r0.same W16
  replace F_aligning_r0 := F_aligning_r0.other W16 (Or.inr (slot_ne (Or.inl (hw _ (List.mem_of_getElem? (i := 49) rfl))) (Or.inr (hw _ (List.mem_of_getElem? (i := 24) rfl))) (by decide) (t := (.object "weirline/runtime/CheckpointBarrier")) (t' := (.array .boolean)) (by decide) (by decide)))
  replace F_barriersIn_r0 := F_barriersIn_r0.other W16 (Or.inr (slot_ne (Or.inl (hw _ (List.mem_of_getElem? (i := 51) rfl))) (Or.inr (hw _ (List.mem_of_getElem? (i := 24) rfl))) (by decide) (t := .int) (t' := (.array .boolean)) (by decide) (by decide)))
  replace F_endedCount_r0 := F_endedCount_r0.other W16 (Or.inr (slot_ne (Or.inl (hw _ (List.mem_of_getElem? (i := 63) rfl))) (Or.inr (hw _ (List.mem_of_getElem? (i := 24) rfl))) (by decide) (t := .int) (t' := (.array .boolean)) (by decide) (by decide)))
  replace E_r0 := E_r0.wr W16
  replace V_b9 := V_b9.other W16 (Ne.symm ne_r0_b9)
  replace V_b11 := V_b11.other W16 (Ne.symm ne_r0_b11)
  replace V_b13 := V_b13.other W16 (Ne.symm ne_r0_b13)
  replace V_b15 := V_b15.other W16 (Ne.symm ne_r0_b15)
  replace ZZ : n0 ≤ h16.size := by rw [W16.size]; exact ZZ
  replace KK := KK.wr W16 (Or.inl (by simp))
  refine gs (fun t => XS.aloadN X16.here hx rfl (hb hby d1_44) rfl rfl) ?_
  obtain ⟨T17, X17, e17, st17⟩ := getF X16 hx hZ hown (host := "") (Or.inl (hw _ (List.mem_of_getElem? (i := 16) rfl))) Via.refl e16 F_latest_r0 (g := (mkF m 45 #[rv r0, iv 1] [(.ref r0)])) rfl rfl (hb hby d1_45)
  refine gs st17 ?_
  show Go p e below s QQ 4 4 (T17.setTop (mkF m 48 #[rv r0, iv 1] [(.ref b9)]))
  refine gs (fun t => X17.ldc2Long hx hown (mvT hZ (hw _ (List.mem_of_getElem? (i := 10) rfl))) (g := (mkF m 48 #[rv r0, iv 1] [(.ref b9)])) rfl (hb hby d1_48) t) ?_
  obtain ⟨_, _, ⟨T18, L18, k18, n18⟩, -, X18, ⟨Lc18, hQ18, l18, y18, z18⟩, st18⟩ := Jvm.LawKit.callS X17 hx (y := (⟨"java/util/Arrays", "fill", "([JJ)V"⟩ : MethodName)) hown (mvT hZ (hw _ (List.mem_of_getElem? (i := 25) rfl))) (mvT hZ (hw _ (List.mem_of_getElem? (i := 26) rfl))) (mvT hZ (hw _ (List.mem_of_getElem? (i := 27) rfl))) (mvT hZ (hw _ (List.mem_of_getElem? (i := 28) rfl))) (by decide) (backOf (W := 0) (fillJ1 l Z a0 hw [] b9 (-9223372036854775808 : Int64) (fun _ => .long 0) h16 n0 ZZ V_b9 ge_b9) hZ (hw _ (List.mem_of_getElem? (i := 28) rfl)) (hw _ (List.mem_of_getElem? (i := 27) rfl)) (by decide) (by decide)) (g := (mkF m 51 #[rv r0, iv 1] [(.long (-9223372036854775808 : Int64)), (.ref b9)])) rfl (by rw [hml]; rfl) (argsL := [(.ref b9), (.long (-9223372036854775808 : Int64))]) (rest := []) (lenOf pd_1 rfl) rfl (by show 2 * 0 + _ ≤ _; exact Nat.le_of_eq rfl) (hb hby d1_51) (fun _ _ => ⟨rfl, e17, (by decide : 4 + 0 ≤ _), (by decide : 4 + 0 ≤ _)⟩)
  dsimp only [Pt.U, Pt.locs, Pt.cells, Pt.slots] at X18 l18 y18 z18 st18 hQ18
  subst l18 y18 z18
  obtain ⟨rfl, N18q, K18⟩ := hQ18
  replace N0 := Fr.app N0 N18q
  refine gs st18 ?_
  show Go p e below s QQ 4 4 (T18.setTop (mkF m 54 #[rv r0, iv 1] []))
  replace F_minimum_r0 := F_minimum_r0.keep K18 (ninS ne_r0_b9 nin0)
  replace F_count_r0 := F_count_r0.keep K18 (ninS ne_r0_b9 nin0)
  replace F_latest_r0 := F_latest_r0.keep K18 (ninS ne_r0_b9 nin0)
  replace F_channelIdle_r0 := F_channelIdle_r0.keep K18 (ninS ne_r0_b9 nin0)
  replace F_ended_r0 := F_ended_r0.keep K18 (ninS ne_r0_b9 nin0)
  replace F_barrierIn_r0 := F_barrierIn_r0.keep K18 (ninS ne_r0_b9 nin0)
  replace F_aligning_r0 := F_aligning_r0.keep K18 (ninS ne_r0_b9 nin0)
  replace F_barriersIn_r0 := F_barriersIn_r0.keep K18 (ninS ne_r0_b9 nin0)
  replace F_endedCount_r0 := F_endedCount_r0.keep K18 (ninS ne_r0_b9 nin0)
  replace E_r0 := E_r0.keep K18
  replace V_b11 := V_b11.keep K18 (ninS (Ne.symm ne_b9_b11) nin0)
  replace V_b13 := V_b13.keep K18 (ninS (Ne.symm ne_b9_b13) nin0)
  replace V_b15 := V_b15.keep K18 (ninS (Ne.symm ne_b9_b15) nin0)
  replace ZZ := Nat.le_trans ZZ K18.1
  replace KK := KK.trans K18 (allS (Or.inr sz_b9) all0)
  exact goV X18 hx Bd.notSynchronized Bd.returns (hb hby d1_54) (by rw [← hQQ]; exact ⟨b13, b15, rfl, N0, KK, F_count_r0, F_ended_r0, F_endedCount_r0, F_aligning_r0, F_barrierIn_r0, F_barriersIn_r0, V_b13, V_b15, sz_b13, sz_b15, ne_b13_b15⟩) (by decide) (by decide)
def QfillJ2 (Z : State) (r0 : Addr) (p1 : Int64) (ff : Nat → Value) (h0 : Heap) (n0 : Nat) (v : Option Value) (h : Heap) (L : List Loc) : Prop := v = none ∧ Fr n0 L ∧ Keep h0 h [r0]
set_option maxRecDepth 65536 in
set_option maxHeartbeats 40000000 in
theorem fillJ2 (l : Launch) (Z : State) (a0 : Array Value) (hw : ∀ d ∈ tables_1, d.before a0 Z = true) (ws : List Jvm.Cond) (r0 : Addr) (p1 : Int64) (ff : Nat → Value) (h0 : Heap) (n0 : Nat) (Z0 : n0 ≤ h0.size) (V_r0 : Arf Z h0 r0 .long 2 ff) (ge_r0 : n0 ≤ r0) :
    MetFree l (⟨"java/util/Arrays", "fill", "([JJ)V"⟩ : MethodName) (head1 (Jvm.Cond.code (⟨"java/util/Arrays", "fill", "([JJ)V"⟩ : MethodName) jdk_65_method_101_code 5 none :: ws) ({ frames := 0, cells := 0, slots := 0, locals := 0 } : Room)) (fun a U => a = #[(.ref r0), (.long p1)] ∧ Z.Warmed39 U.vm ∧ U.heap = h0) (fun _ _ _ _ _ => True) (fun _ U o U' => ∃ v L, o = .returned v ∧ QfillJ2 Z r0 p1 ff h0 n0 v U'.heap L ∧ FrameEnd U o U' L ({ frames := 0, cells := 0, slots := 0, locals := 0 } : Room).cells ({ frames := 0, cells := 0, slots := 0, locals := 0 } : Room).slots) := by
  refine MetFree.of_bodySF (plainFor_of_name pn_3) hisR ?_
  intro p e s m args below meth c s₁ Bd hml0 hP hK
  obtain ⟨rfl, hZ, hh⟩ := hP
  have hx := Bd.exec
  have hby := Bd.bytes
  have hml : c.maxLocals = 5 := hml0
  have hown : s.vm.findClass "java/util/Arrays" = some m.cls := findClass_of_methodNamed Bd.named
  have hnm := (name_of_methodNamed Bd.named Bd.method).1
  have X0 : Stand p l e ({ frames := 0, cells := 0, slots := 0, locals := 0 } : Room) s m #[(.ref r0), (.long p1)] below meth c s₁ [] 0 0 := Stand.of_body Bd
  have e0 : s₁.heap = h0 := by rw [← hh, Bd.state]; rfl
  have N0 := Fr.nil n0
  have ZZ := Z0
  have KK : Keep h0 h0 [r0] := Keep.refl h0 _
  show Go p e below s (QfillJ2 Z r0 p1 ff h0 n0) 0 0 (s₁.setTop (entryFrame m #[(.ref r0), (.long p1)] 5))
  generalize hQQ : (QfillJ2 Z r0 p1 ff h0 n0) = QQ
  refine gs (fun t k => castTop (g' := (mkF m 0 #[rv r0, jv p1, .second, .unset, .unset] [])) (by first | (simp [entryFrame, mkF, argsToLocals, Value.category, maxLocals]; done) | rfl) k) ?_
  show Go p e below s QQ 0 0 (s₁.setTop (mkF m 0 #[rv r0, jv p1, .second, .unset, .unset] []))
  refine gs (fun t => XS.iconst X0.here hx rfl (hb hby d3_0)) ?_
  refine gs (fun t => XS.istoreN X0.here hx rfl (hb hby d3_1) rfl (l' := #[rv r0, jv p1, .second, iv 0, .unset]) rfl) ?_
  refine gs (fun t => XS.aloadN X0.here hx rfl (hb hby d3_2) rfl rfl) ?_
  refine gs (fun t => lenf X0 hx hZ e0 V_r0 (z := (2 : Int32)) rfl (g := (mkF m 3 #[rv r0, jv p1, .second, iv 0, .unset] [(.ref r0)])) rfl rfl (hb hby d3_3) t) ?_
  refine gs (fun t => XS.istore X0.here hx rfl (hb hby d3_4) rfl (l' := #[rv r0, jv p1, .second, iv 0, iv 2]) rfl) ?_
  refine gs (fun t => XS.iloadN X0.here hx rfl (hb hby d3_6) rfl) ?_
  show Go p e below s QQ 0 0 (s₁.setTop (mkF m 7 #[rv r0, jv p1, .second, iv 0, iv 2] [(.int (0 : Int32))]))
  refine gs (fun t => XS.iload X0.here hx rfl (hb hby d3_7) rfl) ?_
  refine gs (fun t => XS.icmpNo X0.here hx rfl (hb hby d3_9) rfl (tlt (by decide : (0 : Int32) < (2 : Int32))).2.1) ?_
  refine gs (fun t => XS.aloadN X0.here hx rfl (hb hby d3_12) rfl rfl) ?_
  refine gs (fun t => XS.iloadN X0.here hx rfl (hb hby d3_13) rfl) ?_
  refine gs (fun t => XS.lloadN X0.here hx rfl (hb hby d3_14) rfl) ?_
  obtain ⟨T19, h19, X19, e19, W19, V19, st19⟩ := stJf X0 hx hZ e0 V_r0 (j := (0 : Int32)) (by decide) (g := (mkF m 15 #[rv r0, jv p1, .second, iv 0, iv 2] [(.long p1), (.int (0 : Int32)), (.ref r0)])) rfl rfl (hb hby d3_15)
  replace N0 := Fr.snoc X19 N0 ge_r0
  refine gs st19 ?_
  show Go p e below s QQ 0 0 (T19.setTop (mkF m 16 #[rv r0, jv p1, .second, iv 0, iv 2] []))
  replace ZZ : n0 ≤ h19.size := by rw [W19.size]; exact ZZ
  replace KK := KK.wr W19 (Or.inl (by simp))
  replace V_r0 : Arf Z h19 r0 .long 2 (updv ff 0 (.long p1)) := V19
  refine gs (fun t => XS.iinc X19.here hx rfl (hb hby d3_16) rfl (l' := #[rv r0, jv p1, .second, iv 1, iv 2]) rfl) ?_
  refine gs (fun t => XS.goto X19.here hx rfl (pc0 := 19) (pc' := 6) rfl (hb hby d3_19) (by decide) (by decide)) ?_
  refine gs (fun t => XS.iloadN X19.here hx rfl (hb hby d3_6) rfl) ?_
  refine gs (fun t => XS.iload X19.here hx rfl (hb hby d3_7) rfl) ?_
  refine gs (fun t => XS.icmpNo X19.here hx rfl (hb hby d3_9) rfl (tlt (by decide : (1 : Int32) < (2 : Int32))).2.1) ?_
  refine gs (fun t => XS.aloadN X19.here hx rfl (hb hby d3_12) rfl rfl) ?_
  show Go p e below s QQ 0 0 (T19.setTop (mkF m 13 #[rv r0, jv p1, .second, iv 1, iv 2] [(.ref r0)]))
  refine gs (fun t => XS.iloadN X19.here hx rfl (hb hby d3_13) rfl) ?_
  refine gs (fun t => XS.lloadN X19.here hx rfl (hb hby d3_14) rfl) ?_
  obtain ⟨T20, h20, X20, e20, W20, V20, st20⟩ := stJf X19 hx hZ e19 V_r0 (j := (1 : Int32)) (by decide) (g := (mkF m 15 #[rv r0, jv p1, .second, iv 1, iv 2] [(.long p1), (.int (1 : Int32)), (.ref r0)])) rfl rfl (hb hby d3_15)
  replace N0 := Fr.snoc X20 N0 ge_r0
  refine gs st20 ?_
  show Go p e below s QQ 0 0 (T20.setTop (mkF m 16 #[rv r0, jv p1, .second, iv 1, iv 2] []))
  replace ZZ : n0 ≤ h20.size := by rw [W20.size]; exact ZZ
  replace KK := KK.wr W20 (Or.inl (by simp))
  replace V_r0 : Arf Z h20 r0 .long 2 (updv (updv ff 0 (.long p1)) 1 (.long p1)) := V20
  refine gs (fun t => XS.iinc X20.here hx rfl (hb hby d3_16) rfl (l' := #[rv r0, jv p1, .second, iv 2, iv 2]) rfl) ?_
  refine gs (fun t => XS.goto X20.here hx rfl (pc0 := 19) (pc' := 6) rfl (hb hby d3_19) (by decide) (by decide)) ?_
  refine gs (fun t => XS.iloadN X20.here hx rfl (hb hby d3_6) rfl) ?_
  refine gs (fun t => XS.iload X20.here hx rfl (hb hby d3_7) rfl) ?_
  refine gs (fun t => XS.icmpYes X20.here hx rfl (pc0 := 9) (pc' := 22) rfl (hb hby d3_9) rfl (flt (by decide : ¬ ((2 : Int32) < (2 : Int32)))).2.1 (by decide) (by decide)) ?_
  exact goV X20 hx Bd.notSynchronized Bd.returns (hb hby d3_22) (by rw [← hQQ, e20]; exact ⟨rfl, N0, KK⟩) (by decide) (by decide)
def QfillZ2 (Z : State) (r0 : Addr) (ff : Nat → Value) (h0 : Heap) (n0 : Nat) (v : Option Value) (h : Heap) (L : List Loc) : Prop := v = none ∧ Fr n0 L ∧ Keep h0 h [r0] ∧ Arf Z h r0 .boolean 2 (fun _ => .int 0)
set_option maxRecDepth 65536 in
set_option maxHeartbeats 40000000 in
theorem fillZ2 (l : Launch) (Z : State) (a0 : Array Value) (hw : ∀ d ∈ tables_1, d.before a0 Z = true) (ws : List Jvm.Cond) (r0 : Addr) (ff : Nat → Value) (h0 : Heap) (n0 : Nat) (Z0 : n0 ≤ h0.size) (V_r0 : Arf Z h0 r0 .boolean 2 ff) (ge_r0 : n0 ≤ r0) :
    MetFree l (⟨"java/util/Arrays", "fill", "([ZZ)V"⟩ : MethodName) (head1 (Jvm.Cond.code (⟨"java/util/Arrays", "fill", "([ZZ)V"⟩ : MethodName) jdk_65_method_111_code 4 none :: ws) ({ frames := 0, cells := 0, slots := 0, locals := 0 } : Room)) (fun a U => a = #[(.ref r0), (.int (0 : Int32))] ∧ Z.Warmed39 U.vm ∧ U.heap = h0) (fun _ _ _ _ _ => True) (fun _ U o U' => ∃ v L, o = .returned v ∧ QfillZ2 Z r0 ff h0 n0 v U'.heap L ∧ FrameEnd U o U' L ({ frames := 0, cells := 0, slots := 0, locals := 0 } : Room).cells ({ frames := 0, cells := 0, slots := 0, locals := 0 } : Room).slots) := by
  refine MetFree.of_bodySF (plainFor_of_name pn_9) hisR ?_
  intro p e s m args below meth c s₁ Bd hml0 hP hK
  obtain ⟨rfl, hZ, hh⟩ := hP
  have hx := Bd.exec
  have hby := Bd.bytes
  have hml : c.maxLocals = 4 := hml0
  have hown : s.vm.findClass "java/util/Arrays" = some m.cls := findClass_of_methodNamed Bd.named
  have hnm := (name_of_methodNamed Bd.named Bd.method).1
  have X0 : Stand p l e ({ frames := 0, cells := 0, slots := 0, locals := 0 } : Room) s m #[(.ref r0), (.int (0 : Int32))] below meth c s₁ [] 0 0 := Stand.of_body Bd
  have e0 : s₁.heap = h0 := by rw [← hh, Bd.state]; rfl
  have N0 := Fr.nil n0
  have ZZ := Z0
  have KK : Keep h0 h0 [r0] := Keep.refl h0 _
  show Go p e below s (QfillZ2 Z r0 ff h0 n0) 0 0 (s₁.setTop (entryFrame m #[(.ref r0), (.int (0 : Int32))] 4))
  generalize hQQ : (QfillZ2 Z r0 ff h0 n0) = QQ
  refine gs (fun t k => castTop (g' := (mkF m 0 #[rv r0, iv 0, .unset, .unset] [])) (by first | (simp [entryFrame, mkF, argsToLocals, Value.category, maxLocals]; done) | rfl) k) ?_
  show Go p e below s QQ 0 0 (s₁.setTop (mkF m 0 #[rv r0, iv 0, .unset, .unset] []))
  refine gs (fun t => XS.iconst X0.here hx rfl (hb hby d9_0)) ?_
  refine gs (fun t => XS.istoreN X0.here hx rfl (hb hby d9_1) rfl (l' := #[rv r0, iv 0, iv 0, .unset]) rfl) ?_
  refine gs (fun t => XS.aloadN X0.here hx rfl (hb hby d9_2) rfl rfl) ?_
  refine gs (fun t => lenf X0 hx hZ e0 V_r0 (z := (2 : Int32)) rfl (g := (mkF m 3 #[rv r0, iv 0, iv 0, .unset] [(.ref r0)])) rfl rfl (hb hby d9_3) t) ?_
  refine gs (fun t => XS.istoreN X0.here hx rfl (hb hby d9_4) rfl (l' := #[rv r0, iv 0, iv 0, iv 2]) rfl) ?_
  refine gs (fun t => XS.iloadN X0.here hx rfl (hb hby d9_5) rfl) ?_
  show Go p e below s QQ 0 0 (s₁.setTop (mkF m 6 #[rv r0, iv 0, iv 0, iv 2] [(.int (0 : Int32))]))
  refine gs (fun t => XS.iloadN X0.here hx rfl (hb hby d9_6) rfl) ?_
  refine gs (fun t => XS.icmpNo X0.here hx rfl (hb hby d9_7) rfl (tlt (by decide : (0 : Int32) < (2 : Int32))).2.1) ?_
  refine gs (fun t => XS.aloadN X0.here hx rfl (hb hby d9_10) rfl rfl) ?_
  refine gs (fun t => XS.iloadN X0.here hx rfl (hb hby d9_11) rfl) ?_
  refine gs (fun t => XS.iloadN X0.here hx rfl (hb hby d9_12) rfl) ?_
  obtain ⟨T21, h21, X21, e21, W21, V21, st21⟩ := stZf X0 hx hZ e0 V_r0 (j := (0 : Int32)) (by decide) (g := (mkF m 13 #[rv r0, iv 0, iv 0, iv 2] [(.int (0 : Int32)), (.int (0 : Int32)), (.ref r0)])) rfl rfl (hb hby d9_13)
  replace N0 := Fr.snoc X21 N0 ge_r0
  refine gs st21 ?_
  show Go p e below s QQ 0 0 (T21.setTop (mkF m 14 #[rv r0, iv 0, iv 0, iv 2] []))
  replace ZZ : n0 ≤ h21.size := by rw [W21.size]; exact ZZ
  replace KK := KK.wr W21 (Or.inl (by simp))
  replace V_r0 : Arf Z h21 r0 .boolean 2 (updv ff 0 (.int (nar .boolean (0 : Int32)))) := V21
  refine gs (fun t => XS.iinc X21.here hx rfl (hb hby d9_14) rfl (l' := #[rv r0, iv 0, iv 1, iv 2]) rfl) ?_
  refine gs (fun t => XS.goto X21.here hx rfl (pc0 := 17) (pc' := 5) rfl (hb hby d9_17) (by decide) (by decide)) ?_
  refine gs (fun t => XS.iloadN X21.here hx rfl (hb hby d9_5) rfl) ?_
  refine gs (fun t => XS.iloadN X21.here hx rfl (hb hby d9_6) rfl) ?_
  refine gs (fun t => XS.icmpNo X21.here hx rfl (hb hby d9_7) rfl (tlt (by decide : (1 : Int32) < (2 : Int32))).2.1) ?_
  refine gs (fun t => XS.aloadN X21.here hx rfl (hb hby d9_10) rfl rfl) ?_
  show Go p e below s QQ 0 0 (T21.setTop (mkF m 11 #[rv r0, iv 0, iv 1, iv 2] [(.ref r0)]))
  refine gs (fun t => XS.iloadN X21.here hx rfl (hb hby d9_11) rfl) ?_
  refine gs (fun t => XS.iloadN X21.here hx rfl (hb hby d9_12) rfl) ?_
  obtain ⟨T22, h22, X22, e22, W22, V22, st22⟩ := stZf X21 hx hZ e21 V_r0 (j := (1 : Int32)) (by decide) (g := (mkF m 13 #[rv r0, iv 0, iv 1, iv 2] [(.int (0 : Int32)), (.int (1 : Int32)), (.ref r0)])) rfl rfl (hb hby d9_13)
  replace N0 := Fr.snoc X22 N0 ge_r0
  refine gs st22 ?_
  show Go p e below s QQ 0 0 (T22.setTop (mkF m 14 #[rv r0, iv 0, iv 1, iv 2] []))
  replace ZZ : n0 ≤ h22.size := by rw [W22.size]; exact ZZ
  replace KK := KK.wr W22 (Or.inl (by simp))
  replace V_r0 : Arf Z h22 r0 .boolean 2 (updv (updv ff 0 (.int (nar .boolean (0 : Int32)))) 1 (.int (nar .boolean (0 : Int32)))) := V22
  refine gs (fun t => XS.iinc X22.here hx rfl (hb hby d9_14) rfl (l' := #[rv r0, iv 0, iv 2, iv 2]) rfl) ?_
  refine gs (fun t => XS.goto X22.here hx rfl (pc0 := 17) (pc' := 5) rfl (hb hby d9_17) (by decide) (by decide)) ?_
  refine gs (fun t => XS.iloadN X22.here hx rfl (hb hby d9_5) rfl) ?_
  refine gs (fun t => XS.iloadN X22.here hx rfl (hb hby d9_6) rfl) ?_
  refine gs (fun t => XS.icmpYes X22.here hx rfl (pc0 := 7) (pc' := 20) rfl (hb hby d9_7) rfl (flt (by decide : ¬ ((2 : Int32) < (2 : Int32)))).2.1 (by decide) (by decide)) ?_
  replace V_r0 : Arf Z h22 r0 .boolean 2 (fun _ => .int 0) := V_r0.congr (fun i hi => by rcases own_c2 hi with rfl | rfl <;> rfl)
  exact goV X22 hx Bd.notSynchronized Bd.returns (hb hby d9_20) (by rw [← hQQ, e22]; exact ⟨rfl, N0, KK, V_r0⟩) (by decide) (by decide)
def Qctor2 (Z : State) (r0 : Addr) (h0 : Heap) (n0 : Nat) (v : Option Value) (h : Heap) (L : List Loc) : Prop := ∃ eb bb : Addr, v = none ∧ Fr n0 L ∧ Keep h0 h [r0] ∧ Fld Z h r0 "weirline/runtime/InputChannels" "count" "I" (.int (2 : Int32)) ∧ Fld Z h r0 "weirline/runtime/InputChannels" "ended" "[Z" (.ref eb) ∧ Fld Z h r0 "weirline/runtime/InputChannels" "endedCount" "I" (.int (0 : Int32)) ∧ Fld Z h r0 "weirline/runtime/InputChannels" "aligning" "Lweirline/runtime/CheckpointBarrier;" .null ∧ Fld Z h r0 "weirline/runtime/InputChannels" "barrierIn" "[Z" (.ref bb) ∧ Fld Z h r0 "weirline/runtime/InputChannels" "barriersIn" "I" (.int (0 : Int32)) ∧ Arf Z h eb .boolean 2 (fun _ => .int 0) ∧ Arf Z h bb .boolean 2 (fun _ => .int 0) ∧ h0.size ≤ eb ∧ h0.size ≤ bb ∧ eb ≠ bb
set_option maxRecDepth 65536 in
set_option maxHeartbeats 40000000 in
theorem ctor2 (l : Launch) (Z : State) (a0 : Array Value) (hw : ∀ d ∈ tables_1, d.before a0 Z = true) (ws : List Jvm.Cond) (r0 : Addr) (h0 : Heap) (n0 : Nat) (Z0 : n0 ≤ h0.size) (F_minimum_r0 : Fld Z h0 r0 "weirline/runtime/InputChannels" "minimum" "J" (.long (0 : Int64))) (F_count_r0 : Fld Z h0 r0 "weirline/runtime/InputChannels" "count" "I" (.int (0 : Int32))) (F_latest_r0 : Fld Z h0 r0 "weirline/runtime/InputChannels" "latest" "[J" .null) (F_channelIdle_r0 : Fld Z h0 r0 "weirline/runtime/InputChannels" "channelIdle" "[Z" .null) (F_ended_r0 : Fld Z h0 r0 "weirline/runtime/InputChannels" "ended" "[Z" .null) (F_barrierIn_r0 : Fld Z h0 r0 "weirline/runtime/InputChannels" "barrierIn" "[Z" .null) (F_aligning_r0 : Fld Z h0 r0 "weirline/runtime/InputChannels" "aligning" "Lweirline/runtime/CheckpointBarrier;" .null) (F_barriersIn_r0 : Fld Z h0 r0 "weirline/runtime/InputChannels" "barriersIn" "I" (.int (0 : Int32))) (F_endedCount_r0 : Fld Z h0 r0 "weirline/runtime/InputChannels" "endedCount" "I" (.int (0 : Int32))) (E_r0 : Exa Z h0 r0 "weirline/runtime/InputChannels") (ge_r0 : n0 ≤ r0) :
    MetFree l (⟨"weirline/runtime/InputChannels", "<init>", "(I)V"⟩ : MethodName) (head1 (Jvm.Cond.code (⟨"weirline/runtime/InputChannels", "<init>", "(I)V"⟩ : MethodName) prog_151_method_1_code 2 none :: ws) ({ frames := 1, cells := 4, slots := 8, locals := 16 } : Room)) (fun a U => a = #[(.ref r0), (.int (2 : Int32))] ∧ Z.Warmed39 U.vm ∧ U.heap = h0) (fun _ _ _ _ _ => True) (fun _ U o U' => ∃ v L, o = .returned v ∧ Qctor2 Z r0 h0 n0 v U'.heap L ∧ FrameEnd U o U' L ({ frames := 1, cells := 4, slots := 8, locals := 16 } : Room).cells ({ frames := 1, cells := 4, slots := 8, locals := 16 } : Room).slots) := by
  refine MetFree.of_bodySF (plainFor_of_name pn_1) hisR ?_
  intro p e s m args below meth c s₁ Bd hml0 hP hK
  obtain ⟨rfl, hZ, hh⟩ := hP
  have hx := Bd.exec
  have hby := Bd.bytes
  have hml : c.maxLocals = 2 := hml0
  have hown : s.vm.findClass "weirline/runtime/InputChannels" = some m.cls := findClass_of_methodNamed Bd.named
  have hnm := (name_of_methodNamed Bd.named Bd.method).1
  have X0 : Stand p l e ({ frames := 1, cells := 4, slots := 8, locals := 16 } : Room) s m #[(.ref r0), (.int (2 : Int32))] below meth c s₁ [] 0 0 := Stand.of_body Bd
  have e0 : s₁.heap = h0 := by rw [← hh, Bd.state]; rfl
  have N0 := Fr.nil n0
  have ZZ := Z0
  have KK : Keep h0 h0 [r0] := Keep.refl h0 _
  show Go p e below s (Qctor2 Z r0 h0 n0) 4 8 (s₁.setTop (entryFrame m #[(.ref r0), (.int (2 : Int32))] 2))
  generalize hQQ : (Qctor2 Z r0 h0 n0) = QQ
  refine gs (fun t k => castTop (g' := (mkF m 0 #[rv r0, iv 2] [])) (by first | (simp [entryFrame, mkF, argsToLocals, Value.category, maxLocals]; done) | rfl) k) ?_
  show Go p e below s QQ 4 8 (s₁.setTop (mkF m 0 #[rv r0, iv 2] []))
  refine gs (fun t => XS.aloadN X0.here hx rfl (hb hby d1_0) rfl rfl) ?_
  obtain ⟨T23, X23, e23, st23⟩ := initO X0 hx hZ hown (hw _ (List.mem_of_getElem? (i := 7) rfl)) (hw _ (List.mem_of_getElem? (i := 8) rfl)) (hw _ (List.mem_of_getElem? (i := 9) rfl)) e0 (g := (mkF m 1 #[rv r0, iv 2] [(.ref r0)])) rfl (by rw [hml]; rfl) rfl (hb hby d1_1) (by decide) (W := 0) (by show 2 * 0 + _ ≤ _; exact Nat.le_of_eq rfl) (by decide)
  refine gs st23 ?_
  show Go p e below s QQ 4 8 (T23.setTop (mkF m 4 #[rv r0, iv 2] []))
  refine gs (fun t => XS.aloadN X23.here hx rfl (hb hby d1_4) rfl rfl) ?_
  refine gs (fun t => X23.ldc2Long hx hown (mvT hZ (hw _ (List.mem_of_getElem? (i := 10) rfl))) (g := (mkF m 5 #[rv r0, iv 2] [(.ref r0)])) rfl (hb hby d1_5) t) ?_
  obtain ⟨T24, h24, X24, e24, W24, st24⟩ := putF X23 hx hZ hown (host := "") (Or.inl (hw _ (List.mem_of_getElem? (i := 11) rfl))) Via.refl e23 F_minimum_r0 E_r0 (Or.inl (hw _ (List.mem_of_getElem? (i := 12) rfl))) (hw _ (List.mem_of_getElem? (i := 2) rfl)) (ty := .long) (by decide) rfl rfl (g := (mkF m 8 #[rv r0, iv 2] [(.long (-9223372036854775808 : Int64)), (.ref r0)])) rfl rfl (hb hby d1_8)
  replace N0 := Fr.snoc X24 N0 ge_r0
  refine gs st24 ?_
  show Go p e below s QQ 4 8 (T24.setTop (mkF m 11 #[rv r0, iv 2] []))
  replace F_minimum_r0 := F_minimum_r0.same W24
  replace F_count_r0 := F_count_r0.other W24 (Or.inr (slot_ne (Or.inr (hw _ (List.mem_of_getElem? (i := 14) rfl))) (Or.inl (hw _ (List.mem_of_getElem? (i := 12) rfl))) (by decide) (t := .int) (t' := .long) (by decide) (by decide)))
  replace F_latest_r0 := F_latest_r0.other W24 (Or.inr (slot_ne (Or.inr (hw _ (List.mem_of_getElem? (i := 17) rfl))) (Or.inl (hw _ (List.mem_of_getElem? (i := 12) rfl))) (by decide) (t := (.array .long)) (t' := .long) (by decide) (by decide)))
  replace F_channelIdle_r0 := F_channelIdle_r0.other W24 (Or.inr (slot_ne (Or.inr (hw _ (List.mem_of_getElem? (i := 20) rfl))) (Or.inl (hw _ (List.mem_of_getElem? (i := 12) rfl))) (by decide) (t := (.array .boolean)) (t' := .long) (by decide) (by decide)))
  replace F_ended_r0 := F_ended_r0.other W24 (Or.inr (slot_ne (Or.inr (hw _ (List.mem_of_getElem? (i := 22) rfl))) (Or.inl (hw _ (List.mem_of_getElem? (i := 12) rfl))) (by decide) (t := (.array .boolean)) (t' := .long) (by decide) (by decide)))
  replace F_barrierIn_r0 := F_barrierIn_r0.other W24 (Or.inr (slot_ne (Or.inr (hw _ (List.mem_of_getElem? (i := 24) rfl))) (Or.inl (hw _ (List.mem_of_getElem? (i := 12) rfl))) (by decide) (t := (.array .boolean)) (t' := .long) (by decide) (by decide)))
  replace F_aligning_r0 := F_aligning_r0.other W24 (Or.inr (slot_ne (Or.inl (hw _ (List.mem_of_getElem? (i := 49) rfl))) (Or.inl (hw _ (List.mem_of_getElem? (i := 12) rfl))) (by decide) (t := (.object "weirline/runtime/CheckpointBarrier")) (t' := .long) (by decide) (by decide)))
  replace F_barriersIn_r0 := F_barriersIn_r0.other W24 (Or.inr (slot_ne (Or.inl (hw _ (List.mem_of_getElem? (i := 51) rfl))) (Or.inl (hw _ (List.mem_of_getElem? (i := 12) rfl))) (by decide) (t := .int) (t' := .long) (by decide) (by decide)))
  replace F_endedCount_r0 := F_endedCount_r0.other W24 (Or.inr (slot_ne (Or.inl (hw _ (List.mem_of_getElem? (i := 63) rfl))) (Or.inl (hw _ (List.mem_of_getElem? (i := 12) rfl))) (by decide) (t := .int) (t' := .long) (by decide) (by decide)))
  replace E_r0 := E_r0.wr W24
  replace ZZ : n0 ≤ h24.size := by rw [W24.size]; exact ZZ
  replace KK := KK.wr W24 (Or.inl (by simp))
  refine gs (fun t => XS.aloadN X24.here hx rfl (hb hby d1_11) rfl rfl) ?_
  refine gs (fun t => XS.iloadN X24.here hx rfl (hb hby d1_12) rfl) ?_
  obtain ⟨T25, h25, X25, e25, W25, st25⟩ := putF X24 hx hZ hown (host := "") (Or.inl (hw _ (List.mem_of_getElem? (i := 13) rfl))) Via.refl e24 F_count_r0 E_r0 (Or.inr ⟨(hw _ (List.mem_of_getElem? (i := 14) rfl)), rfl, hnm⟩) (hw _ (List.mem_of_getElem? (i := 2) rfl)) (ty := .int) (by decide) rfl rfl (g := (mkF m 13 #[rv r0, iv 2] [(.int (2 : Int32)), (.ref r0)])) rfl rfl (hb hby d1_13)
  replace N0 := Fr.snoc X25 N0 ge_r0
  refine gs st25 ?_
  show Go p e below s QQ 4 8 (T25.setTop (mkF m 16 #[rv r0, iv 2] []))
  replace F_minimum_r0 := F_minimum_r0.other W25 (Or.inr (slot_ne (Or.inl (hw _ (List.mem_of_getElem? (i := 12) rfl))) (Or.inr (hw _ (List.mem_of_getElem? (i := 14) rfl))) (by decide) (t := .long) (t' := .int) (by decide) (by decide)))
  replace F_count_r0 := F_count_r0.same W25
  replace F_latest_r0 := F_latest_r0.other W25 (Or.inr (slot_ne (Or.inr (hw _ (List.mem_of_getElem? (i := 17) rfl))) (Or.inr (hw _ (List.mem_of_getElem? (i := 14) rfl))) (by decide) (t := (.array .long)) (t' := .int) (by decide) (by decide)))
  replace F_channelIdle_r0 := F_channelIdle_r0.other W25 (Or.inr (slot_ne (Or.inr (hw _ (List.mem_of_getElem? (i := 20) rfl))) (Or.inr (hw _ (List.mem_of_getElem? (i := 14) rfl))) (by decide) (t := (.array .boolean)) (t' := .int) (by decide) (by decide)))
  replace F_ended_r0 := F_ended_r0.other W25 (Or.inr (slot_ne (Or.inr (hw _ (List.mem_of_getElem? (i := 22) rfl))) (Or.inr (hw _ (List.mem_of_getElem? (i := 14) rfl))) (by decide) (t := (.array .boolean)) (t' := .int) (by decide) (by decide)))
  replace F_barrierIn_r0 := F_barrierIn_r0.other W25 (Or.inr (slot_ne (Or.inr (hw _ (List.mem_of_getElem? (i := 24) rfl))) (Or.inr (hw _ (List.mem_of_getElem? (i := 14) rfl))) (by decide) (t := (.array .boolean)) (t' := .int) (by decide) (by decide)))
  replace F_aligning_r0 := F_aligning_r0.other W25 (Or.inr (slot_ne (Or.inl (hw _ (List.mem_of_getElem? (i := 49) rfl))) (Or.inr (hw _ (List.mem_of_getElem? (i := 14) rfl))) (by decide) (t := (.object "weirline/runtime/CheckpointBarrier")) (t' := .int) (by decide) (by decide)))
  replace F_barriersIn_r0 := F_barriersIn_r0.other W25 (Or.inr (slot_ne (Or.inl (hw _ (List.mem_of_getElem? (i := 51) rfl))) (Or.inr (hw _ (List.mem_of_getElem? (i := 14) rfl))) (by decide) (t := .int) (t' := .int) (by decide) (by decide)))
  replace F_endedCount_r0 := F_endedCount_r0.other W25 (Or.inr (slot_ne (Or.inl (hw _ (List.mem_of_getElem? (i := 63) rfl))) (Or.inr (hw _ (List.mem_of_getElem? (i := 14) rfl))) (by decide) (t := .int) (t' := .int) (by decide) (by decide)))
  replace E_r0 := E_r0.wr W25
  replace ZZ : n0 ≤ h25.size := by rw [W25.size]; exact ZZ
  replace KK := KK.wr W25 (Or.inl (by simp))
  refine gs (fun t => XS.aloadN X25.here hx rfl (hb hby d1_16) rfl rfl) ?_
  refine gs (fun t => XS.iloadN X25.here hx rfl (hb hby d1_17) rfl) ?_
  obtain ⟨T26, h26, k26, X26, e26, E26, A26, st26⟩ := newP X25 hx hZ (hw _ (List.mem_of_getElem? (i := 15) rfl)) e25 (g := (mkF m 18 #[rv r0, iv 2] [(.int (2 : Int32)), (.ref r0)])) rfl (hb hby d1_18) rfl (by decide) (cap := 2) (by decide) (by decide) (by decide) (by decide)
  obtain ⟨b26, g26⟩ : ∃ z, z = h25.size := ⟨_, rfl⟩
  rw [← g26] at A26 st26
  have ge_b26 : n0 ≤ b26 := by rw [g26]; exact ZZ
  have sz_b26 : h0.size ≤ b26 := by rw [g26]; exact KK.1
  have ne_r0_b26 : r0 ≠ b26 := by rw [g26]; exact Nat.ne_of_lt F_minimum_r0.lt
  refine gs st26 ?_
  show Go p e below s QQ 4 8 (T26.setTop (mkF m 20 #[rv r0, iv 2] [(.ref b26), (.ref r0)]))
  replace F_minimum_r0 := F_minimum_r0.ext E26
  replace F_count_r0 := F_count_r0.ext E26
  replace F_latest_r0 := F_latest_r0.ext E26
  replace F_channelIdle_r0 := F_channelIdle_r0.ext E26
  replace F_ended_r0 := F_ended_r0.ext E26
  replace F_barrierIn_r0 := F_barrierIn_r0.ext E26
  replace F_aligning_r0 := F_aligning_r0.ext E26
  replace F_barriersIn_r0 := F_barriersIn_r0.ext E26
  replace F_endedCount_r0 := F_endedCount_r0.ext E26
  replace E_r0 := E_r0.ext E26
  replace ZZ := Nat.le_trans ZZ E26.1
  replace KK := KK.ext E26
  have V_b26 : Arf Z h26 b26 .long 2 (fun _ => .long 0) := Arf.new A26
  obtain ⟨T27, h27, X27, e27, W27, st27⟩ := putF X26 hx hZ hown (host := "") (Or.inl (hw _ (List.mem_of_getElem? (i := 16) rfl))) Via.refl e26 F_latest_r0 E_r0 (Or.inr ⟨(hw _ (List.mem_of_getElem? (i := 17) rfl)), rfl, hnm⟩) (hw _ (List.mem_of_getElem? (i := 2) rfl)) (ty := (.array .long)) (by decide) rfl rfl (g := (mkF m 20 #[rv r0, iv 2] [(.ref b26), (.ref r0)])) rfl rfl (hb hby d1_20)
  replace N0 := Fr.snoc X27 N0 ge_r0
  refine gs st27 ?_
  show Go p e below s QQ 4 8 (T27.setTop (mkF m 23 #[rv r0, iv 2] []))
  replace F_minimum_r0 := F_minimum_r0.other W27 (Or.inr (slot_ne (Or.inl (hw _ (List.mem_of_getElem? (i := 12) rfl))) (Or.inr (hw _ (List.mem_of_getElem? (i := 17) rfl))) (by decide) (t := .long) (t' := (.array .long)) (by decide) (by decide)))
  replace F_count_r0 := F_count_r0.other W27 (Or.inr (slot_ne (Or.inr (hw _ (List.mem_of_getElem? (i := 14) rfl))) (Or.inr (hw _ (List.mem_of_getElem? (i := 17) rfl))) (by decide) (t := .int) (t' := (.array .long)) (by decide) (by decide)))
  replace F_latest_r0 := F_latest_r0.same W27
  replace F_channelIdle_r0 := F_channelIdle_r0.other W27 (Or.inr (slot_ne (Or.inr (hw _ (List.mem_of_getElem? (i := 20) rfl))) (Or.inr (hw _ (List.mem_of_getElem? (i := 17) rfl))) (by decide) (t := (.array .boolean)) (t' := (.array .long)) (by decide) (by decide)))
  replace F_ended_r0 := F_ended_r0.other W27 (Or.inr (slot_ne (Or.inr (hw _ (List.mem_of_getElem? (i := 22) rfl))) (Or.inr (hw _ (List.mem_of_getElem? (i := 17) rfl))) (by decide) (t := (.array .boolean)) (t' := (.array .long)) (by decide) (by decide)))
  replace F_barrierIn_r0 := F_barrierIn_r0.other W27 (Or.inr (slot_ne (Or.inr (hw _ (List.mem_of_getElem? (i := 24) rfl))) (Or.inr (hw _ (List.mem_of_getElem? (i := 17) rfl))) (by decide) (t := (.array .boolean)) (t' := (.array .long)) (by decide) (by decide)))
  replace F_aligning_r0 := F_aligning_r0.other W27 (Or.inr (slot_ne (Or.inl (hw _ (List.mem_of_getElem? (i := 49) rfl))) (Or.inr (hw _ (List.mem_of_getElem? (i := 17) rfl))) (by decide) (t := (.object "weirline/runtime/CheckpointBarrier")) (t' := (.array .long)) (by decide) (by decide)))
  replace F_barriersIn_r0 := F_barriersIn_r0.other W27 (Or.inr (slot_ne (Or.inl (hw _ (List.mem_of_getElem? (i := 51) rfl))) (Or.inr (hw _ (List.mem_of_getElem? (i := 17) rfl))) (by decide) (t := .int) (t' := (.array .long)) (by decide) (by decide)))
  replace F_endedCount_r0 := F_endedCount_r0.other W27 (Or.inr (slot_ne (Or.inl (hw _ (List.mem_of_getElem? (i := 63) rfl))) (Or.inr (hw _ (List.mem_of_getElem? (i := 17) rfl))) (by decide) (t := .int) (t' := (.array .long)) (by decide) (by decide)))
  replace E_r0 := E_r0.wr W27
  replace V_b26 := V_b26.other W27 (Ne.symm ne_r0_b26)
  replace ZZ : n0 ≤ h27.size := by rw [W27.size]; exact ZZ
  replace KK := KK.wr W27 (Or.inl (by simp))
  refine gs (fun t => XS.aloadN X27.here hx rfl (hb hby d1_23) rfl rfl) ?_
  refine gs (fun t => XS.iloadN X27.here hx rfl (hb hby d1_24) rfl) ?_
  obtain ⟨T28, h28, k28, X28, e28, E28, A28, st28⟩ := newP X27 hx hZ (hw _ (List.mem_of_getElem? (i := 18) rfl)) e27 (g := (mkF m 25 #[rv r0, iv 2] [(.int (2 : Int32)), (.ref r0)])) rfl (hb hby d1_25) rfl (by decide) (cap := 2) (by decide) (by decide) (by decide) (by decide)
  obtain ⟨b28, g28⟩ : ∃ z, z = h27.size := ⟨_, rfl⟩
  rw [← g28] at A28 st28
  have ge_b28 : n0 ≤ b28 := by rw [g28]; exact ZZ
  have sz_b28 : h0.size ≤ b28 := by rw [g28]; exact KK.1
  have ne_r0_b28 : r0 ≠ b28 := by rw [g28]; exact Nat.ne_of_lt F_minimum_r0.lt
  have ne_b26_b28 : b26 ≠ b28 := by rw [g28]; exact Nat.ne_of_lt V_b26.lt
  refine gs st28 ?_
  show Go p e below s QQ 4 8 (T28.setTop (mkF m 27 #[rv r0, iv 2] [(.ref b28), (.ref r0)]))
  replace F_minimum_r0 := F_minimum_r0.ext E28
  replace F_count_r0 := F_count_r0.ext E28
  replace F_latest_r0 := F_latest_r0.ext E28
  replace F_channelIdle_r0 := F_channelIdle_r0.ext E28
  replace F_ended_r0 := F_ended_r0.ext E28
  replace F_barrierIn_r0 := F_barrierIn_r0.ext E28
  replace F_aligning_r0 := F_aligning_r0.ext E28
  replace F_barriersIn_r0 := F_barriersIn_r0.ext E28
  replace F_endedCount_r0 := F_endedCount_r0.ext E28
  replace E_r0 := E_r0.ext E28
  replace V_b26 := V_b26.ext E28
  replace ZZ := Nat.le_trans ZZ E28.1
  replace KK := KK.ext E28
  have V_b28 : Arf Z h28 b28 .boolean 2 (fun _ => .int 0) := Arf.new A28
  obtain ⟨T29, h29, X29, e29, W29, st29⟩ := putF X28 hx hZ hown (host := "") (Or.inl (hw _ (List.mem_of_getElem? (i := 19) rfl))) Via.refl e28 F_channelIdle_r0 E_r0 (Or.inr ⟨(hw _ (List.mem_of_getElem? (i := 20) rfl)), rfl, hnm⟩) (hw _ (List.mem_of_getElem? (i := 2) rfl)) (ty := (.array .boolean)) (by decide) rfl rfl (g := (mkF m 27 #[rv r0, iv 2] [(.ref b28), (.ref r0)])) rfl rfl (hb hby d1_27)
  replace N0 := Fr.snoc X29 N0 ge_r0
  refine gs st29 ?_
  show Go p e below s QQ 4 8 (T29.setTop (mkF m 30 #[rv r0, iv 2] []))
  replace F_minimum_r0 := F_minimum_r0.other W29 (Or.inr (slot_ne (Or.inl (hw _ (List.mem_of_getElem? (i := 12) rfl))) (Or.inr (hw _ (List.mem_of_getElem? (i := 20) rfl))) (by decide) (t := .long) (t' := (.array .boolean)) (by decide) (by decide)))
  replace F_count_r0 := F_count_r0.other W29 (Or.inr (slot_ne (Or.inr (hw _ (List.mem_of_getElem? (i := 14) rfl))) (Or.inr (hw _ (List.mem_of_getElem? (i := 20) rfl))) (by decide) (t := .int) (t' := (.array .boolean)) (by decide) (by decide)))
  replace F_latest_r0 := F_latest_r0.other W29 (Or.inr (slot_ne (Or.inr (hw _ (List.mem_of_getElem? (i := 17) rfl))) (Or.inr (hw _ (List.mem_of_getElem? (i := 20) rfl))) (by decide) (t := (.array .long)) (t' := (.array .boolean)) (by decide) (by decide)))
  replace F_channelIdle_r0 := F_channelIdle_r0.same W29
  replace F_ended_r0 := F_ended_r0.other W29 (Or.inr (slot_ne (Or.inr (hw _ (List.mem_of_getElem? (i := 22) rfl))) (Or.inr (hw _ (List.mem_of_getElem? (i := 20) rfl))) (by decide) (t := (.array .boolean)) (t' := (.array .boolean)) (by decide) (by decide)))
  replace F_barrierIn_r0 := F_barrierIn_r0.other W29 (Or.inr (slot_ne (Or.inr (hw _ (List.mem_of_getElem? (i := 24) rfl))) (Or.inr (hw _ (List.mem_of_getElem? (i := 20) rfl))) (by decide) (t := (.array .boolean)) (t' := (.array .boolean)) (by decide) (by decide)))
  replace F_aligning_r0 := F_aligning_r0.other W29 (Or.inr (slot_ne (Or.inl (hw _ (List.mem_of_getElem? (i := 49) rfl))) (Or.inr (hw _ (List.mem_of_getElem? (i := 20) rfl))) (by decide) (t := (.object "weirline/runtime/CheckpointBarrier")) (t' := (.array .boolean)) (by decide) (by decide)))
  replace F_barriersIn_r0 := F_barriersIn_r0.other W29 (Or.inr (slot_ne (Or.inl (hw _ (List.mem_of_getElem? (i := 51) rfl))) (Or.inr (hw _ (List.mem_of_getElem? (i := 20) rfl))) (by decide) (t := .int) (t' := (.array .boolean)) (by decide) (by decide)))
  replace F_endedCount_r0 := F_endedCount_r0.other W29 (Or.inr (slot_ne (Or.inl (hw _ (List.mem_of_getElem? (i := 63) rfl))) (Or.inr (hw _ (List.mem_of_getElem? (i := 20) rfl))) (by decide) (t := .int) (t' := (.array .boolean)) (by decide) (by decide)))
  replace E_r0 := E_r0.wr W29
  replace V_b26 := V_b26.other W29 (Ne.symm ne_r0_b26)
  replace V_b28 := V_b28.other W29 (Ne.symm ne_r0_b28)
  replace ZZ : n0 ≤ h29.size := by rw [W29.size]; exact ZZ
  replace KK := KK.wr W29 (Or.inl (by simp))
  refine gs (fun t => XS.aloadN X29.here hx rfl (hb hby d1_30) rfl rfl) ?_
  refine gs (fun t => XS.iloadN X29.here hx rfl (hb hby d1_31) rfl) ?_
  obtain ⟨T30, h30, k30, X30, e30, E30, A30, st30⟩ := newP X29 hx hZ (hw _ (List.mem_of_getElem? (i := 18) rfl)) e29 (g := (mkF m 32 #[rv r0, iv 2] [(.int (2 : Int32)), (.ref r0)])) rfl (hb hby d1_32) rfl (by decide) (cap := 2) (by decide) (by decide) (by decide) (by decide)
  obtain ⟨b30, g30⟩ : ∃ z, z = h29.size := ⟨_, rfl⟩
  rw [← g30] at A30 st30
  have ge_b30 : n0 ≤ b30 := by rw [g30]; exact ZZ
  have sz_b30 : h0.size ≤ b30 := by rw [g30]; exact KK.1
  have ne_r0_b30 : r0 ≠ b30 := by rw [g30]; exact Nat.ne_of_lt F_minimum_r0.lt
  have ne_b26_b30 : b26 ≠ b30 := by rw [g30]; exact Nat.ne_of_lt V_b26.lt
  have ne_b28_b30 : b28 ≠ b30 := by rw [g30]; exact Nat.ne_of_lt V_b28.lt
  refine gs st30 ?_
  show Go p e below s QQ 4 8 (T30.setTop (mkF m 34 #[rv r0, iv 2] [(.ref b30), (.ref r0)]))
  replace F_minimum_r0 := F_minimum_r0.ext E30
  replace F_count_r0 := F_count_r0.ext E30
  replace F_latest_r0 := F_latest_r0.ext E30
  replace F_channelIdle_r0 := F_channelIdle_r0.ext E30
  replace F_ended_r0 := F_ended_r0.ext E30
  replace F_barrierIn_r0 := F_barrierIn_r0.ext E30
  replace F_aligning_r0 := F_aligning_r0.ext E30
  replace F_barriersIn_r0 := F_barriersIn_r0.ext E30
  replace F_endedCount_r0 := F_endedCount_r0.ext E30
  replace E_r0 := E_r0.ext E30
  replace V_b26 := V_b26.ext E30
  replace V_b28 := V_b28.ext E30
  replace ZZ := Nat.le_trans ZZ E30.1
  replace KK := KK.ext E30
  have V_b30 : Arf Z h30 b30 .boolean 2 (fun _ => .int 0) := Arf.new A30
  obtain ⟨T31, h31, X31, e31, W31, st31⟩ := putF X30 hx hZ hown (host := "") (Or.inl (hw _ (List.mem_of_getElem? (i := 21) rfl))) Via.refl e30 F_ended_r0 E_r0 (Or.inr ⟨(hw _ (List.mem_of_getElem? (i := 22) rfl)), rfl, hnm⟩) (hw _ (List.mem_of_getElem? (i := 2) rfl)) (ty := (.array .boolean)) (by decide) rfl rfl (g := (mkF m 34 #[rv r0, iv 2] [(.ref b30), (.ref r0)])) rfl rfl (hb hby d1_34)
  replace N0 := Fr.snoc X31 N0 ge_r0
  refine gs st31 ?_
  show Go p e below s QQ 4 8 (T31.setTop (mkF m 37 #[rv r0, iv 2] []))
  replace F_minimum_r0 := F_minimum_r0.other W31 (Or.inr (slot_ne (Or.inl (hw _ (List.mem_of_getElem? (i := 12) rfl))) (Or.inr (hw _ (List.mem_of_getElem? (i := 22) rfl))) (by decide) (t := .long) (t' := (.array .boolean)) (by decide) (by decide)))
  replace F_count_r0 := F_count_r0.other W31 (Or.inr (slot_ne (Or.inr (hw _ (List.mem_of_getElem? (i := 14) rfl))) (Or.inr (hw _ (List.mem_of_getElem? (i := 22) rfl))) (by decide) (t := .int) (t' := (.array .boolean)) (by decide) (by decide)))
  replace F_latest_r0 := F_latest_r0.other W31 (Or.inr (slot_ne (Or.inr (hw _ (List.mem_of_getElem? (i := 17) rfl))) (Or.inr (hw _ (List.mem_of_getElem? (i := 22) rfl))) (by decide) (t := (.array .long)) (t' := (.array .boolean)) (by decide) (by decide)))
  replace F_channelIdle_r0 := F_channelIdle_r0.other W31 (Or.inr (slot_ne (Or.inr (hw _ (List.mem_of_getElem? (i := 20) rfl))) (Or.inr (hw _ (List.mem_of_getElem? (i := 22) rfl))) (by decide) (t := (.array .boolean)) (t' := (.array .boolean)) (by decide) (by decide)))
  replace F_ended_r0 := F_ended_r0.same W31
  replace F_barrierIn_r0 := F_barrierIn_r0.other W31 (Or.inr (slot_ne (Or.inr (hw _ (List.mem_of_getElem? (i := 24) rfl))) (Or.inr (hw _ (List.mem_of_getElem? (i := 22) rfl))) (by decide) (t := (.array .boolean)) (t' := (.array .boolean)) (by decide) (by decide)))
  replace F_aligning_r0 := F_aligning_r0.other W31 (Or.inr (slot_ne (Or.inl (hw _ (List.mem_of_getElem? (i := 49) rfl))) (Or.inr (hw _ (List.mem_of_getElem? (i := 22) rfl))) (by decide) (t := (.object "weirline/runtime/CheckpointBarrier")) (t' := (.array .boolean)) (by decide) (by decide)))
  replace F_barriersIn_r0 := F_barriersIn_r0.other W31 (Or.inr (slot_ne (Or.inl (hw _ (List.mem_of_getElem? (i := 51) rfl))) (Or.inr (hw _ (List.mem_of_getElem? (i := 22) rfl))) (by decide) (t := .int) (t' := (.array .boolean)) (by decide) (by decide)))
  replace F_endedCount_r0 := F_endedCount_r0.other W31 (Or.inr (slot_ne (Or.inl (hw _ (List.mem_of_getElem? (i := 63) rfl))) (Or.inr (hw _ (List.mem_of_getElem? (i := 22) rfl))) (by decide) (t := .int) (t' := (.array .boolean)) (by decide) (by decide)))
  replace E_r0 := E_r0.wr W31
  replace V_b26 := V_b26.other W31 (Ne.symm ne_r0_b26)
  replace V_b28 := V_b28.other W31 (Ne.symm ne_r0_b28)
  replace V_b30 := V_b30.other W31 (Ne.symm ne_r0_b30)
  replace ZZ : n0 ≤ h31.size := by rw [W31.size]; exact ZZ
  replace KK := KK.wr W31 (Or.inl (by simp))
  refine gs (fun t => XS.aloadN X31.here hx rfl (hb hby d1_37) rfl rfl) ?_
  refine gs (fun t => XS.iloadN X31.here hx rfl (hb hby d1_38) rfl) ?_
  obtain ⟨T32, h32, k32, X32, e32, E32, A32, st32⟩ := newP X31 hx hZ (hw _ (List.mem_of_getElem? (i := 18) rfl)) e31 (g := (mkF m 39 #[rv r0, iv 2] [(.int (2 : Int32)), (.ref r0)])) rfl (hb hby d1_39) rfl (by decide) (cap := 2) (by decide) (by decide) (by decide) (by decide)
  obtain ⟨b32, g32⟩ : ∃ z, z = h31.size := ⟨_, rfl⟩
  rw [← g32] at A32 st32
  have ge_b32 : n0 ≤ b32 := by rw [g32]; exact ZZ
  have sz_b32 : h0.size ≤ b32 := by rw [g32]; exact KK.1
  have ne_r0_b32 : r0 ≠ b32 := by rw [g32]; exact Nat.ne_of_lt F_minimum_r0.lt
  have ne_b26_b32 : b26 ≠ b32 := by rw [g32]; exact Nat.ne_of_lt V_b26.lt
  have ne_b28_b32 : b28 ≠ b32 := by rw [g32]; exact Nat.ne_of_lt V_b28.lt
  have ne_b30_b32 : b30 ≠ b32 := by rw [g32]; exact Nat.ne_of_lt V_b30.lt
  refine gs st32 ?_
  show Go p e below s QQ 4 8 (T32.setTop (mkF m 41 #[rv r0, iv 2] [(.ref b32), (.ref r0)]))
  replace F_minimum_r0 := F_minimum_r0.ext E32
  replace F_count_r0 := F_count_r0.ext E32
  replace F_latest_r0 := F_latest_r0.ext E32
  replace F_channelIdle_r0 := F_channelIdle_r0.ext E32
  replace F_ended_r0 := F_ended_r0.ext E32
  replace F_barrierIn_r0 := F_barrierIn_r0.ext E32
  replace F_aligning_r0 := F_aligning_r0.ext E32
  replace F_barriersIn_r0 := F_barriersIn_r0.ext E32
  replace F_endedCount_r0 := F_endedCount_r0.ext E32
  replace E_r0 := E_r0.ext E32
  replace V_b26 := V_b26.ext E32
  replace V_b28 := V_b28.ext E32
  replace V_b30 := V_b30.ext E32
  replace ZZ := Nat.le_trans ZZ E32.1
  replace KK := KK.ext E32
  have V_b32 : Arf Z h32 b32 .boolean 2 (fun _ => .int 0) := Arf.new A32
  obtain ⟨T33, h33, X33, e33, W33, st33⟩ := putF X32 hx hZ hown (host := "") (Or.inl (hw _ (List.mem_of_getElem? (i := 23) rfl))) Via.refl e32 F_barrierIn_r0 E_r0 (Or.inr ⟨(hw _ (List.mem_of_getElem? (i := 24) rfl)), rfl, hnm⟩) (hw _ (List.mem_of_getElem? (i := 2) rfl)) (ty := (.array .boolean)) (by decide) rfl rfl (g := (mkF m 41 #[rv r0, iv 2] [(.ref b32), (.ref r0)])) rfl rfl (hb hby d1_41)
  replace N0 := Fr.snoc X33 N0 ge_r0
  refine gs st33 ?_
  show Go p e below s QQ 4 8 (T33.setTop (mkF m 44 #[rv r0, iv 2] []))
  replace F_minimum_r0 := F_minimum_r0.other W33 (Or.inr (slot_ne (Or.inl (hw _ (List.mem_of_getElem? (i := 12) rfl))) (Or.inr (hw _ (List.mem_of_getElem? (i := 24) rfl))) (by decide) (t := .long) (t' := (.array .boolean)) (by decide) (by decide)))
  replace F_count_r0 := F_count_r0.other W33 (Or.inr (slot_ne (Or.inr (hw _ (List.mem_of_getElem? (i := 14) rfl))) (Or.inr (hw _ (List.mem_of_getElem? (i := 24) rfl))) (by decide) (t := .int) (t' := (.array .boolean)) (by decide) (by decide)))
  replace F_latest_r0 := F_latest_r0.other W33 (Or.inr (slot_ne (Or.inr (hw _ (List.mem_of_getElem? (i := 17) rfl))) (Or.inr (hw _ (List.mem_of_getElem? (i := 24) rfl))) (by decide) (t := (.array .long)) (t' := (.array .boolean)) (by decide) (by decide)))
  replace F_channelIdle_r0 := F_channelIdle_r0.other W33 (Or.inr (slot_ne (Or.inr (hw _ (List.mem_of_getElem? (i := 20) rfl))) (Or.inr (hw _ (List.mem_of_getElem? (i := 24) rfl))) (by decide) (t := (.array .boolean)) (t' := (.array .boolean)) (by decide) (by decide)))
  replace F_ended_r0 := F_ended_r0.other W33 (Or.inr (slot_ne (Or.inr (hw _ (List.mem_of_getElem? (i := 22) rfl))) (Or.inr (hw _ (List.mem_of_getElem? (i := 24) rfl))) (by decide) (t := (.array .boolean)) (t' := (.array .boolean)) (by decide) (by decide)))
  replace F_barrierIn_r0 := F_barrierIn_r0.same W33
  replace F_aligning_r0 := F_aligning_r0.other W33 (Or.inr (slot_ne (Or.inl (hw _ (List.mem_of_getElem? (i := 49) rfl))) (Or.inr (hw _ (List.mem_of_getElem? (i := 24) rfl))) (by decide) (t := (.object "weirline/runtime/CheckpointBarrier")) (t' := (.array .boolean)) (by decide) (by decide)))
  replace F_barriersIn_r0 := F_barriersIn_r0.other W33 (Or.inr (slot_ne (Or.inl (hw _ (List.mem_of_getElem? (i := 51) rfl))) (Or.inr (hw _ (List.mem_of_getElem? (i := 24) rfl))) (by decide) (t := .int) (t' := (.array .boolean)) (by decide) (by decide)))
  replace F_endedCount_r0 := F_endedCount_r0.other W33 (Or.inr (slot_ne (Or.inl (hw _ (List.mem_of_getElem? (i := 63) rfl))) (Or.inr (hw _ (List.mem_of_getElem? (i := 24) rfl))) (by decide) (t := .int) (t' := (.array .boolean)) (by decide) (by decide)))
  replace E_r0 := E_r0.wr W33
  replace V_b26 := V_b26.other W33 (Ne.symm ne_r0_b26)
  replace V_b28 := V_b28.other W33 (Ne.symm ne_r0_b28)
  replace V_b30 := V_b30.other W33 (Ne.symm ne_r0_b30)
  replace V_b32 := V_b32.other W33 (Ne.symm ne_r0_b32)
  replace ZZ : n0 ≤ h33.size := by rw [W33.size]; exact ZZ
  replace KK := KK.wr W33 (Or.inl (by simp))
  refine gs (fun t => XS.aloadN X33.here hx rfl (hb hby d1_44) rfl rfl) ?_
  obtain ⟨T34, X34, e34, st34⟩ := getF X33 hx hZ hown (host := "") (Or.inl (hw _ (List.mem_of_getElem? (i := 16) rfl))) Via.refl e33 F_latest_r0 (g := (mkF m 45 #[rv r0, iv 2] [(.ref r0)])) rfl rfl (hb hby d1_45)
  refine gs st34 ?_
  show Go p e below s QQ 4 8 (T34.setTop (mkF m 48 #[rv r0, iv 2] [(.ref b26)]))
  refine gs (fun t => X34.ldc2Long hx hown (mvT hZ (hw _ (List.mem_of_getElem? (i := 10) rfl))) (g := (mkF m 48 #[rv r0, iv 2] [(.ref b26)])) rfl (hb hby d1_48) t) ?_
  obtain ⟨_, _, ⟨T35, L35, k35, n35⟩, -, X35, ⟨Lc35, hQ35, l35, y35, z35⟩, st35⟩ := Jvm.LawKit.callS X34 hx (y := (⟨"java/util/Arrays", "fill", "([JJ)V"⟩ : MethodName)) hown (mvT hZ (hw _ (List.mem_of_getElem? (i := 25) rfl))) (mvT hZ (hw _ (List.mem_of_getElem? (i := 26) rfl))) (mvT hZ (hw _ (List.mem_of_getElem? (i := 27) rfl))) (mvT hZ (hw _ (List.mem_of_getElem? (i := 28) rfl))) (by decide) (backOf (W := 0) (fillJ2 l Z a0 hw [] b26 (-9223372036854775808 : Int64) (fun _ => .long 0) h33 n0 ZZ V_b26 ge_b26) hZ (hw _ (List.mem_of_getElem? (i := 28) rfl)) (hw _ (List.mem_of_getElem? (i := 27) rfl)) (by decide) (by decide)) (g := (mkF m 51 #[rv r0, iv 2] [(.long (-9223372036854775808 : Int64)), (.ref b26)])) rfl (by rw [hml]; rfl) (argsL := [(.ref b26), (.long (-9223372036854775808 : Int64))]) (rest := []) (lenOf pd_1 rfl) rfl (by show 2 * 0 + _ ≤ _; exact Nat.le_of_eq rfl) (hb hby d1_51) (fun _ _ => ⟨rfl, e34, (by decide : 4 + 0 ≤ _), (by decide : 8 + 0 ≤ _)⟩)
  dsimp only [Pt.U, Pt.locs, Pt.cells, Pt.slots] at X35 l35 y35 z35 st35 hQ35
  subst l35 y35 z35
  obtain ⟨rfl, N35q, K35⟩ := hQ35
  replace N0 := Fr.app N0 N35q
  refine gs st35 ?_
  show Go p e below s QQ 4 8 (T35.setTop (mkF m 54 #[rv r0, iv 2] []))
  replace F_minimum_r0 := F_minimum_r0.keep K35 (ninS ne_r0_b26 nin0)
  replace F_count_r0 := F_count_r0.keep K35 (ninS ne_r0_b26 nin0)
  replace F_latest_r0 := F_latest_r0.keep K35 (ninS ne_r0_b26 nin0)
  replace F_channelIdle_r0 := F_channelIdle_r0.keep K35 (ninS ne_r0_b26 nin0)
  replace F_ended_r0 := F_ended_r0.keep K35 (ninS ne_r0_b26 nin0)
  replace F_barrierIn_r0 := F_barrierIn_r0.keep K35 (ninS ne_r0_b26 nin0)
  replace F_aligning_r0 := F_aligning_r0.keep K35 (ninS ne_r0_b26 nin0)
  replace F_barriersIn_r0 := F_barriersIn_r0.keep K35 (ninS ne_r0_b26 nin0)
  replace F_endedCount_r0 := F_endedCount_r0.keep K35 (ninS ne_r0_b26 nin0)
  replace E_r0 := E_r0.keep K35
  replace V_b28 := V_b28.keep K35 (ninS (Ne.symm ne_b26_b28) nin0)
  replace V_b30 := V_b30.keep K35 (ninS (Ne.symm ne_b26_b30) nin0)
  replace V_b32 := V_b32.keep K35 (ninS (Ne.symm ne_b26_b32) nin0)
  replace ZZ := Nat.le_trans ZZ K35.1
  replace KK := KK.trans K35 (allS (Or.inr sz_b26) all0)
  exact goV X35 hx Bd.notSynchronized Bd.returns (hb hby d1_54) (by rw [← hQQ]; exact ⟨b30, b32, rfl, N0, KK, F_count_r0, F_ended_r0, F_endedCount_r0, F_aligning_r0, F_barrierIn_r0, F_barriersIn_r0, V_b30, V_b32, sz_b30, sz_b32, ne_b30_b32⟩) (by decide) (by decide)
def QfillJ3 (Z : State) (r0 : Addr) (p1 : Int64) (ff : Nat → Value) (h0 : Heap) (n0 : Nat) (v : Option Value) (h : Heap) (L : List Loc) : Prop := v = none ∧ Fr n0 L ∧ Keep h0 h [r0]
set_option maxRecDepth 65536 in
set_option maxHeartbeats 40000000 in
theorem fillJ3 (l : Launch) (Z : State) (a0 : Array Value) (hw : ∀ d ∈ tables_1, d.before a0 Z = true) (ws : List Jvm.Cond) (r0 : Addr) (p1 : Int64) (ff : Nat → Value) (h0 : Heap) (n0 : Nat) (Z0 : n0 ≤ h0.size) (V_r0 : Arf Z h0 r0 .long 3 ff) (ge_r0 : n0 ≤ r0) :
    MetFree l (⟨"java/util/Arrays", "fill", "([JJ)V"⟩ : MethodName) (head1 (Jvm.Cond.code (⟨"java/util/Arrays", "fill", "([JJ)V"⟩ : MethodName) jdk_65_method_101_code 5 none :: ws) ({ frames := 0, cells := 0, slots := 0, locals := 0 } : Room)) (fun a U => a = #[(.ref r0), (.long p1)] ∧ Z.Warmed39 U.vm ∧ U.heap = h0) (fun _ _ _ _ _ => True) (fun _ U o U' => ∃ v L, o = .returned v ∧ QfillJ3 Z r0 p1 ff h0 n0 v U'.heap L ∧ FrameEnd U o U' L ({ frames := 0, cells := 0, slots := 0, locals := 0 } : Room).cells ({ frames := 0, cells := 0, slots := 0, locals := 0 } : Room).slots) := by
  refine MetFree.of_bodySF (plainFor_of_name pn_3) hisR ?_
  intro p e s m args below meth c s₁ Bd hml0 hP hK
  obtain ⟨rfl, hZ, hh⟩ := hP
  have hx := Bd.exec
  have hby := Bd.bytes
  have hml : c.maxLocals = 5 := hml0
  have hown : s.vm.findClass "java/util/Arrays" = some m.cls := findClass_of_methodNamed Bd.named
  have hnm := (name_of_methodNamed Bd.named Bd.method).1
  have X0 : Stand p l e ({ frames := 0, cells := 0, slots := 0, locals := 0 } : Room) s m #[(.ref r0), (.long p1)] below meth c s₁ [] 0 0 := Stand.of_body Bd
  have e0 : s₁.heap = h0 := by rw [← hh, Bd.state]; rfl
  have N0 := Fr.nil n0
  have ZZ := Z0
  have KK : Keep h0 h0 [r0] := Keep.refl h0 _
  show Go p e below s (QfillJ3 Z r0 p1 ff h0 n0) 0 0 (s₁.setTop (entryFrame m #[(.ref r0), (.long p1)] 5))
  generalize hQQ : (QfillJ3 Z r0 p1 ff h0 n0) = QQ
  refine gs (fun t k => castTop (g' := (mkF m 0 #[rv r0, jv p1, .second, .unset, .unset] [])) (by first | (simp [entryFrame, mkF, argsToLocals, Value.category, maxLocals]; done) | rfl) k) ?_
  show Go p e below s QQ 0 0 (s₁.setTop (mkF m 0 #[rv r0, jv p1, .second, .unset, .unset] []))
  refine gs (fun t => XS.iconst X0.here hx rfl (hb hby d3_0)) ?_
  refine gs (fun t => XS.istoreN X0.here hx rfl (hb hby d3_1) rfl (l' := #[rv r0, jv p1, .second, iv 0, .unset]) rfl) ?_
  refine gs (fun t => XS.aloadN X0.here hx rfl (hb hby d3_2) rfl rfl) ?_
  refine gs (fun t => lenf X0 hx hZ e0 V_r0 (z := (3 : Int32)) rfl (g := (mkF m 3 #[rv r0, jv p1, .second, iv 0, .unset] [(.ref r0)])) rfl rfl (hb hby d3_3) t) ?_
  refine gs (fun t => XS.istore X0.here hx rfl (hb hby d3_4) rfl (l' := #[rv r0, jv p1, .second, iv 0, iv 3]) rfl) ?_
  refine gs (fun t => XS.iloadN X0.here hx rfl (hb hby d3_6) rfl) ?_
  show Go p e below s QQ 0 0 (s₁.setTop (mkF m 7 #[rv r0, jv p1, .second, iv 0, iv 3] [(.int (0 : Int32))]))
  refine gs (fun t => XS.iload X0.here hx rfl (hb hby d3_7) rfl) ?_
  refine gs (fun t => XS.icmpNo X0.here hx rfl (hb hby d3_9) rfl (tlt (by decide : (0 : Int32) < (3 : Int32))).2.1) ?_
  refine gs (fun t => XS.aloadN X0.here hx rfl (hb hby d3_12) rfl rfl) ?_
  refine gs (fun t => XS.iloadN X0.here hx rfl (hb hby d3_13) rfl) ?_
  refine gs (fun t => XS.lloadN X0.here hx rfl (hb hby d3_14) rfl) ?_
  obtain ⟨T36, h36, X36, e36, W36, V36, st36⟩ := stJf X0 hx hZ e0 V_r0 (j := (0 : Int32)) (by decide) (g := (mkF m 15 #[rv r0, jv p1, .second, iv 0, iv 3] [(.long p1), (.int (0 : Int32)), (.ref r0)])) rfl rfl (hb hby d3_15)
  replace N0 := Fr.snoc X36 N0 ge_r0
  refine gs st36 ?_
  show Go p e below s QQ 0 0 (T36.setTop (mkF m 16 #[rv r0, jv p1, .second, iv 0, iv 3] []))
  replace ZZ : n0 ≤ h36.size := by rw [W36.size]; exact ZZ
  replace KK := KK.wr W36 (Or.inl (by simp))
  replace V_r0 : Arf Z h36 r0 .long 3 (updv ff 0 (.long p1)) := V36
  refine gs (fun t => XS.iinc X36.here hx rfl (hb hby d3_16) rfl (l' := #[rv r0, jv p1, .second, iv 1, iv 3]) rfl) ?_
  refine gs (fun t => XS.goto X36.here hx rfl (pc0 := 19) (pc' := 6) rfl (hb hby d3_19) (by decide) (by decide)) ?_
  refine gs (fun t => XS.iloadN X36.here hx rfl (hb hby d3_6) rfl) ?_
  refine gs (fun t => XS.iload X36.here hx rfl (hb hby d3_7) rfl) ?_
  refine gs (fun t => XS.icmpNo X36.here hx rfl (hb hby d3_9) rfl (tlt (by decide : (1 : Int32) < (3 : Int32))).2.1) ?_
  refine gs (fun t => XS.aloadN X36.here hx rfl (hb hby d3_12) rfl rfl) ?_
  show Go p e below s QQ 0 0 (T36.setTop (mkF m 13 #[rv r0, jv p1, .second, iv 1, iv 3] [(.ref r0)]))
  refine gs (fun t => XS.iloadN X36.here hx rfl (hb hby d3_13) rfl) ?_
  refine gs (fun t => XS.lloadN X36.here hx rfl (hb hby d3_14) rfl) ?_
  obtain ⟨T37, h37, X37, e37, W37, V37, st37⟩ := stJf X36 hx hZ e36 V_r0 (j := (1 : Int32)) (by decide) (g := (mkF m 15 #[rv r0, jv p1, .second, iv 1, iv 3] [(.long p1), (.int (1 : Int32)), (.ref r0)])) rfl rfl (hb hby d3_15)
  replace N0 := Fr.snoc X37 N0 ge_r0
  refine gs st37 ?_
  show Go p e below s QQ 0 0 (T37.setTop (mkF m 16 #[rv r0, jv p1, .second, iv 1, iv 3] []))
  replace ZZ : n0 ≤ h37.size := by rw [W37.size]; exact ZZ
  replace KK := KK.wr W37 (Or.inl (by simp))
  replace V_r0 : Arf Z h37 r0 .long 3 (updv (updv ff 0 (.long p1)) 1 (.long p1)) := V37
  refine gs (fun t => XS.iinc X37.here hx rfl (hb hby d3_16) rfl (l' := #[rv r0, jv p1, .second, iv 2, iv 3]) rfl) ?_
  refine gs (fun t => XS.goto X37.here hx rfl (pc0 := 19) (pc' := 6) rfl (hb hby d3_19) (by decide) (by decide)) ?_
  refine gs (fun t => XS.iloadN X37.here hx rfl (hb hby d3_6) rfl) ?_
  refine gs (fun t => XS.iload X37.here hx rfl (hb hby d3_7) rfl) ?_
  refine gs (fun t => XS.icmpNo X37.here hx rfl (hb hby d3_9) rfl (tlt (by decide : (2 : Int32) < (3 : Int32))).2.1) ?_
  refine gs (fun t => XS.aloadN X37.here hx rfl (hb hby d3_12) rfl rfl) ?_
  show Go p e below s QQ 0 0 (T37.setTop (mkF m 13 #[rv r0, jv p1, .second, iv 2, iv 3] [(.ref r0)]))
  refine gs (fun t => XS.iloadN X37.here hx rfl (hb hby d3_13) rfl) ?_
  refine gs (fun t => XS.lloadN X37.here hx rfl (hb hby d3_14) rfl) ?_
  obtain ⟨T38, h38, X38, e38, W38, V38, st38⟩ := stJf X37 hx hZ e37 V_r0 (j := (2 : Int32)) (by decide) (g := (mkF m 15 #[rv r0, jv p1, .second, iv 2, iv 3] [(.long p1), (.int (2 : Int32)), (.ref r0)])) rfl rfl (hb hby d3_15)
  replace N0 := Fr.snoc X38 N0 ge_r0
  refine gs st38 ?_
  show Go p e below s QQ 0 0 (T38.setTop (mkF m 16 #[rv r0, jv p1, .second, iv 2, iv 3] []))
  replace ZZ : n0 ≤ h38.size := by rw [W38.size]; exact ZZ
  replace KK := KK.wr W38 (Or.inl (by simp))
  replace V_r0 : Arf Z h38 r0 .long 3 (updv (updv (updv ff 0 (.long p1)) 1 (.long p1)) 2 (.long p1)) := V38
  refine gs (fun t => XS.iinc X38.here hx rfl (hb hby d3_16) rfl (l' := #[rv r0, jv p1, .second, iv 3, iv 3]) rfl) ?_
  refine gs (fun t => XS.goto X38.here hx rfl (pc0 := 19) (pc' := 6) rfl (hb hby d3_19) (by decide) (by decide)) ?_
  refine gs (fun t => XS.iloadN X38.here hx rfl (hb hby d3_6) rfl) ?_
  refine gs (fun t => XS.iload X38.here hx rfl (hb hby d3_7) rfl) ?_
  refine gs (fun t => XS.icmpYes X38.here hx rfl (pc0 := 9) (pc' := 22) rfl (hb hby d3_9) rfl (flt (by decide : ¬ ((3 : Int32) < (3 : Int32)))).2.1 (by decide) (by decide)) ?_
  exact goV X38 hx Bd.notSynchronized Bd.returns (hb hby d3_22) (by rw [← hQQ, e38]; exact ⟨rfl, N0, KK⟩) (by decide) (by decide)
def QfillZ3 (Z : State) (r0 : Addr) (ff : Nat → Value) (h0 : Heap) (n0 : Nat) (v : Option Value) (h : Heap) (L : List Loc) : Prop := v = none ∧ Fr n0 L ∧ Keep h0 h [r0] ∧ Arf Z h r0 .boolean 3 (fun _ => .int 0)
set_option maxRecDepth 65536 in
set_option maxHeartbeats 40000000 in
theorem fillZ3 (l : Launch) (Z : State) (a0 : Array Value) (hw : ∀ d ∈ tables_1, d.before a0 Z = true) (ws : List Jvm.Cond) (r0 : Addr) (ff : Nat → Value) (h0 : Heap) (n0 : Nat) (Z0 : n0 ≤ h0.size) (V_r0 : Arf Z h0 r0 .boolean 3 ff) (ge_r0 : n0 ≤ r0) :
    MetFree l (⟨"java/util/Arrays", "fill", "([ZZ)V"⟩ : MethodName) (head1 (Jvm.Cond.code (⟨"java/util/Arrays", "fill", "([ZZ)V"⟩ : MethodName) jdk_65_method_111_code 4 none :: ws) ({ frames := 0, cells := 0, slots := 0, locals := 0 } : Room)) (fun a U => a = #[(.ref r0), (.int (0 : Int32))] ∧ Z.Warmed39 U.vm ∧ U.heap = h0) (fun _ _ _ _ _ => True) (fun _ U o U' => ∃ v L, o = .returned v ∧ QfillZ3 Z r0 ff h0 n0 v U'.heap L ∧ FrameEnd U o U' L ({ frames := 0, cells := 0, slots := 0, locals := 0 } : Room).cells ({ frames := 0, cells := 0, slots := 0, locals := 0 } : Room).slots) := by
  refine MetFree.of_bodySF (plainFor_of_name pn_9) hisR ?_
  intro p e s m args below meth c s₁ Bd hml0 hP hK
  obtain ⟨rfl, hZ, hh⟩ := hP
  have hx := Bd.exec
  have hby := Bd.bytes
  have hml : c.maxLocals = 4 := hml0
  have hown : s.vm.findClass "java/util/Arrays" = some m.cls := findClass_of_methodNamed Bd.named
  have hnm := (name_of_methodNamed Bd.named Bd.method).1
  have X0 : Stand p l e ({ frames := 0, cells := 0, slots := 0, locals := 0 } : Room) s m #[(.ref r0), (.int (0 : Int32))] below meth c s₁ [] 0 0 := Stand.of_body Bd
  have e0 : s₁.heap = h0 := by rw [← hh, Bd.state]; rfl
  have N0 := Fr.nil n0
  have ZZ := Z0
  have KK : Keep h0 h0 [r0] := Keep.refl h0 _
  show Go p e below s (QfillZ3 Z r0 ff h0 n0) 0 0 (s₁.setTop (entryFrame m #[(.ref r0), (.int (0 : Int32))] 4))
  generalize hQQ : (QfillZ3 Z r0 ff h0 n0) = QQ
  refine gs (fun t k => castTop (g' := (mkF m 0 #[rv r0, iv 0, .unset, .unset] [])) (by first | (simp [entryFrame, mkF, argsToLocals, Value.category, maxLocals]; done) | rfl) k) ?_
  show Go p e below s QQ 0 0 (s₁.setTop (mkF m 0 #[rv r0, iv 0, .unset, .unset] []))
  refine gs (fun t => XS.iconst X0.here hx rfl (hb hby d9_0)) ?_
  refine gs (fun t => XS.istoreN X0.here hx rfl (hb hby d9_1) rfl (l' := #[rv r0, iv 0, iv 0, .unset]) rfl) ?_
  refine gs (fun t => XS.aloadN X0.here hx rfl (hb hby d9_2) rfl rfl) ?_
  refine gs (fun t => lenf X0 hx hZ e0 V_r0 (z := (3 : Int32)) rfl (g := (mkF m 3 #[rv r0, iv 0, iv 0, .unset] [(.ref r0)])) rfl rfl (hb hby d9_3) t) ?_
  refine gs (fun t => XS.istoreN X0.here hx rfl (hb hby d9_4) rfl (l' := #[rv r0, iv 0, iv 0, iv 3]) rfl) ?_
  refine gs (fun t => XS.iloadN X0.here hx rfl (hb hby d9_5) rfl) ?_
  show Go p e below s QQ 0 0 (s₁.setTop (mkF m 6 #[rv r0, iv 0, iv 0, iv 3] [(.int (0 : Int32))]))
  refine gs (fun t => XS.iloadN X0.here hx rfl (hb hby d9_6) rfl) ?_
  refine gs (fun t => XS.icmpNo X0.here hx rfl (hb hby d9_7) rfl (tlt (by decide : (0 : Int32) < (3 : Int32))).2.1) ?_
  refine gs (fun t => XS.aloadN X0.here hx rfl (hb hby d9_10) rfl rfl) ?_
  refine gs (fun t => XS.iloadN X0.here hx rfl (hb hby d9_11) rfl) ?_
  refine gs (fun t => XS.iloadN X0.here hx rfl (hb hby d9_12) rfl) ?_
  obtain ⟨T39, h39, X39, e39, W39, V39, st39⟩ := stZf X0 hx hZ e0 V_r0 (j := (0 : Int32)) (by decide) (g := (mkF m 13 #[rv r0, iv 0, iv 0, iv 3] [(.int (0 : Int32)), (.int (0 : Int32)), (.ref r0)])) rfl rfl (hb hby d9_13)
  replace N0 := Fr.snoc X39 N0 ge_r0
  refine gs st39 ?_
  show Go p e below s QQ 0 0 (T39.setTop (mkF m 14 #[rv r0, iv 0, iv 0, iv 3] []))
  replace ZZ : n0 ≤ h39.size := by rw [W39.size]; exact ZZ
  replace KK := KK.wr W39 (Or.inl (by simp))
  replace V_r0 : Arf Z h39 r0 .boolean 3 (updv ff 0 (.int (nar .boolean (0 : Int32)))) := V39
  refine gs (fun t => XS.iinc X39.here hx rfl (hb hby d9_14) rfl (l' := #[rv r0, iv 0, iv 1, iv 3]) rfl) ?_
  refine gs (fun t => XS.goto X39.here hx rfl (pc0 := 17) (pc' := 5) rfl (hb hby d9_17) (by decide) (by decide)) ?_
  refine gs (fun t => XS.iloadN X39.here hx rfl (hb hby d9_5) rfl) ?_
  refine gs (fun t => XS.iloadN X39.here hx rfl (hb hby d9_6) rfl) ?_
  refine gs (fun t => XS.icmpNo X39.here hx rfl (hb hby d9_7) rfl (tlt (by decide : (1 : Int32) < (3 : Int32))).2.1) ?_
  refine gs (fun t => XS.aloadN X39.here hx rfl (hb hby d9_10) rfl rfl) ?_
  show Go p e below s QQ 0 0 (T39.setTop (mkF m 11 #[rv r0, iv 0, iv 1, iv 3] [(.ref r0)]))
  refine gs (fun t => XS.iloadN X39.here hx rfl (hb hby d9_11) rfl) ?_
  refine gs (fun t => XS.iloadN X39.here hx rfl (hb hby d9_12) rfl) ?_
  obtain ⟨T40, h40, X40, e40, W40, V40, st40⟩ := stZf X39 hx hZ e39 V_r0 (j := (1 : Int32)) (by decide) (g := (mkF m 13 #[rv r0, iv 0, iv 1, iv 3] [(.int (0 : Int32)), (.int (1 : Int32)), (.ref r0)])) rfl rfl (hb hby d9_13)
  replace N0 := Fr.snoc X40 N0 ge_r0
  refine gs st40 ?_
  show Go p e below s QQ 0 0 (T40.setTop (mkF m 14 #[rv r0, iv 0, iv 1, iv 3] []))
  replace ZZ : n0 ≤ h40.size := by rw [W40.size]; exact ZZ
  replace KK := KK.wr W40 (Or.inl (by simp))
  replace V_r0 : Arf Z h40 r0 .boolean 3 (updv (updv ff 0 (.int (nar .boolean (0 : Int32)))) 1 (.int (nar .boolean (0 : Int32)))) := V40
  refine gs (fun t => XS.iinc X40.here hx rfl (hb hby d9_14) rfl (l' := #[rv r0, iv 0, iv 2, iv 3]) rfl) ?_
  refine gs (fun t => XS.goto X40.here hx rfl (pc0 := 17) (pc' := 5) rfl (hb hby d9_17) (by decide) (by decide)) ?_
  refine gs (fun t => XS.iloadN X40.here hx rfl (hb hby d9_5) rfl) ?_
  refine gs (fun t => XS.iloadN X40.here hx rfl (hb hby d9_6) rfl) ?_
  refine gs (fun t => XS.icmpNo X40.here hx rfl (hb hby d9_7) rfl (tlt (by decide : (2 : Int32) < (3 : Int32))).2.1) ?_
  refine gs (fun t => XS.aloadN X40.here hx rfl (hb hby d9_10) rfl rfl) ?_
  show Go p e below s QQ 0 0 (T40.setTop (mkF m 11 #[rv r0, iv 0, iv 2, iv 3] [(.ref r0)]))
  refine gs (fun t => XS.iloadN X40.here hx rfl (hb hby d9_11) rfl) ?_
  refine gs (fun t => XS.iloadN X40.here hx rfl (hb hby d9_12) rfl) ?_
  obtain ⟨T41, h41, X41, e41, W41, V41, st41⟩ := stZf X40 hx hZ e40 V_r0 (j := (2 : Int32)) (by decide) (g := (mkF m 13 #[rv r0, iv 0, iv 2, iv 3] [(.int (0 : Int32)), (.int (2 : Int32)), (.ref r0)])) rfl rfl (hb hby d9_13)
  replace N0 := Fr.snoc X41 N0 ge_r0
  refine gs st41 ?_
  show Go p e below s QQ 0 0 (T41.setTop (mkF m 14 #[rv r0, iv 0, iv 2, iv 3] []))
  replace ZZ : n0 ≤ h41.size := by rw [W41.size]; exact ZZ
  replace KK := KK.wr W41 (Or.inl (by simp))
  replace V_r0 : Arf Z h41 r0 .boolean 3 (updv (updv (updv ff 0 (.int (nar .boolean (0 : Int32)))) 1 (.int (nar .boolean (0 : Int32)))) 2 (.int (nar .boolean (0 : Int32)))) := V41
  refine gs (fun t => XS.iinc X41.here hx rfl (hb hby d9_14) rfl (l' := #[rv r0, iv 0, iv 3, iv 3]) rfl) ?_
  refine gs (fun t => XS.goto X41.here hx rfl (pc0 := 17) (pc' := 5) rfl (hb hby d9_17) (by decide) (by decide)) ?_
  refine gs (fun t => XS.iloadN X41.here hx rfl (hb hby d9_5) rfl) ?_
  refine gs (fun t => XS.iloadN X41.here hx rfl (hb hby d9_6) rfl) ?_
  refine gs (fun t => XS.icmpYes X41.here hx rfl (pc0 := 7) (pc' := 20) rfl (hb hby d9_7) rfl (flt (by decide : ¬ ((3 : Int32) < (3 : Int32)))).2.1 (by decide) (by decide)) ?_
  replace V_r0 : Arf Z h41 r0 .boolean 3 (fun _ => .int 0) := V_r0.congr (fun i hi => by rcases own_c3 hi with rfl | rfl | rfl <;> rfl)
  exact goV X41 hx Bd.notSynchronized Bd.returns (hb hby d9_20) (by rw [← hQQ, e41]; exact ⟨rfl, N0, KK, V_r0⟩) (by decide) (by decide)
def Qctor3 (Z : State) (r0 : Addr) (h0 : Heap) (n0 : Nat) (v : Option Value) (h : Heap) (L : List Loc) : Prop := ∃ eb bb : Addr, v = none ∧ Fr n0 L ∧ Keep h0 h [r0] ∧ Fld Z h r0 "weirline/runtime/InputChannels" "count" "I" (.int (3 : Int32)) ∧ Fld Z h r0 "weirline/runtime/InputChannels" "ended" "[Z" (.ref eb) ∧ Fld Z h r0 "weirline/runtime/InputChannels" "endedCount" "I" (.int (0 : Int32)) ∧ Fld Z h r0 "weirline/runtime/InputChannels" "aligning" "Lweirline/runtime/CheckpointBarrier;" .null ∧ Fld Z h r0 "weirline/runtime/InputChannels" "barrierIn" "[Z" (.ref bb) ∧ Fld Z h r0 "weirline/runtime/InputChannels" "barriersIn" "I" (.int (0 : Int32)) ∧ Arf Z h eb .boolean 3 (fun _ => .int 0) ∧ Arf Z h bb .boolean 3 (fun _ => .int 0) ∧ h0.size ≤ eb ∧ h0.size ≤ bb ∧ eb ≠ bb
set_option maxRecDepth 65536 in
set_option maxHeartbeats 40000000 in
theorem ctor3 (l : Launch) (Z : State) (a0 : Array Value) (hw : ∀ d ∈ tables_1, d.before a0 Z = true) (ws : List Jvm.Cond) (r0 : Addr) (h0 : Heap) (n0 : Nat) (Z0 : n0 ≤ h0.size) (F_minimum_r0 : Fld Z h0 r0 "weirline/runtime/InputChannels" "minimum" "J" (.long (0 : Int64))) (F_count_r0 : Fld Z h0 r0 "weirline/runtime/InputChannels" "count" "I" (.int (0 : Int32))) (F_latest_r0 : Fld Z h0 r0 "weirline/runtime/InputChannels" "latest" "[J" .null) (F_channelIdle_r0 : Fld Z h0 r0 "weirline/runtime/InputChannels" "channelIdle" "[Z" .null) (F_ended_r0 : Fld Z h0 r0 "weirline/runtime/InputChannels" "ended" "[Z" .null) (F_barrierIn_r0 : Fld Z h0 r0 "weirline/runtime/InputChannels" "barrierIn" "[Z" .null) (F_aligning_r0 : Fld Z h0 r0 "weirline/runtime/InputChannels" "aligning" "Lweirline/runtime/CheckpointBarrier;" .null) (F_barriersIn_r0 : Fld Z h0 r0 "weirline/runtime/InputChannels" "barriersIn" "I" (.int (0 : Int32))) (F_endedCount_r0 : Fld Z h0 r0 "weirline/runtime/InputChannels" "endedCount" "I" (.int (0 : Int32))) (E_r0 : Exa Z h0 r0 "weirline/runtime/InputChannels") (ge_r0 : n0 ≤ r0) :
    MetFree l (⟨"weirline/runtime/InputChannels", "<init>", "(I)V"⟩ : MethodName) (head1 (Jvm.Cond.code (⟨"weirline/runtime/InputChannels", "<init>", "(I)V"⟩ : MethodName) prog_151_method_1_code 2 none :: ws) ({ frames := 1, cells := 4, slots := 12, locals := 16 } : Room)) (fun a U => a = #[(.ref r0), (.int (3 : Int32))] ∧ Z.Warmed39 U.vm ∧ U.heap = h0) (fun _ _ _ _ _ => True) (fun _ U o U' => ∃ v L, o = .returned v ∧ Qctor3 Z r0 h0 n0 v U'.heap L ∧ FrameEnd U o U' L ({ frames := 1, cells := 4, slots := 12, locals := 16 } : Room).cells ({ frames := 1, cells := 4, slots := 12, locals := 16 } : Room).slots) := by
  refine MetFree.of_bodySF (plainFor_of_name pn_1) hisR ?_
  intro p e s m args below meth c s₁ Bd hml0 hP hK
  obtain ⟨rfl, hZ, hh⟩ := hP
  have hx := Bd.exec
  have hby := Bd.bytes
  have hml : c.maxLocals = 2 := hml0
  have hown : s.vm.findClass "weirline/runtime/InputChannels" = some m.cls := findClass_of_methodNamed Bd.named
  have hnm := (name_of_methodNamed Bd.named Bd.method).1
  have X0 : Stand p l e ({ frames := 1, cells := 4, slots := 12, locals := 16 } : Room) s m #[(.ref r0), (.int (3 : Int32))] below meth c s₁ [] 0 0 := Stand.of_body Bd
  have e0 : s₁.heap = h0 := by rw [← hh, Bd.state]; rfl
  have N0 := Fr.nil n0
  have ZZ := Z0
  have KK : Keep h0 h0 [r0] := Keep.refl h0 _
  show Go p e below s (Qctor3 Z r0 h0 n0) 4 12 (s₁.setTop (entryFrame m #[(.ref r0), (.int (3 : Int32))] 2))
  generalize hQQ : (Qctor3 Z r0 h0 n0) = QQ
  refine gs (fun t k => castTop (g' := (mkF m 0 #[rv r0, iv 3] [])) (by first | (simp [entryFrame, mkF, argsToLocals, Value.category, maxLocals]; done) | rfl) k) ?_
  show Go p e below s QQ 4 12 (s₁.setTop (mkF m 0 #[rv r0, iv 3] []))
  refine gs (fun t => XS.aloadN X0.here hx rfl (hb hby d1_0) rfl rfl) ?_
  obtain ⟨T42, X42, e42, st42⟩ := initO X0 hx hZ hown (hw _ (List.mem_of_getElem? (i := 7) rfl)) (hw _ (List.mem_of_getElem? (i := 8) rfl)) (hw _ (List.mem_of_getElem? (i := 9) rfl)) e0 (g := (mkF m 1 #[rv r0, iv 3] [(.ref r0)])) rfl (by rw [hml]; rfl) rfl (hb hby d1_1) (by decide) (W := 0) (by show 2 * 0 + _ ≤ _; exact Nat.le_of_eq rfl) (by decide)
  refine gs st42 ?_
  show Go p e below s QQ 4 12 (T42.setTop (mkF m 4 #[rv r0, iv 3] []))
  refine gs (fun t => XS.aloadN X42.here hx rfl (hb hby d1_4) rfl rfl) ?_
  refine gs (fun t => X42.ldc2Long hx hown (mvT hZ (hw _ (List.mem_of_getElem? (i := 10) rfl))) (g := (mkF m 5 #[rv r0, iv 3] [(.ref r0)])) rfl (hb hby d1_5) t) ?_
  obtain ⟨T43, h43, X43, e43, W43, st43⟩ := putF X42 hx hZ hown (host := "") (Or.inl (hw _ (List.mem_of_getElem? (i := 11) rfl))) Via.refl e42 F_minimum_r0 E_r0 (Or.inl (hw _ (List.mem_of_getElem? (i := 12) rfl))) (hw _ (List.mem_of_getElem? (i := 2) rfl)) (ty := .long) (by decide) rfl rfl (g := (mkF m 8 #[rv r0, iv 3] [(.long (-9223372036854775808 : Int64)), (.ref r0)])) rfl rfl (hb hby d1_8)
  replace N0 := Fr.snoc X43 N0 ge_r0
  refine gs st43 ?_
  show Go p e below s QQ 4 12 (T43.setTop (mkF m 11 #[rv r0, iv 3] []))
  replace F_minimum_r0 := F_minimum_r0.same W43
  replace F_count_r0 := F_count_r0.other W43 (Or.inr (slot_ne (Or.inr (hw _ (List.mem_of_getElem? (i := 14) rfl))) (Or.inl (hw _ (List.mem_of_getElem? (i := 12) rfl))) (by decide) (t := .int) (t' := .long) (by decide) (by decide)))
  replace F_latest_r0 := F_latest_r0.other W43 (Or.inr (slot_ne (Or.inr (hw _ (List.mem_of_getElem? (i := 17) rfl))) (Or.inl (hw _ (List.mem_of_getElem? (i := 12) rfl))) (by decide) (t := (.array .long)) (t' := .long) (by decide) (by decide)))
  replace F_channelIdle_r0 := F_channelIdle_r0.other W43 (Or.inr (slot_ne (Or.inr (hw _ (List.mem_of_getElem? (i := 20) rfl))) (Or.inl (hw _ (List.mem_of_getElem? (i := 12) rfl))) (by decide) (t := (.array .boolean)) (t' := .long) (by decide) (by decide)))
  replace F_ended_r0 := F_ended_r0.other W43 (Or.inr (slot_ne (Or.inr (hw _ (List.mem_of_getElem? (i := 22) rfl))) (Or.inl (hw _ (List.mem_of_getElem? (i := 12) rfl))) (by decide) (t := (.array .boolean)) (t' := .long) (by decide) (by decide)))
  replace F_barrierIn_r0 := F_barrierIn_r0.other W43 (Or.inr (slot_ne (Or.inr (hw _ (List.mem_of_getElem? (i := 24) rfl))) (Or.inl (hw _ (List.mem_of_getElem? (i := 12) rfl))) (by decide) (t := (.array .boolean)) (t' := .long) (by decide) (by decide)))
  replace F_aligning_r0 := F_aligning_r0.other W43 (Or.inr (slot_ne (Or.inl (hw _ (List.mem_of_getElem? (i := 49) rfl))) (Or.inl (hw _ (List.mem_of_getElem? (i := 12) rfl))) (by decide) (t := (.object "weirline/runtime/CheckpointBarrier")) (t' := .long) (by decide) (by decide)))
  replace F_barriersIn_r0 := F_barriersIn_r0.other W43 (Or.inr (slot_ne (Or.inl (hw _ (List.mem_of_getElem? (i := 51) rfl))) (Or.inl (hw _ (List.mem_of_getElem? (i := 12) rfl))) (by decide) (t := .int) (t' := .long) (by decide) (by decide)))
  replace F_endedCount_r0 := F_endedCount_r0.other W43 (Or.inr (slot_ne (Or.inl (hw _ (List.mem_of_getElem? (i := 63) rfl))) (Or.inl (hw _ (List.mem_of_getElem? (i := 12) rfl))) (by decide) (t := .int) (t' := .long) (by decide) (by decide)))
  replace E_r0 := E_r0.wr W43
  replace ZZ : n0 ≤ h43.size := by rw [W43.size]; exact ZZ
  replace KK := KK.wr W43 (Or.inl (by simp))
  refine gs (fun t => XS.aloadN X43.here hx rfl (hb hby d1_11) rfl rfl) ?_
  refine gs (fun t => XS.iloadN X43.here hx rfl (hb hby d1_12) rfl) ?_
  obtain ⟨T44, h44, X44, e44, W44, st44⟩ := putF X43 hx hZ hown (host := "") (Or.inl (hw _ (List.mem_of_getElem? (i := 13) rfl))) Via.refl e43 F_count_r0 E_r0 (Or.inr ⟨(hw _ (List.mem_of_getElem? (i := 14) rfl)), rfl, hnm⟩) (hw _ (List.mem_of_getElem? (i := 2) rfl)) (ty := .int) (by decide) rfl rfl (g := (mkF m 13 #[rv r0, iv 3] [(.int (3 : Int32)), (.ref r0)])) rfl rfl (hb hby d1_13)
  replace N0 := Fr.snoc X44 N0 ge_r0
  refine gs st44 ?_
  show Go p e below s QQ 4 12 (T44.setTop (mkF m 16 #[rv r0, iv 3] []))
  replace F_minimum_r0 := F_minimum_r0.other W44 (Or.inr (slot_ne (Or.inl (hw _ (List.mem_of_getElem? (i := 12) rfl))) (Or.inr (hw _ (List.mem_of_getElem? (i := 14) rfl))) (by decide) (t := .long) (t' := .int) (by decide) (by decide)))
  replace F_count_r0 := F_count_r0.same W44
  replace F_latest_r0 := F_latest_r0.other W44 (Or.inr (slot_ne (Or.inr (hw _ (List.mem_of_getElem? (i := 17) rfl))) (Or.inr (hw _ (List.mem_of_getElem? (i := 14) rfl))) (by decide) (t := (.array .long)) (t' := .int) (by decide) (by decide)))
  replace F_channelIdle_r0 := F_channelIdle_r0.other W44 (Or.inr (slot_ne (Or.inr (hw _ (List.mem_of_getElem? (i := 20) rfl))) (Or.inr (hw _ (List.mem_of_getElem? (i := 14) rfl))) (by decide) (t := (.array .boolean)) (t' := .int) (by decide) (by decide)))
  replace F_ended_r0 := F_ended_r0.other W44 (Or.inr (slot_ne (Or.inr (hw _ (List.mem_of_getElem? (i := 22) rfl))) (Or.inr (hw _ (List.mem_of_getElem? (i := 14) rfl))) (by decide) (t := (.array .boolean)) (t' := .int) (by decide) (by decide)))
  replace F_barrierIn_r0 := F_barrierIn_r0.other W44 (Or.inr (slot_ne (Or.inr (hw _ (List.mem_of_getElem? (i := 24) rfl))) (Or.inr (hw _ (List.mem_of_getElem? (i := 14) rfl))) (by decide) (t := (.array .boolean)) (t' := .int) (by decide) (by decide)))
  replace F_aligning_r0 := F_aligning_r0.other W44 (Or.inr (slot_ne (Or.inl (hw _ (List.mem_of_getElem? (i := 49) rfl))) (Or.inr (hw _ (List.mem_of_getElem? (i := 14) rfl))) (by decide) (t := (.object "weirline/runtime/CheckpointBarrier")) (t' := .int) (by decide) (by decide)))
  replace F_barriersIn_r0 := F_barriersIn_r0.other W44 (Or.inr (slot_ne (Or.inl (hw _ (List.mem_of_getElem? (i := 51) rfl))) (Or.inr (hw _ (List.mem_of_getElem? (i := 14) rfl))) (by decide) (t := .int) (t' := .int) (by decide) (by decide)))
  replace F_endedCount_r0 := F_endedCount_r0.other W44 (Or.inr (slot_ne (Or.inl (hw _ (List.mem_of_getElem? (i := 63) rfl))) (Or.inr (hw _ (List.mem_of_getElem? (i := 14) rfl))) (by decide) (t := .int) (t' := .int) (by decide) (by decide)))
  replace E_r0 := E_r0.wr W44
  replace ZZ : n0 ≤ h44.size := by rw [W44.size]; exact ZZ
  replace KK := KK.wr W44 (Or.inl (by simp))
  refine gs (fun t => XS.aloadN X44.here hx rfl (hb hby d1_16) rfl rfl) ?_
  refine gs (fun t => XS.iloadN X44.here hx rfl (hb hby d1_17) rfl) ?_
  obtain ⟨T45, h45, k45, X45, e45, E45, A45, st45⟩ := newP X44 hx hZ (hw _ (List.mem_of_getElem? (i := 15) rfl)) e44 (g := (mkF m 18 #[rv r0, iv 3] [(.int (3 : Int32)), (.ref r0)])) rfl (hb hby d1_18) rfl (by decide) (cap := 3) (by decide) (by decide) (by decide) (by decide)
  obtain ⟨b45, g45⟩ : ∃ z, z = h44.size := ⟨_, rfl⟩
  rw [← g45] at A45 st45
  have ge_b45 : n0 ≤ b45 := by rw [g45]; exact ZZ
  have sz_b45 : h0.size ≤ b45 := by rw [g45]; exact KK.1
  have ne_r0_b45 : r0 ≠ b45 := by rw [g45]; exact Nat.ne_of_lt F_minimum_r0.lt
  refine gs st45 ?_
  show Go p e below s QQ 4 12 (T45.setTop (mkF m 20 #[rv r0, iv 3] [(.ref b45), (.ref r0)]))
  replace F_minimum_r0 := F_minimum_r0.ext E45
  replace F_count_r0 := F_count_r0.ext E45
  replace F_latest_r0 := F_latest_r0.ext E45
  replace F_channelIdle_r0 := F_channelIdle_r0.ext E45
  replace F_ended_r0 := F_ended_r0.ext E45
  replace F_barrierIn_r0 := F_barrierIn_r0.ext E45
  replace F_aligning_r0 := F_aligning_r0.ext E45
  replace F_barriersIn_r0 := F_barriersIn_r0.ext E45
  replace F_endedCount_r0 := F_endedCount_r0.ext E45
  replace E_r0 := E_r0.ext E45
  replace ZZ := Nat.le_trans ZZ E45.1
  replace KK := KK.ext E45
  have V_b45 : Arf Z h45 b45 .long 3 (fun _ => .long 0) := Arf.new A45
  obtain ⟨T46, h46, X46, e46, W46, st46⟩ := putF X45 hx hZ hown (host := "") (Or.inl (hw _ (List.mem_of_getElem? (i := 16) rfl))) Via.refl e45 F_latest_r0 E_r0 (Or.inr ⟨(hw _ (List.mem_of_getElem? (i := 17) rfl)), rfl, hnm⟩) (hw _ (List.mem_of_getElem? (i := 2) rfl)) (ty := (.array .long)) (by decide) rfl rfl (g := (mkF m 20 #[rv r0, iv 3] [(.ref b45), (.ref r0)])) rfl rfl (hb hby d1_20)
  replace N0 := Fr.snoc X46 N0 ge_r0
  refine gs st46 ?_
  show Go p e below s QQ 4 12 (T46.setTop (mkF m 23 #[rv r0, iv 3] []))
  replace F_minimum_r0 := F_minimum_r0.other W46 (Or.inr (slot_ne (Or.inl (hw _ (List.mem_of_getElem? (i := 12) rfl))) (Or.inr (hw _ (List.mem_of_getElem? (i := 17) rfl))) (by decide) (t := .long) (t' := (.array .long)) (by decide) (by decide)))
  replace F_count_r0 := F_count_r0.other W46 (Or.inr (slot_ne (Or.inr (hw _ (List.mem_of_getElem? (i := 14) rfl))) (Or.inr (hw _ (List.mem_of_getElem? (i := 17) rfl))) (by decide) (t := .int) (t' := (.array .long)) (by decide) (by decide)))
  replace F_latest_r0 := F_latest_r0.same W46
  replace F_channelIdle_r0 := F_channelIdle_r0.other W46 (Or.inr (slot_ne (Or.inr (hw _ (List.mem_of_getElem? (i := 20) rfl))) (Or.inr (hw _ (List.mem_of_getElem? (i := 17) rfl))) (by decide) (t := (.array .boolean)) (t' := (.array .long)) (by decide) (by decide)))
  replace F_ended_r0 := F_ended_r0.other W46 (Or.inr (slot_ne (Or.inr (hw _ (List.mem_of_getElem? (i := 22) rfl))) (Or.inr (hw _ (List.mem_of_getElem? (i := 17) rfl))) (by decide) (t := (.array .boolean)) (t' := (.array .long)) (by decide) (by decide)))
  replace F_barrierIn_r0 := F_barrierIn_r0.other W46 (Or.inr (slot_ne (Or.inr (hw _ (List.mem_of_getElem? (i := 24) rfl))) (Or.inr (hw _ (List.mem_of_getElem? (i := 17) rfl))) (by decide) (t := (.array .boolean)) (t' := (.array .long)) (by decide) (by decide)))
  replace F_aligning_r0 := F_aligning_r0.other W46 (Or.inr (slot_ne (Or.inl (hw _ (List.mem_of_getElem? (i := 49) rfl))) (Or.inr (hw _ (List.mem_of_getElem? (i := 17) rfl))) (by decide) (t := (.object "weirline/runtime/CheckpointBarrier")) (t' := (.array .long)) (by decide) (by decide)))
  replace F_barriersIn_r0 := F_barriersIn_r0.other W46 (Or.inr (slot_ne (Or.inl (hw _ (List.mem_of_getElem? (i := 51) rfl))) (Or.inr (hw _ (List.mem_of_getElem? (i := 17) rfl))) (by decide) (t := .int) (t' := (.array .long)) (by decide) (by decide)))
  replace F_endedCount_r0 := F_endedCount_r0.other W46 (Or.inr (slot_ne (Or.inl (hw _ (List.mem_of_getElem? (i := 63) rfl))) (Or.inr (hw _ (List.mem_of_getElem? (i := 17) rfl))) (by decide) (t := .int) (t' := (.array .long)) (by decide) (by decide)))
  replace E_r0 := E_r0.wr W46
  replace V_b45 := V_b45.other W46 (Ne.symm ne_r0_b45)
  replace ZZ : n0 ≤ h46.size := by rw [W46.size]; exact ZZ
  replace KK := KK.wr W46 (Or.inl (by simp))
  refine gs (fun t => XS.aloadN X46.here hx rfl (hb hby d1_23) rfl rfl) ?_
  refine gs (fun t => XS.iloadN X46.here hx rfl (hb hby d1_24) rfl) ?_
  obtain ⟨T47, h47, k47, X47, e47, E47, A47, st47⟩ := newP X46 hx hZ (hw _ (List.mem_of_getElem? (i := 18) rfl)) e46 (g := (mkF m 25 #[rv r0, iv 3] [(.int (3 : Int32)), (.ref r0)])) rfl (hb hby d1_25) rfl (by decide) (cap := 3) (by decide) (by decide) (by decide) (by decide)
  obtain ⟨b47, g47⟩ : ∃ z, z = h46.size := ⟨_, rfl⟩
  rw [← g47] at A47 st47
  have ge_b47 : n0 ≤ b47 := by rw [g47]; exact ZZ
  have sz_b47 : h0.size ≤ b47 := by rw [g47]; exact KK.1
  have ne_r0_b47 : r0 ≠ b47 := by rw [g47]; exact Nat.ne_of_lt F_minimum_r0.lt
  have ne_b45_b47 : b45 ≠ b47 := by rw [g47]; exact Nat.ne_of_lt V_b45.lt
  refine gs st47 ?_
  show Go p e below s QQ 4 12 (T47.setTop (mkF m 27 #[rv r0, iv 3] [(.ref b47), (.ref r0)]))
  replace F_minimum_r0 := F_minimum_r0.ext E47
  replace F_count_r0 := F_count_r0.ext E47
  replace F_latest_r0 := F_latest_r0.ext E47
  replace F_channelIdle_r0 := F_channelIdle_r0.ext E47
  replace F_ended_r0 := F_ended_r0.ext E47
  replace F_barrierIn_r0 := F_barrierIn_r0.ext E47
  replace F_aligning_r0 := F_aligning_r0.ext E47
  replace F_barriersIn_r0 := F_barriersIn_r0.ext E47
  replace F_endedCount_r0 := F_endedCount_r0.ext E47
  replace E_r0 := E_r0.ext E47
  replace V_b45 := V_b45.ext E47
  replace ZZ := Nat.le_trans ZZ E47.1
  replace KK := KK.ext E47
  have V_b47 : Arf Z h47 b47 .boolean 3 (fun _ => .int 0) := Arf.new A47
  obtain ⟨T48, h48, X48, e48, W48, st48⟩ := putF X47 hx hZ hown (host := "") (Or.inl (hw _ (List.mem_of_getElem? (i := 19) rfl))) Via.refl e47 F_channelIdle_r0 E_r0 (Or.inr ⟨(hw _ (List.mem_of_getElem? (i := 20) rfl)), rfl, hnm⟩) (hw _ (List.mem_of_getElem? (i := 2) rfl)) (ty := (.array .boolean)) (by decide) rfl rfl (g := (mkF m 27 #[rv r0, iv 3] [(.ref b47), (.ref r0)])) rfl rfl (hb hby d1_27)
  replace N0 := Fr.snoc X48 N0 ge_r0
  refine gs st48 ?_
  show Go p e below s QQ 4 12 (T48.setTop (mkF m 30 #[rv r0, iv 3] []))
  replace F_minimum_r0 := F_minimum_r0.other W48 (Or.inr (slot_ne (Or.inl (hw _ (List.mem_of_getElem? (i := 12) rfl))) (Or.inr (hw _ (List.mem_of_getElem? (i := 20) rfl))) (by decide) (t := .long) (t' := (.array .boolean)) (by decide) (by decide)))
  replace F_count_r0 := F_count_r0.other W48 (Or.inr (slot_ne (Or.inr (hw _ (List.mem_of_getElem? (i := 14) rfl))) (Or.inr (hw _ (List.mem_of_getElem? (i := 20) rfl))) (by decide) (t := .int) (t' := (.array .boolean)) (by decide) (by decide)))
  replace F_latest_r0 := F_latest_r0.other W48 (Or.inr (slot_ne (Or.inr (hw _ (List.mem_of_getElem? (i := 17) rfl))) (Or.inr (hw _ (List.mem_of_getElem? (i := 20) rfl))) (by decide) (t := (.array .long)) (t' := (.array .boolean)) (by decide) (by decide)))
  replace F_channelIdle_r0 := F_channelIdle_r0.same W48
  replace F_ended_r0 := F_ended_r0.other W48 (Or.inr (slot_ne (Or.inr (hw _ (List.mem_of_getElem? (i := 22) rfl))) (Or.inr (hw _ (List.mem_of_getElem? (i := 20) rfl))) (by decide) (t := (.array .boolean)) (t' := (.array .boolean)) (by decide) (by decide)))
  replace F_barrierIn_r0 := F_barrierIn_r0.other W48 (Or.inr (slot_ne (Or.inr (hw _ (List.mem_of_getElem? (i := 24) rfl))) (Or.inr (hw _ (List.mem_of_getElem? (i := 20) rfl))) (by decide) (t := (.array .boolean)) (t' := (.array .boolean)) (by decide) (by decide)))
  replace F_aligning_r0 := F_aligning_r0.other W48 (Or.inr (slot_ne (Or.inl (hw _ (List.mem_of_getElem? (i := 49) rfl))) (Or.inr (hw _ (List.mem_of_getElem? (i := 20) rfl))) (by decide) (t := (.object "weirline/runtime/CheckpointBarrier")) (t' := (.array .boolean)) (by decide) (by decide)))
  replace F_barriersIn_r0 := F_barriersIn_r0.other W48 (Or.inr (slot_ne (Or.inl (hw _ (List.mem_of_getElem? (i := 51) rfl))) (Or.inr (hw _ (List.mem_of_getElem? (i := 20) rfl))) (by decide) (t := .int) (t' := (.array .boolean)) (by decide) (by decide)))
  replace F_endedCount_r0 := F_endedCount_r0.other W48 (Or.inr (slot_ne (Or.inl (hw _ (List.mem_of_getElem? (i := 63) rfl))) (Or.inr (hw _ (List.mem_of_getElem? (i := 20) rfl))) (by decide) (t := .int) (t' := (.array .boolean)) (by decide) (by decide)))
  replace E_r0 := E_r0.wr W48
  replace V_b45 := V_b45.other W48 (Ne.symm ne_r0_b45)
  replace V_b47 := V_b47.other W48 (Ne.symm ne_r0_b47)
  replace ZZ : n0 ≤ h48.size := by rw [W48.size]; exact ZZ
  replace KK := KK.wr W48 (Or.inl (by simp))
  refine gs (fun t => XS.aloadN X48.here hx rfl (hb hby d1_30) rfl rfl) ?_
  refine gs (fun t => XS.iloadN X48.here hx rfl (hb hby d1_31) rfl) ?_
  obtain ⟨T49, h49, k49, X49, e49, E49, A49, st49⟩ := newP X48 hx hZ (hw _ (List.mem_of_getElem? (i := 18) rfl)) e48 (g := (mkF m 32 #[rv r0, iv 3] [(.int (3 : Int32)), (.ref r0)])) rfl (hb hby d1_32) rfl (by decide) (cap := 3) (by decide) (by decide) (by decide) (by decide)
  obtain ⟨b49, g49⟩ : ∃ z, z = h48.size := ⟨_, rfl⟩
  rw [← g49] at A49 st49
  have ge_b49 : n0 ≤ b49 := by rw [g49]; exact ZZ
  have sz_b49 : h0.size ≤ b49 := by rw [g49]; exact KK.1
  have ne_r0_b49 : r0 ≠ b49 := by rw [g49]; exact Nat.ne_of_lt F_minimum_r0.lt
  have ne_b45_b49 : b45 ≠ b49 := by rw [g49]; exact Nat.ne_of_lt V_b45.lt
  have ne_b47_b49 : b47 ≠ b49 := by rw [g49]; exact Nat.ne_of_lt V_b47.lt
  refine gs st49 ?_
  show Go p e below s QQ 4 12 (T49.setTop (mkF m 34 #[rv r0, iv 3] [(.ref b49), (.ref r0)]))
  replace F_minimum_r0 := F_minimum_r0.ext E49
  replace F_count_r0 := F_count_r0.ext E49
  replace F_latest_r0 := F_latest_r0.ext E49
  replace F_channelIdle_r0 := F_channelIdle_r0.ext E49
  replace F_ended_r0 := F_ended_r0.ext E49
  replace F_barrierIn_r0 := F_barrierIn_r0.ext E49
  replace F_aligning_r0 := F_aligning_r0.ext E49
  replace F_barriersIn_r0 := F_barriersIn_r0.ext E49
  replace F_endedCount_r0 := F_endedCount_r0.ext E49
  replace E_r0 := E_r0.ext E49
  replace V_b45 := V_b45.ext E49
  replace V_b47 := V_b47.ext E49
  replace ZZ := Nat.le_trans ZZ E49.1
  replace KK := KK.ext E49
  have V_b49 : Arf Z h49 b49 .boolean 3 (fun _ => .int 0) := Arf.new A49
  obtain ⟨T50, h50, X50, e50, W50, st50⟩ := putF X49 hx hZ hown (host := "") (Or.inl (hw _ (List.mem_of_getElem? (i := 21) rfl))) Via.refl e49 F_ended_r0 E_r0 (Or.inr ⟨(hw _ (List.mem_of_getElem? (i := 22) rfl)), rfl, hnm⟩) (hw _ (List.mem_of_getElem? (i := 2) rfl)) (ty := (.array .boolean)) (by decide) rfl rfl (g := (mkF m 34 #[rv r0, iv 3] [(.ref b49), (.ref r0)])) rfl rfl (hb hby d1_34)
  replace N0 := Fr.snoc X50 N0 ge_r0
  refine gs st50 ?_
  show Go p e below s QQ 4 12 (T50.setTop (mkF m 37 #[rv r0, iv 3] []))
  replace F_minimum_r0 := F_minimum_r0.other W50 (Or.inr (slot_ne (Or.inl (hw _ (List.mem_of_getElem? (i := 12) rfl))) (Or.inr (hw _ (List.mem_of_getElem? (i := 22) rfl))) (by decide) (t := .long) (t' := (.array .boolean)) (by decide) (by decide)))
  replace F_count_r0 := F_count_r0.other W50 (Or.inr (slot_ne (Or.inr (hw _ (List.mem_of_getElem? (i := 14) rfl))) (Or.inr (hw _ (List.mem_of_getElem? (i := 22) rfl))) (by decide) (t := .int) (t' := (.array .boolean)) (by decide) (by decide)))
  replace F_latest_r0 := F_latest_r0.other W50 (Or.inr (slot_ne (Or.inr (hw _ (List.mem_of_getElem? (i := 17) rfl))) (Or.inr (hw _ (List.mem_of_getElem? (i := 22) rfl))) (by decide) (t := (.array .long)) (t' := (.array .boolean)) (by decide) (by decide)))
  replace F_channelIdle_r0 := F_channelIdle_r0.other W50 (Or.inr (slot_ne (Or.inr (hw _ (List.mem_of_getElem? (i := 20) rfl))) (Or.inr (hw _ (List.mem_of_getElem? (i := 22) rfl))) (by decide) (t := (.array .boolean)) (t' := (.array .boolean)) (by decide) (by decide)))
  replace F_ended_r0 := F_ended_r0.same W50
  replace F_barrierIn_r0 := F_barrierIn_r0.other W50 (Or.inr (slot_ne (Or.inr (hw _ (List.mem_of_getElem? (i := 24) rfl))) (Or.inr (hw _ (List.mem_of_getElem? (i := 22) rfl))) (by decide) (t := (.array .boolean)) (t' := (.array .boolean)) (by decide) (by decide)))
  replace F_aligning_r0 := F_aligning_r0.other W50 (Or.inr (slot_ne (Or.inl (hw _ (List.mem_of_getElem? (i := 49) rfl))) (Or.inr (hw _ (List.mem_of_getElem? (i := 22) rfl))) (by decide) (t := (.object "weirline/runtime/CheckpointBarrier")) (t' := (.array .boolean)) (by decide) (by decide)))
  replace F_barriersIn_r0 := F_barriersIn_r0.other W50 (Or.inr (slot_ne (Or.inl (hw _ (List.mem_of_getElem? (i := 51) rfl))) (Or.inr (hw _ (List.mem_of_getElem? (i := 22) rfl))) (by decide) (t := .int) (t' := (.array .boolean)) (by decide) (by decide)))
  replace F_endedCount_r0 := F_endedCount_r0.other W50 (Or.inr (slot_ne (Or.inl (hw _ (List.mem_of_getElem? (i := 63) rfl))) (Or.inr (hw _ (List.mem_of_getElem? (i := 22) rfl))) (by decide) (t := .int) (t' := (.array .boolean)) (by decide) (by decide)))
  replace E_r0 := E_r0.wr W50
  replace V_b45 := V_b45.other W50 (Ne.symm ne_r0_b45)
  replace V_b47 := V_b47.other W50 (Ne.symm ne_r0_b47)
  replace V_b49 := V_b49.other W50 (Ne.symm ne_r0_b49)
  replace ZZ : n0 ≤ h50.size := by rw [W50.size]; exact ZZ
  replace KK := KK.wr W50 (Or.inl (by simp))
  refine gs (fun t => XS.aloadN X50.here hx rfl (hb hby d1_37) rfl rfl) ?_
  refine gs (fun t => XS.iloadN X50.here hx rfl (hb hby d1_38) rfl) ?_
  obtain ⟨T51, h51, k51, X51, e51, E51, A51, st51⟩ := newP X50 hx hZ (hw _ (List.mem_of_getElem? (i := 18) rfl)) e50 (g := (mkF m 39 #[rv r0, iv 3] [(.int (3 : Int32)), (.ref r0)])) rfl (hb hby d1_39) rfl (by decide) (cap := 3) (by decide) (by decide) (by decide) (by decide)
  obtain ⟨b51, g51⟩ : ∃ z, z = h50.size := ⟨_, rfl⟩
  rw [← g51] at A51 st51
  have ge_b51 : n0 ≤ b51 := by rw [g51]; exact ZZ
  have sz_b51 : h0.size ≤ b51 := by rw [g51]; exact KK.1
  have ne_r0_b51 : r0 ≠ b51 := by rw [g51]; exact Nat.ne_of_lt F_minimum_r0.lt
  have ne_b45_b51 : b45 ≠ b51 := by rw [g51]; exact Nat.ne_of_lt V_b45.lt
  have ne_b47_b51 : b47 ≠ b51 := by rw [g51]; exact Nat.ne_of_lt V_b47.lt
  have ne_b49_b51 : b49 ≠ b51 := by rw [g51]; exact Nat.ne_of_lt V_b49.lt
  refine gs st51 ?_
  show Go p e below s QQ 4 12 (T51.setTop (mkF m 41 #[rv r0, iv 3] [(.ref b51), (.ref r0)]))
  replace F_minimum_r0 := F_minimum_r0.ext E51
  replace F_count_r0 := F_count_r0.ext E51
  replace F_latest_r0 := F_latest_r0.ext E51
  replace F_channelIdle_r0 := F_channelIdle_r0.ext E51
  replace F_ended_r0 := F_ended_r0.ext E51
  replace F_barrierIn_r0 := F_barrierIn_r0.ext E51
  replace F_aligning_r0 := F_aligning_r0.ext E51
  replace F_barriersIn_r0 := F_barriersIn_r0.ext E51
  replace F_endedCount_r0 := F_endedCount_r0.ext E51
  replace E_r0 := E_r0.ext E51
  replace V_b45 := V_b45.ext E51
  replace V_b47 := V_b47.ext E51
  replace V_b49 := V_b49.ext E51
  replace ZZ := Nat.le_trans ZZ E51.1
  replace KK := KK.ext E51
  have V_b51 : Arf Z h51 b51 .boolean 3 (fun _ => .int 0) := Arf.new A51
  obtain ⟨T52, h52, X52, e52, W52, st52⟩ := putF X51 hx hZ hown (host := "") (Or.inl (hw _ (List.mem_of_getElem? (i := 23) rfl))) Via.refl e51 F_barrierIn_r0 E_r0 (Or.inr ⟨(hw _ (List.mem_of_getElem? (i := 24) rfl)), rfl, hnm⟩) (hw _ (List.mem_of_getElem? (i := 2) rfl)) (ty := (.array .boolean)) (by decide) rfl rfl (g := (mkF m 41 #[rv r0, iv 3] [(.ref b51), (.ref r0)])) rfl rfl (hb hby d1_41)
  replace N0 := Fr.snoc X52 N0 ge_r0
  refine gs st52 ?_
  show Go p e below s QQ 4 12 (T52.setTop (mkF m 44 #[rv r0, iv 3] []))
  replace F_minimum_r0 := F_minimum_r0.other W52 (Or.inr (slot_ne (Or.inl (hw _ (List.mem_of_getElem? (i := 12) rfl))) (Or.inr (hw _ (List.mem_of_getElem? (i := 24) rfl))) (by decide) (t := .long) (t' := (.array .boolean)) (by decide) (by decide)))
  replace F_count_r0 := F_count_r0.other W52 (Or.inr (slot_ne (Or.inr (hw _ (List.mem_of_getElem? (i := 14) rfl))) (Or.inr (hw _ (List.mem_of_getElem? (i := 24) rfl))) (by decide) (t := .int) (t' := (.array .boolean)) (by decide) (by decide)))
  replace F_latest_r0 := F_latest_r0.other W52 (Or.inr (slot_ne (Or.inr (hw _ (List.mem_of_getElem? (i := 17) rfl))) (Or.inr (hw _ (List.mem_of_getElem? (i := 24) rfl))) (by decide) (t := (.array .long)) (t' := (.array .boolean)) (by decide) (by decide)))
  replace F_channelIdle_r0 := F_channelIdle_r0.other W52 (Or.inr (slot_ne (Or.inr (hw _ (List.mem_of_getElem? (i := 20) rfl))) (Or.inr (hw _ (List.mem_of_getElem? (i := 24) rfl))) (by decide) (t := (.array .boolean)) (t' := (.array .boolean)) (by decide) (by decide)))
  replace F_ended_r0 := F_ended_r0.other W52 (Or.inr (slot_ne (Or.inr (hw _ (List.mem_of_getElem? (i := 22) rfl))) (Or.inr (hw _ (List.mem_of_getElem? (i := 24) rfl))) (by decide) (t := (.array .boolean)) (t' := (.array .boolean)) (by decide) (by decide)))
  replace F_barrierIn_r0 := F_barrierIn_r0.same W52
  replace F_aligning_r0 := F_aligning_r0.other W52 (Or.inr (slot_ne (Or.inl (hw _ (List.mem_of_getElem? (i := 49) rfl))) (Or.inr (hw _ (List.mem_of_getElem? (i := 24) rfl))) (by decide) (t := (.object "weirline/runtime/CheckpointBarrier")) (t' := (.array .boolean)) (by decide) (by decide)))
  replace F_barriersIn_r0 := F_barriersIn_r0.other W52 (Or.inr (slot_ne (Or.inl (hw _ (List.mem_of_getElem? (i := 51) rfl))) (Or.inr (hw _ (List.mem_of_getElem? (i := 24) rfl))) (by decide) (t := .int) (t' := (.array .boolean)) (by decide) (by decide)))
  replace F_endedCount_r0 := F_endedCount_r0.other W52 (Or.inr (slot_ne (Or.inl (hw _ (List.mem_of_getElem? (i := 63) rfl))) (Or.inr (hw _ (List.mem_of_getElem? (i := 24) rfl))) (by decide) (t := .int) (t' := (.array .boolean)) (by decide) (by decide)))
  replace E_r0 := E_r0.wr W52
  replace V_b45 := V_b45.other W52 (Ne.symm ne_r0_b45)
  replace V_b47 := V_b47.other W52 (Ne.symm ne_r0_b47)
  replace V_b49 := V_b49.other W52 (Ne.symm ne_r0_b49)
  replace V_b51 := V_b51.other W52 (Ne.symm ne_r0_b51)
  replace ZZ : n0 ≤ h52.size := by rw [W52.size]; exact ZZ
  replace KK := KK.wr W52 (Or.inl (by simp))
  refine gs (fun t => XS.aloadN X52.here hx rfl (hb hby d1_44) rfl rfl) ?_
  obtain ⟨T53, X53, e53, st53⟩ := getF X52 hx hZ hown (host := "") (Or.inl (hw _ (List.mem_of_getElem? (i := 16) rfl))) Via.refl e52 F_latest_r0 (g := (mkF m 45 #[rv r0, iv 3] [(.ref r0)])) rfl rfl (hb hby d1_45)
  refine gs st53 ?_
  show Go p e below s QQ 4 12 (T53.setTop (mkF m 48 #[rv r0, iv 3] [(.ref b45)]))
  refine gs (fun t => X53.ldc2Long hx hown (mvT hZ (hw _ (List.mem_of_getElem? (i := 10) rfl))) (g := (mkF m 48 #[rv r0, iv 3] [(.ref b45)])) rfl (hb hby d1_48) t) ?_
  obtain ⟨_, _, ⟨T54, L54, k54, n54⟩, -, X54, ⟨Lc54, hQ54, l54, y54, z54⟩, st54⟩ := Jvm.LawKit.callS X53 hx (y := (⟨"java/util/Arrays", "fill", "([JJ)V"⟩ : MethodName)) hown (mvT hZ (hw _ (List.mem_of_getElem? (i := 25) rfl))) (mvT hZ (hw _ (List.mem_of_getElem? (i := 26) rfl))) (mvT hZ (hw _ (List.mem_of_getElem? (i := 27) rfl))) (mvT hZ (hw _ (List.mem_of_getElem? (i := 28) rfl))) (by decide) (backOf (W := 0) (fillJ3 l Z a0 hw [] b45 (-9223372036854775808 : Int64) (fun _ => .long 0) h52 n0 ZZ V_b45 ge_b45) hZ (hw _ (List.mem_of_getElem? (i := 28) rfl)) (hw _ (List.mem_of_getElem? (i := 27) rfl)) (by decide) (by decide)) (g := (mkF m 51 #[rv r0, iv 3] [(.long (-9223372036854775808 : Int64)), (.ref b45)])) rfl (by rw [hml]; rfl) (argsL := [(.ref b45), (.long (-9223372036854775808 : Int64))]) (rest := []) (lenOf pd_1 rfl) rfl (by show 2 * 0 + _ ≤ _; exact Nat.le_of_eq rfl) (hb hby d1_51) (fun _ _ => ⟨rfl, e53, (by decide : 4 + 0 ≤ _), (by decide : 12 + 0 ≤ _)⟩)
  dsimp only [Pt.U, Pt.locs, Pt.cells, Pt.slots] at X54 l54 y54 z54 st54 hQ54
  subst l54 y54 z54
  obtain ⟨rfl, N54q, K54⟩ := hQ54
  replace N0 := Fr.app N0 N54q
  refine gs st54 ?_
  show Go p e below s QQ 4 12 (T54.setTop (mkF m 54 #[rv r0, iv 3] []))
  replace F_minimum_r0 := F_minimum_r0.keep K54 (ninS ne_r0_b45 nin0)
  replace F_count_r0 := F_count_r0.keep K54 (ninS ne_r0_b45 nin0)
  replace F_latest_r0 := F_latest_r0.keep K54 (ninS ne_r0_b45 nin0)
  replace F_channelIdle_r0 := F_channelIdle_r0.keep K54 (ninS ne_r0_b45 nin0)
  replace F_ended_r0 := F_ended_r0.keep K54 (ninS ne_r0_b45 nin0)
  replace F_barrierIn_r0 := F_barrierIn_r0.keep K54 (ninS ne_r0_b45 nin0)
  replace F_aligning_r0 := F_aligning_r0.keep K54 (ninS ne_r0_b45 nin0)
  replace F_barriersIn_r0 := F_barriersIn_r0.keep K54 (ninS ne_r0_b45 nin0)
  replace F_endedCount_r0 := F_endedCount_r0.keep K54 (ninS ne_r0_b45 nin0)
  replace E_r0 := E_r0.keep K54
  replace V_b47 := V_b47.keep K54 (ninS (Ne.symm ne_b45_b47) nin0)
  replace V_b49 := V_b49.keep K54 (ninS (Ne.symm ne_b45_b49) nin0)
  replace V_b51 := V_b51.keep K54 (ninS (Ne.symm ne_b45_b51) nin0)
  replace ZZ := Nat.le_trans ZZ K54.1
  replace KK := KK.trans K54 (allS (Or.inr sz_b45) all0)
  exact goV X54 hx Bd.notSynchronized Bd.returns (hb hby d1_54) (by rw [← hQQ]; exact ⟨b49, b51, rfl, N0, KK, F_count_r0, F_ended_r0, F_endedCount_r0, F_aligning_r0, F_barrierIn_r0, F_barriersIn_r0, V_b49, V_b51, sz_b49, sz_b51, ne_b49_b51⟩) (by decide) (by decide)
theorem d10_0 : decode prog_151_method_9_code 0 = .ok (.aload_n 0, 1) := by decide +kernel
theorem d10_1 : decode prog_151_method_9_code 1 = .ok (.getfield 29, 3) := by decide +kernel
theorem d10_4 : decode prog_151_method_9_code 4 = .ok (.iload_n 1, 1) := by decide +kernel
theorem d10_5 : decode prog_151_method_9_code 5 = .ok (.iconst 1, 1) := by decide +kernel
theorem d10_6 : decode prog_151_method_9_code 6 = .ok (.bastore, 1) := by decide +kernel
theorem d10_7 : decode prog_151_method_9_code 7 = .ok (.aload_n 0, 1) := by decide +kernel
theorem d10_8 : decode prog_151_method_9_code 8 = .ok (.dup, 1) := by decide +kernel
theorem d10_9 : decode prog_151_method_9_code 9 = .ok (.getfield 45, 3) := by decide +kernel
theorem d10_12 : decode prog_151_method_9_code 12 = .ok (.iconst 1, 1) := by decide +kernel
theorem d10_13 : decode prog_151_method_9_code 13 = .ok (.iadd, 1) := by decide +kernel
theorem d10_14 : decode prog_151_method_9_code 14 = .ok (.putfield 45, 3) := by decide +kernel
theorem d10_17 : decode prog_151_method_9_code 17 = .ok (.return_, 1) := by decide +kernel
theorem pn_10 : plainName "weirline/runtime/InputChannels" = true := by first | (simp [plainName, overriddenIn]; done) | decide +kernel
def Qrm10 (Z : State) (r0 : Addr) (i : Nat) (nn : Nat) (cnt : Int32) (eb : Addr) (ec : Int32) (al : Value) (bb : Addr) (bi : Int32) (ff : Nat → Value) (h0 : Heap) (n0 : Nat) (v : Option Value) (h : Heap) (L : List Loc) : Prop := v = none ∧ Fr n0 L ∧ Keep h0 h [r0, eb] ∧ Fld Z h r0 "weirline/runtime/InputChannels" "count" "I" (.int cnt) ∧ Fld Z h r0 "weirline/runtime/InputChannels" "ended" "[Z" (.ref eb) ∧ Fld Z h r0 "weirline/runtime/InputChannels" "endedCount" "I" (.int (ec + (1 : Int32))) ∧ Fld Z h r0 "weirline/runtime/InputChannels" "aligning" "Lweirline/runtime/CheckpointBarrier;" al ∧ Fld Z h r0 "weirline/runtime/InputChannels" "barrierIn" "[Z" (.ref bb) ∧ Fld Z h r0 "weirline/runtime/InputChannels" "barriersIn" "I" (.int bi)
set_option maxRecDepth 65536 in
set_option maxHeartbeats 40000000 in
theorem rm10 (l : Launch) (Z : State) (a0 : Array Value) (hw : ∀ d ∈ tables_1, d.before a0 Z = true) (ws : List Jvm.Cond) (r0 : Addr) (i : Nat) (nn : Nat) (cnt : Int32) (eb : Addr) (ec : Int32) (al : Value) (bb : Addr) (bi : Int32) (ff : Nat → Value) (h0 : Heap) (n0 : Nat) (Z0 : n0 ≤ h0.size) (F_count_r0 : Fld Z h0 r0 "weirline/runtime/InputChannels" "count" "I" (.int cnt)) (F_ended_r0 : Fld Z h0 r0 "weirline/runtime/InputChannels" "ended" "[Z" (.ref eb)) (F_endedCount_r0 : Fld Z h0 r0 "weirline/runtime/InputChannels" "endedCount" "I" (.int ec)) (F_aligning_r0 : Fld Z h0 r0 "weirline/runtime/InputChannels" "aligning" "Lweirline/runtime/CheckpointBarrier;" al) (F_barrierIn_r0 : Fld Z h0 r0 "weirline/runtime/InputChannels" "barrierIn" "[Z" (.ref bb)) (F_barriersIn_r0 : Fld Z h0 r0 "weirline/runtime/InputChannels" "barriersIn" "I" (.int bi)) (E_r0 : Exa Z h0 r0 "weirline/runtime/InputChannels") (V_eb : Arf Z h0 eb .boolean nn ff) (ge_r0 : n0 ≤ r0) (ge_eb : n0 ≤ eb) (ne_r0_eb : r0 ≠ eb) (ne_r0_bb : r0 ≠ bb) (ne_eb_bb : eb ≠ bb) (hi : i < nn) (hn : nn < 1000) :
    MetFree l (⟨"weirline/runtime/InputChannels", "end", "(I)V"⟩ : MethodName) (head1 (Jvm.Cond.code (⟨"weirline/runtime/InputChannels", "end", "(I)V"⟩ : MethodName) prog_151_method_9_code 2 none :: ws) ({ frames := 0, cells := 0, slots := 0, locals := 0 } : Room)) (fun a U => a = #[(.ref r0), (.int (oI i))] ∧ Z.Warmed39 U.vm ∧ U.heap = h0) (fun _ _ _ _ _ => True) (fun _ U o U' => ∃ v L, o = .returned v ∧ Qrm10 Z r0 i nn cnt eb ec al bb bi ff h0 n0 v U'.heap L ∧ FrameEnd U o U' L ({ frames := 0, cells := 0, slots := 0, locals := 0 } : Room).cells ({ frames := 0, cells := 0, slots := 0, locals := 0 } : Room).slots) := by
  refine MetFree.of_bodySF (plainFor_of_name pn_10) hisR ?_
  intro p e s m args below meth c s₁ Bd hml0 hP hK
  obtain ⟨rfl, hZ, hh⟩ := hP
  have hx := Bd.exec
  have hby := Bd.bytes
  have hml : c.maxLocals = 2 := hml0
  have hown : s.vm.findClass "weirline/runtime/InputChannels" = some m.cls := findClass_of_methodNamed Bd.named
  have hnm := (name_of_methodNamed Bd.named Bd.method).1
  have X0 : Stand p l e ({ frames := 0, cells := 0, slots := 0, locals := 0 } : Room) s m #[(.ref r0), (.int (oI i))] below meth c s₁ [] 0 0 := Stand.of_body Bd
  have e0 : s₁.heap = h0 := by rw [← hh, Bd.state]; rfl
  have N0 := Fr.nil n0
  have ZZ := Z0
  have KK : Keep h0 h0 [r0, eb] := Keep.refl h0 _
  show Go p e below s (Qrm10 Z r0 i nn cnt eb ec al bb bi ff h0 n0) 0 0 (s₁.setTop (entryFrame m #[(.ref r0), (.int (oI i))] 2))
  generalize hQQ : (Qrm10 Z r0 i nn cnt eb ec al bb bi ff h0 n0) = QQ
  refine gs (fun t k => castTop (g' := (mkF m 0 #[rv r0, iv (oI i)] [])) (by first | (simp [entryFrame, mkF, argsToLocals, Value.category, maxLocals]; done) | rfl) k) ?_
  show Go p e below s QQ 0 0 (s₁.setTop (mkF m 0 #[rv r0, iv (oI i)] []))
  refine gs (fun t => XS.aloadN X0.here hx rfl (hb hby d10_0) rfl rfl) ?_
  obtain ⟨T55, X55, e55, st55⟩ := getF X0 hx hZ hown (host := "") (Or.inl (hw _ (List.mem_of_getElem? (i := 21) rfl))) Via.refl e0 F_ended_r0 (g := (mkF m 1 #[rv r0, iv (oI i)] [(.ref r0)])) rfl rfl (hb hby d10_1)
  refine gs st55 ?_
  show Go p e below s QQ 0 0 (T55.setTop (mkF m 4 #[rv r0, iv (oI i)] [(.ref eb)]))
  refine gs (fun t => XS.iloadN X55.here hx rfl (hb hby d10_4) rfl) ?_
  refine gs (fun t => XS.iconst X55.here hx rfl (hb hby d10_5)) ?_
  obtain ⟨T56, h56, X56, e56, W56, V56, st56⟩ := stZf X55 hx hZ e55 V_eb (j := (oI i)) (oI_in hi hn) (g := (mkF m 6 #[rv r0, iv (oI i)] [(.int (1 : Int32)), (.int (oI i)), (.ref eb)])) rfl rfl (hb hby d10_6)
  replace N0 := Fr.snoc X56 N0 ge_eb
  refine gs st56 ?_
  show Go p e below s QQ 0 0 (T56.setTop (mkF m 7 #[rv r0, iv (oI i)] []))
  replace F_count_r0 := F_count_r0.other W56 (Or.inl ne_r0_eb)
  replace F_ended_r0 := F_ended_r0.other W56 (Or.inl ne_r0_eb)
  replace F_endedCount_r0 := F_endedCount_r0.other W56 (Or.inl ne_r0_eb)
  replace F_aligning_r0 := F_aligning_r0.other W56 (Or.inl ne_r0_eb)
  replace F_barrierIn_r0 := F_barrierIn_r0.other W56 (Or.inl ne_r0_eb)
  replace F_barriersIn_r0 := F_barriersIn_r0.other W56 (Or.inl ne_r0_eb)
  replace E_r0 := E_r0.wr W56
  replace ZZ : n0 ≤ h56.size := by rw [W56.size]; exact ZZ
  replace KK := KK.wr W56 (Or.inl (by simp))
  replace V_eb : Arf Z h56 eb .boolean nn (updv ff (oI i).toNatClampNeg (.int (nar .boolean (1 : Int32)))) := V56
  refine gs (fun t => XS.aloadN X56.here hx rfl (hb hby d10_7) rfl rfl) ?_
  refine gs (fun t => XS.dup X56.here hx rfl (hb hby d10_8) rfl rfl) ?_
  obtain ⟨T57, X57, e57, st57⟩ := getF X56 hx hZ hown (host := "") (Or.inl (hw _ (List.mem_of_getElem? (i := 62) rfl))) Via.refl e56 F_endedCount_r0 (g := (mkF m 9 #[rv r0, iv (oI i)] [(.ref r0), (.ref r0)])) rfl rfl (hb hby d10_9)
  refine gs st57 ?_
  show Go p e below s QQ 0 0 (T57.setTop (mkF m 12 #[rv r0, iv (oI i)] [(.int ec), (.ref r0)]))
  refine gs (fun t => XS.iconst X57.here hx rfl (hb hby d10_12)) ?_
  refine gs (fun t => XS.iadd X57.here hx rfl (hb hby d10_13) rfl) ?_
  obtain ⟨T58, h58, X58, e58, W58, st58⟩ := putF X57 hx hZ hown (host := "") (Or.inl (hw _ (List.mem_of_getElem? (i := 62) rfl))) Via.refl e57 F_endedCount_r0 E_r0 (Or.inl (hw _ (List.mem_of_getElem? (i := 63) rfl))) (hw _ (List.mem_of_getElem? (i := 2) rfl)) (ty := .int) (by decide) rfl rfl (g := (mkF m 14 #[rv r0, iv (oI i)] [(.int (ec + (1 : Int32))), (.ref r0)])) rfl rfl (hb hby d10_14)
  replace N0 := Fr.snoc X58 N0 ge_r0
  refine gs st58 ?_
  show Go p e below s QQ 0 0 (T58.setTop (mkF m 17 #[rv r0, iv (oI i)] []))
  replace F_count_r0 := F_count_r0.other W58 (Or.inr (slot_ne (Or.inr (hw _ (List.mem_of_getElem? (i := 14) rfl))) (Or.inl (hw _ (List.mem_of_getElem? (i := 63) rfl))) (by decide) (t := .int) (t' := .int) (by decide) (by decide)))
  replace F_ended_r0 := F_ended_r0.other W58 (Or.inr (slot_ne (Or.inr (hw _ (List.mem_of_getElem? (i := 22) rfl))) (Or.inl (hw _ (List.mem_of_getElem? (i := 63) rfl))) (by decide) (t := (.array .boolean)) (t' := .int) (by decide) (by decide)))
  replace F_endedCount_r0 := F_endedCount_r0.same W58
  replace F_aligning_r0 := F_aligning_r0.other W58 (Or.inr (slot_ne (Or.inl (hw _ (List.mem_of_getElem? (i := 49) rfl))) (Or.inl (hw _ (List.mem_of_getElem? (i := 63) rfl))) (by decide) (t := (.object "weirline/runtime/CheckpointBarrier")) (t' := .int) (by decide) (by decide)))
  replace F_barrierIn_r0 := F_barrierIn_r0.other W58 (Or.inr (slot_ne (Or.inr (hw _ (List.mem_of_getElem? (i := 24) rfl))) (Or.inl (hw _ (List.mem_of_getElem? (i := 63) rfl))) (by decide) (t := (.array .boolean)) (t' := .int) (by decide) (by decide)))
  replace F_barriersIn_r0 := F_barriersIn_r0.other W58 (Or.inr (slot_ne (Or.inl (hw _ (List.mem_of_getElem? (i := 51) rfl))) (Or.inl (hw _ (List.mem_of_getElem? (i := 63) rfl))) (by decide) (t := .int) (t' := .int) (by decide) (by decide)))
  replace E_r0 := E_r0.wr W58
  replace V_eb := V_eb.other W58 (Ne.symm ne_r0_eb)
  replace ZZ : n0 ≤ h58.size := by rw [W58.size]; exact ZZ
  replace KK := KK.wr W58 (Or.inl (by simp))
  exact goV X58 hx Bd.notSynchronized Bd.returns (hb hby d10_17) (by rw [← hQQ, e58]; exact ⟨rfl, N0, KK, F_count_r0, F_ended_r0, F_endedCount_r0, F_aligning_r0, F_barrierIn_r0, F_barriersIn_r0⟩) (by decide) (by decide)
theorem d6_0 : decode prog_151_method_10_code 0 = .ok (.aload_n 0, 1) := by decide +kernel
theorem d6_1 : decode prog_151_method_10_code 1 = .ok (.aload_n 2, 1) := by decide +kernel
theorem d6_2 : decode prog_151_method_10_code 2 = .ok (.putfield 55, 3) := by decide +kernel
theorem d6_5 : decode prog_151_method_10_code 5 = .ok (.aload_n 0, 1) := by decide +kernel
theorem d6_6 : decode prog_151_method_10_code 6 = .ok (.getfield 32, 3) := by decide +kernel
theorem d6_9 : decode prog_151_method_10_code 9 = .ok (.iload_n 1, 1) := by decide +kernel
theorem d6_10 : decode prog_151_method_10_code 10 = .ok (.iconst 1, 1) := by decide +kernel
theorem d6_11 : decode prog_151_method_10_code 11 = .ok (.bastore, 1) := by decide +kernel
theorem d6_12 : decode prog_151_method_10_code 12 = .ok (.aload_n 0, 1) := by decide +kernel
theorem d6_13 : decode prog_151_method_10_code 13 = .ok (.dup, 1) := by decide +kernel
theorem d6_14 : decode prog_151_method_10_code 14 = .ok (.getfield 59, 3) := by decide +kernel
theorem d6_17 : decode prog_151_method_10_code 17 = .ok (.iconst 1, 1) := by decide +kernel
theorem d6_18 : decode prog_151_method_10_code 18 = .ok (.iadd, 1) := by decide +kernel
theorem d6_19 : decode prog_151_method_10_code 19 = .ok (.putfield 59, 3) := by decide +kernel
theorem d6_22 : decode prog_151_method_10_code 22 = .ok (.return_, 1) := by decide +kernel
theorem pn_6 : plainName "weirline/runtime/InputChannels" = true := by first | (simp [plainName, overriddenIn]; done) | decide +kernel
def Qrm6 (Z : State) (r0 : Addr) (r2 : Addr) (i : Nat) (nn : Nat) (cnt : Int32) (eb : Addr) (ec : Int32) (al : Value) (bb : Addr) (bi : Int32) (ff : Nat → Value) (h0 : Heap) (n0 : Nat) (v : Option Value) (h : Heap) (L : List Loc) : Prop := v = none ∧ Fr n0 L ∧ Keep h0 h [r0, bb] ∧ Fld Z h r0 "weirline/runtime/InputChannels" "count" "I" (.int cnt) ∧ Fld Z h r0 "weirline/runtime/InputChannels" "ended" "[Z" (.ref eb) ∧ Fld Z h r0 "weirline/runtime/InputChannels" "endedCount" "I" (.int ec) ∧ Fld Z h r0 "weirline/runtime/InputChannels" "aligning" "Lweirline/runtime/CheckpointBarrier;" (.ref r2) ∧ Fld Z h r0 "weirline/runtime/InputChannels" "barrierIn" "[Z" (.ref bb) ∧ Fld Z h r0 "weirline/runtime/InputChannels" "barriersIn" "I" (.int (bi + (1 : Int32))) ∧ Arf Z h bb .boolean nn (updv ff i (.int 1))
set_option maxRecDepth 65536 in
set_option maxHeartbeats 40000000 in
theorem rm6 (l : Launch) (Z : State) (a0 : Array Value) (hw : ∀ d ∈ tables_1, d.before a0 Z = true) (ws : List Jvm.Cond) (r0 : Addr) (r2 : Addr) (i : Nat) (nn : Nat) (cnt : Int32) (eb : Addr) (ec : Int32) (al : Value) (bb : Addr) (bi : Int32) (ff : Nat → Value) (h0 : Heap) (n0 : Nat) (Z0 : n0 ≤ h0.size) (F_count_r0 : Fld Z h0 r0 "weirline/runtime/InputChannels" "count" "I" (.int cnt)) (F_ended_r0 : Fld Z h0 r0 "weirline/runtime/InputChannels" "ended" "[Z" (.ref eb)) (F_endedCount_r0 : Fld Z h0 r0 "weirline/runtime/InputChannels" "endedCount" "I" (.int ec)) (F_aligning_r0 : Fld Z h0 r0 "weirline/runtime/InputChannels" "aligning" "Lweirline/runtime/CheckpointBarrier;" al) (F_barrierIn_r0 : Fld Z h0 r0 "weirline/runtime/InputChannels" "barrierIn" "[Z" (.ref bb)) (F_barriersIn_r0 : Fld Z h0 r0 "weirline/runtime/InputChannels" "barriersIn" "I" (.int bi)) (E_r0 : Exa Z h0 r0 "weirline/runtime/InputChannels") (V_bb : Arf Z h0 bb .boolean nn ff) (ge_r0 : n0 ≤ r0) (ge_bb : n0 ≤ bb) (ne_r0_eb : r0 ≠ eb) (ne_r0_bb : r0 ≠ bb) (ne_eb_bb : eb ≠ bb) (hi : i < nn) (hn : nn < 1000) :
    MetFree l (⟨"weirline/runtime/InputChannels", "barrier", "(ILweirline/runtime/CheckpointBarrier;)V"⟩ : MethodName) (head1 (Jvm.Cond.code (⟨"weirline/runtime/InputChannels", "barrier", "(ILweirline/runtime/CheckpointBarrier;)V"⟩ : MethodName) prog_151_method_10_code 3 none :: ws) ({ frames := 0, cells := 0, slots := 0, locals := 0 } : Room)) (fun a U => a = #[(.ref r0), (.int (oI i)), (.ref r2)] ∧ Z.Warmed39 U.vm ∧ U.heap = h0) (fun _ _ _ _ _ => True) (fun _ U o U' => ∃ v L, o = .returned v ∧ Qrm6 Z r0 r2 i nn cnt eb ec al bb bi ff h0 n0 v U'.heap L ∧ FrameEnd U o U' L ({ frames := 0, cells := 0, slots := 0, locals := 0 } : Room).cells ({ frames := 0, cells := 0, slots := 0, locals := 0 } : Room).slots) := by
  refine MetFree.of_bodySF (plainFor_of_name pn_6) hisR ?_
  intro p e s m args below meth c s₁ Bd hml0 hP hK
  obtain ⟨rfl, hZ, hh⟩ := hP
  have hx := Bd.exec
  have hby := Bd.bytes
  have hml : c.maxLocals = 3 := hml0
  have hown : s.vm.findClass "weirline/runtime/InputChannels" = some m.cls := findClass_of_methodNamed Bd.named
  have hnm := (name_of_methodNamed Bd.named Bd.method).1
  have X0 : Stand p l e ({ frames := 0, cells := 0, slots := 0, locals := 0 } : Room) s m #[(.ref r0), (.int (oI i)), (.ref r2)] below meth c s₁ [] 0 0 := Stand.of_body Bd
  have e0 : s₁.heap = h0 := by rw [← hh, Bd.state]; rfl
  have N0 := Fr.nil n0
  have ZZ := Z0
  have KK : Keep h0 h0 [r0, bb] := Keep.refl h0 _
  show Go p e below s (Qrm6 Z r0 r2 i nn cnt eb ec al bb bi ff h0 n0) 0 0 (s₁.setTop (entryFrame m #[(.ref r0), (.int (oI i)), (.ref r2)] 3))
  generalize hQQ : (Qrm6 Z r0 r2 i nn cnt eb ec al bb bi ff h0 n0) = QQ
  refine gs (fun t k => castTop (g' := (mkF m 0 #[rv r0, iv (oI i), rv r2] [])) (by first | (simp [entryFrame, mkF, argsToLocals, Value.category, maxLocals]; done) | rfl) k) ?_
  show Go p e below s QQ 0 0 (s₁.setTop (mkF m 0 #[rv r0, iv (oI i), rv r2] []))
  refine gs (fun t => XS.aloadN X0.here hx rfl (hb hby d6_0) rfl rfl) ?_
  refine gs (fun t => XS.aloadN X0.here hx rfl (hb hby d6_1) rfl rfl) ?_
  obtain ⟨T59, h59, X59, e59, W59, st59⟩ := putF X0 hx hZ hown (host := "") (Or.inl (hw _ (List.mem_of_getElem? (i := 48) rfl))) Via.refl e0 F_aligning_r0 E_r0 (Or.inl (hw _ (List.mem_of_getElem? (i := 49) rfl))) (hw _ (List.mem_of_getElem? (i := 2) rfl)) (ty := (.object "weirline/runtime/CheckpointBarrier")) (by decide) rfl rfl (g := (mkF m 2 #[rv r0, iv (oI i), rv r2] [(.ref r2), (.ref r0)])) rfl rfl (hb hby d6_2)
  replace N0 := Fr.snoc X59 N0 ge_r0
  refine gs st59 ?_
  show Go p e below s QQ 0 0 (T59.setTop (mkF m 5 #[rv r0, iv (oI i), rv r2] []))
  replace F_count_r0 := F_count_r0.other W59 (Or.inr (slot_ne (Or.inr (hw _ (List.mem_of_getElem? (i := 14) rfl))) (Or.inl (hw _ (List.mem_of_getElem? (i := 49) rfl))) (by decide) (t := .int) (t' := (.object "weirline/runtime/CheckpointBarrier")) (by decide) (by decide)))
  replace F_ended_r0 := F_ended_r0.other W59 (Or.inr (slot_ne (Or.inr (hw _ (List.mem_of_getElem? (i := 22) rfl))) (Or.inl (hw _ (List.mem_of_getElem? (i := 49) rfl))) (by decide) (t := (.array .boolean)) (t' := (.object "weirline/runtime/CheckpointBarrier")) (by decide) (by decide)))
  replace F_endedCount_r0 := F_endedCount_r0.other W59 (Or.inr (slot_ne (Or.inl (hw _ (List.mem_of_getElem? (i := 63) rfl))) (Or.inl (hw _ (List.mem_of_getElem? (i := 49) rfl))) (by decide) (t := .int) (t' := (.object "weirline/runtime/CheckpointBarrier")) (by decide) (by decide)))
  replace F_aligning_r0 := F_aligning_r0.same W59
  replace F_barrierIn_r0 := F_barrierIn_r0.other W59 (Or.inr (slot_ne (Or.inr (hw _ (List.mem_of_getElem? (i := 24) rfl))) (Or.inl (hw _ (List.mem_of_getElem? (i := 49) rfl))) (by decide) (t := (.array .boolean)) (t' := (.object "weirline/runtime/CheckpointBarrier")) (by decide) (by decide)))
  replace F_barriersIn_r0 := F_barriersIn_r0.other W59 (Or.inr (slot_ne (Or.inl (hw _ (List.mem_of_getElem? (i := 51) rfl))) (Or.inl (hw _ (List.mem_of_getElem? (i := 49) rfl))) (by decide) (t := .int) (t' := (.object "weirline/runtime/CheckpointBarrier")) (by decide) (by decide)))
  replace E_r0 := E_r0.wr W59
  replace V_bb := V_bb.other W59 (Ne.symm ne_r0_bb)
  replace ZZ : n0 ≤ h59.size := by rw [W59.size]; exact ZZ
  replace KK := KK.wr W59 (Or.inl (by simp))
  refine gs (fun t => XS.aloadN X59.here hx rfl (hb hby d6_5) rfl rfl) ?_
  obtain ⟨T60, X60, e60, st60⟩ := getF X59 hx hZ hown (host := "") (Or.inl (hw _ (List.mem_of_getElem? (i := 23) rfl))) Via.refl e59 F_barrierIn_r0 (g := (mkF m 6 #[rv r0, iv (oI i), rv r2] [(.ref r0)])) rfl rfl (hb hby d6_6)
  refine gs st60 ?_
  show Go p e below s QQ 0 0 (T60.setTop (mkF m 9 #[rv r0, iv (oI i), rv r2] [(.ref bb)]))
  refine gs (fun t => XS.iloadN X60.here hx rfl (hb hby d6_9) rfl) ?_
  refine gs (fun t => XS.iconst X60.here hx rfl (hb hby d6_10)) ?_
  obtain ⟨T61, h61, X61, e61, W61, V61, st61⟩ := stZf X60 hx hZ e60 V_bb (j := (oI i)) (oI_in hi hn) (g := (mkF m 11 #[rv r0, iv (oI i), rv r2] [(.int (1 : Int32)), (.int (oI i)), (.ref bb)])) rfl rfl (hb hby d6_11)
  replace N0 := Fr.snoc X61 N0 ge_bb
  refine gs st61 ?_
  show Go p e below s QQ 0 0 (T61.setTop (mkF m 12 #[rv r0, iv (oI i), rv r2] []))
  replace F_count_r0 := F_count_r0.other W61 (Or.inl ne_r0_bb)
  replace F_ended_r0 := F_ended_r0.other W61 (Or.inl ne_r0_bb)
  replace F_endedCount_r0 := F_endedCount_r0.other W61 (Or.inl ne_r0_bb)
  replace F_aligning_r0 := F_aligning_r0.other W61 (Or.inl ne_r0_bb)
  replace F_barrierIn_r0 := F_barrierIn_r0.other W61 (Or.inl ne_r0_bb)
  replace F_barriersIn_r0 := F_barriersIn_r0.other W61 (Or.inl ne_r0_bb)
  replace E_r0 := E_r0.wr W61
  replace ZZ : n0 ≤ h61.size := by rw [W61.size]; exact ZZ
  replace KK := KK.wr W61 (Or.inl (by simp))
  replace V_bb : Arf Z h61 bb .boolean nn (updv ff (oI i).toNatClampNeg (.int (nar .boolean (1 : Int32)))) := V61
  rw [oI_c (by omega)] at V_bb
  have V_bb : Arf Z h61 bb .boolean nn (updv ff i (.int 1)) := V_bb
  refine gs (fun t => XS.aloadN X61.here hx rfl (hb hby d6_12) rfl rfl) ?_
  refine gs (fun t => XS.dup X61.here hx rfl (hb hby d6_13) rfl rfl) ?_
  obtain ⟨T62, X62, e62, st62⟩ := getF X61 hx hZ hown (host := "") (Or.inl (hw _ (List.mem_of_getElem? (i := 50) rfl))) Via.refl e61 F_barriersIn_r0 (g := (mkF m 14 #[rv r0, iv (oI i), rv r2] [(.ref r0), (.ref r0)])) rfl rfl (hb hby d6_14)
  refine gs st62 ?_
  show Go p e below s QQ 0 0 (T62.setTop (mkF m 17 #[rv r0, iv (oI i), rv r2] [(.int bi), (.ref r0)]))
  refine gs (fun t => XS.iconst X62.here hx rfl (hb hby d6_17)) ?_
  refine gs (fun t => XS.iadd X62.here hx rfl (hb hby d6_18) rfl) ?_
  obtain ⟨T63, h63, X63, e63, W63, st63⟩ := putF X62 hx hZ hown (host := "") (Or.inl (hw _ (List.mem_of_getElem? (i := 50) rfl))) Via.refl e62 F_barriersIn_r0 E_r0 (Or.inl (hw _ (List.mem_of_getElem? (i := 51) rfl))) (hw _ (List.mem_of_getElem? (i := 2) rfl)) (ty := .int) (by decide) rfl rfl (g := (mkF m 19 #[rv r0, iv (oI i), rv r2] [(.int (bi + (1 : Int32))), (.ref r0)])) rfl rfl (hb hby d6_19)
  replace N0 := Fr.snoc X63 N0 ge_r0
  refine gs st63 ?_
  show Go p e below s QQ 0 0 (T63.setTop (mkF m 22 #[rv r0, iv (oI i), rv r2] []))
  replace F_count_r0 := F_count_r0.other W63 (Or.inr (slot_ne (Or.inr (hw _ (List.mem_of_getElem? (i := 14) rfl))) (Or.inl (hw _ (List.mem_of_getElem? (i := 51) rfl))) (by decide) (t := .int) (t' := .int) (by decide) (by decide)))
  replace F_ended_r0 := F_ended_r0.other W63 (Or.inr (slot_ne (Or.inr (hw _ (List.mem_of_getElem? (i := 22) rfl))) (Or.inl (hw _ (List.mem_of_getElem? (i := 51) rfl))) (by decide) (t := (.array .boolean)) (t' := .int) (by decide) (by decide)))
  replace F_endedCount_r0 := F_endedCount_r0.other W63 (Or.inr (slot_ne (Or.inl (hw _ (List.mem_of_getElem? (i := 63) rfl))) (Or.inl (hw _ (List.mem_of_getElem? (i := 51) rfl))) (by decide) (t := .int) (t' := .int) (by decide) (by decide)))
  replace F_aligning_r0 := F_aligning_r0.other W63 (Or.inr (slot_ne (Or.inl (hw _ (List.mem_of_getElem? (i := 49) rfl))) (Or.inl (hw _ (List.mem_of_getElem? (i := 51) rfl))) (by decide) (t := (.object "weirline/runtime/CheckpointBarrier")) (t' := .int) (by decide) (by decide)))
  replace F_barrierIn_r0 := F_barrierIn_r0.other W63 (Or.inr (slot_ne (Or.inr (hw _ (List.mem_of_getElem? (i := 24) rfl))) (Or.inl (hw _ (List.mem_of_getElem? (i := 51) rfl))) (by decide) (t := (.array .boolean)) (t' := .int) (by decide) (by decide)))
  replace F_barriersIn_r0 := F_barriersIn_r0.same W63
  replace E_r0 := E_r0.wr W63
  replace V_bb := V_bb.other W63 (Ne.symm ne_r0_bb)
  replace ZZ : n0 ≤ h63.size := by rw [W63.size]; exact ZZ
  replace KK := KK.wr W63 (Or.inl (by simp))
  exact goV X63 hx Bd.notSynchronized Bd.returns (hb hby d6_22) (by rw [← hQQ, e63]; exact ⟨rfl, N0, KK, F_count_r0, F_ended_r0, F_endedCount_r0, F_aligning_r0, F_barrierIn_r0, F_barriersIn_r0, V_bb⟩) (by decide) (by decide)
theorem d7_0 : decode prog_151_method_5_code 0 = .ok (.aload_n 0, 1) := by decide +kernel
theorem d7_1 : decode prog_151_method_5_code 1 = .ok (.getfield 32, 3) := by decide +kernel
theorem d7_4 : decode prog_151_method_5_code 4 = .ok (.iload_n 1, 1) := by decide +kernel
theorem d7_5 : decode prog_151_method_5_code 5 = .ok (.baload, 1) := by decide +kernel
theorem d7_6 : decode prog_151_method_5_code 6 = .ok (.ireturn, 1) := by decide +kernel
theorem pn_7 : plainName "weirline/runtime/InputChannels" = true := by first | (simp [plainName, overriddenIn]; done) | decide +kernel
def Qrm7 (Z : State) (r0 : Addr) (i : Nat) (nn : Nat) (bb : Addr) (ff : Nat → Value) (q : Int32) (h0 : Heap) (n0 : Nat) (v : Option Value) (h : Heap) (L : List Loc) : Prop := v = some (.int q) ∧ Fr n0 L ∧ h = h0
set_option maxRecDepth 65536 in
set_option maxHeartbeats 40000000 in
theorem rm7 (l : Launch) (Z : State) (a0 : Array Value) (hw : ∀ d ∈ tables_1, d.before a0 Z = true) (ws : List Jvm.Cond) (r0 : Addr) (i : Nat) (nn : Nat) (bb : Addr) (ff : Nat → Value) (q : Int32) (h0 : Heap) (n0 : Nat) (Z0 : n0 ≤ h0.size) (F_barrierIn_r0 : Fld Z h0 r0 "weirline/runtime/InputChannels" "barrierIn" "[Z" (.ref bb)) (V_bb : Arf Z h0 bb .boolean nn ff) (hv : ff i = .int q) (hq : nar .boolean q = q) (hi : i < nn) (hn : nn < 1000) :
    MetFree l (⟨"weirline/runtime/InputChannels", "holdsBack", "(I)Z"⟩ : MethodName) (head1 (Jvm.Cond.code (⟨"weirline/runtime/InputChannels", "holdsBack", "(I)Z"⟩ : MethodName) prog_151_method_5_code 2 (some .boolean) :: ws) ({ frames := 0, cells := 0, slots := 0, locals := 0 } : Room)) (fun a U => a = #[(.ref r0), (.int (oI i))] ∧ Z.Warmed39 U.vm ∧ U.heap = h0) (fun _ _ _ _ _ => True) (fun _ U o U' => ∃ v L, o = .returned v ∧ Qrm7 Z r0 i nn bb ff q h0 n0 v U'.heap L ∧ FrameEnd U o U' L ({ frames := 0, cells := 0, slots := 0, locals := 0 } : Room).cells ({ frames := 0, cells := 0, slots := 0, locals := 0 } : Room).slots) := by
  refine MetFree.of_bodySF (plainFor_of_name pn_7) hisR ?_
  intro p e s m args below meth c s₁ Bd hml0 hP hK
  obtain ⟨rfl, hZ, hh⟩ := hP
  have hx := Bd.exec
  have hby := Bd.bytes
  have hml : c.maxLocals = 2 := hml0
  have hown : s.vm.findClass "weirline/runtime/InputChannels" = some m.cls := findClass_of_methodNamed Bd.named
  have hnm := (name_of_methodNamed Bd.named Bd.method).1
  have X0 : Stand p l e ({ frames := 0, cells := 0, slots := 0, locals := 0 } : Room) s m #[(.ref r0), (.int (oI i))] below meth c s₁ [] 0 0 := Stand.of_body Bd
  have e0 : s₁.heap = h0 := by rw [← hh, Bd.state]; rfl
  have N0 := Fr.nil n0
  have ZZ := Z0
  show Go p e below s (Qrm7 Z r0 i nn bb ff q h0 n0) 0 0 (s₁.setTop (entryFrame m #[(.ref r0), (.int (oI i))] 2))
  generalize hQQ : (Qrm7 Z r0 i nn bb ff q h0 n0) = QQ
  refine gs (fun t k => castTop (g' := (mkF m 0 #[rv r0, iv (oI i)] [])) (by first | (simp [entryFrame, mkF, argsToLocals, Value.category, maxLocals]; done) | rfl) k) ?_
  show Go p e below s QQ 0 0 (s₁.setTop (mkF m 0 #[rv r0, iv (oI i)] []))
  refine gs (fun t => XS.aloadN X0.here hx rfl (hb hby d7_0) rfl rfl) ?_
  obtain ⟨T64, X64, e64, st64⟩ := getF X0 hx hZ hown (host := "") (Or.inl (hw _ (List.mem_of_getElem? (i := 23) rfl))) Via.refl e0 F_barrierIn_r0 (g := (mkF m 1 #[rv r0, iv (oI i)] [(.ref r0)])) rfl rfl (hb hby d7_1)
  refine gs st64 ?_
  show Go p e below s QQ 0 0 (T64.setTop (mkF m 4 #[rv r0, iv (oI i)] [(.ref bb)]))
  refine gs (fun t => XS.iloadN X64.here hx rfl (hb hby d7_4) rfl) ?_
  refine gs (fun t => ldZf X64 hx hZ e64 V_bb (j := (oI i)) (v := (.int q)) (oI_in hi hn) (by rw [oI_c (by omega)]; exact hv) (g := (mkF m 5 #[rv r0, iv (oI i)] [(.int (oI i)), (.ref bb)])) rfl rfl (hb hby d7_5) t) ?_
  exact goB X64 hx Bd.notSynchronized Bd.returns (by simp) (w := q) hq (hb hby d7_6) (by rw [← hQQ, e64]; exact ⟨rfl, N0, rfl⟩) (by decide) (by decide)
theorem d8_0 : decode prog_151_method_11_code 0 = .ok (.aload_n 0, 1) := by decide +kernel
theorem d8_1 : decode prog_151_method_11_code 1 = .ok (.getfield 55, 3) := by decide +kernel
theorem d8_4 : decode prog_151_method_11_code 4 = .ok (.ifnull 19, 3) := by decide +kernel
theorem d8_7 : decode prog_151_method_11_code 7 = .ok (.aload_n 0, 1) := by decide +kernel
theorem d8_8 : decode prog_151_method_11_code 8 = .ok (.getfield 59, 3) := by decide +kernel
theorem d8_11 : decode prog_151_method_11_code 11 = .ok (.aload_n 0, 1) := by decide +kernel
theorem d8_12 : decode prog_151_method_11_code 12 = .ok (.getfield 45, 3) := by decide +kernel
theorem d8_15 : decode prog_151_method_11_code 15 = .ok (.iadd, 1) := by decide +kernel
theorem d8_16 : decode prog_151_method_11_code 16 = .ok (.aload_n 0, 1) := by decide +kernel
theorem d8_17 : decode prog_151_method_11_code 17 = .ok (.getfield 17, 3) := by decide +kernel
theorem d8_20 : decode prog_151_method_11_code 20 = .ok (.if_icmp .ge 5, 3) := by decide +kernel
theorem d8_23 : decode prog_151_method_11_code 23 = .ok (.aconst_null, 1) := by decide +kernel
theorem d8_24 : decode prog_151_method_11_code 24 = .ok (.areturn, 1) := by decide +kernel
theorem d8_25 : decode prog_151_method_11_code 25 = .ok (.aload_n 0, 1) := by decide +kernel
theorem d8_26 : decode prog_151_method_11_code 26 = .ok (.getfield 55, 3) := by decide +kernel
theorem d8_29 : decode prog_151_method_11_code 29 = .ok (.astore_n 1, 1) := by decide +kernel
theorem d8_30 : decode prog_151_method_11_code 30 = .ok (.aload_n 0, 1) := by decide +kernel
theorem d8_31 : decode prog_151_method_11_code 31 = .ok (.aconst_null, 1) := by decide +kernel
theorem d8_32 : decode prog_151_method_11_code 32 = .ok (.putfield 55, 3) := by decide +kernel
theorem d8_35 : decode prog_151_method_11_code 35 = .ok (.aload_n 0, 1) := by decide +kernel
theorem d8_36 : decode prog_151_method_11_code 36 = .ok (.getfield 32, 3) := by decide +kernel
theorem d8_39 : decode prog_151_method_11_code 39 = .ok (.iconst 0, 1) := by decide +kernel
theorem d8_40 : decode prog_151_method_11_code 40 = .ok (.invokestatic 62, 3) := by decide +kernel
theorem d8_43 : decode prog_151_method_11_code 43 = .ok (.aload_n 0, 1) := by decide +kernel
theorem d8_44 : decode prog_151_method_11_code 44 = .ok (.iconst 0, 1) := by decide +kernel
theorem d8_45 : decode prog_151_method_11_code 45 = .ok (.putfield 59, 3) := by decide +kernel
theorem d8_48 : decode prog_151_method_11_code 48 = .ok (.aload_n 1, 1) := by decide +kernel
theorem d8_49 : decode prog_151_method_11_code 49 = .ok (.areturn, 1) := by decide +kernel
theorem pn_8 : plainName "weirline/runtime/InputChannels" = true := by first | (simp [plainName, overriddenIn]; done) | decide +kernel
def Qlu0 (Z : State) (r0 : Addr) (cnt : Int32) (eb : Addr) (ec : Int32) (al : Addr) (bb : Addr) (bi : Int32) (h0 : Heap) (n0 : Nat) (v : Option Value) (h : Heap) (L : List Loc) : Prop := v = some .null ∧ Fr n0 L ∧ h = h0
set_option maxRecDepth 65536 in
set_option maxHeartbeats 40000000 in
theorem lu0 (l : Launch) (Z : State) (a0 : Array Value) (hw : ∀ d ∈ tables_1, d.before a0 Z = true) (ws : List Jvm.Cond) (r0 : Addr) (cnt : Int32) (eb : Addr) (ec : Int32) (al : Addr) (bb : Addr) (bi : Int32) (h0 : Heap) (n0 : Nat) (Z0 : n0 ≤ h0.size) (F_count_r0 : Fld Z h0 r0 "weirline/runtime/InputChannels" "count" "I" (.int cnt)) (F_ended_r0 : Fld Z h0 r0 "weirline/runtime/InputChannels" "ended" "[Z" (.ref eb)) (F_endedCount_r0 : Fld Z h0 r0 "weirline/runtime/InputChannels" "endedCount" "I" (.int ec)) (F_aligning_r0 : Fld Z h0 r0 "weirline/runtime/InputChannels" "aligning" "Lweirline/runtime/CheckpointBarrier;" (.ref al)) (F_barrierIn_r0 : Fld Z h0 r0 "weirline/runtime/InputChannels" "barrierIn" "[Z" (.ref bb)) (F_barriersIn_r0 : Fld Z h0 r0 "weirline/runtime/InputChannels" "barriersIn" "I" (.int bi)) (hlt : (bi + ec) < cnt) :
    MetFree l (⟨"weirline/runtime/InputChannels", "linedUp", "()Lweirline/runtime/CheckpointBarrier;"⟩ : MethodName) (head1 (Jvm.Cond.code (⟨"weirline/runtime/InputChannels", "linedUp", "()Lweirline/runtime/CheckpointBarrier;"⟩ : MethodName) prog_151_method_11_code 2 (some (.object "weirline/runtime/CheckpointBarrier")) :: ws) ({ frames := 0, cells := 0, slots := 0, locals := 0 } : Room)) (fun a U => a = #[(.ref r0)] ∧ Z.Warmed39 U.vm ∧ U.heap = h0) (fun _ _ _ _ _ => True) (fun _ U o U' => ∃ v L, o = .returned v ∧ Qlu0 Z r0 cnt eb ec al bb bi h0 n0 v U'.heap L ∧ FrameEnd U o U' L ({ frames := 0, cells := 0, slots := 0, locals := 0 } : Room).cells ({ frames := 0, cells := 0, slots := 0, locals := 0 } : Room).slots) := by
  refine MetFree.of_bodySF (plainFor_of_name pn_8) hisR ?_
  intro p e s m args below meth c s₁ Bd hml0 hP hK
  obtain ⟨rfl, hZ, hh⟩ := hP
  have hx := Bd.exec
  have hby := Bd.bytes
  have hml : c.maxLocals = 2 := hml0
  have hown : s.vm.findClass "weirline/runtime/InputChannels" = some m.cls := findClass_of_methodNamed Bd.named
  have hnm := (name_of_methodNamed Bd.named Bd.method).1
  have X0 : Stand p l e ({ frames := 0, cells := 0, slots := 0, locals := 0 } : Room) s m #[(.ref r0)] below meth c s₁ [] 0 0 := Stand.of_body Bd
  have e0 : s₁.heap = h0 := by rw [← hh, Bd.state]; rfl
  have N0 := Fr.nil n0
  have ZZ := Z0
  show Go p e below s (Qlu0 Z r0 cnt eb ec al bb bi h0 n0) 0 0 (s₁.setTop (entryFrame m #[(.ref r0)] 2))
  generalize hQQ : (Qlu0 Z r0 cnt eb ec al bb bi h0 n0) = QQ
  refine gs (fun t k => castTop (g' := (mkF m 0 #[rv r0, .unset] [])) (by first | (simp [entryFrame, mkF, argsToLocals, Value.category, maxLocals]; done) | rfl) k) ?_
  show Go p e below s QQ 0 0 (s₁.setTop (mkF m 0 #[rv r0, .unset] []))
  refine gs (fun t => XS.aloadN X0.here hx rfl (hb hby d8_0) rfl rfl) ?_
  obtain ⟨T65, X65, e65, st65⟩ := getF X0 hx hZ hown (host := "") (Or.inl (hw _ (List.mem_of_getElem? (i := 48) rfl))) Via.refl e0 F_aligning_r0 (g := (mkF m 1 #[rv r0, .unset] [(.ref r0)])) rfl rfl (hb hby d8_1)
  refine gs st65 ?_
  show Go p e below s QQ 0 0 (T65.setTop (mkF m 4 #[rv r0, .unset] [(.ref al)]))
  refine gs (fun t => XS.ifnullNo X65.here hx rfl (hb hby d8_4) rfl) ?_
  refine gs (fun t => XS.aloadN X65.here hx rfl (hb hby d8_7) rfl rfl) ?_
  obtain ⟨T66, X66, e66, st66⟩ := getF X65 hx hZ hown (host := "") (Or.inl (hw _ (List.mem_of_getElem? (i := 50) rfl))) Via.refl e65 F_barriersIn_r0 (g := (mkF m 8 #[rv r0, .unset] [(.ref r0)])) rfl rfl (hb hby d8_8)
  refine gs st66 ?_
  show Go p e below s QQ 0 0 (T66.setTop (mkF m 11 #[rv r0, .unset] [(.int bi)]))
  refine gs (fun t => XS.aloadN X66.here hx rfl (hb hby d8_11) rfl rfl) ?_
  obtain ⟨T67, X67, e67, st67⟩ := getF X66 hx hZ hown (host := "") (Or.inl (hw _ (List.mem_of_getElem? (i := 62) rfl))) Via.refl e66 F_endedCount_r0 (g := (mkF m 12 #[rv r0, .unset] [(.ref r0), (.int bi)])) rfl rfl (hb hby d8_12)
  refine gs st67 ?_
  show Go p e below s QQ 0 0 (T67.setTop (mkF m 15 #[rv r0, .unset] [(.int ec), (.int bi)]))
  refine gs (fun t => XS.iadd X67.here hx rfl (hb hby d8_15) rfl) ?_
  refine gs (fun t => XS.aloadN X67.here hx rfl (hb hby d8_16) rfl rfl) ?_
  obtain ⟨T68, X68, e68, st68⟩ := getF X67 hx hZ hown (host := "") (Or.inl (hw _ (List.mem_of_getElem? (i := 13) rfl))) Via.refl e67 F_count_r0 (g := (mkF m 17 #[rv r0, .unset] [(.ref r0), (.int (bi + ec))])) rfl rfl (hb hby d8_17)
  refine gs st68 ?_
  show Go p e below s QQ 0 0 (T68.setTop (mkF m 20 #[rv r0, .unset] [(.int cnt), (.int (bi + ec))]))
  refine gs (fun t => XS.icmpNo X68.here hx rfl (hb hby d8_20) rfl (tlt (hlt : (bi + ec) < cnt)).2.1) ?_
  refine gs (fun t => XS.aconstNull X68.here hx rfl (hb hby d8_23)) ?_
  exact goR X68 hx Bd.notSynchronized Bd.returns rfl rfl (hb hby d8_24) (by rw [← hQQ, e68]; exact ⟨rfl, N0, rfl⟩) (by decide) (by decide)
def QluF1 (Z : State) (r0 : Addr) (cnt : Int32) (eb : Addr) (ec : Int32) (al : Addr) (bb : Addr) (bi : Int32) (ff : Nat → Value) (h0 : Heap) (n0 : Nat) (v : Option Value) (h : Heap) (L : List Loc) : Prop := v = some (.ref al) ∧ Fr n0 L ∧ Keep h0 h [r0, bb] ∧ Fld Z h r0 "weirline/runtime/InputChannels" "count" "I" (.int cnt) ∧ Fld Z h r0 "weirline/runtime/InputChannels" "ended" "[Z" (.ref eb) ∧ Fld Z h r0 "weirline/runtime/InputChannels" "endedCount" "I" (.int ec) ∧ Fld Z h r0 "weirline/runtime/InputChannels" "aligning" "Lweirline/runtime/CheckpointBarrier;" .null ∧ Fld Z h r0 "weirline/runtime/InputChannels" "barrierIn" "[Z" (.ref bb) ∧ Fld Z h r0 "weirline/runtime/InputChannels" "barriersIn" "I" (.int (0 : Int32)) ∧ Arf Z h bb .boolean 1 (fun _ => .int 0)
set_option maxRecDepth 65536 in
set_option maxHeartbeats 40000000 in
theorem luF1 (l : Launch) (Z : State) (a0 : Array Value) (hw : ∀ d ∈ tables_1, d.before a0 Z = true) (ws : List Jvm.Cond) (r0 : Addr) (cnt : Int32) (eb : Addr) (ec : Int32) (al : Addr) (bb : Addr) (bi : Int32) (ff : Nat → Value) (h0 : Heap) (n0 : Nat) (Z0 : n0 ≤ h0.size) (F_count_r0 : Fld Z h0 r0 "weirline/runtime/InputChannels" "count" "I" (.int cnt)) (F_ended_r0 : Fld Z h0 r0 "weirline/runtime/InputChannels" "ended" "[Z" (.ref eb)) (F_endedCount_r0 : Fld Z h0 r0 "weirline/runtime/InputChannels" "endedCount" "I" (.int ec)) (F_aligning_r0 : Fld Z h0 r0 "weirline/runtime/InputChannels" "aligning" "Lweirline/runtime/CheckpointBarrier;" (.ref al)) (F_barrierIn_r0 : Fld Z h0 r0 "weirline/runtime/InputChannels" "barrierIn" "[Z" (.ref bb)) (F_barriersIn_r0 : Fld Z h0 r0 "weirline/runtime/InputChannels" "barriersIn" "I" (.int bi)) (E_r0 : Exa Z h0 r0 "weirline/runtime/InputChannels") (V_bb : Arf Z h0 bb .boolean 1 ff) (ge_r0 : n0 ≤ r0) (ge_bb : n0 ≤ bb) (ne_r0_bb : r0 ≠ bb) (hlt : ¬ ((bi + ec) < cnt)) :
    MetFree l (⟨"weirline/runtime/InputChannels", "linedUp", "()Lweirline/runtime/CheckpointBarrier;"⟩ : MethodName) (head1 (Jvm.Cond.code (⟨"weirline/runtime/InputChannels", "linedUp", "()Lweirline/runtime/CheckpointBarrier;"⟩ : MethodName) prog_151_method_11_code 2 (some (.object "weirline/runtime/CheckpointBarrier")) :: ws) ({ frames := 1, cells := 0, slots := 0, locals := 15 } : Room)) (fun a U => a = #[(.ref r0)] ∧ Z.Warmed39 U.vm ∧ U.heap = h0) (fun _ _ _ _ _ => True) (fun _ U o U' => ∃ v L, o = .returned v ∧ QluF1 Z r0 cnt eb ec al bb bi ff h0 n0 v U'.heap L ∧ FrameEnd U o U' L ({ frames := 1, cells := 0, slots := 0, locals := 15 } : Room).cells ({ frames := 1, cells := 0, slots := 0, locals := 15 } : Room).slots) := by
  refine MetFree.of_bodySF (plainFor_of_name pn_8) hisR ?_
  intro p e s m args below meth c s₁ Bd hml0 hP hK
  obtain ⟨rfl, hZ, hh⟩ := hP
  have hx := Bd.exec
  have hby := Bd.bytes
  have hml : c.maxLocals = 2 := hml0
  have hown : s.vm.findClass "weirline/runtime/InputChannels" = some m.cls := findClass_of_methodNamed Bd.named
  have hnm := (name_of_methodNamed Bd.named Bd.method).1
  have X0 : Stand p l e ({ frames := 1, cells := 0, slots := 0, locals := 15 } : Room) s m #[(.ref r0)] below meth c s₁ [] 0 0 := Stand.of_body Bd
  have e0 : s₁.heap = h0 := by rw [← hh, Bd.state]; rfl
  have N0 := Fr.nil n0
  have ZZ := Z0
  have KK : Keep h0 h0 [r0, bb] := Keep.refl h0 _
  show Go p e below s (QluF1 Z r0 cnt eb ec al bb bi ff h0 n0) 0 0 (s₁.setTop (entryFrame m #[(.ref r0)] 2))
  generalize hQQ : (QluF1 Z r0 cnt eb ec al bb bi ff h0 n0) = QQ
  refine gs (fun t k => castTop (g' := (mkF m 0 #[rv r0, .unset] [])) (by first | (simp [entryFrame, mkF, argsToLocals, Value.category, maxLocals]; done) | rfl) k) ?_
  show Go p e below s QQ 0 0 (s₁.setTop (mkF m 0 #[rv r0, .unset] []))
  refine gs (fun t => XS.aloadN X0.here hx rfl (hb hby d8_0) rfl rfl) ?_
  obtain ⟨T69, X69, e69, st69⟩ := getF X0 hx hZ hown (host := "") (Or.inl (hw _ (List.mem_of_getElem? (i := 48) rfl))) Via.refl e0 F_aligning_r0 (g := (mkF m 1 #[rv r0, .unset] [(.ref r0)])) rfl rfl (hb hby d8_1)
  refine gs st69 ?_
  show Go p e below s QQ 0 0 (T69.setTop (mkF m 4 #[rv r0, .unset] [(.ref al)]))
  refine gs (fun t => XS.ifnullNo X69.here hx rfl (hb hby d8_4) rfl) ?_
  refine gs (fun t => XS.aloadN X69.here hx rfl (hb hby d8_7) rfl rfl) ?_
  obtain ⟨T70, X70, e70, st70⟩ := getF X69 hx hZ hown (host := "") (Or.inl (hw _ (List.mem_of_getElem? (i := 50) rfl))) Via.refl e69 F_barriersIn_r0 (g := (mkF m 8 #[rv r0, .unset] [(.ref r0)])) rfl rfl (hb hby d8_8)
  refine gs st70 ?_
  show Go p e below s QQ 0 0 (T70.setTop (mkF m 11 #[rv r0, .unset] [(.int bi)]))
  refine gs (fun t => XS.aloadN X70.here hx rfl (hb hby d8_11) rfl rfl) ?_
  obtain ⟨T71, X71, e71, st71⟩ := getF X70 hx hZ hown (host := "") (Or.inl (hw _ (List.mem_of_getElem? (i := 62) rfl))) Via.refl e70 F_endedCount_r0 (g := (mkF m 12 #[rv r0, .unset] [(.ref r0), (.int bi)])) rfl rfl (hb hby d8_12)
  refine gs st71 ?_
  show Go p e below s QQ 0 0 (T71.setTop (mkF m 15 #[rv r0, .unset] [(.int ec), (.int bi)]))
  refine gs (fun t => XS.iadd X71.here hx rfl (hb hby d8_15) rfl) ?_
  refine gs (fun t => XS.aloadN X71.here hx rfl (hb hby d8_16) rfl rfl) ?_
  obtain ⟨T72, X72, e72, st72⟩ := getF X71 hx hZ hown (host := "") (Or.inl (hw _ (List.mem_of_getElem? (i := 13) rfl))) Via.refl e71 F_count_r0 (g := (mkF m 17 #[rv r0, .unset] [(.ref r0), (.int (bi + ec))])) rfl rfl (hb hby d8_17)
  refine gs st72 ?_
  show Go p e below s QQ 0 0 (T72.setTop (mkF m 20 #[rv r0, .unset] [(.int cnt), (.int (bi + ec))]))
  refine gs (fun t => XS.icmpYes X72.here hx rfl (pc0 := 20) (pc' := 25) rfl (hb hby d8_20) rfl (flt (hlt : ¬ ((bi + ec) < cnt))).2.1 (by decide) (by decide)) ?_
  refine gs (fun t => XS.aloadN X72.here hx rfl (hb hby d8_25) rfl rfl) ?_
  obtain ⟨T73, X73, e73, st73⟩ := getF X72 hx hZ hown (host := "") (Or.inl (hw _ (List.mem_of_getElem? (i := 48) rfl))) Via.refl e72 F_aligning_r0 (g := (mkF m 26 #[rv r0, .unset] [(.ref r0)])) rfl rfl (hb hby d8_26)
  refine gs st73 ?_
  show Go p e below s QQ 0 0 (T73.setTop (mkF m 29 #[rv r0, .unset] [(.ref al)]))
  refine gs (fun t => XS.astoreN X73.here hx rfl (hb hby d8_29) rfl rfl (l' := #[rv r0, rv al]) rfl) ?_
  refine gs (fun t => XS.aloadN X73.here hx rfl (hb hby d8_30) rfl rfl) ?_
  refine gs (fun t => XS.aconstNull X73.here hx rfl (hb hby d8_31)) ?_
  obtain ⟨T74, h74, X74, e74, W74, st74⟩ := putF X73 hx hZ hown (host := "") (Or.inl (hw _ (List.mem_of_getElem? (i := 48) rfl))) Via.refl e73 F_aligning_r0 E_r0 (Or.inl (hw _ (List.mem_of_getElem? (i := 49) rfl))) (hw _ (List.mem_of_getElem? (i := 2) rfl)) (ty := (.object "weirline/runtime/CheckpointBarrier")) (by decide) rfl rfl (g := (mkF m 32 #[rv r0, rv al] [.null, (.ref r0)])) rfl rfl (hb hby d8_32)
  replace N0 := Fr.snoc X74 N0 ge_r0
  refine gs st74 ?_
  show Go p e below s QQ 0 0 (T74.setTop (mkF m 35 #[rv r0, rv al] []))
  replace F_count_r0 := F_count_r0.other W74 (Or.inr (slot_ne (Or.inr (hw _ (List.mem_of_getElem? (i := 14) rfl))) (Or.inl (hw _ (List.mem_of_getElem? (i := 49) rfl))) (by decide) (t := .int) (t' := (.object "weirline/runtime/CheckpointBarrier")) (by decide) (by decide)))
  replace F_ended_r0 := F_ended_r0.other W74 (Or.inr (slot_ne (Or.inr (hw _ (List.mem_of_getElem? (i := 22) rfl))) (Or.inl (hw _ (List.mem_of_getElem? (i := 49) rfl))) (by decide) (t := (.array .boolean)) (t' := (.object "weirline/runtime/CheckpointBarrier")) (by decide) (by decide)))
  replace F_endedCount_r0 := F_endedCount_r0.other W74 (Or.inr (slot_ne (Or.inl (hw _ (List.mem_of_getElem? (i := 63) rfl))) (Or.inl (hw _ (List.mem_of_getElem? (i := 49) rfl))) (by decide) (t := .int) (t' := (.object "weirline/runtime/CheckpointBarrier")) (by decide) (by decide)))
  replace F_aligning_r0 := F_aligning_r0.same W74
  replace F_barrierIn_r0 := F_barrierIn_r0.other W74 (Or.inr (slot_ne (Or.inr (hw _ (List.mem_of_getElem? (i := 24) rfl))) (Or.inl (hw _ (List.mem_of_getElem? (i := 49) rfl))) (by decide) (t := (.array .boolean)) (t' := (.object "weirline/runtime/CheckpointBarrier")) (by decide) (by decide)))
  replace F_barriersIn_r0 := F_barriersIn_r0.other W74 (Or.inr (slot_ne (Or.inl (hw _ (List.mem_of_getElem? (i := 51) rfl))) (Or.inl (hw _ (List.mem_of_getElem? (i := 49) rfl))) (by decide) (t := .int) (t' := (.object "weirline/runtime/CheckpointBarrier")) (by decide) (by decide)))
  replace E_r0 := E_r0.wr W74
  replace V_bb := V_bb.other W74 (Ne.symm ne_r0_bb)
  replace ZZ : n0 ≤ h74.size := by rw [W74.size]; exact ZZ
  replace KK := KK.wr W74 (Or.inl (by simp))
  refine gs (fun t => XS.aloadN X74.here hx rfl (hb hby d8_35) rfl rfl) ?_
  obtain ⟨T75, X75, e75, st75⟩ := getF X74 hx hZ hown (host := "") (Or.inl (hw _ (List.mem_of_getElem? (i := 23) rfl))) Via.refl e74 F_barrierIn_r0 (g := (mkF m 36 #[rv r0, rv al] [(.ref r0)])) rfl rfl (hb hby d8_36)
  refine gs st75 ?_
  show Go p e below s QQ 0 0 (T75.setTop (mkF m 39 #[rv r0, rv al] [(.ref bb)]))
  refine gs (fun t => XS.iconst X75.here hx rfl (hb hby d8_39)) ?_
  obtain ⟨_, _, ⟨T76, L76, k76, n76⟩, -, X76, ⟨Lc76, hQ76, l76, y76, z76⟩, st76⟩ := Jvm.LawKit.callS X75 hx (y := (⟨"java/util/Arrays", "fill", "([ZZ)V"⟩ : MethodName)) hown (mvT hZ (hw _ (List.mem_of_getElem? (i := 64) rfl))) (mvT hZ (hw _ (List.mem_of_getElem? (i := 65) rfl))) (mvT hZ (hw _ (List.mem_of_getElem? (i := 27) rfl))) (mvT hZ (hw _ (List.mem_of_getElem? (i := 66) rfl))) (by decide) (backOf (W := 0) (fillZ1 l Z a0 hw [] bb ff h74 n0 ZZ V_bb ge_bb) hZ (hw _ (List.mem_of_getElem? (i := 66) rfl)) (hw _ (List.mem_of_getElem? (i := 27) rfl)) (by decide) (by decide)) (g := (mkF m 40 #[rv r0, rv al] [(.int (0 : Int32)), (.ref bb)])) rfl (by rw [hml]; rfl) (argsL := [(.ref bb), (.int (0 : Int32))]) (rest := []) (lenOf pd_2 rfl) rfl (by show 2 * 0 + _ ≤ _; exact Nat.le_of_eq rfl) (hb hby d8_40) (fun _ _ => ⟨rfl, e75, (by decide : 0 + 0 ≤ _), (by decide : 0 + 0 ≤ _)⟩)
  dsimp only [Pt.U, Pt.locs, Pt.cells, Pt.slots] at X76 l76 y76 z76 st76 hQ76
  subst l76 y76 z76
  obtain ⟨rfl, N76q, K76, Vn76⟩ := hQ76
  replace N0 := Fr.app N0 N76q
  refine gs st76 ?_
  show Go p e below s QQ 0 0 (T76.setTop (mkF m 43 #[rv r0, rv al] []))
  replace F_count_r0 := F_count_r0.keep K76 (ninS ne_r0_bb nin0)
  replace F_ended_r0 := F_ended_r0.keep K76 (ninS ne_r0_bb nin0)
  replace F_endedCount_r0 := F_endedCount_r0.keep K76 (ninS ne_r0_bb nin0)
  replace F_aligning_r0 := F_aligning_r0.keep K76 (ninS ne_r0_bb nin0)
  replace F_barrierIn_r0 := F_barrierIn_r0.keep K76 (ninS ne_r0_bb nin0)
  replace F_barriersIn_r0 := F_barriersIn_r0.keep K76 (ninS ne_r0_bb nin0)
  replace E_r0 := E_r0.keep K76
  replace ZZ := Nat.le_trans ZZ K76.1
  replace KK := KK.trans K76 (allS (Or.inl (by simp)) all0)
  have V_bb := Vn76
  refine gs (fun t => XS.aloadN X76.here hx rfl (hb hby d8_43) rfl rfl) ?_
  refine gs (fun t => XS.iconst X76.here hx rfl (hb hby d8_44)) ?_
  obtain ⟨T77, h77, X77, e77, W77, st77⟩ := putF X76 hx hZ hown (host := "") (Or.inl (hw _ (List.mem_of_getElem? (i := 50) rfl))) Via.refl rfl F_barriersIn_r0 E_r0 (Or.inl (hw _ (List.mem_of_getElem? (i := 51) rfl))) (hw _ (List.mem_of_getElem? (i := 2) rfl)) (ty := .int) (by decide) rfl rfl (g := (mkF m 45 #[rv r0, rv al] [(.int (0 : Int32)), (.ref r0)])) rfl rfl (hb hby d8_45)
  replace N0 := Fr.snoc X77 N0 ge_r0
  refine gs st77 ?_
  show Go p e below s QQ 0 0 (T77.setTop (mkF m 48 #[rv r0, rv al] []))
  replace F_count_r0 := F_count_r0.other W77 (Or.inr (slot_ne (Or.inr (hw _ (List.mem_of_getElem? (i := 14) rfl))) (Or.inl (hw _ (List.mem_of_getElem? (i := 51) rfl))) (by decide) (t := .int) (t' := .int) (by decide) (by decide)))
  replace F_ended_r0 := F_ended_r0.other W77 (Or.inr (slot_ne (Or.inr (hw _ (List.mem_of_getElem? (i := 22) rfl))) (Or.inl (hw _ (List.mem_of_getElem? (i := 51) rfl))) (by decide) (t := (.array .boolean)) (t' := .int) (by decide) (by decide)))
  replace F_endedCount_r0 := F_endedCount_r0.other W77 (Or.inr (slot_ne (Or.inl (hw _ (List.mem_of_getElem? (i := 63) rfl))) (Or.inl (hw _ (List.mem_of_getElem? (i := 51) rfl))) (by decide) (t := .int) (t' := .int) (by decide) (by decide)))
  replace F_aligning_r0 := F_aligning_r0.other W77 (Or.inr (slot_ne (Or.inl (hw _ (List.mem_of_getElem? (i := 49) rfl))) (Or.inl (hw _ (List.mem_of_getElem? (i := 51) rfl))) (by decide) (t := (.object "weirline/runtime/CheckpointBarrier")) (t' := .int) (by decide) (by decide)))
  replace F_barrierIn_r0 := F_barrierIn_r0.other W77 (Or.inr (slot_ne (Or.inr (hw _ (List.mem_of_getElem? (i := 24) rfl))) (Or.inl (hw _ (List.mem_of_getElem? (i := 51) rfl))) (by decide) (t := (.array .boolean)) (t' := .int) (by decide) (by decide)))
  replace F_barriersIn_r0 := F_barriersIn_r0.same W77
  replace E_r0 := E_r0.wr W77
  replace V_bb := V_bb.other W77 (Ne.symm ne_r0_bb)
  replace ZZ : n0 ≤ h77.size := by rw [W77.size]; exact ZZ
  replace KK := KK.wr W77 (Or.inl (by simp))
  refine gs (fun t => XS.aloadN X77.here hx rfl (hb hby d8_48) rfl rfl) ?_
  exact goR X77 hx Bd.notSynchronized Bd.returns rfl rfl (hb hby d8_49) (by rw [← hQQ, e77]; exact ⟨rfl, N0, KK, F_count_r0, F_ended_r0, F_endedCount_r0, F_aligning_r0, F_barrierIn_r0, F_barriersIn_r0, V_bb⟩) (by decide) (by decide)
def QluF2 (Z : State) (r0 : Addr) (cnt : Int32) (eb : Addr) (ec : Int32) (al : Addr) (bb : Addr) (bi : Int32) (ff : Nat → Value) (h0 : Heap) (n0 : Nat) (v : Option Value) (h : Heap) (L : List Loc) : Prop := v = some (.ref al) ∧ Fr n0 L ∧ Keep h0 h [r0, bb] ∧ Fld Z h r0 "weirline/runtime/InputChannels" "count" "I" (.int cnt) ∧ Fld Z h r0 "weirline/runtime/InputChannels" "ended" "[Z" (.ref eb) ∧ Fld Z h r0 "weirline/runtime/InputChannels" "endedCount" "I" (.int ec) ∧ Fld Z h r0 "weirline/runtime/InputChannels" "aligning" "Lweirline/runtime/CheckpointBarrier;" .null ∧ Fld Z h r0 "weirline/runtime/InputChannels" "barrierIn" "[Z" (.ref bb) ∧ Fld Z h r0 "weirline/runtime/InputChannels" "barriersIn" "I" (.int (0 : Int32)) ∧ Arf Z h bb .boolean 2 (fun _ => .int 0)
set_option maxRecDepth 65536 in
set_option maxHeartbeats 40000000 in
theorem luF2 (l : Launch) (Z : State) (a0 : Array Value) (hw : ∀ d ∈ tables_1, d.before a0 Z = true) (ws : List Jvm.Cond) (r0 : Addr) (cnt : Int32) (eb : Addr) (ec : Int32) (al : Addr) (bb : Addr) (bi : Int32) (ff : Nat → Value) (h0 : Heap) (n0 : Nat) (Z0 : n0 ≤ h0.size) (F_count_r0 : Fld Z h0 r0 "weirline/runtime/InputChannels" "count" "I" (.int cnt)) (F_ended_r0 : Fld Z h0 r0 "weirline/runtime/InputChannels" "ended" "[Z" (.ref eb)) (F_endedCount_r0 : Fld Z h0 r0 "weirline/runtime/InputChannels" "endedCount" "I" (.int ec)) (F_aligning_r0 : Fld Z h0 r0 "weirline/runtime/InputChannels" "aligning" "Lweirline/runtime/CheckpointBarrier;" (.ref al)) (F_barrierIn_r0 : Fld Z h0 r0 "weirline/runtime/InputChannels" "barrierIn" "[Z" (.ref bb)) (F_barriersIn_r0 : Fld Z h0 r0 "weirline/runtime/InputChannels" "barriersIn" "I" (.int bi)) (E_r0 : Exa Z h0 r0 "weirline/runtime/InputChannels") (V_bb : Arf Z h0 bb .boolean 2 ff) (ge_r0 : n0 ≤ r0) (ge_bb : n0 ≤ bb) (ne_r0_bb : r0 ≠ bb) (hlt : ¬ ((bi + ec) < cnt)) :
    MetFree l (⟨"weirline/runtime/InputChannels", "linedUp", "()Lweirline/runtime/CheckpointBarrier;"⟩ : MethodName) (head1 (Jvm.Cond.code (⟨"weirline/runtime/InputChannels", "linedUp", "()Lweirline/runtime/CheckpointBarrier;"⟩ : MethodName) prog_151_method_11_code 2 (some (.object "weirline/runtime/CheckpointBarrier")) :: ws) ({ frames := 1, cells := 0, slots := 0, locals := 15 } : Room)) (fun a U => a = #[(.ref r0)] ∧ Z.Warmed39 U.vm ∧ U.heap = h0) (fun _ _ _ _ _ => True) (fun _ U o U' => ∃ v L, o = .returned v ∧ QluF2 Z r0 cnt eb ec al bb bi ff h0 n0 v U'.heap L ∧ FrameEnd U o U' L ({ frames := 1, cells := 0, slots := 0, locals := 15 } : Room).cells ({ frames := 1, cells := 0, slots := 0, locals := 15 } : Room).slots) := by
  refine MetFree.of_bodySF (plainFor_of_name pn_8) hisR ?_
  intro p e s m args below meth c s₁ Bd hml0 hP hK
  obtain ⟨rfl, hZ, hh⟩ := hP
  have hx := Bd.exec
  have hby := Bd.bytes
  have hml : c.maxLocals = 2 := hml0
  have hown : s.vm.findClass "weirline/runtime/InputChannels" = some m.cls := findClass_of_methodNamed Bd.named
  have hnm := (name_of_methodNamed Bd.named Bd.method).1
  have X0 : Stand p l e ({ frames := 1, cells := 0, slots := 0, locals := 15 } : Room) s m #[(.ref r0)] below meth c s₁ [] 0 0 := Stand.of_body Bd
  have e0 : s₁.heap = h0 := by rw [← hh, Bd.state]; rfl
  have N0 := Fr.nil n0
  have ZZ := Z0
  have KK : Keep h0 h0 [r0, bb] := Keep.refl h0 _
  show Go p e below s (QluF2 Z r0 cnt eb ec al bb bi ff h0 n0) 0 0 (s₁.setTop (entryFrame m #[(.ref r0)] 2))
  generalize hQQ : (QluF2 Z r0 cnt eb ec al bb bi ff h0 n0) = QQ
  refine gs (fun t k => castTop (g' := (mkF m 0 #[rv r0, .unset] [])) (by first | (simp [entryFrame, mkF, argsToLocals, Value.category, maxLocals]; done) | rfl) k) ?_
  show Go p e below s QQ 0 0 (s₁.setTop (mkF m 0 #[rv r0, .unset] []))
  refine gs (fun t => XS.aloadN X0.here hx rfl (hb hby d8_0) rfl rfl) ?_
  obtain ⟨T78, X78, e78, st78⟩ := getF X0 hx hZ hown (host := "") (Or.inl (hw _ (List.mem_of_getElem? (i := 48) rfl))) Via.refl e0 F_aligning_r0 (g := (mkF m 1 #[rv r0, .unset] [(.ref r0)])) rfl rfl (hb hby d8_1)
  refine gs st78 ?_
  show Go p e below s QQ 0 0 (T78.setTop (mkF m 4 #[rv r0, .unset] [(.ref al)]))
  refine gs (fun t => XS.ifnullNo X78.here hx rfl (hb hby d8_4) rfl) ?_
  refine gs (fun t => XS.aloadN X78.here hx rfl (hb hby d8_7) rfl rfl) ?_
  obtain ⟨T79, X79, e79, st79⟩ := getF X78 hx hZ hown (host := "") (Or.inl (hw _ (List.mem_of_getElem? (i := 50) rfl))) Via.refl e78 F_barriersIn_r0 (g := (mkF m 8 #[rv r0, .unset] [(.ref r0)])) rfl rfl (hb hby d8_8)
  refine gs st79 ?_
  show Go p e below s QQ 0 0 (T79.setTop (mkF m 11 #[rv r0, .unset] [(.int bi)]))
  refine gs (fun t => XS.aloadN X79.here hx rfl (hb hby d8_11) rfl rfl) ?_
  obtain ⟨T80, X80, e80, st80⟩ := getF X79 hx hZ hown (host := "") (Or.inl (hw _ (List.mem_of_getElem? (i := 62) rfl))) Via.refl e79 F_endedCount_r0 (g := (mkF m 12 #[rv r0, .unset] [(.ref r0), (.int bi)])) rfl rfl (hb hby d8_12)
  refine gs st80 ?_
  show Go p e below s QQ 0 0 (T80.setTop (mkF m 15 #[rv r0, .unset] [(.int ec), (.int bi)]))
  refine gs (fun t => XS.iadd X80.here hx rfl (hb hby d8_15) rfl) ?_
  refine gs (fun t => XS.aloadN X80.here hx rfl (hb hby d8_16) rfl rfl) ?_
  obtain ⟨T81, X81, e81, st81⟩ := getF X80 hx hZ hown (host := "") (Or.inl (hw _ (List.mem_of_getElem? (i := 13) rfl))) Via.refl e80 F_count_r0 (g := (mkF m 17 #[rv r0, .unset] [(.ref r0), (.int (bi + ec))])) rfl rfl (hb hby d8_17)
  refine gs st81 ?_
  show Go p e below s QQ 0 0 (T81.setTop (mkF m 20 #[rv r0, .unset] [(.int cnt), (.int (bi + ec))]))
  refine gs (fun t => XS.icmpYes X81.here hx rfl (pc0 := 20) (pc' := 25) rfl (hb hby d8_20) rfl (flt (hlt : ¬ ((bi + ec) < cnt))).2.1 (by decide) (by decide)) ?_
  refine gs (fun t => XS.aloadN X81.here hx rfl (hb hby d8_25) rfl rfl) ?_
  obtain ⟨T82, X82, e82, st82⟩ := getF X81 hx hZ hown (host := "") (Or.inl (hw _ (List.mem_of_getElem? (i := 48) rfl))) Via.refl e81 F_aligning_r0 (g := (mkF m 26 #[rv r0, .unset] [(.ref r0)])) rfl rfl (hb hby d8_26)
  refine gs st82 ?_
  show Go p e below s QQ 0 0 (T82.setTop (mkF m 29 #[rv r0, .unset] [(.ref al)]))
  refine gs (fun t => XS.astoreN X82.here hx rfl (hb hby d8_29) rfl rfl (l' := #[rv r0, rv al]) rfl) ?_
  refine gs (fun t => XS.aloadN X82.here hx rfl (hb hby d8_30) rfl rfl) ?_
  refine gs (fun t => XS.aconstNull X82.here hx rfl (hb hby d8_31)) ?_
  obtain ⟨T83, h83, X83, e83, W83, st83⟩ := putF X82 hx hZ hown (host := "") (Or.inl (hw _ (List.mem_of_getElem? (i := 48) rfl))) Via.refl e82 F_aligning_r0 E_r0 (Or.inl (hw _ (List.mem_of_getElem? (i := 49) rfl))) (hw _ (List.mem_of_getElem? (i := 2) rfl)) (ty := (.object "weirline/runtime/CheckpointBarrier")) (by decide) rfl rfl (g := (mkF m 32 #[rv r0, rv al] [.null, (.ref r0)])) rfl rfl (hb hby d8_32)
  replace N0 := Fr.snoc X83 N0 ge_r0
  refine gs st83 ?_
  show Go p e below s QQ 0 0 (T83.setTop (mkF m 35 #[rv r0, rv al] []))
  replace F_count_r0 := F_count_r0.other W83 (Or.inr (slot_ne (Or.inr (hw _ (List.mem_of_getElem? (i := 14) rfl))) (Or.inl (hw _ (List.mem_of_getElem? (i := 49) rfl))) (by decide) (t := .int) (t' := (.object "weirline/runtime/CheckpointBarrier")) (by decide) (by decide)))
  replace F_ended_r0 := F_ended_r0.other W83 (Or.inr (slot_ne (Or.inr (hw _ (List.mem_of_getElem? (i := 22) rfl))) (Or.inl (hw _ (List.mem_of_getElem? (i := 49) rfl))) (by decide) (t := (.array .boolean)) (t' := (.object "weirline/runtime/CheckpointBarrier")) (by decide) (by decide)))
  replace F_endedCount_r0 := F_endedCount_r0.other W83 (Or.inr (slot_ne (Or.inl (hw _ (List.mem_of_getElem? (i := 63) rfl))) (Or.inl (hw _ (List.mem_of_getElem? (i := 49) rfl))) (by decide) (t := .int) (t' := (.object "weirline/runtime/CheckpointBarrier")) (by decide) (by decide)))
  replace F_aligning_r0 := F_aligning_r0.same W83
  replace F_barrierIn_r0 := F_barrierIn_r0.other W83 (Or.inr (slot_ne (Or.inr (hw _ (List.mem_of_getElem? (i := 24) rfl))) (Or.inl (hw _ (List.mem_of_getElem? (i := 49) rfl))) (by decide) (t := (.array .boolean)) (t' := (.object "weirline/runtime/CheckpointBarrier")) (by decide) (by decide)))
  replace F_barriersIn_r0 := F_barriersIn_r0.other W83 (Or.inr (slot_ne (Or.inl (hw _ (List.mem_of_getElem? (i := 51) rfl))) (Or.inl (hw _ (List.mem_of_getElem? (i := 49) rfl))) (by decide) (t := .int) (t' := (.object "weirline/runtime/CheckpointBarrier")) (by decide) (by decide)))
  replace E_r0 := E_r0.wr W83
  replace V_bb := V_bb.other W83 (Ne.symm ne_r0_bb)
  replace ZZ : n0 ≤ h83.size := by rw [W83.size]; exact ZZ
  replace KK := KK.wr W83 (Or.inl (by simp))
  refine gs (fun t => XS.aloadN X83.here hx rfl (hb hby d8_35) rfl rfl) ?_
  obtain ⟨T84, X84, e84, st84⟩ := getF X83 hx hZ hown (host := "") (Or.inl (hw _ (List.mem_of_getElem? (i := 23) rfl))) Via.refl e83 F_barrierIn_r0 (g := (mkF m 36 #[rv r0, rv al] [(.ref r0)])) rfl rfl (hb hby d8_36)
  refine gs st84 ?_
  show Go p e below s QQ 0 0 (T84.setTop (mkF m 39 #[rv r0, rv al] [(.ref bb)]))
  refine gs (fun t => XS.iconst X84.here hx rfl (hb hby d8_39)) ?_
  obtain ⟨_, _, ⟨T85, L85, k85, n85⟩, -, X85, ⟨Lc85, hQ85, l85, y85, z85⟩, st85⟩ := Jvm.LawKit.callS X84 hx (y := (⟨"java/util/Arrays", "fill", "([ZZ)V"⟩ : MethodName)) hown (mvT hZ (hw _ (List.mem_of_getElem? (i := 64) rfl))) (mvT hZ (hw _ (List.mem_of_getElem? (i := 65) rfl))) (mvT hZ (hw _ (List.mem_of_getElem? (i := 27) rfl))) (mvT hZ (hw _ (List.mem_of_getElem? (i := 66) rfl))) (by decide) (backOf (W := 0) (fillZ2 l Z a0 hw [] bb ff h83 n0 ZZ V_bb ge_bb) hZ (hw _ (List.mem_of_getElem? (i := 66) rfl)) (hw _ (List.mem_of_getElem? (i := 27) rfl)) (by decide) (by decide)) (g := (mkF m 40 #[rv r0, rv al] [(.int (0 : Int32)), (.ref bb)])) rfl (by rw [hml]; rfl) (argsL := [(.ref bb), (.int (0 : Int32))]) (rest := []) (lenOf pd_2 rfl) rfl (by show 2 * 0 + _ ≤ _; exact Nat.le_of_eq rfl) (hb hby d8_40) (fun _ _ => ⟨rfl, e84, (by decide : 0 + 0 ≤ _), (by decide : 0 + 0 ≤ _)⟩)
  dsimp only [Pt.U, Pt.locs, Pt.cells, Pt.slots] at X85 l85 y85 z85 st85 hQ85
  subst l85 y85 z85
  obtain ⟨rfl, N85q, K85, Vn85⟩ := hQ85
  replace N0 := Fr.app N0 N85q
  refine gs st85 ?_
  show Go p e below s QQ 0 0 (T85.setTop (mkF m 43 #[rv r0, rv al] []))
  replace F_count_r0 := F_count_r0.keep K85 (ninS ne_r0_bb nin0)
  replace F_ended_r0 := F_ended_r0.keep K85 (ninS ne_r0_bb nin0)
  replace F_endedCount_r0 := F_endedCount_r0.keep K85 (ninS ne_r0_bb nin0)
  replace F_aligning_r0 := F_aligning_r0.keep K85 (ninS ne_r0_bb nin0)
  replace F_barrierIn_r0 := F_barrierIn_r0.keep K85 (ninS ne_r0_bb nin0)
  replace F_barriersIn_r0 := F_barriersIn_r0.keep K85 (ninS ne_r0_bb nin0)
  replace E_r0 := E_r0.keep K85
  replace ZZ := Nat.le_trans ZZ K85.1
  replace KK := KK.trans K85 (allS (Or.inl (by simp)) all0)
  have V_bb := Vn85
  refine gs (fun t => XS.aloadN X85.here hx rfl (hb hby d8_43) rfl rfl) ?_
  refine gs (fun t => XS.iconst X85.here hx rfl (hb hby d8_44)) ?_
  obtain ⟨T86, h86, X86, e86, W86, st86⟩ := putF X85 hx hZ hown (host := "") (Or.inl (hw _ (List.mem_of_getElem? (i := 50) rfl))) Via.refl rfl F_barriersIn_r0 E_r0 (Or.inl (hw _ (List.mem_of_getElem? (i := 51) rfl))) (hw _ (List.mem_of_getElem? (i := 2) rfl)) (ty := .int) (by decide) rfl rfl (g := (mkF m 45 #[rv r0, rv al] [(.int (0 : Int32)), (.ref r0)])) rfl rfl (hb hby d8_45)
  replace N0 := Fr.snoc X86 N0 ge_r0
  refine gs st86 ?_
  show Go p e below s QQ 0 0 (T86.setTop (mkF m 48 #[rv r0, rv al] []))
  replace F_count_r0 := F_count_r0.other W86 (Or.inr (slot_ne (Or.inr (hw _ (List.mem_of_getElem? (i := 14) rfl))) (Or.inl (hw _ (List.mem_of_getElem? (i := 51) rfl))) (by decide) (t := .int) (t' := .int) (by decide) (by decide)))
  replace F_ended_r0 := F_ended_r0.other W86 (Or.inr (slot_ne (Or.inr (hw _ (List.mem_of_getElem? (i := 22) rfl))) (Or.inl (hw _ (List.mem_of_getElem? (i := 51) rfl))) (by decide) (t := (.array .boolean)) (t' := .int) (by decide) (by decide)))
  replace F_endedCount_r0 := F_endedCount_r0.other W86 (Or.inr (slot_ne (Or.inl (hw _ (List.mem_of_getElem? (i := 63) rfl))) (Or.inl (hw _ (List.mem_of_getElem? (i := 51) rfl))) (by decide) (t := .int) (t' := .int) (by decide) (by decide)))
  replace F_aligning_r0 := F_aligning_r0.other W86 (Or.inr (slot_ne (Or.inl (hw _ (List.mem_of_getElem? (i := 49) rfl))) (Or.inl (hw _ (List.mem_of_getElem? (i := 51) rfl))) (by decide) (t := (.object "weirline/runtime/CheckpointBarrier")) (t' := .int) (by decide) (by decide)))
  replace F_barrierIn_r0 := F_barrierIn_r0.other W86 (Or.inr (slot_ne (Or.inr (hw _ (List.mem_of_getElem? (i := 24) rfl))) (Or.inl (hw _ (List.mem_of_getElem? (i := 51) rfl))) (by decide) (t := (.array .boolean)) (t' := .int) (by decide) (by decide)))
  replace F_barriersIn_r0 := F_barriersIn_r0.same W86
  replace E_r0 := E_r0.wr W86
  replace V_bb := V_bb.other W86 (Ne.symm ne_r0_bb)
  replace ZZ : n0 ≤ h86.size := by rw [W86.size]; exact ZZ
  replace KK := KK.wr W86 (Or.inl (by simp))
  refine gs (fun t => XS.aloadN X86.here hx rfl (hb hby d8_48) rfl rfl) ?_
  exact goR X86 hx Bd.notSynchronized Bd.returns rfl rfl (hb hby d8_49) (by rw [← hQQ, e86]; exact ⟨rfl, N0, KK, F_count_r0, F_ended_r0, F_endedCount_r0, F_aligning_r0, F_barrierIn_r0, F_barriersIn_r0, V_bb⟩) (by decide) (by decide)
def QluF3 (Z : State) (r0 : Addr) (cnt : Int32) (eb : Addr) (ec : Int32) (al : Addr) (bb : Addr) (bi : Int32) (ff : Nat → Value) (h0 : Heap) (n0 : Nat) (v : Option Value) (h : Heap) (L : List Loc) : Prop := v = some (.ref al) ∧ Fr n0 L ∧ Keep h0 h [r0, bb] ∧ Fld Z h r0 "weirline/runtime/InputChannels" "count" "I" (.int cnt) ∧ Fld Z h r0 "weirline/runtime/InputChannels" "ended" "[Z" (.ref eb) ∧ Fld Z h r0 "weirline/runtime/InputChannels" "endedCount" "I" (.int ec) ∧ Fld Z h r0 "weirline/runtime/InputChannels" "aligning" "Lweirline/runtime/CheckpointBarrier;" .null ∧ Fld Z h r0 "weirline/runtime/InputChannels" "barrierIn" "[Z" (.ref bb) ∧ Fld Z h r0 "weirline/runtime/InputChannels" "barriersIn" "I" (.int (0 : Int32)) ∧ Arf Z h bb .boolean 3 (fun _ => .int 0)
set_option maxRecDepth 65536 in
set_option maxHeartbeats 40000000 in
theorem luF3 (l : Launch) (Z : State) (a0 : Array Value) (hw : ∀ d ∈ tables_1, d.before a0 Z = true) (ws : List Jvm.Cond) (r0 : Addr) (cnt : Int32) (eb : Addr) (ec : Int32) (al : Addr) (bb : Addr) (bi : Int32) (ff : Nat → Value) (h0 : Heap) (n0 : Nat) (Z0 : n0 ≤ h0.size) (F_count_r0 : Fld Z h0 r0 "weirline/runtime/InputChannels" "count" "I" (.int cnt)) (F_ended_r0 : Fld Z h0 r0 "weirline/runtime/InputChannels" "ended" "[Z" (.ref eb)) (F_endedCount_r0 : Fld Z h0 r0 "weirline/runtime/InputChannels" "endedCount" "I" (.int ec)) (F_aligning_r0 : Fld Z h0 r0 "weirline/runtime/InputChannels" "aligning" "Lweirline/runtime/CheckpointBarrier;" (.ref al)) (F_barrierIn_r0 : Fld Z h0 r0 "weirline/runtime/InputChannels" "barrierIn" "[Z" (.ref bb)) (F_barriersIn_r0 : Fld Z h0 r0 "weirline/runtime/InputChannels" "barriersIn" "I" (.int bi)) (E_r0 : Exa Z h0 r0 "weirline/runtime/InputChannels") (V_bb : Arf Z h0 bb .boolean 3 ff) (ge_r0 : n0 ≤ r0) (ge_bb : n0 ≤ bb) (ne_r0_bb : r0 ≠ bb) (hlt : ¬ ((bi + ec) < cnt)) :
    MetFree l (⟨"weirline/runtime/InputChannels", "linedUp", "()Lweirline/runtime/CheckpointBarrier;"⟩ : MethodName) (head1 (Jvm.Cond.code (⟨"weirline/runtime/InputChannels", "linedUp", "()Lweirline/runtime/CheckpointBarrier;"⟩ : MethodName) prog_151_method_11_code 2 (some (.object "weirline/runtime/CheckpointBarrier")) :: ws) ({ frames := 1, cells := 0, slots := 0, locals := 15 } : Room)) (fun a U => a = #[(.ref r0)] ∧ Z.Warmed39 U.vm ∧ U.heap = h0) (fun _ _ _ _ _ => True) (fun _ U o U' => ∃ v L, o = .returned v ∧ QluF3 Z r0 cnt eb ec al bb bi ff h0 n0 v U'.heap L ∧ FrameEnd U o U' L ({ frames := 1, cells := 0, slots := 0, locals := 15 } : Room).cells ({ frames := 1, cells := 0, slots := 0, locals := 15 } : Room).slots) := by
  refine MetFree.of_bodySF (plainFor_of_name pn_8) hisR ?_
  intro p e s m args below meth c s₁ Bd hml0 hP hK
  obtain ⟨rfl, hZ, hh⟩ := hP
  have hx := Bd.exec
  have hby := Bd.bytes
  have hml : c.maxLocals = 2 := hml0
  have hown : s.vm.findClass "weirline/runtime/InputChannels" = some m.cls := findClass_of_methodNamed Bd.named
  have hnm := (name_of_methodNamed Bd.named Bd.method).1
  have X0 : Stand p l e ({ frames := 1, cells := 0, slots := 0, locals := 15 } : Room) s m #[(.ref r0)] below meth c s₁ [] 0 0 := Stand.of_body Bd
  have e0 : s₁.heap = h0 := by rw [← hh, Bd.state]; rfl
  have N0 := Fr.nil n0
  have ZZ := Z0
  have KK : Keep h0 h0 [r0, bb] := Keep.refl h0 _
  show Go p e below s (QluF3 Z r0 cnt eb ec al bb bi ff h0 n0) 0 0 (s₁.setTop (entryFrame m #[(.ref r0)] 2))
  generalize hQQ : (QluF3 Z r0 cnt eb ec al bb bi ff h0 n0) = QQ
  refine gs (fun t k => castTop (g' := (mkF m 0 #[rv r0, .unset] [])) (by first | (simp [entryFrame, mkF, argsToLocals, Value.category, maxLocals]; done) | rfl) k) ?_
  show Go p e below s QQ 0 0 (s₁.setTop (mkF m 0 #[rv r0, .unset] []))
  refine gs (fun t => XS.aloadN X0.here hx rfl (hb hby d8_0) rfl rfl) ?_
  obtain ⟨T87, X87, e87, st87⟩ := getF X0 hx hZ hown (host := "") (Or.inl (hw _ (List.mem_of_getElem? (i := 48) rfl))) Via.refl e0 F_aligning_r0 (g := (mkF m 1 #[rv r0, .unset] [(.ref r0)])) rfl rfl (hb hby d8_1)
  refine gs st87 ?_
  show Go p e below s QQ 0 0 (T87.setTop (mkF m 4 #[rv r0, .unset] [(.ref al)]))
  refine gs (fun t => XS.ifnullNo X87.here hx rfl (hb hby d8_4) rfl) ?_
  refine gs (fun t => XS.aloadN X87.here hx rfl (hb hby d8_7) rfl rfl) ?_
  obtain ⟨T88, X88, e88, st88⟩ := getF X87 hx hZ hown (host := "") (Or.inl (hw _ (List.mem_of_getElem? (i := 50) rfl))) Via.refl e87 F_barriersIn_r0 (g := (mkF m 8 #[rv r0, .unset] [(.ref r0)])) rfl rfl (hb hby d8_8)
  refine gs st88 ?_
  show Go p e below s QQ 0 0 (T88.setTop (mkF m 11 #[rv r0, .unset] [(.int bi)]))
  refine gs (fun t => XS.aloadN X88.here hx rfl (hb hby d8_11) rfl rfl) ?_
  obtain ⟨T89, X89, e89, st89⟩ := getF X88 hx hZ hown (host := "") (Or.inl (hw _ (List.mem_of_getElem? (i := 62) rfl))) Via.refl e88 F_endedCount_r0 (g := (mkF m 12 #[rv r0, .unset] [(.ref r0), (.int bi)])) rfl rfl (hb hby d8_12)
  refine gs st89 ?_
  show Go p e below s QQ 0 0 (T89.setTop (mkF m 15 #[rv r0, .unset] [(.int ec), (.int bi)]))
  refine gs (fun t => XS.iadd X89.here hx rfl (hb hby d8_15) rfl) ?_
  refine gs (fun t => XS.aloadN X89.here hx rfl (hb hby d8_16) rfl rfl) ?_
  obtain ⟨T90, X90, e90, st90⟩ := getF X89 hx hZ hown (host := "") (Or.inl (hw _ (List.mem_of_getElem? (i := 13) rfl))) Via.refl e89 F_count_r0 (g := (mkF m 17 #[rv r0, .unset] [(.ref r0), (.int (bi + ec))])) rfl rfl (hb hby d8_17)
  refine gs st90 ?_
  show Go p e below s QQ 0 0 (T90.setTop (mkF m 20 #[rv r0, .unset] [(.int cnt), (.int (bi + ec))]))
  refine gs (fun t => XS.icmpYes X90.here hx rfl (pc0 := 20) (pc' := 25) rfl (hb hby d8_20) rfl (flt (hlt : ¬ ((bi + ec) < cnt))).2.1 (by decide) (by decide)) ?_
  refine gs (fun t => XS.aloadN X90.here hx rfl (hb hby d8_25) rfl rfl) ?_
  obtain ⟨T91, X91, e91, st91⟩ := getF X90 hx hZ hown (host := "") (Or.inl (hw _ (List.mem_of_getElem? (i := 48) rfl))) Via.refl e90 F_aligning_r0 (g := (mkF m 26 #[rv r0, .unset] [(.ref r0)])) rfl rfl (hb hby d8_26)
  refine gs st91 ?_
  show Go p e below s QQ 0 0 (T91.setTop (mkF m 29 #[rv r0, .unset] [(.ref al)]))
  refine gs (fun t => XS.astoreN X91.here hx rfl (hb hby d8_29) rfl rfl (l' := #[rv r0, rv al]) rfl) ?_
  refine gs (fun t => XS.aloadN X91.here hx rfl (hb hby d8_30) rfl rfl) ?_
  refine gs (fun t => XS.aconstNull X91.here hx rfl (hb hby d8_31)) ?_
  obtain ⟨T92, h92, X92, e92, W92, st92⟩ := putF X91 hx hZ hown (host := "") (Or.inl (hw _ (List.mem_of_getElem? (i := 48) rfl))) Via.refl e91 F_aligning_r0 E_r0 (Or.inl (hw _ (List.mem_of_getElem? (i := 49) rfl))) (hw _ (List.mem_of_getElem? (i := 2) rfl)) (ty := (.object "weirline/runtime/CheckpointBarrier")) (by decide) rfl rfl (g := (mkF m 32 #[rv r0, rv al] [.null, (.ref r0)])) rfl rfl (hb hby d8_32)
  replace N0 := Fr.snoc X92 N0 ge_r0
  refine gs st92 ?_
  show Go p e below s QQ 0 0 (T92.setTop (mkF m 35 #[rv r0, rv al] []))
  replace F_count_r0 := F_count_r0.other W92 (Or.inr (slot_ne (Or.inr (hw _ (List.mem_of_getElem? (i := 14) rfl))) (Or.inl (hw _ (List.mem_of_getElem? (i := 49) rfl))) (by decide) (t := .int) (t' := (.object "weirline/runtime/CheckpointBarrier")) (by decide) (by decide)))
  replace F_ended_r0 := F_ended_r0.other W92 (Or.inr (slot_ne (Or.inr (hw _ (List.mem_of_getElem? (i := 22) rfl))) (Or.inl (hw _ (List.mem_of_getElem? (i := 49) rfl))) (by decide) (t := (.array .boolean)) (t' := (.object "weirline/runtime/CheckpointBarrier")) (by decide) (by decide)))
  replace F_endedCount_r0 := F_endedCount_r0.other W92 (Or.inr (slot_ne (Or.inl (hw _ (List.mem_of_getElem? (i := 63) rfl))) (Or.inl (hw _ (List.mem_of_getElem? (i := 49) rfl))) (by decide) (t := .int) (t' := (.object "weirline/runtime/CheckpointBarrier")) (by decide) (by decide)))
  replace F_aligning_r0 := F_aligning_r0.same W92
  replace F_barrierIn_r0 := F_barrierIn_r0.other W92 (Or.inr (slot_ne (Or.inr (hw _ (List.mem_of_getElem? (i := 24) rfl))) (Or.inl (hw _ (List.mem_of_getElem? (i := 49) rfl))) (by decide) (t := (.array .boolean)) (t' := (.object "weirline/runtime/CheckpointBarrier")) (by decide) (by decide)))
  replace F_barriersIn_r0 := F_barriersIn_r0.other W92 (Or.inr (slot_ne (Or.inl (hw _ (List.mem_of_getElem? (i := 51) rfl))) (Or.inl (hw _ (List.mem_of_getElem? (i := 49) rfl))) (by decide) (t := .int) (t' := (.object "weirline/runtime/CheckpointBarrier")) (by decide) (by decide)))
  replace E_r0 := E_r0.wr W92
  replace V_bb := V_bb.other W92 (Ne.symm ne_r0_bb)
  replace ZZ : n0 ≤ h92.size := by rw [W92.size]; exact ZZ
  replace KK := KK.wr W92 (Or.inl (by simp))
  refine gs (fun t => XS.aloadN X92.here hx rfl (hb hby d8_35) rfl rfl) ?_
  obtain ⟨T93, X93, e93, st93⟩ := getF X92 hx hZ hown (host := "") (Or.inl (hw _ (List.mem_of_getElem? (i := 23) rfl))) Via.refl e92 F_barrierIn_r0 (g := (mkF m 36 #[rv r0, rv al] [(.ref r0)])) rfl rfl (hb hby d8_36)
  refine gs st93 ?_
  show Go p e below s QQ 0 0 (T93.setTop (mkF m 39 #[rv r0, rv al] [(.ref bb)]))
  refine gs (fun t => XS.iconst X93.here hx rfl (hb hby d8_39)) ?_
  obtain ⟨_, _, ⟨T94, L94, k94, n94⟩, -, X94, ⟨Lc94, hQ94, l94, y94, z94⟩, st94⟩ := Jvm.LawKit.callS X93 hx (y := (⟨"java/util/Arrays", "fill", "([ZZ)V"⟩ : MethodName)) hown (mvT hZ (hw _ (List.mem_of_getElem? (i := 64) rfl))) (mvT hZ (hw _ (List.mem_of_getElem? (i := 65) rfl))) (mvT hZ (hw _ (List.mem_of_getElem? (i := 27) rfl))) (mvT hZ (hw _ (List.mem_of_getElem? (i := 66) rfl))) (by decide) (backOf (W := 0) (fillZ3 l Z a0 hw [] bb ff h92 n0 ZZ V_bb ge_bb) hZ (hw _ (List.mem_of_getElem? (i := 66) rfl)) (hw _ (List.mem_of_getElem? (i := 27) rfl)) (by decide) (by decide)) (g := (mkF m 40 #[rv r0, rv al] [(.int (0 : Int32)), (.ref bb)])) rfl (by rw [hml]; rfl) (argsL := [(.ref bb), (.int (0 : Int32))]) (rest := []) (lenOf pd_2 rfl) rfl (by show 2 * 0 + _ ≤ _; exact Nat.le_of_eq rfl) (hb hby d8_40) (fun _ _ => ⟨rfl, e93, (by decide : 0 + 0 ≤ _), (by decide : 0 + 0 ≤ _)⟩)
  dsimp only [Pt.U, Pt.locs, Pt.cells, Pt.slots] at X94 l94 y94 z94 st94 hQ94
  subst l94 y94 z94
  obtain ⟨rfl, N94q, K94, Vn94⟩ := hQ94
  replace N0 := Fr.app N0 N94q
  refine gs st94 ?_
  show Go p e below s QQ 0 0 (T94.setTop (mkF m 43 #[rv r0, rv al] []))
  replace F_count_r0 := F_count_r0.keep K94 (ninS ne_r0_bb nin0)
  replace F_ended_r0 := F_ended_r0.keep K94 (ninS ne_r0_bb nin0)
  replace F_endedCount_r0 := F_endedCount_r0.keep K94 (ninS ne_r0_bb nin0)
  replace F_aligning_r0 := F_aligning_r0.keep K94 (ninS ne_r0_bb nin0)
  replace F_barrierIn_r0 := F_barrierIn_r0.keep K94 (ninS ne_r0_bb nin0)
  replace F_barriersIn_r0 := F_barriersIn_r0.keep K94 (ninS ne_r0_bb nin0)
  replace E_r0 := E_r0.keep K94
  replace ZZ := Nat.le_trans ZZ K94.1
  replace KK := KK.trans K94 (allS (Or.inl (by simp)) all0)
  have V_bb := Vn94
  refine gs (fun t => XS.aloadN X94.here hx rfl (hb hby d8_43) rfl rfl) ?_
  refine gs (fun t => XS.iconst X94.here hx rfl (hb hby d8_44)) ?_
  obtain ⟨T95, h95, X95, e95, W95, st95⟩ := putF X94 hx hZ hown (host := "") (Or.inl (hw _ (List.mem_of_getElem? (i := 50) rfl))) Via.refl rfl F_barriersIn_r0 E_r0 (Or.inl (hw _ (List.mem_of_getElem? (i := 51) rfl))) (hw _ (List.mem_of_getElem? (i := 2) rfl)) (ty := .int) (by decide) rfl rfl (g := (mkF m 45 #[rv r0, rv al] [(.int (0 : Int32)), (.ref r0)])) rfl rfl (hb hby d8_45)
  replace N0 := Fr.snoc X95 N0 ge_r0
  refine gs st95 ?_
  show Go p e below s QQ 0 0 (T95.setTop (mkF m 48 #[rv r0, rv al] []))
  replace F_count_r0 := F_count_r0.other W95 (Or.inr (slot_ne (Or.inr (hw _ (List.mem_of_getElem? (i := 14) rfl))) (Or.inl (hw _ (List.mem_of_getElem? (i := 51) rfl))) (by decide) (t := .int) (t' := .int) (by decide) (by decide)))
  replace F_ended_r0 := F_ended_r0.other W95 (Or.inr (slot_ne (Or.inr (hw _ (List.mem_of_getElem? (i := 22) rfl))) (Or.inl (hw _ (List.mem_of_getElem? (i := 51) rfl))) (by decide) (t := (.array .boolean)) (t' := .int) (by decide) (by decide)))
  replace F_endedCount_r0 := F_endedCount_r0.other W95 (Or.inr (slot_ne (Or.inl (hw _ (List.mem_of_getElem? (i := 63) rfl))) (Or.inl (hw _ (List.mem_of_getElem? (i := 51) rfl))) (by decide) (t := .int) (t' := .int) (by decide) (by decide)))
  replace F_aligning_r0 := F_aligning_r0.other W95 (Or.inr (slot_ne (Or.inl (hw _ (List.mem_of_getElem? (i := 49) rfl))) (Or.inl (hw _ (List.mem_of_getElem? (i := 51) rfl))) (by decide) (t := (.object "weirline/runtime/CheckpointBarrier")) (t' := .int) (by decide) (by decide)))
  replace F_barrierIn_r0 := F_barrierIn_r0.other W95 (Or.inr (slot_ne (Or.inr (hw _ (List.mem_of_getElem? (i := 24) rfl))) (Or.inl (hw _ (List.mem_of_getElem? (i := 51) rfl))) (by decide) (t := (.array .boolean)) (t' := .int) (by decide) (by decide)))
  replace F_barriersIn_r0 := F_barriersIn_r0.same W95
  replace E_r0 := E_r0.wr W95
  replace V_bb := V_bb.other W95 (Ne.symm ne_r0_bb)
  replace ZZ : n0 ≤ h95.size := by rw [W95.size]; exact ZZ
  replace KK := KK.wr W95 (Or.inl (by simp))
  refine gs (fun t => XS.aloadN X95.here hx rfl (hb hby d8_48) rfl rfl) ?_
  exact goR X95 hx Bd.notSynchronized Bd.returns rfl rfl (hb hby d8_49) (by rw [← hQQ, e95]; exact ⟨rfl, N0, KK, F_count_r0, F_ended_r0, F_endedCount_r0, F_aligning_r0, F_barrierIn_r0, F_barriersIn_r0, V_bb⟩) (by decide) (by decide)
theorem pn_0 : plainName "weirline/runtime/InputChannelsBarrierPinLaw" = true := by first | (simp [plainName, overriddenIn]; done) | decide +kernel
def Qrm0 (Z : State) (p0 : Int32) (p1 : Int32) (p2 : Int32) (p3 : Int32) (p4 : Int64) (h0 : Heap) (n0 : Nat) (v : Option Value) (h : Heap) (L : List Loc) : Prop := v = some (.int 1) ∧ Fr n0 L
set_option maxRecDepth 65536 in
set_option maxHeartbeats 40000000 in
theorem rm0 (l : Launch) (Z : State) (a0 : Array Value) (hw : ∀ d ∈ tables_1, d.before a0 Z = true) (ws : List Jvm.Cond) (p0 : Int32) (p1 : Int32) (p2 : Int32) (p3 : Int32) (p4 : Int64) (h0 : Heap) (n0 : Nat) (Z0 : n0 ≤ h0.size) :
    MetFree l x (head1 (Jvm.Cond.code x code maxLocals ret :: ws) room_1) (fun a U => a = #[(.int p0), (.int p1), (.int p2), (.int p3), (.long p4)] ∧ Z.Warmed39 U.vm ∧ U.heap = h0) (fun _ _ _ _ _ => True) (fun _ U o U' => ∃ v L, o = .returned v ∧ Qrm0 Z p0 p1 p2 p3 p4 h0 n0 v U'.heap L ∧ FrameEnd U o U' L room_1.cells room_1.slots) := by
  refine MetFree.of_bodySF (plainFor_of_name pn_0) hisR ?_
  intro p e s m args below meth c s₁ Bd hml0 hP hK
  obtain ⟨rfl, hZ, hh⟩ := hP
  have hx := Bd.exec
  have hby := Bd.bytes
  have hml : c.maxLocals = 19 := hml0
  have hown : s.vm.findClass "weirline/runtime/InputChannelsBarrierPinLaw" = some m.cls := findClass_of_methodNamed Bd.named
  have hnm := (name_of_methodNamed Bd.named Bd.method).1
  have X0 : Stand p l e room_1 s m #[(.int p0), (.int p1), (.int p2), (.int p3), (.long p4)] below meth c s₁ [] 0 0 := Stand.of_body Bd
  have e0 : s₁.heap = h0 := by rw [← hh, Bd.state]; rfl
  have N0 := Fr.nil n0
  have ZZ := Z0
  show Go p e below s (Qrm0 Z p0 p1 p2 p3 p4 h0 n0) room_1.cells room_1.slots (s₁.setTop (entryFrame m #[(.int p0), (.int p1), (.int p2), (.int p3), (.long p4)] maxLocals))
  generalize hQQ : (Qrm0 Z p0 p1 p2 p3 p4 h0 n0) = QQ
  refine gs (fun t k => castTop (g' := (mkF m 0 #[iv p0, iv p1, iv p2, iv p3, jv p4, .second, .unset, .unset, .unset, .unset, .unset, .unset, .unset, .unset, .unset, .unset, .unset, .unset, .unset] [])) (by first | (simp [entryFrame, mkF, argsToLocals, Value.category, maxLocals]; done) | rfl) k) ?_
  show Go p e below s QQ room_1.cells room_1.slots (s₁.setTop (mkF m 0 #[iv p0, iv p1, iv p2, iv p3, jv p4, .second, .unset, .unset, .unset, .unset, .unset, .unset, .unset, .unset, .unset, .unset, .unset, .unset, .unset] []))
  refine gs (fun t => XS.iconst X0.here hx rfl (hb hby at_0)) ?_
  refine gs (fun t => XS.iloadN X0.here hx rfl (hb hby at_1) rfl) ?_
  refine gs (fun t => X0.ldcInt hx hown (mvT hZ (hw _ (List.mem_of_getElem? (i := 0) rfl))) (g := (mkF m 2 #[iv p0, iv p1, iv p2, iv p3, jv p4, .second, .unset, .unset, .unset, .unset, .unset, .unset, .unset, .unset, .unset, .unset, .unset, .unset, .unset] [(.int p0), (.int (1 : Int32))])) rfl (hb hby at_2) t) ?_
  refine gs (fun t => XS.iand X0.here hx rfl (hb hby at_4) rfl) ?_
  refine gs (fun t => XS.iconst X0.here hx rfl (hb hby at_5)) ?_
  refine gs (fun t => iremM X0 hx (g := (mkF m 6 #[iv p0, iv p1, iv p2, iv p3, jv p4, .second, .unset, .unset, .unset, .unset, .unset, .unset, .unset, .unset, .unset, .unset, .unset, .unset, .unset] [(.int (3 : Int32)), (.int (p0 &&& (2147483647 : Int32))), (.int (1 : Int32))])) rfl (hb hby at_6) rfl (by decide)) ?_
  show Go p e below s QQ room_1.cells room_1.slots (s₁.setTop (mkF m 7 #[iv p0, iv p1, iv p2, iv p3, jv p4, .second, .unset, .unset, .unset, .unset, .unset, .unset, .unset, .unset, .unset, .unset, .unset, .unset, .unset] [(.int ((p0 &&& (2147483647 : Int32)) % (3 : Int32))), (.int (1 : Int32))]))
  refine gs (fun t => XS.iadd X0.here hx rfl (hb hby at_7) rfl) ?_
  show Go p e below s QQ room_1.cells room_1.slots (s₁.setTop (mkF m 8 #[iv p0, iv p1, iv p2, iv p3, jv p4, .second, .unset, .unset, .unset, .unset, .unset, .unset, .unset, .unset, .unset, .unset, .unset, .unset, .unset] [(.int ((1 : Int32) + ((p0 &&& (2147483647 : Int32)) % (3 : Int32))))]))
  generalize hnn : ((1 : Int32) + ((p0 &&& (2147483647 : Int32)) % (3 : Int32))) = nn
  show Go p e below s QQ room_1.cells room_1.slots (s₁.setTop (mkF m 8 #[iv p0, iv p1, iv p2, iv p3, jv p4, .second, .unset, .unset, .unset, .unset, .unset, .unset, .unset, .unset, .unset, .unset, .unset, .unset, .unset] [(.int nn)]))
  have hn3 := own_n p0 hnn
  clear hnn
  refine gs (fun t => XS.istore X0.here hx rfl (hb hby at_8) rfl (l' := #[iv p0, iv p1, iv p2, iv p3, jv p4, .second, iv nn, .unset, .unset, .unset, .unset, .unset, .unset, .unset, .unset, .unset, .unset, .unset, .unset]) rfl) ?_
  refine gs (fun t => XS.iloadN X0.here hx rfl (hb hby at_10) rfl) ?_
  refine gs (fun t => X0.ldcInt hx hown (mvT hZ (hw _ (List.mem_of_getElem? (i := 0) rfl))) (g := (mkF m 11 #[iv p0, iv p1, iv p2, iv p3, jv p4, .second, iv nn, .unset, .unset, .unset, .unset, .unset, .unset, .unset, .unset, .unset, .unset, .unset, .unset] [(.int p1)])) rfl (hb hby at_11) t) ?_
  refine gs (fun t => XS.iand X0.here hx rfl (hb hby at_13) rfl) ?_
  refine gs (fun t => XS.iload X0.here hx rfl (hb hby at_14) rfl) ?_
  show Go p e below s QQ room_1.cells room_1.slots (s₁.setTop (mkF m 16 #[iv p0, iv p1, iv p2, iv p3, jv p4, .second, iv nn, .unset, .unset, .unset, .unset, .unset, .unset, .unset, .unset, .unset, .unset, .unset, .unset] [(.int nn), (.int (p1 &&& (2147483647 : Int32)))]))
  rcases hn3 with rfl | rfl | rfl
  · skip
    show Go p e below s QQ room_1.cells room_1.slots (s₁.setTop (mkF m 16 #[iv p0, iv p1, iv p2, iv p3, jv p4, .second, iv 1, .unset, .unset, .unset, .unset, .unset, .unset, .unset, .unset, .unset, .unset, .unset, .unset] [(.int (1 : Int32)), (.int (p1 &&& (2147483647 : Int32)))]))
    refine gs (fun t => iremM X0 hx (g := (mkF m 16 #[iv p0, iv p1, iv p2, iv p3, jv p4, .second, iv 1, .unset, .unset, .unset, .unset, .unset, .unset, .unset, .unset, .unset, .unset, .unset, .unset] [(.int (1 : Int32)), (.int (p1 &&& (2147483647 : Int32)))])) rfl (hb hby at_16) rfl (by decide)) ?_
    show Go p e below s QQ room_1.cells room_1.slots (s₁.setTop (mkF m 17 #[iv p0, iv p1, iv p2, iv p3, jv p4, .second, iv 1, .unset, .unset, .unset, .unset, .unset, .unset, .unset, .unset, .unset, .unset, .unset, .unset] [(.int ((p1 &&& (2147483647 : Int32)) % (1 : Int32)))]))
    generalize ha1 : ((p1 &&& (2147483647 : Int32)) % (1 : Int32)) = a1
    show Go p e below s QQ room_1.cells room_1.slots (s₁.setTop (mkF m 17 #[iv p0, iv p1, iv p2, iv p3, jv p4, .second, iv 1, .unset, .unset, .unset, .unset, .unset, .unset, .unset, .unset, .unset, .unset, .unset, .unset] [(.int a1)]))
    obtain ⟨a, ha, rfl⟩ := own_a p1 (N := 1) (by decide) (by decide) rfl ha1
    clear ha1
    show Go p e below s QQ room_1.cells room_1.slots (s₁.setTop (mkF m 17 #[iv p0, iv p1, iv p2, iv p3, jv p4, .second, iv 1, .unset, .unset, .unset, .unset, .unset, .unset, .unset, .unset, .unset, .unset, .unset, .unset] [(.int (oI a))]))
    refine gs (fun t => XS.istore X0.here hx rfl (hb hby at_17) rfl (l' := #[iv p0, iv p1, iv p2, iv p3, jv p4, .second, iv 1, iv (oI a), .unset, .unset, .unset, .unset, .unset, .unset, .unset, .unset, .unset, .unset, .unset]) rfl) ?_
    refine gs (fun t => XS.iloadN X0.here hx rfl (hb hby at_19) rfl) ?_
    refine gs (fun t => XS.iconst X0.here hx rfl (hb hby at_20)) ?_
    refine gs (fun t => XS.iand X0.here hx rfl (hb hby at_21) rfl) ?_
    have key : ∀ (_ : True), Go p e below s QQ room_1.cells room_1.slots (s₁.setTop (mkF m 36 #[iv p0, iv p1, iv p2, iv p3, jv p4, .second, iv 1, iv (oI a), .unset, .unset, .unset, .unset, .unset, .unset, .unset, .unset, .unset, .unset, .unset] [(.int (0 : Int32))])) := by
      intro _
      refine gs (fun t => XS.istore X0.here hx rfl (hb hby at_36) rfl (l' := #[iv p0, iv p1, iv p2, iv p3, jv p4, .second, iv 1, iv (oI a), iv 0, .unset, .unset, .unset, .unset, .unset, .unset, .unset, .unset, .unset, .unset]) rfl) ?_
      refine gs (fun t => XS.iload X0.here hx rfl (hb hby at_38) rfl) ?_
      show Go p e below s QQ room_1.cells room_1.slots (s₁.setTop (mkF m 40 #[iv p0, iv p1, iv p2, iv p3, jv p4, .second, iv 1, iv (oI a), iv 0, .unset, .unset, .unset, .unset, .unset, .unset, .unset, .unset, .unset, .unset] [(.int (oI a))]))
      refine gs (fun t => XS.iconst X0.here hx rfl (hb hby at_40)) ?_
      refine gs (fun t => XS.iadd X0.here hx rfl (hb hby at_41) rfl) ?_
      refine gs (fun t => XS.iload X0.here hx rfl (hb hby at_42) rfl) ?_
      refine gs (fun t => iremM X0 hx (g := (mkF m 44 #[iv p0, iv p1, iv p2, iv p3, jv p4, .second, iv 1, iv (oI a), iv 0, .unset, .unset, .unset, .unset, .unset, .unset, .unset, .unset, .unset, .unset] [(.int (1 : Int32)), (.int ((oI a) + (1 : Int32)))])) rfl (hb hby at_44) rfl (by decide)) ?_
      show Go p e below s QQ room_1.cells room_1.slots (s₁.setTop (mkF m 45 #[iv p0, iv p1, iv p2, iv p3, jv p4, .second, iv 1, iv (oI a), iv 0, .unset, .unset, .unset, .unset, .unset, .unset, .unset, .unset, .unset, .unset] [(.int (((oI a) + (1 : Int32)) % (1 : Int32)))]))
      rw [show (((oI a) + (1 : Int32)) % (1 : Int32)) = (oI ((a + 1) % 1)) from own_rem (by omega) (by decide) (by decide) (by decide) rfl rfl]
      show Go p e below s QQ room_1.cells room_1.slots (s₁.setTop (mkF m 45 #[iv p0, iv p1, iv p2, iv p3, jv p4, .second, iv 1, iv (oI a), iv 0, .unset, .unset, .unset, .unset, .unset, .unset, .unset, .unset, .unset, .unset] [(.int (oI ((a + 1) % 1)))]))
      refine gs (fun t => XS.istore X0.here hx rfl (hb hby at_45) rfl (l' := #[iv p0, iv p1, iv p2, iv p3, jv p4, .second, iv 1, iv (oI a), iv 0, iv (oI ((a + 1) % 1)), .unset, .unset, .unset, .unset, .unset, .unset, .unset, .unset, .unset]) rfl) ?_
      obtain ⟨T97, h97, X97, e97, E97, A97, D97, -, st97⟩ := newO X0 hx hZ hown (hw _ (List.mem_of_getElem? (i := 1) rfl)) (hw _ (List.mem_of_getElem? (i := 2) rfl)) (hw _ (List.mem_of_getElem? (i := 3) rfl)) e0 (g := (mkF m 47 #[iv p0, iv p1, iv p2, iv p3, jv p4, .second, iv 1, iv (oI a), iv 0, iv (oI ((a + 1) % 1)), .unset, .unset, .unset, .unset, .unset, .unset, .unset, .unset, .unset] [])) rfl (hb hby at_47) (by decide) (by decide)
      obtain ⟨b97, g97⟩ : ∃ z, z = h0.size := ⟨_, rfl⟩
      rw [← g97] at A97 D97 st97
      have ge_b97 : n0 ≤ b97 := by rw [g97]; exact ZZ
      refine gs st97 ?_
      show Go p e below s QQ room_1.cells room_1.slots (T97.setTop (mkF m 50 #[iv p0, iv p1, iv p2, iv p3, jv p4, .second, iv 1, iv (oI a), iv 0, iv (oI ((a + 1) % 1)), .unset, .unset, .unset, .unset, .unset, .unset, .unset, .unset, .unset] [(.ref b97)]))
      replace ZZ := Nat.le_trans ZZ E97.1
      have Ex_b97 := A97
      have F_minimum_b97 : Fld Z h97 b97 "weirline/runtime/InputChannels" "minimum" "J" (.long (0 : Int64)) := D97 (Or.inl (hw _ (List.mem_of_getElem? (i := 12) rfl))) (ty := .long) (by decide)
      have F_count_b97 : Fld Z h97 b97 "weirline/runtime/InputChannels" "count" "I" (.int (0 : Int32)) := D97 (Or.inr (hw _ (List.mem_of_getElem? (i := 14) rfl))) (ty := .int) (by decide)
      have F_latest_b97 : Fld Z h97 b97 "weirline/runtime/InputChannels" "latest" "[J" .null := D97 (Or.inr (hw _ (List.mem_of_getElem? (i := 17) rfl))) (ty := (.array .long)) (by decide)
      have F_channelIdle_b97 : Fld Z h97 b97 "weirline/runtime/InputChannels" "channelIdle" "[Z" .null := D97 (Or.inr (hw _ (List.mem_of_getElem? (i := 20) rfl))) (ty := (.array .boolean)) (by decide)
      have F_ended_b97 : Fld Z h97 b97 "weirline/runtime/InputChannels" "ended" "[Z" .null := D97 (Or.inr (hw _ (List.mem_of_getElem? (i := 22) rfl))) (ty := (.array .boolean)) (by decide)
      have F_barrierIn_b97 : Fld Z h97 b97 "weirline/runtime/InputChannels" "barrierIn" "[Z" .null := D97 (Or.inr (hw _ (List.mem_of_getElem? (i := 24) rfl))) (ty := (.array .boolean)) (by decide)
      have F_aligning_b97 : Fld Z h97 b97 "weirline/runtime/InputChannels" "aligning" "Lweirline/runtime/CheckpointBarrier;" .null := D97 (Or.inl (hw _ (List.mem_of_getElem? (i := 49) rfl))) (ty := (.object "weirline/runtime/CheckpointBarrier")) (by decide)
      have F_barriersIn_b97 : Fld Z h97 b97 "weirline/runtime/InputChannels" "barriersIn" "I" (.int (0 : Int32)) := D97 (Or.inl (hw _ (List.mem_of_getElem? (i := 51) rfl))) (ty := .int) (by decide)
      have F_endedCount_b97 : Fld Z h97 b97 "weirline/runtime/InputChannels" "endedCount" "I" (.int (0 : Int32)) := D97 (Or.inl (hw _ (List.mem_of_getElem? (i := 63) rfl))) (ty := .int) (by decide)
      refine gs (fun t => XS.dup X97.here hx rfl (hb hby at_50) rfl rfl) ?_
      refine gs (fun t => XS.iload X97.here hx rfl (hb hby at_51) rfl) ?_
      have ZZm98 := ZZ
      have lt98_b97 := Ex_b97.lt
      obtain ⟨_, _, ⟨T99, L99, k99, n99⟩, -, X99, ⟨Lc99, hQ99, l99, y99, z99⟩, st99⟩ := X97.specialBack hx (y := (⟨"weirline/runtime/InputChannels", "<init>", "(I)V"⟩ : MethodName)) rfl hown (mvT hZ (hw _ (List.mem_of_getElem? (i := 4) rfl))) (mvT hZ (hw _ (List.mem_of_getElem? (i := 5) rfl))) (mvT hZ (hw _ (List.mem_of_getElem? (i := 6) rfl))) (by decide) (backOf (W := 1) (ctor1 l Z a0 hw [] b97 h97 n0 ZZ F_minimum_b97 F_count_b97 F_latest_b97 F_channelIdle_b97 F_ended_b97 F_barrierIn_b97 F_aligning_b97 F_barriersIn_b97 F_endedCount_b97 Ex_b97 ge_b97) hZ (hw _ (List.mem_of_getElem? (i := 6) rfl)) (hw _ (List.mem_of_getElem? (i := 3) rfl)) (by decide) (by decide)) (g := (mkF m 53 #[iv p0, iv p1, iv p2, iv p3, jv p4, .second, iv 1, iv (oI a), iv 0, iv (oI ((a + 1) % 1)), .unset, .unset, .unset, .unset, .unset, .unset, .unset, .unset, .unset] [(.int (1 : Int32)), (.ref b97), (.ref b97)])) rfl (by rw [hml]; rfl) (Steps.refl _) (a := b97) (argsL := [(.int (1 : Int32))]) (rest := [(.ref b97)]) (lenOf pd_3 rfl) rfl (by show 2 * 0 + _ ≤ _; exact Nat.le_of_eq rfl) (hb hby at_53) (fun _ _ => ⟨rfl, e97, (by decide : 1 + 4 ≤ _), (by decide : 10 + 4 ≤ _)⟩)
      dsimp only [Pt.U, Pt.locs, Pt.cells, Pt.slots] at X99 l99 y99 z99 st99 hQ99
      subst l99 y99 z99
      obtain ⟨eb, bb, rfl, N99q, K99, G0, G1, G2, G3, G4, G5, V_eb, V_bb, geb, gbb, neb⟩ := hQ99
      replace N0 := Fr.app N0 N99q
      refine gt st99 ?_
      show Go p e below s QQ room_1.cells room_1.slots (T99.setTop (mkF m 56 #[iv p0, iv p1, iv p2, iv p3, jv p4, .second, iv 1, iv (oI a), iv 0, iv (oI ((a + 1) % 1)), .unset, .unset, .unset, .unset, .unset, .unset, .unset, .unset, .unset] [(.ref b97)]))
      replace Ex_b97 := Ex_b97.keep K99
      replace ZZ := Nat.le_trans ZZ K99.1
      have ne_b97_eb : b97 ≠ eb := Nat.ne_of_lt (Nat.lt_of_lt_of_le lt98_b97 geb)
      have ge_eb : n0 ≤ eb := Nat.le_trans ZZm98 geb
      have ne_b97_bb : b97 ≠ bb := Nat.ne_of_lt (Nat.lt_of_lt_of_le lt98_b97 gbb)
      have ge_bb : n0 ≤ bb := Nat.le_trans ZZm98 gbb
      refine gs (fun t => XS.astore X99.here hx rfl (hb hby at_56) rfl rfl (l' := #[iv p0, iv p1, iv p2, iv p3, jv p4, .second, iv 1, iv (oI a), iv 0, iv (oI ((a + 1) % 1)), rv b97, .unset, .unset, .unset, .unset, .unset, .unset, .unset, .unset]) rfl) ?_
      obtain ⟨T100, h100, X100, e100, E100, A100, D100, -, st100⟩ := newO X99 hx hZ hown (hw _ (List.mem_of_getElem? (i := 29) rfl)) (hw _ (List.mem_of_getElem? (i := 30) rfl)) (hw _ (List.mem_of_getElem? (i := 31) rfl)) rfl (g := (mkF m 58 #[iv p0, iv p1, iv p2, iv p3, jv p4, .second, iv 1, iv (oI a), iv 0, iv (oI ((a + 1) % 1)), rv b97, .unset, .unset, .unset, .unset, .unset, .unset, .unset, .unset] [])) rfl (hb hby at_58) (by decide) (by decide)
      obtain ⟨b100, g100⟩ : ∃ z, z = T99.heap.size := ⟨_, rfl⟩
      rw [← g100] at A100 D100 st100
      have ge_b100 : n0 ≤ b100 := by rw [g100]; exact ZZ
      have ne_b97_b100 : b97 ≠ b100 := by rw [g100]; exact Nat.ne_of_lt Ex_b97.lt
      have ne_eb_b100 : eb ≠ b100 := by rw [g100]; exact Nat.ne_of_lt V_eb.lt
      have ne_bb_b100 : bb ≠ b100 := by rw [g100]; exact Nat.ne_of_lt V_bb.lt
      refine gs st100 ?_
      show Go p e below s QQ room_1.cells room_1.slots (T100.setTop (mkF m 61 #[iv p0, iv p1, iv p2, iv p3, jv p4, .second, iv 1, iv (oI a), iv 0, iv (oI ((a + 1) % 1)), rv b97, .unset, .unset, .unset, .unset, .unset, .unset, .unset, .unset] [(.ref b100)]))
      replace Ex_b97 := Ex_b97.ext E100
      replace G0 := G0.ext E100
      replace G1 := G1.ext E100
      replace G2 := G2.ext E100
      replace G3 := G3.ext E100
      replace G4 := G4.ext E100
      replace G5 := G5.ext E100
      replace V_eb := V_eb.ext E100
      replace V_bb := V_bb.ext E100
      replace ZZ := Nat.le_trans ZZ E100.1
      have Ex_b100 := A100
      have F_checkpointId_b100 : Fld Z h100 b100 "weirline/runtime/CheckpointBarrier" "checkpointId" "J" (.long (0 : Int64)) := D100 (Or.inr (hw _ (List.mem_of_getElem? (i := 42) rfl))) (ty := .long) (by decide)
      refine gs (fun t => XS.dup X100.here hx rfl (hb hby at_61) rfl rfl) ?_
      refine gs (fun t => XS.lload X100.here hx rfl (hb hby at_62) rfl) ?_
      obtain ⟨_, _, ⟨T101, L101, k101, n101⟩, -, X101, ⟨Lc101, hQ101, l101, y101, z101⟩, st101⟩ := X100.specialBack hx (y := (⟨"weirline/runtime/CheckpointBarrier", "<init>", "(J)V"⟩ : MethodName)) rfl hown (mvT hZ (hw _ (List.mem_of_getElem? (i := 32) rfl))) (mvT hZ (hw _ (List.mem_of_getElem? (i := 33) rfl))) (mvT hZ (hw _ (List.mem_of_getElem? (i := 34) rfl))) (by decide) (backOf (W := 1) (rm4 l Z a0 hw [] b100 p4 h100 n0 ZZ F_checkpointId_b100 Ex_b100 ge_b100) hZ (hw _ (List.mem_of_getElem? (i := 34) rfl)) (hw _ (List.mem_of_getElem? (i := 31) rfl)) (by decide) (by decide)) (g := (mkF m 64 #[iv p0, iv p1, iv p2, iv p3, jv p4, .second, iv 1, iv (oI a), iv 0, iv (oI ((a + 1) % 1)), rv b97, .unset, .unset, .unset, .unset, .unset, .unset, .unset, .unset] [(.long p4), (.ref b100), (.ref b100)])) rfl (by rw [hml]; rfl) (Steps.refl _) (a := b100) (argsL := [(.long p4)]) (rest := [(.ref b100)]) (lenOf pd_4 rfl) rfl (by show 2 * 0 + _ ≤ _; exact Nat.le_of_eq rfl) (hb hby at_64) (fun _ _ => ⟨rfl, e100, (by decide : 6 + 0 ≤ _), (by decide : 15 + 0 ≤ _)⟩)
      dsimp only [Pt.U, Pt.locs, Pt.cells, Pt.slots] at X101 l101 y101 z101 st101 hQ101
      subst l101 y101 z101
      obtain ⟨rfl, N101q, K101⟩ := hQ101
      replace N0 := Fr.app N0 N101q
      refine gt st101 ?_
      show Go p e below s QQ room_1.cells room_1.slots (T101.setTop (mkF m 67 #[iv p0, iv p1, iv p2, iv p3, jv p4, .second, iv 1, iv (oI a), iv 0, iv (oI ((a + 1) % 1)), rv b97, .unset, .unset, .unset, .unset, .unset, .unset, .unset, .unset] [(.ref b100)]))
      replace Ex_b97 := Ex_b97.keep K101
      replace G0 := G0.keep K101 (ninS ne_b97_b100 nin0)
      replace G1 := G1.keep K101 (ninS ne_b97_b100 nin0)
      replace G2 := G2.keep K101 (ninS ne_b97_b100 nin0)
      replace G3 := G3.keep K101 (ninS ne_b97_b100 nin0)
      replace G4 := G4.keep K101 (ninS ne_b97_b100 nin0)
      replace G5 := G5.keep K101 (ninS ne_b97_b100 nin0)
      replace V_eb := V_eb.keep K101 (ninS ne_eb_b100 nin0)
      replace V_bb := V_bb.keep K101 (ninS ne_bb_b100 nin0)
      replace Ex_b100 := Ex_b100.keep K101
      replace ZZ := Nat.le_trans ZZ K101.1
      refine gs (fun t => XS.astore X101.here hx rfl (hb hby at_67) rfl rfl (l' := #[iv p0, iv p1, iv p2, iv p3, jv p4, .second, iv 1, iv (oI a), iv 0, iv (oI ((a + 1) % 1)), rv b97, rv b100, .unset, .unset, .unset, .unset, .unset, .unset, .unset]) rfl) ?_
      refine gs (fun t => XS.iload X101.here hx rfl (hb hby at_69) rfl) ?_
      refine gs (fun t => XS.ifYes X101.here hx rfl (pc0 := 71) (pc' := 81) rfl (hb hby at_71) rfl ((if0 _ _).trans (teq (by decide : (0 : Int32) = (0 : Int32))).1) (by decide) (by decide)) ?_
      refine gs (fun t => XS.iload X101.here hx rfl (hb hby at_81) rfl) ?_
      refine gs (fun t => XS.ifYes X101.here hx rfl (pc0 := 83) (pc' := 90) rfl (hb hby at_83) rfl ((if0 _ _).trans (teq (by decide : (0 : Int32) = (0 : Int32))).1) (by decide) (by decide)) ?_
      refine gs (fun t => XS.iconst X101.here hx rfl (hb hby at_90)) ?_
      show Go p e below s QQ room_1.cells room_1.slots (T101.setTop (mkF m 91 #[iv p0, iv p1, iv p2, iv p3, jv p4, .second, iv 1, iv (oI a), iv 0, iv (oI ((a + 1) % 1)), rv b97, rv b100, .unset, .unset, .unset, .unset, .unset, .unset, .unset] [(.int (0 : Int32))]))
      refine gs (fun t => XS.istore X101.here hx rfl (hb hby at_91) rfl (l' := #[iv p0, iv p1, iv p2, iv p3, jv p4, .second, iv 1, iv (oI a), iv 0, iv (oI ((a + 1) % 1)), rv b97, rv b100, iv 0, .unset, .unset, .unset, .unset, .unset, .unset]) rfl) ?_
      refine gs (fun t => XS.aload X101.here hx rfl (hb hby at_93) rfl rfl) ?_
      refine gs (fun t => XS.iload X101.here hx rfl (hb hby at_95) rfl) ?_
      refine gs (fun t => XS.aload X101.here hx rfl (hb hby at_97) rfl rfl) ?_
      obtain ⟨cq102, kq102, q102a, q102b, q102c⟩ := isOf hZ rfl Ex_b97
      obtain ⟨_, _, ⟨T102, L102, k102, n102⟩, -, X102, ⟨Lc102, hQ102, l102, y102, z102⟩, st102⟩ := X101.virtualBack hx (y := (⟨"weirline/runtime/InputChannels", "barrier", "(ILweirline/runtime/CheckpointBarrier;)V"⟩ : MethodName)) (z := (⟨"weirline/runtime/InputChannels", "barrier", "(ILweirline/runtime/CheckpointBarrier;)V"⟩ : MethodName)) hown (mvT hZ (hw _ (List.mem_of_getElem? (i := 43) rfl))) (mvT hZ (hw _ (List.mem_of_getElem? (i := 44) rfl))) (notFace_of_selects (args := #[]) (mvT hZ (hw _ (List.mem_of_getElem? (i := 46) rfl)))) (mvT hZ (hw _ (List.mem_of_getElem? (i := 46) rfl))) (mvT hZ (hw _ (List.mem_of_getElem? (i := 45) rfl))) (by decide) (backOf (W := 0) (rm6 l Z a0 hw [] b97 b100 a 1 (1 : Int32) eb (0 : Int32) .null bb (0 : Int32) (fun _ => .int 0) T101.heap n0 ZZ G0 G1 G2 G3 G4 G5 Ex_b97 V_bb ge_b97 ge_bb ne_b97_eb ne_b97_bb neb ha (by decide)) hZ (hw _ (List.mem_of_getElem? (i := 47) rfl)) (hw _ (List.mem_of_getElem? (i := 3) rfl)) (by decide) (by decide)) q102a q102c (g := (mkF m 99 #[iv p0, iv p1, iv p2, iv p3, jv p4, .second, iv 1, iv (oI a), iv 0, iv (oI ((a + 1) % 1)), rv b97, rv b100, iv 0, .unset, .unset, .unset, .unset, .unset, .unset] [(.ref b100), (.int (oI a)), (.ref b97)])) rfl (by rw [hml]; rfl) (Steps.refl _) (argsL := [(.int (oI a)), (.ref b100)]) (rest := []) (lenOf pd_5 rfl) rfl (by show 2 * 0 + _ ≤ _; exact Nat.le_of_eq rfl) (hb hby at_99) (fun _ _ => ⟨rfl, rfl, (by decide : 6 + 0 ≤ _), (by decide : 15 + 0 ≤ _)⟩)
      dsimp only [Pt.U, Pt.locs, Pt.cells, Pt.slots] at X102 l102 y102 z102 st102 hQ102
      subst l102 y102 z102
      obtain ⟨rfl, N102q, K102, Gn0_102, Gn1_102, Gn2_102, Gn3_102, Gn4_102, Gn5_102, Vn102⟩ := hQ102
      replace N0 := Fr.app N0 N102q
      refine gt st102 ?_
      show Go p e below s QQ room_1.cells room_1.slots (T102.setTop (mkF m 102 #[iv p0, iv p1, iv p2, iv p3, jv p4, .second, iv 1, iv (oI a), iv 0, iv (oI ((a + 1) % 1)), rv b97, rv b100, iv 0, .unset, .unset, .unset, .unset, .unset, .unset] []))
      replace Ex_b97 := Ex_b97.keep K102
      replace V_eb := V_eb.keep K102 (ninS (Ne.symm ne_b97_eb) (ninS neb nin0))
      replace Ex_b100 := Ex_b100.keep K102
      replace ZZ := Nat.le_trans ZZ K102.1
      have G0 : Fld Z T102.heap b97 "weirline/runtime/InputChannels" "count" "I" (.int (1 : Int32)) := Gn0_102
      have G1 : Fld Z T102.heap b97 "weirline/runtime/InputChannels" "ended" "[Z" (.ref eb) := Gn1_102
      have G2 : Fld Z T102.heap b97 "weirline/runtime/InputChannels" "endedCount" "I" (.int (0 : Int32)) := Gn2_102
      have G3 : Fld Z T102.heap b97 "weirline/runtime/InputChannels" "aligning" "Lweirline/runtime/CheckpointBarrier;" (.ref b100) := Gn3_102
      have G4 : Fld Z T102.heap b97 "weirline/runtime/InputChannels" "barrierIn" "[Z" (.ref bb) := Gn4_102
      have G5 : Fld Z T102.heap b97 "weirline/runtime/InputChannels" "barriersIn" "I" (.int (1 : Int32)) := Gn5_102
      have V_bb := Vn102
      refine gs (fun t => XS.aload X102.here hx rfl (hb hby at_102) rfl rfl) ?_
      refine gs (fun t => XS.iload X102.here hx rfl (hb hby at_104) rfl) ?_
      obtain ⟨cq103, kq103, q103a, q103b, q103c⟩ := isOf hZ rfl Ex_b97
      obtain ⟨_, _, ⟨T103, L103, k103, n103⟩, -, X103, ⟨Lc103, hQ103, l103, y103, z103⟩, st103⟩ := X102.virtualBack hx (y := (⟨"weirline/runtime/InputChannels", "holdsBack", "(I)Z"⟩ : MethodName)) (z := (⟨"weirline/runtime/InputChannels", "holdsBack", "(I)Z"⟩ : MethodName)) hown (mvT hZ (hw _ (List.mem_of_getElem? (i := 52) rfl))) (mvT hZ (hw _ (List.mem_of_getElem? (i := 53) rfl))) (notFace_of_selects (args := #[]) (mvT hZ (hw _ (List.mem_of_getElem? (i := 55) rfl)))) (mvT hZ (hw _ (List.mem_of_getElem? (i := 55) rfl))) (mvT hZ (hw _ (List.mem_of_getElem? (i := 54) rfl))) (by decide) (backOf (W := 0) (rm7 l Z a0 hw [] b97 a 1 bb (updv (fun _ => .int 0) a (.int 1)) (1 : Int32) T102.heap n0 ZZ G4 V_bb (by simp [Jvm.RoadKit.updv]) (by decide) ha (by decide)) hZ (hw _ (List.mem_of_getElem? (i := 56) rfl)) (hw _ (List.mem_of_getElem? (i := 3) rfl)) (by decide) (by decide)) q103a q103c (g := (mkF m 106 #[iv p0, iv p1, iv p2, iv p3, jv p4, .second, iv 1, iv (oI a), iv 0, iv (oI ((a + 1) % 1)), rv b97, rv b100, iv 0, .unset, .unset, .unset, .unset, .unset, .unset] [(.int (oI a)), (.ref b97)])) rfl (by rw [hml]; rfl) (Steps.refl _) (argsL := [(.int (oI a))]) (rest := []) (lenOf pd_6 rfl) rfl (by show 2 * 0 + _ ≤ _; exact Nat.le_of_eq rfl) (hb hby at_106) (fun _ _ => ⟨rfl, rfl, (by decide : 6 + 0 ≤ _), (by decide : 15 + 0 ≤ _)⟩)
      dsimp only [Pt.U, Pt.locs, Pt.cells, Pt.slots] at X103 l103 y103 z103 st103 hQ103
      subst l103 y103 z103
      obtain ⟨rfl, N103q, e103⟩ := hQ103
      replace N0 := Fr.app N0 N103q
      refine gt st103 ?_
      show Go p e below s QQ room_1.cells room_1.slots (T103.setTop (mkF m 109 #[iv p0, iv p1, iv p2, iv p3, jv p4, .second, iv 1, iv (oI a), iv 0, iv (oI ((a + 1) % 1)), rv b97, rv b100, iv 0, .unset, .unset, .unset, .unset, .unset, .unset] [(.int (1 : Int32))]))
      refine gs (fun t => XS.istore X103.here hx rfl (hb hby at_109) rfl (l' := #[iv p0, iv p1, iv p2, iv p3, jv p4, .second, iv 1, iv (oI a), iv 0, iv (oI ((a + 1) % 1)), rv b97, rv b100, iv 0, iv 1, .unset, .unset, .unset, .unset, .unset]) rfl) ?_
      refine gs (fun t => XS.iload X103.here hx rfl (hb hby at_111) rfl) ?_
      refine gs (fun t => XS.iconst X103.here hx rfl (hb hby at_113)) ?_
      refine gs (fun t => XS.icmpYes X103.here hx rfl (pc0 := 114) (pc' := 144) rfl (hb hby at_114) rfl (tlt (by decide : (1 : Int32) < (2 : Int32))).1 (by decide) (by decide)) ?_
      refine gs (fun t => XS.iload X103.here hx rfl (hb hby at_144) rfl) ?_
      refine gs (fun t => XS.iconst X103.here hx rfl (hb hby at_146)) ?_
      show Go p e below s QQ room_1.cells room_1.slots (T103.setTop (mkF m 147 #[iv p0, iv p1, iv p2, iv p3, jv p4, .second, iv 1, iv (oI a), iv 0, iv (oI ((a + 1) % 1)), rv b97, rv b100, iv 0, iv 1, .unset, .unset, .unset, .unset, .unset] [(.int (3 : Int32)), (.int (1 : Int32))]))
      refine gs (fun t => XS.icmpYes X103.here hx rfl (pc0 := 147) (pc' := 177) rfl (hb hby at_147) rfl (feq (by decide : ¬ ((1 : Int32) = (3 : Int32)))).2 (by decide) (by decide)) ?_
      refine gs (fun t => XS.aload X103.here hx rfl (hb hby at_177) rfl rfl) ?_
      obtain ⟨cq104, kq104, q104a, q104b, q104c⟩ := isOf hZ e103 Ex_b97
      obtain ⟨_, _, ⟨T104, L104, k104, n104⟩, -, X104, ⟨Lc104, hQ104, l104, y104, z104⟩, st104⟩ := X103.virtualBack hx (y := (⟨"weirline/runtime/InputChannels", "linedUp", "()Lweirline/runtime/CheckpointBarrier;"⟩ : MethodName)) (z := (⟨"weirline/runtime/InputChannels", "linedUp", "()Lweirline/runtime/CheckpointBarrier;"⟩ : MethodName)) hown (mvT hZ (hw _ (List.mem_of_getElem? (i := 57) rfl))) (mvT hZ (hw _ (List.mem_of_getElem? (i := 58) rfl))) (notFace_of_selects (args := #[]) (mvT hZ (hw _ (List.mem_of_getElem? (i := 60) rfl)))) (mvT hZ (hw _ (List.mem_of_getElem? (i := 60) rfl))) (mvT hZ (hw _ (List.mem_of_getElem? (i := 59) rfl))) (by decide) (backOf (W := 0) (luF1 l Z a0 hw [] b97 (1 : Int32) eb (0 : Int32) b100 bb (1 : Int32) (updv (fun _ => .int 0) a (.int 1)) T102.heap n0 ZZ G0 G1 G2 G3 G4 G5 Ex_b97 V_bb ge_b97 ge_bb ne_b97_bb (by decide)) hZ (hw _ (List.mem_of_getElem? (i := 61) rfl)) (hw _ (List.mem_of_getElem? (i := 3) rfl)) (by decide) (by decide)) q104a q104c (g := (mkF m 179 #[iv p0, iv p1, iv p2, iv p3, jv p4, .second, iv 1, iv (oI a), iv 0, iv (oI ((a + 1) % 1)), rv b97, rv b100, iv 0, iv 1, .unset, .unset, .unset, .unset, .unset] [(.ref b97)])) rfl (by rw [hml]; rfl) (Steps.refl _) (argsL := []) (rest := []) (lenOf pd_7 rfl) rfl (by show 2 * 0 + _ ≤ _; exact Nat.le_of_eq rfl) (hb hby at_179) (fun _ _ => ⟨rfl, e103, (by decide : 6 + 0 ≤ _), (by decide : 15 + 0 ≤ _)⟩)
      dsimp only [Pt.U, Pt.locs, Pt.cells, Pt.slots] at X104 l104 y104 z104 st104 hQ104
      subst l104 y104 z104
      obtain ⟨rfl, N104q, K104, Gn0_104, Gn1_104, Gn2_104, Gn3_104, Gn4_104, Gn5_104, Vn104⟩ := hQ104
      replace N0 := Fr.app N0 N104q
      refine gt st104 ?_
      show Go p e below s QQ room_1.cells room_1.slots (T104.setTop (mkF m 182 #[iv p0, iv p1, iv p2, iv p3, jv p4, .second, iv 1, iv (oI a), iv 0, iv (oI ((a + 1) % 1)), rv b97, rv b100, iv 0, iv 1, .unset, .unset, .unset, .unset, .unset] [(.ref b100)]))
      replace Ex_b97 := Ex_b97.keep K104
      replace V_eb := V_eb.keep K104 (ninS (Ne.symm ne_b97_eb) (ninS neb nin0))
      replace Ex_b100 := Ex_b100.keep K104
      replace ZZ := Nat.le_trans ZZ K104.1
      have G0 : Fld Z T104.heap b97 "weirline/runtime/InputChannels" "count" "I" (.int (1 : Int32)) := Gn0_104
      have G1 : Fld Z T104.heap b97 "weirline/runtime/InputChannels" "ended" "[Z" (.ref eb) := Gn1_104
      have G2 : Fld Z T104.heap b97 "weirline/runtime/InputChannels" "endedCount" "I" (.int (0 : Int32)) := Gn2_104
      have G3 : Fld Z T104.heap b97 "weirline/runtime/InputChannels" "aligning" "Lweirline/runtime/CheckpointBarrier;" .null := Gn3_104
      have G4 : Fld Z T104.heap b97 "weirline/runtime/InputChannels" "barrierIn" "[Z" (.ref bb) := Gn4_104
      have G5 : Fld Z T104.heap b97 "weirline/runtime/InputChannels" "barriersIn" "I" (.int (0 : Int32)) := Gn5_104
      have V_bb := Vn104
      refine gs (fun t => XS.astore X104.here hx rfl (hb hby at_182) rfl rfl (l' := #[iv p0, iv p1, iv p2, iv p3, jv p4, .second, iv 1, iv (oI a), iv 0, iv (oI ((a + 1) % 1)), rv b97, rv b100, iv 0, iv 1, rv b100, .unset, .unset, .unset, .unset]) rfl) ?_
      refine gs (fun t => XS.iconst X104.here hx rfl (hb hby at_184)) ?_
      refine gs (fun t => XS.iload X104.here hx rfl (hb hby at_185) rfl) ?_
      refine gs (fun t => XS.iadd X104.here hx rfl (hb hby at_187) rfl) ?_
      refine gs (fun t => XS.iload X104.here hx rfl (hb hby at_188) rfl) ?_
      refine gs (fun t => XS.icmpNo X104.here hx rfl (hb hby at_190) rfl (flt (by decide : ¬ ((1 : Int32) < (1 : Int32)))).1) ?_
      show Go p e below s QQ room_1.cells room_1.slots (T104.setTop (mkF m 193 #[iv p0, iv p1, iv p2, iv p3, jv p4, .second, iv 1, iv (oI a), iv 0, iv (oI ((a + 1) % 1)), rv b97, rv b100, iv 0, iv 1, rv b100, .unset, .unset, .unset, .unset] []))
      refine gs (fun t => XS.iconst X104.here hx rfl (hb hby at_193)) ?_
      refine gs (fun t => XS.goto X104.here hx rfl (pc0 := 194) (pc' := 198) rfl (hb hby at_194) (by decide) (by decide)) ?_
      refine gs (fun t => XS.istore X104.here hx rfl (hb hby at_198) rfl (l' := #[iv p0, iv p1, iv p2, iv p3, jv p4, .second, iv 1, iv (oI a), iv 0, iv (oI ((a + 1) % 1)), rv b97, rv b100, iv 0, iv 1, rv b100, iv 1, .unset, .unset, .unset]) rfl) ?_
      refine gs (fun t => XS.iload X104.here hx rfl (hb hby at_200) rfl) ?_
      refine gs (fun t => XS.ifNo X104.here hx rfl (hb hby at_202) rfl ((if0 _ _).trans (feq (by decide : ¬ ((1 : Int32) = (0 : Int32)))).1)) ?_
      refine gs (fun t => XS.iload X104.here hx rfl (hb hby at_205) rfl) ?_
      show Go p e below s QQ room_1.cells room_1.slots (T104.setTop (mkF m 207 #[iv p0, iv p1, iv p2, iv p3, jv p4, .second, iv 1, iv (oI a), iv 0, iv (oI ((a + 1) % 1)), rv b97, rv b100, iv 0, iv 1, rv b100, iv 1, .unset, .unset, .unset] [(.int (1 : Int32))]))
      refine gs (fun t => XS.ifNo X104.here hx rfl (hb hby at_207) rfl ((if0 _ _).trans (feq (by decide : ¬ ((1 : Int32) = (0 : Int32)))).1)) ?_
      refine gs (fun t => XS.aload X104.here hx rfl (hb hby at_210) rfl rfl) ?_
      refine gs (fun t => XS.aload X104.here hx rfl (hb hby at_212) rfl rfl) ?_
      refine gs (fun t => Jvm.RoadKit.acmp (g := (mkF m 214 #[iv p0, iv p1, iv p2, iv p3, jv p4, .second, iv 1, iv (oI a), iv 0, iv (oI ((a + 1) % 1)), rv b97, rv b100, iv 0, iv 1, rv b100, iv 1, .unset, .unset, .unset] [(.ref b100), (.ref b100)])) X104 hx rfl rfl rfl (pc0 := 214) (pc' := 217) (same := true) rfl (hb hby at_214) rfl (decide_eq_true rfl) (by decide) (by decide)) ?_
      refine gs (fun t => XS.iconst X104.here hx rfl (hb hby at_217)) ?_
      refine gs (fun t => XS.goto X104.here hx rfl (pc0 := 218) (pc' := 222) rfl (hb hby at_218) (by decide) (by decide)) ?_
      show Go p e below s QQ room_1.cells room_1.slots (T104.setTop (mkF m 222 #[iv p0, iv p1, iv p2, iv p3, jv p4, .second, iv 1, iv (oI a), iv 0, iv (oI ((a + 1) % 1)), rv b97, rv b100, iv 0, iv 1, rv b100, iv 1, .unset, .unset, .unset] [(.int (1 : Int32))]))
      refine gs (fun t => XS.istore X104.here hx rfl (hb hby at_222) rfl (l' := #[iv p0, iv p1, iv p2, iv p3, jv p4, .second, iv 1, iv (oI a), iv 0, iv (oI ((a + 1) % 1)), rv b97, rv b100, iv 0, iv 1, rv b100, iv 1, .unset, .unset, .unset]) rfl) ?_
      refine gs (fun t => XS.goto X104.here hx rfl (pc0 := 224) (pc' := 244) rfl (hb hby at_224) (by decide) (by decide)) ?_
      refine gs (fun t => XS.iload X104.here hx rfl (hb hby at_244) rfl) ?_
      refine gs (fun t => XS.ifNo X104.here hx rfl (hb hby at_246) rfl ((if0 _ _).trans (feq (by decide : ¬ ((1 : Int32) = (0 : Int32)))).1)) ?_
      refine gs (fun t => XS.aload X104.here hx rfl (hb hby at_249) rfl rfl) ?_
      refine gs (fun t => XS.iload X104.here hx rfl (hb hby at_251) rfl) ?_
      show Go p e below s QQ room_1.cells room_1.slots (T104.setTop (mkF m 253 #[iv p0, iv p1, iv p2, iv p3, jv p4, .second, iv 1, iv (oI a), iv 0, iv (oI ((a + 1) % 1)), rv b97, rv b100, iv 0, iv 1, rv b100, iv 1, .unset, .unset, .unset] [(.int (oI a)), (.ref b97)]))
      obtain ⟨cq105, kq105, q105a, q105b, q105c⟩ := isOf hZ rfl Ex_b97
      obtain ⟨_, _, ⟨T105, L105, k105, n105⟩, -, X105, ⟨Lc105, hQ105, l105, y105, z105⟩, st105⟩ := X104.virtualBack hx (y := (⟨"weirline/runtime/InputChannels", "holdsBack", "(I)Z"⟩ : MethodName)) (z := (⟨"weirline/runtime/InputChannels", "holdsBack", "(I)Z"⟩ : MethodName)) hown (mvT hZ (hw _ (List.mem_of_getElem? (i := 52) rfl))) (mvT hZ (hw _ (List.mem_of_getElem? (i := 53) rfl))) (notFace_of_selects (args := #[]) (mvT hZ (hw _ (List.mem_of_getElem? (i := 55) rfl)))) (mvT hZ (hw _ (List.mem_of_getElem? (i := 55) rfl))) (mvT hZ (hw _ (List.mem_of_getElem? (i := 54) rfl))) (by decide) (backOf (W := 0) (rm7 l Z a0 hw [] b97 a 1 bb (fun _ => .int 0) (0 : Int32) T104.heap n0 ZZ G4 V_bb rfl (by decide) ha (by decide)) hZ (hw _ (List.mem_of_getElem? (i := 56) rfl)) (hw _ (List.mem_of_getElem? (i := 3) rfl)) (by decide) (by decide)) q105a q105c (g := (mkF m 253 #[iv p0, iv p1, iv p2, iv p3, jv p4, .second, iv 1, iv (oI a), iv 0, iv (oI ((a + 1) % 1)), rv b97, rv b100, iv 0, iv 1, rv b100, iv 1, .unset, .unset, .unset] [(.int (oI a)), (.ref b97)])) rfl (by rw [hml]; rfl) (Steps.refl _) (argsL := [(.int (oI a))]) (rest := []) (lenOf pd_6 rfl) rfl (by show 2 * 0 + _ ≤ _; exact Nat.le_of_eq rfl) (hb hby at_253) (fun _ _ => ⟨rfl, rfl, (by decide : 6 + 0 ≤ _), (by decide : 15 + 0 ≤ _)⟩)
      dsimp only [Pt.U, Pt.locs, Pt.cells, Pt.slots] at X105 l105 y105 z105 st105 hQ105
      subst l105 y105 z105
      obtain ⟨rfl, N105q, e105⟩ := hQ105
      replace N0 := Fr.app N0 N105q
      refine gt st105 ?_
      show Go p e below s QQ room_1.cells room_1.slots (T105.setTop (mkF m 256 #[iv p0, iv p1, iv p2, iv p3, jv p4, .second, iv 1, iv (oI a), iv 0, iv (oI ((a + 1) % 1)), rv b97, rv b100, iv 0, iv 1, rv b100, iv 1, .unset, .unset, .unset] [(.int (0 : Int32))]))
      refine gs (fun t => XS.iload X105.here hx rfl (hb hby at_256) rfl) ?_
      refine gs (fun t => XS.ifYes X105.here hx rfl (pc0 := 258) (pc' := 265) rfl (hb hby at_258) rfl ((if0 _ _).trans (feq (by decide : ¬ ((1 : Int32) = (0 : Int32)))).2) (by decide) (by decide)) ?_
      refine gs (fun t => XS.iconst X105.here hx rfl (hb hby at_265)) ?_
      refine gs (fun t => XS.icmpNo X105.here hx rfl (hb hby at_266) rfl (teq (by decide : (0 : Int32) = (0 : Int32))).2) ?_
      refine gs (fun t => XS.iconst X105.here hx rfl (hb hby at_269)) ?_
      refine gs (fun t => XS.goto X105.here hx rfl (pc0 := 270) (pc' := 274) rfl (hb hby at_270) (by decide) (by decide)) ?_
      show Go p e below s QQ room_1.cells room_1.slots (T105.setTop (mkF m 274 #[iv p0, iv p1, iv p2, iv p3, jv p4, .second, iv 1, iv (oI a), iv 0, iv (oI ((a + 1) % 1)), rv b97, rv b100, iv 0, iv 1, rv b100, iv 1, .unset, .unset, .unset] [(.int (1 : Int32))]))
      refine gs (fun t => XS.istore X105.here hx rfl (hb hby at_274) rfl (l' := #[iv p0, iv p1, iv p2, iv p3, jv p4, .second, iv 1, iv (oI a), iv 0, iv (oI ((a + 1) % 1)), rv b97, rv b100, iv 0, iv 1, rv b100, iv 1, .unset, .unset, .unset]) rfl) ?_
      refine gs (fun t => XS.iload X105.here hx rfl (hb hby at_276) rfl) ?_
      refine gs (fun t => XS.ifYes X105.here hx rfl (pc0 := 278) (pc' := 434) rfl (hb hby at_278) rfl ((if0 _ _).trans (feq (by decide : ¬ ((1 : Int32) = (0 : Int32)))).2) (by decide) (by decide)) ?_
      refine gs (fun t => XS.iload X105.here hx rfl (hb hby at_434) rfl) ?_
      exact goB X105 hx Bd.notSynchronized Bd.returns (by simp) (w := (1 : Int32)) (by first | rfl | decide) (hb hby at_436) (by rw [← hQQ, e105]; exact ⟨rfl, N0⟩) (by decide) (by decide)
    by_cases hf : (p3 &&& (1 : Int32)) = (0 : Int32)
    · skip
      refine gs (fun t => XS.ifYes X0.here hx rfl (pc0 := 22) (pc' := 35) rfl (hb hby at_22) rfl ((if0 _ _).trans (teq hf).1) (by decide) (by decide)) ?_
      refine gs (fun t => XS.iconst X0.here hx rfl (hb hby at_35)) ?_
      show Go p e below s QQ room_1.cells room_1.slots (s₁.setTop (mkF m 36 #[iv p0, iv p1, iv p2, iv p3, jv p4, .second, iv 1, iv (oI a), .unset, .unset, .unset, .unset, .unset, .unset, .unset, .unset, .unset, .unset, .unset] [(.int (0 : Int32))]))
      exact key trivial
    · skip
      refine gs (fun t => XS.ifNo X0.here hx rfl (hb hby at_22) rfl ((if0 _ _).trans (feq hf).1)) ?_
      refine gs (fun t => XS.iload X0.here hx rfl (hb hby at_25) rfl) ?_
      show Go p e below s QQ room_1.cells room_1.slots (s₁.setTop (mkF m 27 #[iv p0, iv p1, iv p2, iv p3, jv p4, .second, iv 1, iv (oI a), .unset, .unset, .unset, .unset, .unset, .unset, .unset, .unset, .unset, .unset, .unset] [(.int (1 : Int32))]))
      refine gs (fun t => XS.iconst X0.here hx rfl (hb hby at_27)) ?_
      refine gs (fun t => XS.icmpYes X0.here hx rfl (pc0 := 28) (pc' := 35) rfl (hb hby at_28) rfl (tlt (by decide : (1 : Int32) < (2 : Int32))).1 (by decide) (by decide)) ?_
      refine gs (fun t => XS.iconst X0.here hx rfl (hb hby at_35)) ?_
      show Go p e below s QQ room_1.cells room_1.slots (s₁.setTop (mkF m 36 #[iv p0, iv p1, iv p2, iv p3, jv p4, .second, iv 1, iv (oI a), .unset, .unset, .unset, .unset, .unset, .unset, .unset, .unset, .unset, .unset, .unset] [(.int (0 : Int32))]))
      exact key trivial
  · skip
    show Go p e below s QQ room_1.cells room_1.slots (s₁.setTop (mkF m 16 #[iv p0, iv p1, iv p2, iv p3, jv p4, .second, iv 2, .unset, .unset, .unset, .unset, .unset, .unset, .unset, .unset, .unset, .unset, .unset, .unset] [(.int (2 : Int32)), (.int (p1 &&& (2147483647 : Int32)))]))
    refine gs (fun t => iremM X0 hx (g := (mkF m 16 #[iv p0, iv p1, iv p2, iv p3, jv p4, .second, iv 2, .unset, .unset, .unset, .unset, .unset, .unset, .unset, .unset, .unset, .unset, .unset, .unset] [(.int (2 : Int32)), (.int (p1 &&& (2147483647 : Int32)))])) rfl (hb hby at_16) rfl (by decide)) ?_
    show Go p e below s QQ room_1.cells room_1.slots (s₁.setTop (mkF m 17 #[iv p0, iv p1, iv p2, iv p3, jv p4, .second, iv 2, .unset, .unset, .unset, .unset, .unset, .unset, .unset, .unset, .unset, .unset, .unset, .unset] [(.int ((p1 &&& (2147483647 : Int32)) % (2 : Int32)))]))
    generalize ha1 : ((p1 &&& (2147483647 : Int32)) % (2 : Int32)) = a1
    show Go p e below s QQ room_1.cells room_1.slots (s₁.setTop (mkF m 17 #[iv p0, iv p1, iv p2, iv p3, jv p4, .second, iv 2, .unset, .unset, .unset, .unset, .unset, .unset, .unset, .unset, .unset, .unset, .unset, .unset] [(.int a1)]))
    obtain ⟨a, ha, rfl⟩ := own_a p1 (N := 2) (by decide) (by decide) rfl ha1
    clear ha1
    show Go p e below s QQ room_1.cells room_1.slots (s₁.setTop (mkF m 17 #[iv p0, iv p1, iv p2, iv p3, jv p4, .second, iv 2, .unset, .unset, .unset, .unset, .unset, .unset, .unset, .unset, .unset, .unset, .unset, .unset] [(.int (oI a))]))
    refine gs (fun t => XS.istore X0.here hx rfl (hb hby at_17) rfl (l' := #[iv p0, iv p1, iv p2, iv p3, jv p4, .second, iv 2, iv (oI a), .unset, .unset, .unset, .unset, .unset, .unset, .unset, .unset, .unset, .unset, .unset]) rfl) ?_
    refine gs (fun t => XS.iloadN X0.here hx rfl (hb hby at_19) rfl) ?_
    refine gs (fun t => XS.iconst X0.here hx rfl (hb hby at_20)) ?_
    refine gs (fun t => XS.iand X0.here hx rfl (hb hby at_21) rfl) ?_
    by_cases hf : (p3 &&& (1 : Int32)) = (0 : Int32)
    · skip
      refine gs (fun t => XS.ifYes X0.here hx rfl (pc0 := 22) (pc' := 35) rfl (hb hby at_22) rfl ((if0 _ _).trans (teq hf).1) (by decide) (by decide)) ?_
      refine gs (fun t => XS.iconst X0.here hx rfl (hb hby at_35)) ?_
      show Go p e below s QQ room_1.cells room_1.slots (s₁.setTop (mkF m 36 #[iv p0, iv p1, iv p2, iv p3, jv p4, .second, iv 2, iv (oI a), .unset, .unset, .unset, .unset, .unset, .unset, .unset, .unset, .unset, .unset, .unset] [(.int (0 : Int32))]))
      refine gs (fun t => XS.istore X0.here hx rfl (hb hby at_36) rfl (l' := #[iv p0, iv p1, iv p2, iv p3, jv p4, .second, iv 2, iv (oI a), iv 0, .unset, .unset, .unset, .unset, .unset, .unset, .unset, .unset, .unset, .unset]) rfl) ?_
      refine gs (fun t => XS.iload X0.here hx rfl (hb hby at_38) rfl) ?_
      refine gs (fun t => XS.iconst X0.here hx rfl (hb hby at_40)) ?_
      refine gs (fun t => XS.iadd X0.here hx rfl (hb hby at_41) rfl) ?_
      refine gs (fun t => XS.iload X0.here hx rfl (hb hby at_42) rfl) ?_
      refine gs (fun t => iremM X0 hx (g := (mkF m 44 #[iv p0, iv p1, iv p2, iv p3, jv p4, .second, iv 2, iv (oI a), iv 0, .unset, .unset, .unset, .unset, .unset, .unset, .unset, .unset, .unset, .unset] [(.int (2 : Int32)), (.int ((oI a) + (1 : Int32)))])) rfl (hb hby at_44) rfl (by decide)) ?_
      show Go p e below s QQ room_1.cells room_1.slots (s₁.setTop (mkF m 45 #[iv p0, iv p1, iv p2, iv p3, jv p4, .second, iv 2, iv (oI a), iv 0, .unset, .unset, .unset, .unset, .unset, .unset, .unset, .unset, .unset, .unset] [(.int (((oI a) + (1 : Int32)) % (2 : Int32)))]))
      rw [show (((oI a) + (1 : Int32)) % (2 : Int32)) = (oI ((a + 1) % 2)) from own_rem (by omega) (by decide) (by decide) (by decide) rfl rfl]
      show Go p e below s QQ room_1.cells room_1.slots (s₁.setTop (mkF m 45 #[iv p0, iv p1, iv p2, iv p3, jv p4, .second, iv 2, iv (oI a), iv 0, .unset, .unset, .unset, .unset, .unset, .unset, .unset, .unset, .unset, .unset] [(.int (oI ((a + 1) % 2)))]))
      refine gs (fun t => XS.istore X0.here hx rfl (hb hby at_45) rfl (l' := #[iv p0, iv p1, iv p2, iv p3, jv p4, .second, iv 2, iv (oI a), iv 0, iv (oI ((a + 1) % 2)), .unset, .unset, .unset, .unset, .unset, .unset, .unset, .unset, .unset]) rfl) ?_
      obtain ⟨T106, h106, X106, e106, E106, A106, D106, -, st106⟩ := newO X0 hx hZ hown (hw _ (List.mem_of_getElem? (i := 1) rfl)) (hw _ (List.mem_of_getElem? (i := 2) rfl)) (hw _ (List.mem_of_getElem? (i := 3) rfl)) e0 (g := (mkF m 47 #[iv p0, iv p1, iv p2, iv p3, jv p4, .second, iv 2, iv (oI a), iv 0, iv (oI ((a + 1) % 2)), .unset, .unset, .unset, .unset, .unset, .unset, .unset, .unset, .unset] [])) rfl (hb hby at_47) (by decide) (by decide)
      obtain ⟨b106, g106⟩ : ∃ z, z = h0.size := ⟨_, rfl⟩
      rw [← g106] at A106 D106 st106
      have ge_b106 : n0 ≤ b106 := by rw [g106]; exact ZZ
      refine gs st106 ?_
      show Go p e below s QQ room_1.cells room_1.slots (T106.setTop (mkF m 50 #[iv p0, iv p1, iv p2, iv p3, jv p4, .second, iv 2, iv (oI a), iv 0, iv (oI ((a + 1) % 2)), .unset, .unset, .unset, .unset, .unset, .unset, .unset, .unset, .unset] [(.ref b106)]))
      replace ZZ := Nat.le_trans ZZ E106.1
      have Ex_b106 := A106
      have F_minimum_b106 : Fld Z h106 b106 "weirline/runtime/InputChannels" "minimum" "J" (.long (0 : Int64)) := D106 (Or.inl (hw _ (List.mem_of_getElem? (i := 12) rfl))) (ty := .long) (by decide)
      have F_count_b106 : Fld Z h106 b106 "weirline/runtime/InputChannels" "count" "I" (.int (0 : Int32)) := D106 (Or.inr (hw _ (List.mem_of_getElem? (i := 14) rfl))) (ty := .int) (by decide)
      have F_latest_b106 : Fld Z h106 b106 "weirline/runtime/InputChannels" "latest" "[J" .null := D106 (Or.inr (hw _ (List.mem_of_getElem? (i := 17) rfl))) (ty := (.array .long)) (by decide)
      have F_channelIdle_b106 : Fld Z h106 b106 "weirline/runtime/InputChannels" "channelIdle" "[Z" .null := D106 (Or.inr (hw _ (List.mem_of_getElem? (i := 20) rfl))) (ty := (.array .boolean)) (by decide)
      have F_ended_b106 : Fld Z h106 b106 "weirline/runtime/InputChannels" "ended" "[Z" .null := D106 (Or.inr (hw _ (List.mem_of_getElem? (i := 22) rfl))) (ty := (.array .boolean)) (by decide)
      have F_barrierIn_b106 : Fld Z h106 b106 "weirline/runtime/InputChannels" "barrierIn" "[Z" .null := D106 (Or.inr (hw _ (List.mem_of_getElem? (i := 24) rfl))) (ty := (.array .boolean)) (by decide)
      have F_aligning_b106 : Fld Z h106 b106 "weirline/runtime/InputChannels" "aligning" "Lweirline/runtime/CheckpointBarrier;" .null := D106 (Or.inl (hw _ (List.mem_of_getElem? (i := 49) rfl))) (ty := (.object "weirline/runtime/CheckpointBarrier")) (by decide)
      have F_barriersIn_b106 : Fld Z h106 b106 "weirline/runtime/InputChannels" "barriersIn" "I" (.int (0 : Int32)) := D106 (Or.inl (hw _ (List.mem_of_getElem? (i := 51) rfl))) (ty := .int) (by decide)
      have F_endedCount_b106 : Fld Z h106 b106 "weirline/runtime/InputChannels" "endedCount" "I" (.int (0 : Int32)) := D106 (Or.inl (hw _ (List.mem_of_getElem? (i := 63) rfl))) (ty := .int) (by decide)
      refine gs (fun t => XS.dup X106.here hx rfl (hb hby at_50) rfl rfl) ?_
      refine gs (fun t => XS.iload X106.here hx rfl (hb hby at_51) rfl) ?_
      have ZZm107 := ZZ
      have lt107_b106 := Ex_b106.lt
      obtain ⟨_, _, ⟨T108, L108, k108, n108⟩, -, X108, ⟨Lc108, hQ108, l108, y108, z108⟩, st108⟩ := X106.specialBack hx (y := (⟨"weirline/runtime/InputChannels", "<init>", "(I)V"⟩ : MethodName)) rfl hown (mvT hZ (hw _ (List.mem_of_getElem? (i := 4) rfl))) (mvT hZ (hw _ (List.mem_of_getElem? (i := 5) rfl))) (mvT hZ (hw _ (List.mem_of_getElem? (i := 6) rfl))) (by decide) (backOf (W := 1) (ctor2 l Z a0 hw [] b106 h106 n0 ZZ F_minimum_b106 F_count_b106 F_latest_b106 F_channelIdle_b106 F_ended_b106 F_barrierIn_b106 F_aligning_b106 F_barriersIn_b106 F_endedCount_b106 Ex_b106 ge_b106) hZ (hw _ (List.mem_of_getElem? (i := 6) rfl)) (hw _ (List.mem_of_getElem? (i := 3) rfl)) (by decide) (by decide)) (g := (mkF m 53 #[iv p0, iv p1, iv p2, iv p3, jv p4, .second, iv 2, iv (oI a), iv 0, iv (oI ((a + 1) % 2)), .unset, .unset, .unset, .unset, .unset, .unset, .unset, .unset, .unset] [(.int (2 : Int32)), (.ref b106), (.ref b106)])) rfl (by rw [hml]; rfl) (Steps.refl _) (a := b106) (argsL := [(.int (2 : Int32))]) (rest := [(.ref b106)]) (lenOf pd_3 rfl) rfl (by show 2 * 0 + _ ≤ _; exact Nat.le_of_eq rfl) (hb hby at_53) (fun _ _ => ⟨rfl, e106, (by decide : 1 + 4 ≤ _), (by decide : 10 + 8 ≤ _)⟩)
      dsimp only [Pt.U, Pt.locs, Pt.cells, Pt.slots] at X108 l108 y108 z108 st108 hQ108
      subst l108 y108 z108
      obtain ⟨eb, bb, rfl, N108q, K108, G0, G1, G2, G3, G4, G5, V_eb, V_bb, geb, gbb, neb⟩ := hQ108
      replace N0 := Fr.app N0 N108q
      refine gt st108 ?_
      show Go p e below s QQ room_1.cells room_1.slots (T108.setTop (mkF m 56 #[iv p0, iv p1, iv p2, iv p3, jv p4, .second, iv 2, iv (oI a), iv 0, iv (oI ((a + 1) % 2)), .unset, .unset, .unset, .unset, .unset, .unset, .unset, .unset, .unset] [(.ref b106)]))
      replace Ex_b106 := Ex_b106.keep K108
      replace ZZ := Nat.le_trans ZZ K108.1
      have ne_b106_eb : b106 ≠ eb := Nat.ne_of_lt (Nat.lt_of_lt_of_le lt107_b106 geb)
      have ge_eb : n0 ≤ eb := Nat.le_trans ZZm107 geb
      have ne_b106_bb : b106 ≠ bb := Nat.ne_of_lt (Nat.lt_of_lt_of_le lt107_b106 gbb)
      have ge_bb : n0 ≤ bb := Nat.le_trans ZZm107 gbb
      refine gs (fun t => XS.astore X108.here hx rfl (hb hby at_56) rfl rfl (l' := #[iv p0, iv p1, iv p2, iv p3, jv p4, .second, iv 2, iv (oI a), iv 0, iv (oI ((a + 1) % 2)), rv b106, .unset, .unset, .unset, .unset, .unset, .unset, .unset, .unset]) rfl) ?_
      obtain ⟨T109, h109, X109, e109, E109, A109, D109, -, st109⟩ := newO X108 hx hZ hown (hw _ (List.mem_of_getElem? (i := 29) rfl)) (hw _ (List.mem_of_getElem? (i := 30) rfl)) (hw _ (List.mem_of_getElem? (i := 31) rfl)) rfl (g := (mkF m 58 #[iv p0, iv p1, iv p2, iv p3, jv p4, .second, iv 2, iv (oI a), iv 0, iv (oI ((a + 1) % 2)), rv b106, .unset, .unset, .unset, .unset, .unset, .unset, .unset, .unset] [])) rfl (hb hby at_58) (by decide) (by decide)
      obtain ⟨b109, g109⟩ : ∃ z, z = T108.heap.size := ⟨_, rfl⟩
      rw [← g109] at A109 D109 st109
      have ge_b109 : n0 ≤ b109 := by rw [g109]; exact ZZ
      have ne_b106_b109 : b106 ≠ b109 := by rw [g109]; exact Nat.ne_of_lt Ex_b106.lt
      have ne_eb_b109 : eb ≠ b109 := by rw [g109]; exact Nat.ne_of_lt V_eb.lt
      have ne_bb_b109 : bb ≠ b109 := by rw [g109]; exact Nat.ne_of_lt V_bb.lt
      refine gs st109 ?_
      show Go p e below s QQ room_1.cells room_1.slots (T109.setTop (mkF m 61 #[iv p0, iv p1, iv p2, iv p3, jv p4, .second, iv 2, iv (oI a), iv 0, iv (oI ((a + 1) % 2)), rv b106, .unset, .unset, .unset, .unset, .unset, .unset, .unset, .unset] [(.ref b109)]))
      replace Ex_b106 := Ex_b106.ext E109
      replace G0 := G0.ext E109
      replace G1 := G1.ext E109
      replace G2 := G2.ext E109
      replace G3 := G3.ext E109
      replace G4 := G4.ext E109
      replace G5 := G5.ext E109
      replace V_eb := V_eb.ext E109
      replace V_bb := V_bb.ext E109
      replace ZZ := Nat.le_trans ZZ E109.1
      have Ex_b109 := A109
      have F_checkpointId_b109 : Fld Z h109 b109 "weirline/runtime/CheckpointBarrier" "checkpointId" "J" (.long (0 : Int64)) := D109 (Or.inr (hw _ (List.mem_of_getElem? (i := 42) rfl))) (ty := .long) (by decide)
      refine gs (fun t => XS.dup X109.here hx rfl (hb hby at_61) rfl rfl) ?_
      refine gs (fun t => XS.lload X109.here hx rfl (hb hby at_62) rfl) ?_
      obtain ⟨_, _, ⟨T110, L110, k110, n110⟩, -, X110, ⟨Lc110, hQ110, l110, y110, z110⟩, st110⟩ := X109.specialBack hx (y := (⟨"weirline/runtime/CheckpointBarrier", "<init>", "(J)V"⟩ : MethodName)) rfl hown (mvT hZ (hw _ (List.mem_of_getElem? (i := 32) rfl))) (mvT hZ (hw _ (List.mem_of_getElem? (i := 33) rfl))) (mvT hZ (hw _ (List.mem_of_getElem? (i := 34) rfl))) (by decide) (backOf (W := 1) (rm4 l Z a0 hw [] b109 p4 h109 n0 ZZ F_checkpointId_b109 Ex_b109 ge_b109) hZ (hw _ (List.mem_of_getElem? (i := 34) rfl)) (hw _ (List.mem_of_getElem? (i := 31) rfl)) (by decide) (by decide)) (g := (mkF m 64 #[iv p0, iv p1, iv p2, iv p3, jv p4, .second, iv 2, iv (oI a), iv 0, iv (oI ((a + 1) % 2)), rv b106, .unset, .unset, .unset, .unset, .unset, .unset, .unset, .unset] [(.long p4), (.ref b109), (.ref b109)])) rfl (by rw [hml]; rfl) (Steps.refl _) (a := b109) (argsL := [(.long p4)]) (rest := [(.ref b109)]) (lenOf pd_4 rfl) rfl (by show 2 * 0 + _ ≤ _; exact Nat.le_of_eq rfl) (hb hby at_64) (fun _ _ => ⟨rfl, e109, (by decide : 6 + 0 ≤ _), (by decide : 19 + 0 ≤ _)⟩)
      dsimp only [Pt.U, Pt.locs, Pt.cells, Pt.slots] at X110 l110 y110 z110 st110 hQ110
      subst l110 y110 z110
      obtain ⟨rfl, N110q, K110⟩ := hQ110
      replace N0 := Fr.app N0 N110q
      refine gt st110 ?_
      show Go p e below s QQ room_1.cells room_1.slots (T110.setTop (mkF m 67 #[iv p0, iv p1, iv p2, iv p3, jv p4, .second, iv 2, iv (oI a), iv 0, iv (oI ((a + 1) % 2)), rv b106, .unset, .unset, .unset, .unset, .unset, .unset, .unset, .unset] [(.ref b109)]))
      replace Ex_b106 := Ex_b106.keep K110
      replace G0 := G0.keep K110 (ninS ne_b106_b109 nin0)
      replace G1 := G1.keep K110 (ninS ne_b106_b109 nin0)
      replace G2 := G2.keep K110 (ninS ne_b106_b109 nin0)
      replace G3 := G3.keep K110 (ninS ne_b106_b109 nin0)
      replace G4 := G4.keep K110 (ninS ne_b106_b109 nin0)
      replace G5 := G5.keep K110 (ninS ne_b106_b109 nin0)
      replace V_eb := V_eb.keep K110 (ninS ne_eb_b109 nin0)
      replace V_bb := V_bb.keep K110 (ninS ne_bb_b109 nin0)
      replace Ex_b109 := Ex_b109.keep K110
      replace ZZ := Nat.le_trans ZZ K110.1
      refine gs (fun t => XS.astore X110.here hx rfl (hb hby at_67) rfl rfl (l' := #[iv p0, iv p1, iv p2, iv p3, jv p4, .second, iv 2, iv (oI a), iv 0, iv (oI ((a + 1) % 2)), rv b106, rv b109, .unset, .unset, .unset, .unset, .unset, .unset, .unset]) rfl) ?_
      refine gs (fun t => XS.iload X110.here hx rfl (hb hby at_69) rfl) ?_
      refine gs (fun t => XS.ifYes X110.here hx rfl (pc0 := 71) (pc' := 81) rfl (hb hby at_71) rfl ((if0 _ _).trans (teq (by decide : (0 : Int32) = (0 : Int32))).1) (by decide) (by decide)) ?_
      refine gs (fun t => XS.iload X110.here hx rfl (hb hby at_81) rfl) ?_
      refine gs (fun t => XS.ifYes X110.here hx rfl (pc0 := 83) (pc' := 90) rfl (hb hby at_83) rfl ((if0 _ _).trans (teq (by decide : (0 : Int32) = (0 : Int32))).1) (by decide) (by decide)) ?_
      refine gs (fun t => XS.iconst X110.here hx rfl (hb hby at_90)) ?_
      show Go p e below s QQ room_1.cells room_1.slots (T110.setTop (mkF m 91 #[iv p0, iv p1, iv p2, iv p3, jv p4, .second, iv 2, iv (oI a), iv 0, iv (oI ((a + 1) % 2)), rv b106, rv b109, .unset, .unset, .unset, .unset, .unset, .unset, .unset] [(.int (0 : Int32))]))
      refine gs (fun t => XS.istore X110.here hx rfl (hb hby at_91) rfl (l' := #[iv p0, iv p1, iv p2, iv p3, jv p4, .second, iv 2, iv (oI a), iv 0, iv (oI ((a + 1) % 2)), rv b106, rv b109, iv 0, .unset, .unset, .unset, .unset, .unset, .unset]) rfl) ?_
      refine gs (fun t => XS.aload X110.here hx rfl (hb hby at_93) rfl rfl) ?_
      refine gs (fun t => XS.iload X110.here hx rfl (hb hby at_95) rfl) ?_
      refine gs (fun t => XS.aload X110.here hx rfl (hb hby at_97) rfl rfl) ?_
      obtain ⟨cq111, kq111, q111a, q111b, q111c⟩ := isOf hZ rfl Ex_b106
      obtain ⟨_, _, ⟨T111, L111, k111, n111⟩, -, X111, ⟨Lc111, hQ111, l111, y111, z111⟩, st111⟩ := X110.virtualBack hx (y := (⟨"weirline/runtime/InputChannels", "barrier", "(ILweirline/runtime/CheckpointBarrier;)V"⟩ : MethodName)) (z := (⟨"weirline/runtime/InputChannels", "barrier", "(ILweirline/runtime/CheckpointBarrier;)V"⟩ : MethodName)) hown (mvT hZ (hw _ (List.mem_of_getElem? (i := 43) rfl))) (mvT hZ (hw _ (List.mem_of_getElem? (i := 44) rfl))) (notFace_of_selects (args := #[]) (mvT hZ (hw _ (List.mem_of_getElem? (i := 46) rfl)))) (mvT hZ (hw _ (List.mem_of_getElem? (i := 46) rfl))) (mvT hZ (hw _ (List.mem_of_getElem? (i := 45) rfl))) (by decide) (backOf (W := 0) (rm6 l Z a0 hw [] b106 b109 a 2 (2 : Int32) eb (0 : Int32) .null bb (0 : Int32) (fun _ => .int 0) T110.heap n0 ZZ G0 G1 G2 G3 G4 G5 Ex_b106 V_bb ge_b106 ge_bb ne_b106_eb ne_b106_bb neb ha (by decide)) hZ (hw _ (List.mem_of_getElem? (i := 47) rfl)) (hw _ (List.mem_of_getElem? (i := 3) rfl)) (by decide) (by decide)) q111a q111c (g := (mkF m 99 #[iv p0, iv p1, iv p2, iv p3, jv p4, .second, iv 2, iv (oI a), iv 0, iv (oI ((a + 1) % 2)), rv b106, rv b109, iv 0, .unset, .unset, .unset, .unset, .unset, .unset] [(.ref b109), (.int (oI a)), (.ref b106)])) rfl (by rw [hml]; rfl) (Steps.refl _) (argsL := [(.int (oI a)), (.ref b109)]) (rest := []) (lenOf pd_5 rfl) rfl (by show 2 * 0 + _ ≤ _; exact Nat.le_of_eq rfl) (hb hby at_99) (fun _ _ => ⟨rfl, rfl, (by decide : 6 + 0 ≤ _), (by decide : 19 + 0 ≤ _)⟩)
      dsimp only [Pt.U, Pt.locs, Pt.cells, Pt.slots] at X111 l111 y111 z111 st111 hQ111
      subst l111 y111 z111
      obtain ⟨rfl, N111q, K111, Gn0_111, Gn1_111, Gn2_111, Gn3_111, Gn4_111, Gn5_111, Vn111⟩ := hQ111
      replace N0 := Fr.app N0 N111q
      refine gt st111 ?_
      show Go p e below s QQ room_1.cells room_1.slots (T111.setTop (mkF m 102 #[iv p0, iv p1, iv p2, iv p3, jv p4, .second, iv 2, iv (oI a), iv 0, iv (oI ((a + 1) % 2)), rv b106, rv b109, iv 0, .unset, .unset, .unset, .unset, .unset, .unset] []))
      replace Ex_b106 := Ex_b106.keep K111
      replace V_eb := V_eb.keep K111 (ninS (Ne.symm ne_b106_eb) (ninS neb nin0))
      replace Ex_b109 := Ex_b109.keep K111
      replace ZZ := Nat.le_trans ZZ K111.1
      have G0 : Fld Z T111.heap b106 "weirline/runtime/InputChannels" "count" "I" (.int (2 : Int32)) := Gn0_111
      have G1 : Fld Z T111.heap b106 "weirline/runtime/InputChannels" "ended" "[Z" (.ref eb) := Gn1_111
      have G2 : Fld Z T111.heap b106 "weirline/runtime/InputChannels" "endedCount" "I" (.int (0 : Int32)) := Gn2_111
      have G3 : Fld Z T111.heap b106 "weirline/runtime/InputChannels" "aligning" "Lweirline/runtime/CheckpointBarrier;" (.ref b109) := Gn3_111
      have G4 : Fld Z T111.heap b106 "weirline/runtime/InputChannels" "barrierIn" "[Z" (.ref bb) := Gn4_111
      have G5 : Fld Z T111.heap b106 "weirline/runtime/InputChannels" "barriersIn" "I" (.int (1 : Int32)) := Gn5_111
      have V_bb := Vn111
      refine gs (fun t => XS.aload X111.here hx rfl (hb hby at_102) rfl rfl) ?_
      refine gs (fun t => XS.iload X111.here hx rfl (hb hby at_104) rfl) ?_
      obtain ⟨cq112, kq112, q112a, q112b, q112c⟩ := isOf hZ rfl Ex_b106
      obtain ⟨_, _, ⟨T112, L112, k112, n112⟩, -, X112, ⟨Lc112, hQ112, l112, y112, z112⟩, st112⟩ := X111.virtualBack hx (y := (⟨"weirline/runtime/InputChannels", "holdsBack", "(I)Z"⟩ : MethodName)) (z := (⟨"weirline/runtime/InputChannels", "holdsBack", "(I)Z"⟩ : MethodName)) hown (mvT hZ (hw _ (List.mem_of_getElem? (i := 52) rfl))) (mvT hZ (hw _ (List.mem_of_getElem? (i := 53) rfl))) (notFace_of_selects (args := #[]) (mvT hZ (hw _ (List.mem_of_getElem? (i := 55) rfl)))) (mvT hZ (hw _ (List.mem_of_getElem? (i := 55) rfl))) (mvT hZ (hw _ (List.mem_of_getElem? (i := 54) rfl))) (by decide) (backOf (W := 0) (rm7 l Z a0 hw [] b106 a 2 bb (updv (fun _ => .int 0) a (.int 1)) (1 : Int32) T111.heap n0 ZZ G4 V_bb (by simp [Jvm.RoadKit.updv]) (by decide) ha (by decide)) hZ (hw _ (List.mem_of_getElem? (i := 56) rfl)) (hw _ (List.mem_of_getElem? (i := 3) rfl)) (by decide) (by decide)) q112a q112c (g := (mkF m 106 #[iv p0, iv p1, iv p2, iv p3, jv p4, .second, iv 2, iv (oI a), iv 0, iv (oI ((a + 1) % 2)), rv b106, rv b109, iv 0, .unset, .unset, .unset, .unset, .unset, .unset] [(.int (oI a)), (.ref b106)])) rfl (by rw [hml]; rfl) (Steps.refl _) (argsL := [(.int (oI a))]) (rest := []) (lenOf pd_6 rfl) rfl (by show 2 * 0 + _ ≤ _; exact Nat.le_of_eq rfl) (hb hby at_106) (fun _ _ => ⟨rfl, rfl, (by decide : 6 + 0 ≤ _), (by decide : 19 + 0 ≤ _)⟩)
      dsimp only [Pt.U, Pt.locs, Pt.cells, Pt.slots] at X112 l112 y112 z112 st112 hQ112
      subst l112 y112 z112
      obtain ⟨rfl, N112q, e112⟩ := hQ112
      replace N0 := Fr.app N0 N112q
      refine gt st112 ?_
      show Go p e below s QQ room_1.cells room_1.slots (T112.setTop (mkF m 109 #[iv p0, iv p1, iv p2, iv p3, jv p4, .second, iv 2, iv (oI a), iv 0, iv (oI ((a + 1) % 2)), rv b106, rv b109, iv 0, .unset, .unset, .unset, .unset, .unset, .unset] [(.int (1 : Int32))]))
      refine gs (fun t => XS.istore X112.here hx rfl (hb hby at_109) rfl (l' := #[iv p0, iv p1, iv p2, iv p3, jv p4, .second, iv 2, iv (oI a), iv 0, iv (oI ((a + 1) % 2)), rv b106, rv b109, iv 0, iv 1, .unset, .unset, .unset, .unset, .unset]) rfl) ?_
      refine gs (fun t => XS.iload X112.here hx rfl (hb hby at_111) rfl) ?_
      refine gs (fun t => XS.iconst X112.here hx rfl (hb hby at_113)) ?_
      refine gs (fun t => XS.icmpNo X112.here hx rfl (hb hby at_114) rfl (flt (by decide : ¬ ((2 : Int32) < (2 : Int32)))).1) ?_
      refine gs (fun t => XS.iload X112.here hx rfl (hb hby at_117) rfl) ?_
      refine gs (fun t => XS.ifNo X112.here hx rfl (hb hby at_119) rfl ((if0 _ _).trans (feq (by decide : ¬ ((1 : Int32) = (0 : Int32)))).1)) ?_
      show Go p e below s QQ room_1.cells room_1.slots (T112.setTop (mkF m 122 #[iv p0, iv p1, iv p2, iv p3, jv p4, .second, iv 2, iv (oI a), iv 0, iv (oI ((a + 1) % 2)), rv b106, rv b109, iv 0, iv 1, .unset, .unset, .unset, .unset, .unset] []))
      refine gs (fun t => XS.aload X112.here hx rfl (hb hby at_122) rfl rfl) ?_
      refine gs (fun t => XS.iload X112.here hx rfl (hb hby at_124) rfl) ?_
      refine gs (fun t => XS.iconst X112.here hx rfl (hb hby at_126)) ?_
      refine gs (fun t => XS.iadd X112.here hx rfl (hb hby at_127) rfl) ?_
      refine gs (fun t => XS.iload X112.here hx rfl (hb hby at_128) rfl) ?_
      refine gs (fun t => iremM X112 hx (g := (mkF m 130 #[iv p0, iv p1, iv p2, iv p3, jv p4, .second, iv 2, iv (oI a), iv 0, iv (oI ((a + 1) % 2)), rv b106, rv b109, iv 0, iv 1, .unset, .unset, .unset, .unset, .unset] [(.int (2 : Int32)), (.int ((oI a) + (1 : Int32))), (.ref b106)])) rfl (hb hby at_130) rfl (by decide)) ?_
      show Go p e below s QQ room_1.cells room_1.slots (T112.setTop (mkF m 131 #[iv p0, iv p1, iv p2, iv p3, jv p4, .second, iv 2, iv (oI a), iv 0, iv (oI ((a + 1) % 2)), rv b106, rv b109, iv 0, iv 1, .unset, .unset, .unset, .unset, .unset] [(.int (((oI a) + (1 : Int32)) % (2 : Int32))), (.ref b106)]))
      rw [show (((oI a) + (1 : Int32)) % (2 : Int32)) = (oI ((a + 1) % 2)) from own_rem (by omega) (by decide) (by decide) (by decide) rfl rfl]
      show Go p e below s QQ room_1.cells room_1.slots (T112.setTop (mkF m 131 #[iv p0, iv p1, iv p2, iv p3, jv p4, .second, iv 2, iv (oI a), iv 0, iv (oI ((a + 1) % 2)), rv b106, rv b109, iv 0, iv 1, .unset, .unset, .unset, .unset, .unset] [(.int (oI ((a + 1) % 2))), (.ref b106)]))
      obtain ⟨cq113, kq113, q113a, q113b, q113c⟩ := isOf hZ e112 Ex_b106
      obtain ⟨_, _, ⟨T113, L113, k113, n113⟩, -, X113, ⟨Lc113, hQ113, l113, y113, z113⟩, st113⟩ := X112.virtualBack hx (y := (⟨"weirline/runtime/InputChannels", "holdsBack", "(I)Z"⟩ : MethodName)) (z := (⟨"weirline/runtime/InputChannels", "holdsBack", "(I)Z"⟩ : MethodName)) hown (mvT hZ (hw _ (List.mem_of_getElem? (i := 52) rfl))) (mvT hZ (hw _ (List.mem_of_getElem? (i := 53) rfl))) (notFace_of_selects (args := #[]) (mvT hZ (hw _ (List.mem_of_getElem? (i := 55) rfl)))) (mvT hZ (hw _ (List.mem_of_getElem? (i := 55) rfl))) (mvT hZ (hw _ (List.mem_of_getElem? (i := 54) rfl))) (by decide) (backOf (W := 0) (rm7 l Z a0 hw [] b106 ((a + 1) % 2) 2 bb (updv (fun _ => .int 0) a (.int 1)) (0 : Int32) T111.heap n0 ZZ G4 V_bb (if_neg (by omega)) (by decide) (Nat.mod_lt _ (by decide)) (by decide)) hZ (hw _ (List.mem_of_getElem? (i := 56) rfl)) (hw _ (List.mem_of_getElem? (i := 3) rfl)) (by decide) (by decide)) q113a q113c (g := (mkF m 131 #[iv p0, iv p1, iv p2, iv p3, jv p4, .second, iv 2, iv (oI a), iv 0, iv (oI ((a + 1) % 2)), rv b106, rv b109, iv 0, iv 1, .unset, .unset, .unset, .unset, .unset] [(.int (oI ((a + 1) % 2))), (.ref b106)])) rfl (by rw [hml]; rfl) (Steps.refl _) (argsL := [(.int (oI ((a + 1) % 2)))]) (rest := []) (lenOf pd_6 rfl) rfl (by show 2 * 0 + _ ≤ _; exact Nat.le_of_eq rfl) (hb hby at_131) (fun _ _ => ⟨rfl, e112, (by decide : 6 + 0 ≤ _), (by decide : 19 + 0 ≤ _)⟩)
      dsimp only [Pt.U, Pt.locs, Pt.cells, Pt.slots] at X113 l113 y113 z113 st113 hQ113
      subst l113 y113 z113
      obtain ⟨rfl, N113q, e113⟩ := hQ113
      replace N0 := Fr.app N0 N113q
      refine gt st113 ?_
      show Go p e below s QQ room_1.cells room_1.slots (T113.setTop (mkF m 134 #[iv p0, iv p1, iv p2, iv p3, jv p4, .second, iv 2, iv (oI a), iv 0, iv (oI ((a + 1) % 2)), rv b106, rv b109, iv 0, iv 1, .unset, .unset, .unset, .unset, .unset] [(.int (0 : Int32))]))
      refine gs (fun t => XS.ifNo X113.here hx rfl (hb hby at_134) rfl ((if0 _ _).trans (teq (by decide : (0 : Int32) = (0 : Int32))).2)) ?_
      refine gs (fun t => XS.iconst X113.here hx rfl (hb hby at_137)) ?_
      refine gs (fun t => XS.goto X113.here hx rfl (pc0 := 138) (pc' := 142) rfl (hb hby at_138) (by decide) (by decide)) ?_
      refine gs (fun t => XS.istore X113.here hx rfl (hb hby at_142) rfl (l' := #[iv p0, iv p1, iv p2, iv p3, jv p4, .second, iv 2, iv (oI a), iv 0, iv (oI ((a + 1) % 2)), rv b106, rv b109, iv 0, iv 1, .unset, .unset, .unset, .unset, .unset]) rfl) ?_
      refine gs (fun t => XS.iload X113.here hx rfl (hb hby at_144) rfl) ?_
      refine gs (fun t => XS.iconst X113.here hx rfl (hb hby at_146)) ?_
      show Go p e below s QQ room_1.cells room_1.slots (T113.setTop (mkF m 147 #[iv p0, iv p1, iv p2, iv p3, jv p4, .second, iv 2, iv (oI a), iv 0, iv (oI ((a + 1) % 2)), rv b106, rv b109, iv 0, iv 1, .unset, .unset, .unset, .unset, .unset] [(.int (3 : Int32)), (.int (2 : Int32))]))
      refine gs (fun t => XS.icmpYes X113.here hx rfl (pc0 := 147) (pc' := 177) rfl (hb hby at_147) rfl (feq (by decide : ¬ ((2 : Int32) = (3 : Int32)))).2 (by decide) (by decide)) ?_
      refine gs (fun t => XS.aload X113.here hx rfl (hb hby at_177) rfl rfl) ?_
      obtain ⟨cq114, kq114, q114a, q114b, q114c⟩ := isOf hZ e113 Ex_b106
      obtain ⟨_, _, ⟨T114, L114, k114, n114⟩, -, X114, ⟨Lc114, hQ114, l114, y114, z114⟩, st114⟩ := X113.virtualBack hx (y := (⟨"weirline/runtime/InputChannels", "linedUp", "()Lweirline/runtime/CheckpointBarrier;"⟩ : MethodName)) (z := (⟨"weirline/runtime/InputChannels", "linedUp", "()Lweirline/runtime/CheckpointBarrier;"⟩ : MethodName)) hown (mvT hZ (hw _ (List.mem_of_getElem? (i := 57) rfl))) (mvT hZ (hw _ (List.mem_of_getElem? (i := 58) rfl))) (notFace_of_selects (args := #[]) (mvT hZ (hw _ (List.mem_of_getElem? (i := 60) rfl)))) (mvT hZ (hw _ (List.mem_of_getElem? (i := 60) rfl))) (mvT hZ (hw _ (List.mem_of_getElem? (i := 59) rfl))) (by decide) (backOf (W := 0) (lu0 l Z a0 hw [] b106 (2 : Int32) eb (0 : Int32) b109 bb (1 : Int32) T111.heap n0 ZZ G0 G1 G2 G3 G4 G5 (by decide)) hZ (hw _ (List.mem_of_getElem? (i := 61) rfl)) (hw _ (List.mem_of_getElem? (i := 3) rfl)) (by decide) (by decide)) q114a q114c (g := (mkF m 179 #[iv p0, iv p1, iv p2, iv p3, jv p4, .second, iv 2, iv (oI a), iv 0, iv (oI ((a + 1) % 2)), rv b106, rv b109, iv 0, iv 1, .unset, .unset, .unset, .unset, .unset] [(.ref b106)])) rfl (by rw [hml]; rfl) (Steps.refl _) (argsL := []) (rest := []) (lenOf pd_7 rfl) rfl (by show 2 * 0 + _ ≤ _; exact Nat.le_of_eq rfl) (hb hby at_179) (fun _ _ => ⟨rfl, e113, (by decide : 6 + 0 ≤ _), (by decide : 19 + 0 ≤ _)⟩)
      dsimp only [Pt.U, Pt.locs, Pt.cells, Pt.slots] at X114 l114 y114 z114 st114 hQ114
      subst l114 y114 z114
      obtain ⟨rfl, N114q, e114⟩ := hQ114
      replace N0 := Fr.app N0 N114q
      refine gt st114 ?_
      show Go p e below s QQ room_1.cells room_1.slots (T114.setTop (mkF m 182 #[iv p0, iv p1, iv p2, iv p3, jv p4, .second, iv 2, iv (oI a), iv 0, iv (oI ((a + 1) % 2)), rv b106, rv b109, iv 0, iv 1, .unset, .unset, .unset, .unset, .unset] [.null]))
      refine gs (fun t => XS.astore X114.here hx rfl (hb hby at_182) rfl rfl (l' := #[iv p0, iv p1, iv p2, iv p3, jv p4, .second, iv 2, iv (oI a), iv 0, iv (oI ((a + 1) % 2)), rv b106, rv b109, iv 0, iv 1, .val .null, .unset, .unset, .unset, .unset]) rfl) ?_
      refine gs (fun t => XS.iconst X114.here hx rfl (hb hby at_184)) ?_
      refine gs (fun t => XS.iload X114.here hx rfl (hb hby at_185) rfl) ?_
      refine gs (fun t => XS.iadd X114.here hx rfl (hb hby at_187) rfl) ?_
      refine gs (fun t => XS.iload X114.here hx rfl (hb hby at_188) rfl) ?_
      refine gs (fun t => XS.icmpYes X114.here hx rfl (pc0 := 190) (pc' := 197) rfl (hb hby at_190) rfl (tlt (by decide : (1 : Int32) < (2 : Int32))).1 (by decide) (by decide)) ?_
      show Go p e below s QQ room_1.cells room_1.slots (T114.setTop (mkF m 197 #[iv p0, iv p1, iv p2, iv p3, jv p4, .second, iv 2, iv (oI a), iv 0, iv (oI ((a + 1) % 2)), rv b106, rv b109, iv 0, iv 1, .val .null, .unset, .unset, .unset, .unset] []))
      refine gs (fun t => XS.iconst X114.here hx rfl (hb hby at_197)) ?_
      refine gs (fun t => XS.istore X114.here hx rfl (hb hby at_198) rfl (l' := #[iv p0, iv p1, iv p2, iv p3, jv p4, .second, iv 2, iv (oI a), iv 0, iv (oI ((a + 1) % 2)), rv b106, rv b109, iv 0, iv 1, .val .null, iv 0, .unset, .unset, .unset]) rfl) ?_
      refine gs (fun t => XS.iload X114.here hx rfl (hb hby at_200) rfl) ?_
      refine gs (fun t => XS.ifYes X114.here hx rfl (pc0 := 202) (pc' := 227) rfl (hb hby at_202) rfl ((if0 _ _).trans (teq (by decide : (0 : Int32) = (0 : Int32))).1) (by decide) (by decide)) ?_
      refine gs (fun t => XS.iload X114.here hx rfl (hb hby at_227) rfl) ?_
      refine gs (fun t => XS.ifNo X114.here hx rfl (hb hby at_229) rfl ((if0 _ _).trans (feq (by decide : ¬ ((1 : Int32) = (0 : Int32)))).1)) ?_
      show Go p e below s QQ room_1.cells room_1.slots (T114.setTop (mkF m 232 #[iv p0, iv p1, iv p2, iv p3, jv p4, .second, iv 2, iv (oI a), iv 0, iv (oI ((a + 1) % 2)), rv b106, rv b109, iv 0, iv 1, .val .null, iv 0, .unset, .unset, .unset] []))
      refine gs (fun t => XS.aload X114.here hx rfl (hb hby at_232) rfl rfl) ?_
      refine gs (fun t => XS.ifnonnullNo X114.here hx rfl (hb hby at_234) rfl) ?_
      refine gs (fun t => XS.iconst X114.here hx rfl (hb hby at_237)) ?_
      refine gs (fun t => XS.goto X114.here hx rfl (pc0 := 238) (pc' := 242) rfl (hb hby at_238) (by decide) (by decide)) ?_
      refine gs (fun t => XS.istore X114.here hx rfl (hb hby at_242) rfl (l' := #[iv p0, iv p1, iv p2, iv p3, jv p4, .second, iv 2, iv (oI a), iv 0, iv (oI ((a + 1) % 2)), rv b106, rv b109, iv 0, iv 1, .val .null, iv 0, .unset, .unset, .unset]) rfl) ?_
      refine gs (fun t => XS.iload X114.here hx rfl (hb hby at_244) rfl) ?_
      show Go p e below s QQ room_1.cells room_1.slots (T114.setTop (mkF m 246 #[iv p0, iv p1, iv p2, iv p3, jv p4, .second, iv 2, iv (oI a), iv 0, iv (oI ((a + 1) % 2)), rv b106, rv b109, iv 0, iv 1, .val .null, iv 0, .unset, .unset, .unset] [(.int (1 : Int32))]))
      refine gs (fun t => XS.ifNo X114.here hx rfl (hb hby at_246) rfl ((if0 _ _).trans (feq (by decide : ¬ ((1 : Int32) = (0 : Int32)))).1)) ?_
      refine gs (fun t => XS.aload X114.here hx rfl (hb hby at_249) rfl rfl) ?_
      refine gs (fun t => XS.iload X114.here hx rfl (hb hby at_251) rfl) ?_
      obtain ⟨cq115, kq115, q115a, q115b, q115c⟩ := isOf hZ e114 Ex_b106
      obtain ⟨_, _, ⟨T115, L115, k115, n115⟩, -, X115, ⟨Lc115, hQ115, l115, y115, z115⟩, st115⟩ := X114.virtualBack hx (y := (⟨"weirline/runtime/InputChannels", "holdsBack", "(I)Z"⟩ : MethodName)) (z := (⟨"weirline/runtime/InputChannels", "holdsBack", "(I)Z"⟩ : MethodName)) hown (mvT hZ (hw _ (List.mem_of_getElem? (i := 52) rfl))) (mvT hZ (hw _ (List.mem_of_getElem? (i := 53) rfl))) (notFace_of_selects (args := #[]) (mvT hZ (hw _ (List.mem_of_getElem? (i := 55) rfl)))) (mvT hZ (hw _ (List.mem_of_getElem? (i := 55) rfl))) (mvT hZ (hw _ (List.mem_of_getElem? (i := 54) rfl))) (by decide) (backOf (W := 0) (rm7 l Z a0 hw [] b106 a 2 bb (updv (fun _ => .int 0) a (.int 1)) (1 : Int32) T111.heap n0 ZZ G4 V_bb (by simp [Jvm.RoadKit.updv]) (by decide) ha (by decide)) hZ (hw _ (List.mem_of_getElem? (i := 56) rfl)) (hw _ (List.mem_of_getElem? (i := 3) rfl)) (by decide) (by decide)) q115a q115c (g := (mkF m 253 #[iv p0, iv p1, iv p2, iv p3, jv p4, .second, iv 2, iv (oI a), iv 0, iv (oI ((a + 1) % 2)), rv b106, rv b109, iv 0, iv 1, .val .null, iv 0, .unset, .unset, .unset] [(.int (oI a)), (.ref b106)])) rfl (by rw [hml]; rfl) (Steps.refl _) (argsL := [(.int (oI a))]) (rest := []) (lenOf pd_6 rfl) rfl (by show 2 * 0 + _ ≤ _; exact Nat.le_of_eq rfl) (hb hby at_253) (fun _ _ => ⟨rfl, e114, (by decide : 6 + 0 ≤ _), (by decide : 19 + 0 ≤ _)⟩)
      dsimp only [Pt.U, Pt.locs, Pt.cells, Pt.slots] at X115 l115 y115 z115 st115 hQ115
      subst l115 y115 z115
      obtain ⟨rfl, N115q, e115⟩ := hQ115
      replace N0 := Fr.app N0 N115q
      refine gt st115 ?_
      show Go p e below s QQ room_1.cells room_1.slots (T115.setTop (mkF m 256 #[iv p0, iv p1, iv p2, iv p3, jv p4, .second, iv 2, iv (oI a), iv 0, iv (oI ((a + 1) % 2)), rv b106, rv b109, iv 0, iv 1, .val .null, iv 0, .unset, .unset, .unset] [(.int (1 : Int32))]))
      refine gs (fun t => XS.iload X115.here hx rfl (hb hby at_256) rfl) ?_
      refine gs (fun t => XS.ifNo X115.here hx rfl (hb hby at_258) rfl ((if0 _ _).trans (teq (by decide : (0 : Int32) = (0 : Int32))).2)) ?_
      refine gs (fun t => XS.iconst X115.here hx rfl (hb hby at_261)) ?_
      refine gs (fun t => XS.goto X115.here hx rfl (pc0 := 262) (pc' := 266) rfl (hb hby at_262) (by decide) (by decide)) ?_
      refine gs (fun t => XS.icmpNo X115.here hx rfl (hb hby at_266) rfl (teq (by decide : (1 : Int32) = (1 : Int32))).2) ?_
      refine gs (fun t => XS.iconst X115.here hx rfl (hb hby at_269)) ?_
      show Go p e below s QQ room_1.cells room_1.slots (T115.setTop (mkF m 270 #[iv p0, iv p1, iv p2, iv p3, jv p4, .second, iv 2, iv (oI a), iv 0, iv (oI ((a + 1) % 2)), rv b106, rv b109, iv 0, iv 1, .val .null, iv 0, .unset, .unset, .unset] [(.int (1 : Int32))]))
      refine gs (fun t => XS.goto X115.here hx rfl (pc0 := 270) (pc' := 274) rfl (hb hby at_270) (by decide) (by decide)) ?_
      refine gs (fun t => XS.istore X115.here hx rfl (hb hby at_274) rfl (l' := #[iv p0, iv p1, iv p2, iv p3, jv p4, .second, iv 2, iv (oI a), iv 0, iv (oI ((a + 1) % 2)), rv b106, rv b109, iv 0, iv 1, .val .null, iv 0, .unset, .unset, .unset]) rfl) ?_
      refine gs (fun t => XS.iload X115.here hx rfl (hb hby at_276) rfl) ?_
      refine gs (fun t => XS.ifNo X115.here hx rfl (hb hby at_278) rfl ((if0 _ _).trans (teq (by decide : (0 : Int32) = (0 : Int32))).2)) ?_
      refine gs (fun t => XS.iload X115.here hx rfl (hb hby at_281) rfl) ?_
      refine gs (fun t => XS.iconst X115.here hx rfl (hb hby at_283)) ?_
      show Go p e below s QQ room_1.cells room_1.slots (T115.setTop (mkF m 284 #[iv p0, iv p1, iv p2, iv p3, jv p4, .second, iv 2, iv (oI a), iv 0, iv (oI ((a + 1) % 2)), rv b106, rv b109, iv 0, iv 1, .val .null, iv 0, .unset, .unset, .unset] [(.int (2 : Int32)), (.int (2 : Int32))]))
      refine gs (fun t => XS.icmpNo X115.here hx rfl (hb hby at_284) rfl (teq (by decide : (2 : Int32) = (2 : Int32))).2) ?_
      refine gs (fun t => XS.iload X115.here hx rfl (hb hby at_287) rfl) ?_
      refine gs (fun t => XS.iconst X115.here hx rfl (hb hby at_289)) ?_
      refine gs (fun t => XS.iadd X115.here hx rfl (hb hby at_290) rfl) ?_
      refine gs (fun t => XS.iconst X115.here hx rfl (hb hby at_291)) ?_
      refine gs (fun t => iremM X115 hx (g := (mkF m 292 #[iv p0, iv p1, iv p2, iv p3, jv p4, .second, iv 2, iv (oI a), iv 0, iv (oI ((a + 1) % 2)), rv b106, rv b109, iv 0, iv 1, .val .null, iv 0, .unset, .unset, .unset] [(.int (2 : Int32)), (.int ((oI a) + (1 : Int32)))])) rfl (hb hby at_292) rfl (by decide)) ?_
      show Go p e below s QQ room_1.cells room_1.slots (T115.setTop (mkF m 293 #[iv p0, iv p1, iv p2, iv p3, jv p4, .second, iv 2, iv (oI a), iv 0, iv (oI ((a + 1) % 2)), rv b106, rv b109, iv 0, iv 1, .val .null, iv 0, .unset, .unset, .unset] [(.int (((oI a) + (1 : Int32)) % (2 : Int32)))]))
      rw [show (((oI a) + (1 : Int32)) % (2 : Int32)) = (oI ((a + 1) % 2)) from own_rem (by omega) (by decide) (by decide) (by decide) rfl rfl]
      show Go p e below s QQ room_1.cells room_1.slots (T115.setTop (mkF m 293 #[iv p0, iv p1, iv p2, iv p3, jv p4, .second, iv 2, iv (oI a), iv 0, iv (oI ((a + 1) % 2)), rv b106, rv b109, iv 0, iv 1, .val .null, iv 0, .unset, .unset, .unset] [(.int (oI ((a + 1) % 2)))]))
      refine gs (fun t => XS.istore X115.here hx rfl (hb hby at_293) rfl (l' := #[iv p0, iv p1, iv p2, iv p3, jv p4, .second, iv 2, iv (oI a), iv 0, iv (oI ((a + 1) % 2)), rv b106, rv b109, iv 0, iv 1, .val .null, iv 0, iv (oI ((a + 1) % 2)), .unset, .unset]) rfl) ?_
      refine gs (fun t => XS.goto X115.here hx rfl (pc0 := 295) (pc' := 326) rfl (hb hby at_295) (by decide) (by decide)) ?_
      refine gs (fun t => XS.aload X115.here hx rfl (hb hby at_326) rfl rfl) ?_
      refine gs (fun t => XS.iload X115.here hx rfl (hb hby at_328) rfl) ?_
      refine gs (fun t => XS.aload X115.here hx rfl (hb hby at_330) rfl rfl) ?_
      obtain ⟨cq116, kq116, q116a, q116b, q116c⟩ := isOf hZ e115 Ex_b106
      obtain ⟨_, _, ⟨T116, L116, k116, n116⟩, -, X116, ⟨Lc116, hQ116, l116, y116, z116⟩, st116⟩ := X115.virtualBack hx (y := (⟨"weirline/runtime/InputChannels", "barrier", "(ILweirline/runtime/CheckpointBarrier;)V"⟩ : MethodName)) (z := (⟨"weirline/runtime/InputChannels", "barrier", "(ILweirline/runtime/CheckpointBarrier;)V"⟩ : MethodName)) hown (mvT hZ (hw _ (List.mem_of_getElem? (i := 43) rfl))) (mvT hZ (hw _ (List.mem_of_getElem? (i := 44) rfl))) (notFace_of_selects (args := #[]) (mvT hZ (hw _ (List.mem_of_getElem? (i := 46) rfl)))) (mvT hZ (hw _ (List.mem_of_getElem? (i := 46) rfl))) (mvT hZ (hw _ (List.mem_of_getElem? (i := 45) rfl))) (by decide) (backOf (W := 0) (rm6 l Z a0 hw [] b106 b109 ((a + 1) % 2) 2 (2 : Int32) eb (0 : Int32) (.ref b109) bb (1 : Int32) (updv (fun _ => .int 0) a (.int 1)) T111.heap n0 ZZ G0 G1 G2 G3 G4 G5 Ex_b106 V_bb ge_b106 ge_bb ne_b106_eb ne_b106_bb neb (Nat.mod_lt _ (by decide)) (by decide)) hZ (hw _ (List.mem_of_getElem? (i := 47) rfl)) (hw _ (List.mem_of_getElem? (i := 3) rfl)) (by decide) (by decide)) q116a q116c (g := (mkF m 332 #[iv p0, iv p1, iv p2, iv p3, jv p4, .second, iv 2, iv (oI a), iv 0, iv (oI ((a + 1) % 2)), rv b106, rv b109, iv 0, iv 1, .val .null, iv 0, iv (oI ((a + 1) % 2)), .unset, .unset] [(.ref b109), (.int (oI ((a + 1) % 2))), (.ref b106)])) rfl (by rw [hml]; rfl) (Steps.refl _) (argsL := [(.int (oI ((a + 1) % 2))), (.ref b109)]) (rest := []) (lenOf pd_5 rfl) rfl (by show 2 * 0 + _ ≤ _; exact Nat.le_of_eq rfl) (hb hby at_332) (fun _ _ => ⟨rfl, e115, (by decide : 6 + 0 ≤ _), (by decide : 19 + 0 ≤ _)⟩)
      dsimp only [Pt.U, Pt.locs, Pt.cells, Pt.slots] at X116 l116 y116 z116 st116 hQ116
      subst l116 y116 z116
      obtain ⟨rfl, N116q, K116, Gn0_116, Gn1_116, Gn2_116, Gn3_116, Gn4_116, Gn5_116, Vn116⟩ := hQ116
      replace N0 := Fr.app N0 N116q
      refine gt st116 ?_
      show Go p e below s QQ room_1.cells room_1.slots (T116.setTop (mkF m 335 #[iv p0, iv p1, iv p2, iv p3, jv p4, .second, iv 2, iv (oI a), iv 0, iv (oI ((a + 1) % 2)), rv b106, rv b109, iv 0, iv 1, .val .null, iv 0, iv (oI ((a + 1) % 2)), .unset, .unset] []))
      replace Ex_b106 := Ex_b106.keep K116
      replace V_eb := V_eb.keep K116 (ninS (Ne.symm ne_b106_eb) (ninS neb nin0))
      replace Ex_b109 := Ex_b109.keep K116
      replace ZZ := Nat.le_trans ZZ K116.1
      have G0 : Fld Z T116.heap b106 "weirline/runtime/InputChannels" "count" "I" (.int (2 : Int32)) := Gn0_116
      have G1 : Fld Z T116.heap b106 "weirline/runtime/InputChannels" "ended" "[Z" (.ref eb) := Gn1_116
      have G2 : Fld Z T116.heap b106 "weirline/runtime/InputChannels" "endedCount" "I" (.int (0 : Int32)) := Gn2_116
      have G3 : Fld Z T116.heap b106 "weirline/runtime/InputChannels" "aligning" "Lweirline/runtime/CheckpointBarrier;" (.ref b109) := Gn3_116
      have G4 : Fld Z T116.heap b106 "weirline/runtime/InputChannels" "barrierIn" "[Z" (.ref bb) := Gn4_116
      have G5 : Fld Z T116.heap b106 "weirline/runtime/InputChannels" "barriersIn" "I" (.int (2 : Int32)) := Gn5_116
      have V_bb := Vn116
      refine gs (fun t => XS.aload X116.here hx rfl (hb hby at_335) rfl rfl) ?_
      obtain ⟨cq117, kq117, q117a, q117b, q117c⟩ := isOf hZ rfl Ex_b106
      obtain ⟨_, _, ⟨T117, L117, k117, n117⟩, -, X117, ⟨Lc117, hQ117, l117, y117, z117⟩, st117⟩ := X116.virtualBack hx (y := (⟨"weirline/runtime/InputChannels", "linedUp", "()Lweirline/runtime/CheckpointBarrier;"⟩ : MethodName)) (z := (⟨"weirline/runtime/InputChannels", "linedUp", "()Lweirline/runtime/CheckpointBarrier;"⟩ : MethodName)) hown (mvT hZ (hw _ (List.mem_of_getElem? (i := 57) rfl))) (mvT hZ (hw _ (List.mem_of_getElem? (i := 58) rfl))) (notFace_of_selects (args := #[]) (mvT hZ (hw _ (List.mem_of_getElem? (i := 60) rfl)))) (mvT hZ (hw _ (List.mem_of_getElem? (i := 60) rfl))) (mvT hZ (hw _ (List.mem_of_getElem? (i := 59) rfl))) (by decide) (backOf (W := 0) (luF2 l Z a0 hw [] b106 (2 : Int32) eb (0 : Int32) b109 bb (2 : Int32) (updv (updv (fun _ => .int 0) a (.int 1)) ((a + 1) % 2) (.int 1)) T116.heap n0 ZZ G0 G1 G2 G3 G4 G5 Ex_b106 V_bb ge_b106 ge_bb ne_b106_bb (by decide)) hZ (hw _ (List.mem_of_getElem? (i := 61) rfl)) (hw _ (List.mem_of_getElem? (i := 3) rfl)) (by decide) (by decide)) q117a q117c (g := (mkF m 337 #[iv p0, iv p1, iv p2, iv p3, jv p4, .second, iv 2, iv (oI a), iv 0, iv (oI ((a + 1) % 2)), rv b106, rv b109, iv 0, iv 1, .val .null, iv 0, iv (oI ((a + 1) % 2)), .unset, .unset] [(.ref b106)])) rfl (by rw [hml]; rfl) (Steps.refl _) (argsL := []) (rest := []) (lenOf pd_7 rfl) rfl (by show 2 * 0 + _ ≤ _; exact Nat.le_of_eq rfl) (hb hby at_337) (fun _ _ => ⟨rfl, rfl, (by decide : 6 + 0 ≤ _), (by decide : 19 + 0 ≤ _)⟩)
      dsimp only [Pt.U, Pt.locs, Pt.cells, Pt.slots] at X117 l117 y117 z117 st117 hQ117
      subst l117 y117 z117
      obtain ⟨rfl, N117q, K117, Gn0_117, Gn1_117, Gn2_117, Gn3_117, Gn4_117, Gn5_117, Vn117⟩ := hQ117
      replace N0 := Fr.app N0 N117q
      refine gt st117 ?_
      show Go p e below s QQ room_1.cells room_1.slots (T117.setTop (mkF m 340 #[iv p0, iv p1, iv p2, iv p3, jv p4, .second, iv 2, iv (oI a), iv 0, iv (oI ((a + 1) % 2)), rv b106, rv b109, iv 0, iv 1, .val .null, iv 0, iv (oI ((a + 1) % 2)), .unset, .unset] [(.ref b109)]))
      replace Ex_b106 := Ex_b106.keep K117
      replace V_eb := V_eb.keep K117 (ninS (Ne.symm ne_b106_eb) (ninS neb nin0))
      replace Ex_b109 := Ex_b109.keep K117
      replace ZZ := Nat.le_trans ZZ K117.1
      have G0 : Fld Z T117.heap b106 "weirline/runtime/InputChannels" "count" "I" (.int (2 : Int32)) := Gn0_117
      have G1 : Fld Z T117.heap b106 "weirline/runtime/InputChannels" "ended" "[Z" (.ref eb) := Gn1_117
      have G2 : Fld Z T117.heap b106 "weirline/runtime/InputChannels" "endedCount" "I" (.int (0 : Int32)) := Gn2_117
      have G3 : Fld Z T117.heap b106 "weirline/runtime/InputChannels" "aligning" "Lweirline/runtime/CheckpointBarrier;" .null := Gn3_117
      have G4 : Fld Z T117.heap b106 "weirline/runtime/InputChannels" "barrierIn" "[Z" (.ref bb) := Gn4_117
      have G5 : Fld Z T117.heap b106 "weirline/runtime/InputChannels" "barriersIn" "I" (.int (0 : Int32)) := Gn5_117
      have V_bb := Vn117
      refine gs (fun t => XS.astore X117.here hx rfl (hb hby at_340) rfl rfl (l' := #[iv p0, iv p1, iv p2, iv p3, jv p4, .second, iv 2, iv (oI a), iv 0, iv (oI ((a + 1) % 2)), rv b106, rv b109, iv 0, iv 1, .val .null, iv 0, iv (oI ((a + 1) % 2)), rv b109, .unset]) rfl) ?_
      refine gs (fun t => XS.iconst X117.here hx rfl (hb hby at_342)) ?_
      refine gs (fun t => XS.iload X117.here hx rfl (hb hby at_343) rfl) ?_
      refine gs (fun t => XS.iadd X117.here hx rfl (hb hby at_345) rfl) ?_
      refine gs (fun t => XS.iload X117.here hx rfl (hb hby at_346) rfl) ?_
      refine gs (fun t => XS.icmpNo X117.here hx rfl (hb hby at_348) rfl (flt (by decide : ¬ ((2 : Int32) < (2 : Int32)))).1) ?_
      show Go p e below s QQ room_1.cells room_1.slots (T117.setTop (mkF m 351 #[iv p0, iv p1, iv p2, iv p3, jv p4, .second, iv 2, iv (oI a), iv 0, iv (oI ((a + 1) % 2)), rv b106, rv b109, iv 0, iv 1, .val .null, iv 0, iv (oI ((a + 1) % 2)), rv b109, .unset] []))
      refine gs (fun t => XS.iconst X117.here hx rfl (hb hby at_351)) ?_
      refine gs (fun t => XS.goto X117.here hx rfl (pc0 := 352) (pc' := 356) rfl (hb hby at_352) (by decide) (by decide)) ?_
      refine gs (fun t => XS.istore X117.here hx rfl (hb hby at_356) rfl (l' := #[iv p0, iv p1, iv p2, iv p3, jv p4, .second, iv 2, iv (oI a), iv 0, iv (oI ((a + 1) % 2)), rv b106, rv b109, iv 0, iv 1, .val .null, iv 0, iv (oI ((a + 1) % 2)), rv b109, iv 1]) rfl) ?_
      refine gs (fun t => XS.iload X117.here hx rfl (hb hby at_358) rfl) ?_
      refine gs (fun t => XS.ifNo X117.here hx rfl (hb hby at_360) rfl ((if0 _ _).trans (feq (by decide : ¬ ((1 : Int32) = (0 : Int32)))).1)) ?_
      refine gs (fun t => XS.iload X117.here hx rfl (hb hby at_363) rfl) ?_
      show Go p e below s QQ room_1.cells room_1.slots (T117.setTop (mkF m 365 #[iv p0, iv p1, iv p2, iv p3, jv p4, .second, iv 2, iv (oI a), iv 0, iv (oI ((a + 1) % 2)), rv b106, rv b109, iv 0, iv 1, .val .null, iv 0, iv (oI ((a + 1) % 2)), rv b109, iv 1] [(.int (1 : Int32))]))
      refine gs (fun t => XS.ifNo X117.here hx rfl (hb hby at_365) rfl ((if0 _ _).trans (feq (by decide : ¬ ((1 : Int32) = (0 : Int32)))).1)) ?_
      refine gs (fun t => XS.aload X117.here hx rfl (hb hby at_368) rfl rfl) ?_
      refine gs (fun t => XS.aload X117.here hx rfl (hb hby at_370) rfl rfl) ?_
      refine gs (fun t => Jvm.RoadKit.acmp (g := (mkF m 372 #[iv p0, iv p1, iv p2, iv p3, jv p4, .second, iv 2, iv (oI a), iv 0, iv (oI ((a + 1) % 2)), rv b106, rv b109, iv 0, iv 1, .val .null, iv 0, iv (oI ((a + 1) % 2)), rv b109, iv 1] [(.ref b109), (.ref b109)])) X117 hx rfl rfl rfl (pc0 := 372) (pc' := 375) (same := true) rfl (hb hby at_372) rfl (decide_eq_true rfl) (by decide) (by decide)) ?_
      refine gs (fun t => XS.iconst X117.here hx rfl (hb hby at_375)) ?_
      refine gs (fun t => XS.goto X117.here hx rfl (pc0 := 376) (pc' := 380) rfl (hb hby at_376) (by decide) (by decide)) ?_
      show Go p e below s QQ room_1.cells room_1.slots (T117.setTop (mkF m 380 #[iv p0, iv p1, iv p2, iv p3, jv p4, .second, iv 2, iv (oI a), iv 0, iv (oI ((a + 1) % 2)), rv b106, rv b109, iv 0, iv 1, .val .null, iv 0, iv (oI ((a + 1) % 2)), rv b109, iv 1] [(.int (1 : Int32))]))
      refine gs (fun t => XS.istore X117.here hx rfl (hb hby at_380) rfl (l' := #[iv p0, iv p1, iv p2, iv p3, jv p4, .second, iv 2, iv (oI a), iv 0, iv (oI ((a + 1) % 2)), rv b106, rv b109, iv 0, iv 1, .val .null, iv 0, iv (oI ((a + 1) % 2)), rv b109, iv 1]) rfl) ?_
      refine gs (fun t => XS.goto X117.here hx rfl (pc0 := 382) (pc' := 402) rfl (hb hby at_382) (by decide) (by decide)) ?_
      refine gs (fun t => XS.iload X117.here hx rfl (hb hby at_402) rfl) ?_
      refine gs (fun t => XS.ifNo X117.here hx rfl (hb hby at_404) rfl ((if0 _ _).trans (feq (by decide : ¬ ((1 : Int32) = (0 : Int32)))).1)) ?_
      refine gs (fun t => XS.aload X117.here hx rfl (hb hby at_407) rfl rfl) ?_
      refine gs (fun t => XS.iload X117.here hx rfl (hb hby at_409) rfl) ?_
      show Go p e below s QQ room_1.cells room_1.slots (T117.setTop (mkF m 411 #[iv p0, iv p1, iv p2, iv p3, jv p4, .second, iv 2, iv (oI a), iv 0, iv (oI ((a + 1) % 2)), rv b106, rv b109, iv 0, iv 1, .val .null, iv 0, iv (oI ((a + 1) % 2)), rv b109, iv 1] [(.int (oI ((a + 1) % 2))), (.ref b106)]))
      obtain ⟨cq118, kq118, q118a, q118b, q118c⟩ := isOf hZ rfl Ex_b106
      obtain ⟨_, _, ⟨T118, L118, k118, n118⟩, -, X118, ⟨Lc118, hQ118, l118, y118, z118⟩, st118⟩ := X117.virtualBack hx (y := (⟨"weirline/runtime/InputChannels", "holdsBack", "(I)Z"⟩ : MethodName)) (z := (⟨"weirline/runtime/InputChannels", "holdsBack", "(I)Z"⟩ : MethodName)) hown (mvT hZ (hw _ (List.mem_of_getElem? (i := 52) rfl))) (mvT hZ (hw _ (List.mem_of_getElem? (i := 53) rfl))) (notFace_of_selects (args := #[]) (mvT hZ (hw _ (List.mem_of_getElem? (i := 55) rfl)))) (mvT hZ (hw _ (List.mem_of_getElem? (i := 55) rfl))) (mvT hZ (hw _ (List.mem_of_getElem? (i := 54) rfl))) (by decide) (backOf (W := 0) (rm7 l Z a0 hw [] b106 ((a + 1) % 2) 2 bb (fun _ => .int 0) (0 : Int32) T117.heap n0 ZZ G4 V_bb rfl (by decide) (Nat.mod_lt _ (by decide)) (by decide)) hZ (hw _ (List.mem_of_getElem? (i := 56) rfl)) (hw _ (List.mem_of_getElem? (i := 3) rfl)) (by decide) (by decide)) q118a q118c (g := (mkF m 411 #[iv p0, iv p1, iv p2, iv p3, jv p4, .second, iv 2, iv (oI a), iv 0, iv (oI ((a + 1) % 2)), rv b106, rv b109, iv 0, iv 1, .val .null, iv 0, iv (oI ((a + 1) % 2)), rv b109, iv 1] [(.int (oI ((a + 1) % 2))), (.ref b106)])) rfl (by rw [hml]; rfl) (Steps.refl _) (argsL := [(.int (oI ((a + 1) % 2)))]) (rest := []) (lenOf pd_6 rfl) rfl (by show 2 * 0 + _ ≤ _; exact Nat.le_of_eq rfl) (hb hby at_411) (fun _ _ => ⟨rfl, rfl, (by decide : 6 + 0 ≤ _), (by decide : 19 + 0 ≤ _)⟩)
      dsimp only [Pt.U, Pt.locs, Pt.cells, Pt.slots] at X118 l118 y118 z118 st118 hQ118
      subst l118 y118 z118
      obtain ⟨rfl, N118q, e118⟩ := hQ118
      replace N0 := Fr.app N0 N118q
      refine gt st118 ?_
      show Go p e below s QQ room_1.cells room_1.slots (T118.setTop (mkF m 414 #[iv p0, iv p1, iv p2, iv p3, jv p4, .second, iv 2, iv (oI a), iv 0, iv (oI ((a + 1) % 2)), rv b106, rv b109, iv 0, iv 1, .val .null, iv 0, iv (oI ((a + 1) % 2)), rv b109, iv 1] [(.int (0 : Int32))]))
      refine gs (fun t => XS.iload X118.here hx rfl (hb hby at_414) rfl) ?_
      refine gs (fun t => XS.ifYes X118.here hx rfl (pc0 := 416) (pc' := 423) rfl (hb hby at_416) rfl ((if0 _ _).trans (feq (by decide : ¬ ((1 : Int32) = (0 : Int32)))).2) (by decide) (by decide)) ?_
      refine gs (fun t => XS.iconst X118.here hx rfl (hb hby at_423)) ?_
      refine gs (fun t => XS.icmpNo X118.here hx rfl (hb hby at_424) rfl (teq (by decide : (0 : Int32) = (0 : Int32))).2) ?_
      refine gs (fun t => XS.iconst X118.here hx rfl (hb hby at_427)) ?_
      refine gs (fun t => XS.goto X118.here hx rfl (pc0 := 428) (pc' := 432) rfl (hb hby at_428) (by decide) (by decide)) ?_
      show Go p e below s QQ room_1.cells room_1.slots (T118.setTop (mkF m 432 #[iv p0, iv p1, iv p2, iv p3, jv p4, .second, iv 2, iv (oI a), iv 0, iv (oI ((a + 1) % 2)), rv b106, rv b109, iv 0, iv 1, .val .null, iv 0, iv (oI ((a + 1) % 2)), rv b109, iv 1] [(.int (1 : Int32))]))
      refine gs (fun t => XS.istore X118.here hx rfl (hb hby at_432) rfl (l' := #[iv p0, iv p1, iv p2, iv p3, jv p4, .second, iv 2, iv (oI a), iv 0, iv (oI ((a + 1) % 2)), rv b106, rv b109, iv 0, iv 1, .val .null, iv 0, iv (oI ((a + 1) % 2)), rv b109, iv 1]) rfl) ?_
      refine gs (fun t => XS.iload X118.here hx rfl (hb hby at_434) rfl) ?_
      exact goB X118 hx Bd.notSynchronized Bd.returns (by simp) (w := (1 : Int32)) (by first | rfl | decide) (hb hby at_436) (by rw [← hQQ, e118]; exact ⟨rfl, N0⟩) (by decide) (by decide)
    · skip
      refine gs (fun t => XS.ifNo X0.here hx rfl (hb hby at_22) rfl ((if0 _ _).trans (feq hf).1)) ?_
      refine gs (fun t => XS.iload X0.here hx rfl (hb hby at_25) rfl) ?_
      show Go p e below s QQ room_1.cells room_1.slots (s₁.setTop (mkF m 27 #[iv p0, iv p1, iv p2, iv p3, jv p4, .second, iv 2, iv (oI a), .unset, .unset, .unset, .unset, .unset, .unset, .unset, .unset, .unset, .unset, .unset] [(.int (2 : Int32))]))
      refine gs (fun t => XS.iconst X0.here hx rfl (hb hby at_27)) ?_
      refine gs (fun t => XS.icmpNo X0.here hx rfl (hb hby at_28) rfl (flt (by decide : ¬ ((2 : Int32) < (2 : Int32)))).1) ?_
      refine gs (fun t => XS.iconst X0.here hx rfl (hb hby at_31)) ?_
      refine gs (fun t => XS.goto X0.here hx rfl (pc0 := 32) (pc' := 36) rfl (hb hby at_32) (by decide) (by decide)) ?_
      refine gs (fun t => XS.istore X0.here hx rfl (hb hby at_36) rfl (l' := #[iv p0, iv p1, iv p2, iv p3, jv p4, .second, iv 2, iv (oI a), iv 1, .unset, .unset, .unset, .unset, .unset, .unset, .unset, .unset, .unset, .unset]) rfl) ?_
      refine gs (fun t => XS.iload X0.here hx rfl (hb hby at_38) rfl) ?_
      show Go p e below s QQ room_1.cells room_1.slots (s₁.setTop (mkF m 40 #[iv p0, iv p1, iv p2, iv p3, jv p4, .second, iv 2, iv (oI a), iv 1, .unset, .unset, .unset, .unset, .unset, .unset, .unset, .unset, .unset, .unset] [(.int (oI a))]))
      refine gs (fun t => XS.iconst X0.here hx rfl (hb hby at_40)) ?_
      refine gs (fun t => XS.iadd X0.here hx rfl (hb hby at_41) rfl) ?_
      refine gs (fun t => XS.iload X0.here hx rfl (hb hby at_42) rfl) ?_
      refine gs (fun t => iremM X0 hx (g := (mkF m 44 #[iv p0, iv p1, iv p2, iv p3, jv p4, .second, iv 2, iv (oI a), iv 1, .unset, .unset, .unset, .unset, .unset, .unset, .unset, .unset, .unset, .unset] [(.int (2 : Int32)), (.int ((oI a) + (1 : Int32)))])) rfl (hb hby at_44) rfl (by decide)) ?_
      show Go p e below s QQ room_1.cells room_1.slots (s₁.setTop (mkF m 45 #[iv p0, iv p1, iv p2, iv p3, jv p4, .second, iv 2, iv (oI a), iv 1, .unset, .unset, .unset, .unset, .unset, .unset, .unset, .unset, .unset, .unset] [(.int (((oI a) + (1 : Int32)) % (2 : Int32)))]))
      rw [show (((oI a) + (1 : Int32)) % (2 : Int32)) = (oI ((a + 1) % 2)) from own_rem (by omega) (by decide) (by decide) (by decide) rfl rfl]
      show Go p e below s QQ room_1.cells room_1.slots (s₁.setTop (mkF m 45 #[iv p0, iv p1, iv p2, iv p3, jv p4, .second, iv 2, iv (oI a), iv 1, .unset, .unset, .unset, .unset, .unset, .unset, .unset, .unset, .unset, .unset] [(.int (oI ((a + 1) % 2)))]))
      refine gs (fun t => XS.istore X0.here hx rfl (hb hby at_45) rfl (l' := #[iv p0, iv p1, iv p2, iv p3, jv p4, .second, iv 2, iv (oI a), iv 1, iv (oI ((a + 1) % 2)), .unset, .unset, .unset, .unset, .unset, .unset, .unset, .unset, .unset]) rfl) ?_
      obtain ⟨T119, h119, X119, e119, E119, A119, D119, -, st119⟩ := newO X0 hx hZ hown (hw _ (List.mem_of_getElem? (i := 1) rfl)) (hw _ (List.mem_of_getElem? (i := 2) rfl)) (hw _ (List.mem_of_getElem? (i := 3) rfl)) e0 (g := (mkF m 47 #[iv p0, iv p1, iv p2, iv p3, jv p4, .second, iv 2, iv (oI a), iv 1, iv (oI ((a + 1) % 2)), .unset, .unset, .unset, .unset, .unset, .unset, .unset, .unset, .unset] [])) rfl (hb hby at_47) (by decide) (by decide)
      obtain ⟨b119, g119⟩ : ∃ z, z = h0.size := ⟨_, rfl⟩
      rw [← g119] at A119 D119 st119
      have ge_b119 : n0 ≤ b119 := by rw [g119]; exact ZZ
      refine gs st119 ?_
      show Go p e below s QQ room_1.cells room_1.slots (T119.setTop (mkF m 50 #[iv p0, iv p1, iv p2, iv p3, jv p4, .second, iv 2, iv (oI a), iv 1, iv (oI ((a + 1) % 2)), .unset, .unset, .unset, .unset, .unset, .unset, .unset, .unset, .unset] [(.ref b119)]))
      replace ZZ := Nat.le_trans ZZ E119.1
      have Ex_b119 := A119
      have F_minimum_b119 : Fld Z h119 b119 "weirline/runtime/InputChannels" "minimum" "J" (.long (0 : Int64)) := D119 (Or.inl (hw _ (List.mem_of_getElem? (i := 12) rfl))) (ty := .long) (by decide)
      have F_count_b119 : Fld Z h119 b119 "weirline/runtime/InputChannels" "count" "I" (.int (0 : Int32)) := D119 (Or.inr (hw _ (List.mem_of_getElem? (i := 14) rfl))) (ty := .int) (by decide)
      have F_latest_b119 : Fld Z h119 b119 "weirline/runtime/InputChannels" "latest" "[J" .null := D119 (Or.inr (hw _ (List.mem_of_getElem? (i := 17) rfl))) (ty := (.array .long)) (by decide)
      have F_channelIdle_b119 : Fld Z h119 b119 "weirline/runtime/InputChannels" "channelIdle" "[Z" .null := D119 (Or.inr (hw _ (List.mem_of_getElem? (i := 20) rfl))) (ty := (.array .boolean)) (by decide)
      have F_ended_b119 : Fld Z h119 b119 "weirline/runtime/InputChannels" "ended" "[Z" .null := D119 (Or.inr (hw _ (List.mem_of_getElem? (i := 22) rfl))) (ty := (.array .boolean)) (by decide)
      have F_barrierIn_b119 : Fld Z h119 b119 "weirline/runtime/InputChannels" "barrierIn" "[Z" .null := D119 (Or.inr (hw _ (List.mem_of_getElem? (i := 24) rfl))) (ty := (.array .boolean)) (by decide)
      have F_aligning_b119 : Fld Z h119 b119 "weirline/runtime/InputChannels" "aligning" "Lweirline/runtime/CheckpointBarrier;" .null := D119 (Or.inl (hw _ (List.mem_of_getElem? (i := 49) rfl))) (ty := (.object "weirline/runtime/CheckpointBarrier")) (by decide)
      have F_barriersIn_b119 : Fld Z h119 b119 "weirline/runtime/InputChannels" "barriersIn" "I" (.int (0 : Int32)) := D119 (Or.inl (hw _ (List.mem_of_getElem? (i := 51) rfl))) (ty := .int) (by decide)
      have F_endedCount_b119 : Fld Z h119 b119 "weirline/runtime/InputChannels" "endedCount" "I" (.int (0 : Int32)) := D119 (Or.inl (hw _ (List.mem_of_getElem? (i := 63) rfl))) (ty := .int) (by decide)
      refine gs (fun t => XS.dup X119.here hx rfl (hb hby at_50) rfl rfl) ?_
      refine gs (fun t => XS.iload X119.here hx rfl (hb hby at_51) rfl) ?_
      have ZZm120 := ZZ
      have lt120_b119 := Ex_b119.lt
      obtain ⟨_, _, ⟨T121, L121, k121, n121⟩, -, X121, ⟨Lc121, hQ121, l121, y121, z121⟩, st121⟩ := X119.specialBack hx (y := (⟨"weirline/runtime/InputChannels", "<init>", "(I)V"⟩ : MethodName)) rfl hown (mvT hZ (hw _ (List.mem_of_getElem? (i := 4) rfl))) (mvT hZ (hw _ (List.mem_of_getElem? (i := 5) rfl))) (mvT hZ (hw _ (List.mem_of_getElem? (i := 6) rfl))) (by decide) (backOf (W := 1) (ctor2 l Z a0 hw [] b119 h119 n0 ZZ F_minimum_b119 F_count_b119 F_latest_b119 F_channelIdle_b119 F_ended_b119 F_barrierIn_b119 F_aligning_b119 F_barriersIn_b119 F_endedCount_b119 Ex_b119 ge_b119) hZ (hw _ (List.mem_of_getElem? (i := 6) rfl)) (hw _ (List.mem_of_getElem? (i := 3) rfl)) (by decide) (by decide)) (g := (mkF m 53 #[iv p0, iv p1, iv p2, iv p3, jv p4, .second, iv 2, iv (oI a), iv 1, iv (oI ((a + 1) % 2)), .unset, .unset, .unset, .unset, .unset, .unset, .unset, .unset, .unset] [(.int (2 : Int32)), (.ref b119), (.ref b119)])) rfl (by rw [hml]; rfl) (Steps.refl _) (a := b119) (argsL := [(.int (2 : Int32))]) (rest := [(.ref b119)]) (lenOf pd_3 rfl) rfl (by show 2 * 0 + _ ≤ _; exact Nat.le_of_eq rfl) (hb hby at_53) (fun _ _ => ⟨rfl, e119, (by decide : 1 + 4 ≤ _), (by decide : 10 + 8 ≤ _)⟩)
      dsimp only [Pt.U, Pt.locs, Pt.cells, Pt.slots] at X121 l121 y121 z121 st121 hQ121
      subst l121 y121 z121
      obtain ⟨eb, bb, rfl, N121q, K121, G0, G1, G2, G3, G4, G5, V_eb, V_bb, geb, gbb, neb⟩ := hQ121
      replace N0 := Fr.app N0 N121q
      refine gt st121 ?_
      show Go p e below s QQ room_1.cells room_1.slots (T121.setTop (mkF m 56 #[iv p0, iv p1, iv p2, iv p3, jv p4, .second, iv 2, iv (oI a), iv 1, iv (oI ((a + 1) % 2)), .unset, .unset, .unset, .unset, .unset, .unset, .unset, .unset, .unset] [(.ref b119)]))
      replace Ex_b119 := Ex_b119.keep K121
      replace ZZ := Nat.le_trans ZZ K121.1
      have ne_b119_eb : b119 ≠ eb := Nat.ne_of_lt (Nat.lt_of_lt_of_le lt120_b119 geb)
      have ge_eb : n0 ≤ eb := Nat.le_trans ZZm120 geb
      have ne_b119_bb : b119 ≠ bb := Nat.ne_of_lt (Nat.lt_of_lt_of_le lt120_b119 gbb)
      have ge_bb : n0 ≤ bb := Nat.le_trans ZZm120 gbb
      refine gs (fun t => XS.astore X121.here hx rfl (hb hby at_56) rfl rfl (l' := #[iv p0, iv p1, iv p2, iv p3, jv p4, .second, iv 2, iv (oI a), iv 1, iv (oI ((a + 1) % 2)), rv b119, .unset, .unset, .unset, .unset, .unset, .unset, .unset, .unset]) rfl) ?_
      obtain ⟨T122, h122, X122, e122, E122, A122, D122, -, st122⟩ := newO X121 hx hZ hown (hw _ (List.mem_of_getElem? (i := 29) rfl)) (hw _ (List.mem_of_getElem? (i := 30) rfl)) (hw _ (List.mem_of_getElem? (i := 31) rfl)) rfl (g := (mkF m 58 #[iv p0, iv p1, iv p2, iv p3, jv p4, .second, iv 2, iv (oI a), iv 1, iv (oI ((a + 1) % 2)), rv b119, .unset, .unset, .unset, .unset, .unset, .unset, .unset, .unset] [])) rfl (hb hby at_58) (by decide) (by decide)
      obtain ⟨b122, g122⟩ : ∃ z, z = T121.heap.size := ⟨_, rfl⟩
      rw [← g122] at A122 D122 st122
      have ge_b122 : n0 ≤ b122 := by rw [g122]; exact ZZ
      have ne_b119_b122 : b119 ≠ b122 := by rw [g122]; exact Nat.ne_of_lt Ex_b119.lt
      have ne_eb_b122 : eb ≠ b122 := by rw [g122]; exact Nat.ne_of_lt V_eb.lt
      have ne_bb_b122 : bb ≠ b122 := by rw [g122]; exact Nat.ne_of_lt V_bb.lt
      refine gs st122 ?_
      show Go p e below s QQ room_1.cells room_1.slots (T122.setTop (mkF m 61 #[iv p0, iv p1, iv p2, iv p3, jv p4, .second, iv 2, iv (oI a), iv 1, iv (oI ((a + 1) % 2)), rv b119, .unset, .unset, .unset, .unset, .unset, .unset, .unset, .unset] [(.ref b122)]))
      replace Ex_b119 := Ex_b119.ext E122
      replace G0 := G0.ext E122
      replace G1 := G1.ext E122
      replace G2 := G2.ext E122
      replace G3 := G3.ext E122
      replace G4 := G4.ext E122
      replace G5 := G5.ext E122
      replace V_eb := V_eb.ext E122
      replace V_bb := V_bb.ext E122
      replace ZZ := Nat.le_trans ZZ E122.1
      have Ex_b122 := A122
      have F_checkpointId_b122 : Fld Z h122 b122 "weirline/runtime/CheckpointBarrier" "checkpointId" "J" (.long (0 : Int64)) := D122 (Or.inr (hw _ (List.mem_of_getElem? (i := 42) rfl))) (ty := .long) (by decide)
      refine gs (fun t => XS.dup X122.here hx rfl (hb hby at_61) rfl rfl) ?_
      refine gs (fun t => XS.lload X122.here hx rfl (hb hby at_62) rfl) ?_
      obtain ⟨_, _, ⟨T123, L123, k123, n123⟩, -, X123, ⟨Lc123, hQ123, l123, y123, z123⟩, st123⟩ := X122.specialBack hx (y := (⟨"weirline/runtime/CheckpointBarrier", "<init>", "(J)V"⟩ : MethodName)) rfl hown (mvT hZ (hw _ (List.mem_of_getElem? (i := 32) rfl))) (mvT hZ (hw _ (List.mem_of_getElem? (i := 33) rfl))) (mvT hZ (hw _ (List.mem_of_getElem? (i := 34) rfl))) (by decide) (backOf (W := 1) (rm4 l Z a0 hw [] b122 p4 h122 n0 ZZ F_checkpointId_b122 Ex_b122 ge_b122) hZ (hw _ (List.mem_of_getElem? (i := 34) rfl)) (hw _ (List.mem_of_getElem? (i := 31) rfl)) (by decide) (by decide)) (g := (mkF m 64 #[iv p0, iv p1, iv p2, iv p3, jv p4, .second, iv 2, iv (oI a), iv 1, iv (oI ((a + 1) % 2)), rv b119, .unset, .unset, .unset, .unset, .unset, .unset, .unset, .unset] [(.long p4), (.ref b122), (.ref b122)])) rfl (by rw [hml]; rfl) (Steps.refl _) (a := b122) (argsL := [(.long p4)]) (rest := [(.ref b122)]) (lenOf pd_4 rfl) rfl (by show 2 * 0 + _ ≤ _; exact Nat.le_of_eq rfl) (hb hby at_64) (fun _ _ => ⟨rfl, e122, (by decide : 6 + 0 ≤ _), (by decide : 19 + 0 ≤ _)⟩)
      dsimp only [Pt.U, Pt.locs, Pt.cells, Pt.slots] at X123 l123 y123 z123 st123 hQ123
      subst l123 y123 z123
      obtain ⟨rfl, N123q, K123⟩ := hQ123
      replace N0 := Fr.app N0 N123q
      refine gt st123 ?_
      show Go p e below s QQ room_1.cells room_1.slots (T123.setTop (mkF m 67 #[iv p0, iv p1, iv p2, iv p3, jv p4, .second, iv 2, iv (oI a), iv 1, iv (oI ((a + 1) % 2)), rv b119, .unset, .unset, .unset, .unset, .unset, .unset, .unset, .unset] [(.ref b122)]))
      replace Ex_b119 := Ex_b119.keep K123
      replace G0 := G0.keep K123 (ninS ne_b119_b122 nin0)
      replace G1 := G1.keep K123 (ninS ne_b119_b122 nin0)
      replace G2 := G2.keep K123 (ninS ne_b119_b122 nin0)
      replace G3 := G3.keep K123 (ninS ne_b119_b122 nin0)
      replace G4 := G4.keep K123 (ninS ne_b119_b122 nin0)
      replace G5 := G5.keep K123 (ninS ne_b119_b122 nin0)
      replace V_eb := V_eb.keep K123 (ninS ne_eb_b122 nin0)
      replace V_bb := V_bb.keep K123 (ninS ne_bb_b122 nin0)
      replace Ex_b122 := Ex_b122.keep K123
      replace ZZ := Nat.le_trans ZZ K123.1
      refine gs (fun t => XS.astore X123.here hx rfl (hb hby at_67) rfl rfl (l' := #[iv p0, iv p1, iv p2, iv p3, jv p4, .second, iv 2, iv (oI a), iv 1, iv (oI ((a + 1) % 2)), rv b119, rv b122, .unset, .unset, .unset, .unset, .unset, .unset, .unset]) rfl) ?_
      refine gs (fun t => XS.iload X123.here hx rfl (hb hby at_69) rfl) ?_
      refine gs (fun t => XS.ifNo X123.here hx rfl (hb hby at_71) rfl ((if0 _ _).trans (feq (by decide : ¬ ((1 : Int32) = (0 : Int32)))).1)) ?_
      refine gs (fun t => XS.aload X123.here hx rfl (hb hby at_74) rfl rfl) ?_
      refine gs (fun t => XS.iload X123.here hx rfl (hb hby at_76) rfl) ?_
      obtain ⟨cq124, kq124, q124a, q124b, q124c⟩ := isOf hZ rfl Ex_b119
      obtain ⟨_, _, ⟨T124, L124, k124, n124⟩, -, X124, ⟨Lc124, hQ124, l124, y124, z124⟩, st124⟩ := X123.virtualBack hx (y := (⟨"weirline/runtime/InputChannels", "end", "(I)V"⟩ : MethodName)) (z := (⟨"weirline/runtime/InputChannels", "end", "(I)V"⟩ : MethodName)) hown (mvT hZ (hw _ (List.mem_of_getElem? (i := 67) rfl))) (mvT hZ (hw _ (List.mem_of_getElem? (i := 68) rfl))) (notFace_of_selects (args := #[]) (mvT hZ (hw _ (List.mem_of_getElem? (i := 70) rfl)))) (mvT hZ (hw _ (List.mem_of_getElem? (i := 70) rfl))) (mvT hZ (hw _ (List.mem_of_getElem? (i := 69) rfl))) (by decide) (backOf (W := 0) (rm10 l Z a0 hw [] b119 ((a + 1) % 2) 2 (2 : Int32) eb (0 : Int32) .null bb (0 : Int32) (fun _ => .int 0) T123.heap n0 ZZ G0 G1 G2 G3 G4 G5 Ex_b119 V_eb ge_b119 ge_eb ne_b119_eb ne_b119_bb neb (Nat.mod_lt _ (by decide)) (by decide)) hZ (hw _ (List.mem_of_getElem? (i := 71) rfl)) (hw _ (List.mem_of_getElem? (i := 3) rfl)) (by decide) (by decide)) q124a q124c (g := (mkF m 78 #[iv p0, iv p1, iv p2, iv p3, jv p4, .second, iv 2, iv (oI a), iv 1, iv (oI ((a + 1) % 2)), rv b119, rv b122, .unset, .unset, .unset, .unset, .unset, .unset, .unset] [(.int (oI ((a + 1) % 2))), (.ref b119)])) rfl (by rw [hml]; rfl) (Steps.refl _) (argsL := [(.int (oI ((a + 1) % 2)))]) (rest := []) (lenOf pd_3 rfl) rfl (by show 2 * 0 + _ ≤ _; exact Nat.le_of_eq rfl) (hb hby at_78) (fun _ _ => ⟨rfl, rfl, (by decide : 6 + 0 ≤ _), (by decide : 19 + 0 ≤ _)⟩)
      dsimp only [Pt.U, Pt.locs, Pt.cells, Pt.slots] at X124 l124 y124 z124 st124 hQ124
      subst l124 y124 z124
      obtain ⟨rfl, N124q, K124, Gn0_124, Gn1_124, Gn2_124, Gn3_124, Gn4_124, Gn5_124⟩ := hQ124
      replace N0 := Fr.app N0 N124q
      refine gt st124 ?_
      show Go p e below s QQ room_1.cells room_1.slots (T124.setTop (mkF m 81 #[iv p0, iv p1, iv p2, iv p3, jv p4, .second, iv 2, iv (oI a), iv 1, iv (oI ((a + 1) % 2)), rv b119, rv b122, .unset, .unset, .unset, .unset, .unset, .unset, .unset] []))
      replace Ex_b119 := Ex_b119.keep K124
      replace V_bb := V_bb.keep K124 (ninS (Ne.symm ne_b119_bb) (ninS (Ne.symm neb) nin0))
      replace Ex_b122 := Ex_b122.keep K124
      replace ZZ := Nat.le_trans ZZ K124.1
      have G0 : Fld Z T124.heap b119 "weirline/runtime/InputChannels" "count" "I" (.int (2 : Int32)) := Gn0_124
      have G1 : Fld Z T124.heap b119 "weirline/runtime/InputChannels" "ended" "[Z" (.ref eb) := Gn1_124
      have G2 : Fld Z T124.heap b119 "weirline/runtime/InputChannels" "endedCount" "I" (.int (1 : Int32)) := Gn2_124
      have G3 : Fld Z T124.heap b119 "weirline/runtime/InputChannels" "aligning" "Lweirline/runtime/CheckpointBarrier;" .null := Gn3_124
      have G4 : Fld Z T124.heap b119 "weirline/runtime/InputChannels" "barrierIn" "[Z" (.ref bb) := Gn4_124
      have G5 : Fld Z T124.heap b119 "weirline/runtime/InputChannels" "barriersIn" "I" (.int (0 : Int32)) := Gn5_124
      refine gs (fun t => XS.iload X124.here hx rfl (hb hby at_81) rfl) ?_
      refine gs (fun t => XS.ifNo X124.here hx rfl (hb hby at_83) rfl ((if0 _ _).trans (feq (by decide : ¬ ((1 : Int32) = (0 : Int32)))).1)) ?_
      refine gs (fun t => XS.iconst X124.here hx rfl (hb hby at_86)) ?_
      refine gs (fun t => XS.goto X124.here hx rfl (pc0 := 87) (pc' := 91) rfl (hb hby at_87) (by decide) (by decide)) ?_
      refine gs (fun t => XS.istore X124.here hx rfl (hb hby at_91) rfl (l' := #[iv p0, iv p1, iv p2, iv p3, jv p4, .second, iv 2, iv (oI a), iv 1, iv (oI ((a + 1) % 2)), rv b119, rv b122, iv 1, .unset, .unset, .unset, .unset, .unset, .unset]) rfl) ?_
      refine gs (fun t => XS.aload X124.here hx rfl (hb hby at_93) rfl rfl) ?_
      show Go p e below s QQ room_1.cells room_1.slots (T124.setTop (mkF m 95 #[iv p0, iv p1, iv p2, iv p3, jv p4, .second, iv 2, iv (oI a), iv 1, iv (oI ((a + 1) % 2)), rv b119, rv b122, iv 1, .unset, .unset, .unset, .unset, .unset, .unset] [(.ref b119)]))
      refine gs (fun t => XS.iload X124.here hx rfl (hb hby at_95) rfl) ?_
      refine gs (fun t => XS.aload X124.here hx rfl (hb hby at_97) rfl rfl) ?_
      obtain ⟨cq125, kq125, q125a, q125b, q125c⟩ := isOf hZ rfl Ex_b119
      obtain ⟨_, _, ⟨T125, L125, k125, n125⟩, -, X125, ⟨Lc125, hQ125, l125, y125, z125⟩, st125⟩ := X124.virtualBack hx (y := (⟨"weirline/runtime/InputChannels", "barrier", "(ILweirline/runtime/CheckpointBarrier;)V"⟩ : MethodName)) (z := (⟨"weirline/runtime/InputChannels", "barrier", "(ILweirline/runtime/CheckpointBarrier;)V"⟩ : MethodName)) hown (mvT hZ (hw _ (List.mem_of_getElem? (i := 43) rfl))) (mvT hZ (hw _ (List.mem_of_getElem? (i := 44) rfl))) (notFace_of_selects (args := #[]) (mvT hZ (hw _ (List.mem_of_getElem? (i := 46) rfl)))) (mvT hZ (hw _ (List.mem_of_getElem? (i := 46) rfl))) (mvT hZ (hw _ (List.mem_of_getElem? (i := 45) rfl))) (by decide) (backOf (W := 0) (rm6 l Z a0 hw [] b119 b122 a 2 (2 : Int32) eb (1 : Int32) .null bb (0 : Int32) (fun _ => .int 0) T124.heap n0 ZZ G0 G1 G2 G3 G4 G5 Ex_b119 V_bb ge_b119 ge_bb ne_b119_eb ne_b119_bb neb ha (by decide)) hZ (hw _ (List.mem_of_getElem? (i := 47) rfl)) (hw _ (List.mem_of_getElem? (i := 3) rfl)) (by decide) (by decide)) q125a q125c (g := (mkF m 99 #[iv p0, iv p1, iv p2, iv p3, jv p4, .second, iv 2, iv (oI a), iv 1, iv (oI ((a + 1) % 2)), rv b119, rv b122, iv 1, .unset, .unset, .unset, .unset, .unset, .unset] [(.ref b122), (.int (oI a)), (.ref b119)])) rfl (by rw [hml]; rfl) (Steps.refl _) (argsL := [(.int (oI a)), (.ref b122)]) (rest := []) (lenOf pd_5 rfl) rfl (by show 2 * 0 + _ ≤ _; exact Nat.le_of_eq rfl) (hb hby at_99) (fun _ _ => ⟨rfl, rfl, (by decide : 6 + 0 ≤ _), (by decide : 19 + 0 ≤ _)⟩)
      dsimp only [Pt.U, Pt.locs, Pt.cells, Pt.slots] at X125 l125 y125 z125 st125 hQ125
      subst l125 y125 z125
      obtain ⟨rfl, N125q, K125, Gn0_125, Gn1_125, Gn2_125, Gn3_125, Gn4_125, Gn5_125, Vn125⟩ := hQ125
      replace N0 := Fr.app N0 N125q
      refine gt st125 ?_
      show Go p e below s QQ room_1.cells room_1.slots (T125.setTop (mkF m 102 #[iv p0, iv p1, iv p2, iv p3, jv p4, .second, iv 2, iv (oI a), iv 1, iv (oI ((a + 1) % 2)), rv b119, rv b122, iv 1, .unset, .unset, .unset, .unset, .unset, .unset] []))
      replace Ex_b119 := Ex_b119.keep K125
      replace Ex_b122 := Ex_b122.keep K125
      replace ZZ := Nat.le_trans ZZ K125.1
      have G0 : Fld Z T125.heap b119 "weirline/runtime/InputChannels" "count" "I" (.int (2 : Int32)) := Gn0_125
      have G1 : Fld Z T125.heap b119 "weirline/runtime/InputChannels" "ended" "[Z" (.ref eb) := Gn1_125
      have G2 : Fld Z T125.heap b119 "weirline/runtime/InputChannels" "endedCount" "I" (.int (1 : Int32)) := Gn2_125
      have G3 : Fld Z T125.heap b119 "weirline/runtime/InputChannels" "aligning" "Lweirline/runtime/CheckpointBarrier;" (.ref b122) := Gn3_125
      have G4 : Fld Z T125.heap b119 "weirline/runtime/InputChannels" "barrierIn" "[Z" (.ref bb) := Gn4_125
      have G5 : Fld Z T125.heap b119 "weirline/runtime/InputChannels" "barriersIn" "I" (.int (1 : Int32)) := Gn5_125
      have V_bb := Vn125
      refine gs (fun t => XS.aload X125.here hx rfl (hb hby at_102) rfl rfl) ?_
      refine gs (fun t => XS.iload X125.here hx rfl (hb hby at_104) rfl) ?_
      obtain ⟨cq126, kq126, q126a, q126b, q126c⟩ := isOf hZ rfl Ex_b119
      obtain ⟨_, _, ⟨T126, L126, k126, n126⟩, -, X126, ⟨Lc126, hQ126, l126, y126, z126⟩, st126⟩ := X125.virtualBack hx (y := (⟨"weirline/runtime/InputChannels", "holdsBack", "(I)Z"⟩ : MethodName)) (z := (⟨"weirline/runtime/InputChannels", "holdsBack", "(I)Z"⟩ : MethodName)) hown (mvT hZ (hw _ (List.mem_of_getElem? (i := 52) rfl))) (mvT hZ (hw _ (List.mem_of_getElem? (i := 53) rfl))) (notFace_of_selects (args := #[]) (mvT hZ (hw _ (List.mem_of_getElem? (i := 55) rfl)))) (mvT hZ (hw _ (List.mem_of_getElem? (i := 55) rfl))) (mvT hZ (hw _ (List.mem_of_getElem? (i := 54) rfl))) (by decide) (backOf (W := 0) (rm7 l Z a0 hw [] b119 a 2 bb (updv (fun _ => .int 0) a (.int 1)) (1 : Int32) T125.heap n0 ZZ G4 V_bb (by simp [Jvm.RoadKit.updv]) (by decide) ha (by decide)) hZ (hw _ (List.mem_of_getElem? (i := 56) rfl)) (hw _ (List.mem_of_getElem? (i := 3) rfl)) (by decide) (by decide)) q126a q126c (g := (mkF m 106 #[iv p0, iv p1, iv p2, iv p3, jv p4, .second, iv 2, iv (oI a), iv 1, iv (oI ((a + 1) % 2)), rv b119, rv b122, iv 1, .unset, .unset, .unset, .unset, .unset, .unset] [(.int (oI a)), (.ref b119)])) rfl (by rw [hml]; rfl) (Steps.refl _) (argsL := [(.int (oI a))]) (rest := []) (lenOf pd_6 rfl) rfl (by show 2 * 0 + _ ≤ _; exact Nat.le_of_eq rfl) (hb hby at_106) (fun _ _ => ⟨rfl, rfl, (by decide : 6 + 0 ≤ _), (by decide : 19 + 0 ≤ _)⟩)
      dsimp only [Pt.U, Pt.locs, Pt.cells, Pt.slots] at X126 l126 y126 z126 st126 hQ126
      subst l126 y126 z126
      obtain ⟨rfl, N126q, e126⟩ := hQ126
      replace N0 := Fr.app N0 N126q
      refine gt st126 ?_
      show Go p e below s QQ room_1.cells room_1.slots (T126.setTop (mkF m 109 #[iv p0, iv p1, iv p2, iv p3, jv p4, .second, iv 2, iv (oI a), iv 1, iv (oI ((a + 1) % 2)), rv b119, rv b122, iv 1, .unset, .unset, .unset, .unset, .unset, .unset] [(.int (1 : Int32))]))
      refine gs (fun t => XS.istore X126.here hx rfl (hb hby at_109) rfl (l' := #[iv p0, iv p1, iv p2, iv p3, jv p4, .second, iv 2, iv (oI a), iv 1, iv (oI ((a + 1) % 2)), rv b119, rv b122, iv 1, iv 1, .unset, .unset, .unset, .unset, .unset]) rfl) ?_
      refine gs (fun t => XS.iload X126.here hx rfl (hb hby at_111) rfl) ?_
      refine gs (fun t => XS.iconst X126.here hx rfl (hb hby at_113)) ?_
      refine gs (fun t => XS.icmpNo X126.here hx rfl (hb hby at_114) rfl (flt (by decide : ¬ ((2 : Int32) < (2 : Int32)))).1) ?_
      refine gs (fun t => XS.iload X126.here hx rfl (hb hby at_117) rfl) ?_
      refine gs (fun t => XS.ifNo X126.here hx rfl (hb hby at_119) rfl ((if0 _ _).trans (feq (by decide : ¬ ((1 : Int32) = (0 : Int32)))).1)) ?_
      show Go p e below s QQ room_1.cells room_1.slots (T126.setTop (mkF m 122 #[iv p0, iv p1, iv p2, iv p3, jv p4, .second, iv 2, iv (oI a), iv 1, iv (oI ((a + 1) % 2)), rv b119, rv b122, iv 1, iv 1, .unset, .unset, .unset, .unset, .unset] []))
      refine gs (fun t => XS.aload X126.here hx rfl (hb hby at_122) rfl rfl) ?_
      refine gs (fun t => XS.iload X126.here hx rfl (hb hby at_124) rfl) ?_
      refine gs (fun t => XS.iconst X126.here hx rfl (hb hby at_126)) ?_
      refine gs (fun t => XS.iadd X126.here hx rfl (hb hby at_127) rfl) ?_
      refine gs (fun t => XS.iload X126.here hx rfl (hb hby at_128) rfl) ?_
      refine gs (fun t => iremM X126 hx (g := (mkF m 130 #[iv p0, iv p1, iv p2, iv p3, jv p4, .second, iv 2, iv (oI a), iv 1, iv (oI ((a + 1) % 2)), rv b119, rv b122, iv 1, iv 1, .unset, .unset, .unset, .unset, .unset] [(.int (2 : Int32)), (.int ((oI a) + (1 : Int32))), (.ref b119)])) rfl (hb hby at_130) rfl (by decide)) ?_
      show Go p e below s QQ room_1.cells room_1.slots (T126.setTop (mkF m 131 #[iv p0, iv p1, iv p2, iv p3, jv p4, .second, iv 2, iv (oI a), iv 1, iv (oI ((a + 1) % 2)), rv b119, rv b122, iv 1, iv 1, .unset, .unset, .unset, .unset, .unset] [(.int (((oI a) + (1 : Int32)) % (2 : Int32))), (.ref b119)]))
      rw [show (((oI a) + (1 : Int32)) % (2 : Int32)) = (oI ((a + 1) % 2)) from own_rem (by omega) (by decide) (by decide) (by decide) rfl rfl]
      show Go p e below s QQ room_1.cells room_1.slots (T126.setTop (mkF m 131 #[iv p0, iv p1, iv p2, iv p3, jv p4, .second, iv 2, iv (oI a), iv 1, iv (oI ((a + 1) % 2)), rv b119, rv b122, iv 1, iv 1, .unset, .unset, .unset, .unset, .unset] [(.int (oI ((a + 1) % 2))), (.ref b119)]))
      obtain ⟨cq127, kq127, q127a, q127b, q127c⟩ := isOf hZ e126 Ex_b119
      obtain ⟨_, _, ⟨T127, L127, k127, n127⟩, -, X127, ⟨Lc127, hQ127, l127, y127, z127⟩, st127⟩ := X126.virtualBack hx (y := (⟨"weirline/runtime/InputChannels", "holdsBack", "(I)Z"⟩ : MethodName)) (z := (⟨"weirline/runtime/InputChannels", "holdsBack", "(I)Z"⟩ : MethodName)) hown (mvT hZ (hw _ (List.mem_of_getElem? (i := 52) rfl))) (mvT hZ (hw _ (List.mem_of_getElem? (i := 53) rfl))) (notFace_of_selects (args := #[]) (mvT hZ (hw _ (List.mem_of_getElem? (i := 55) rfl)))) (mvT hZ (hw _ (List.mem_of_getElem? (i := 55) rfl))) (mvT hZ (hw _ (List.mem_of_getElem? (i := 54) rfl))) (by decide) (backOf (W := 0) (rm7 l Z a0 hw [] b119 ((a + 1) % 2) 2 bb (updv (fun _ => .int 0) a (.int 1)) (0 : Int32) T125.heap n0 ZZ G4 V_bb (if_neg (by omega)) (by decide) (Nat.mod_lt _ (by decide)) (by decide)) hZ (hw _ (List.mem_of_getElem? (i := 56) rfl)) (hw _ (List.mem_of_getElem? (i := 3) rfl)) (by decide) (by decide)) q127a q127c (g := (mkF m 131 #[iv p0, iv p1, iv p2, iv p3, jv p4, .second, iv 2, iv (oI a), iv 1, iv (oI ((a + 1) % 2)), rv b119, rv b122, iv 1, iv 1, .unset, .unset, .unset, .unset, .unset] [(.int (oI ((a + 1) % 2))), (.ref b119)])) rfl (by rw [hml]; rfl) (Steps.refl _) (argsL := [(.int (oI ((a + 1) % 2)))]) (rest := []) (lenOf pd_6 rfl) rfl (by show 2 * 0 + _ ≤ _; exact Nat.le_of_eq rfl) (hb hby at_131) (fun _ _ => ⟨rfl, e126, (by decide : 6 + 0 ≤ _), (by decide : 19 + 0 ≤ _)⟩)
      dsimp only [Pt.U, Pt.locs, Pt.cells, Pt.slots] at X127 l127 y127 z127 st127 hQ127
      subst l127 y127 z127
      obtain ⟨rfl, N127q, e127⟩ := hQ127
      replace N0 := Fr.app N0 N127q
      refine gt st127 ?_
      show Go p e below s QQ room_1.cells room_1.slots (T127.setTop (mkF m 134 #[iv p0, iv p1, iv p2, iv p3, jv p4, .second, iv 2, iv (oI a), iv 1, iv (oI ((a + 1) % 2)), rv b119, rv b122, iv 1, iv 1, .unset, .unset, .unset, .unset, .unset] [(.int (0 : Int32))]))
      refine gs (fun t => XS.ifNo X127.here hx rfl (hb hby at_134) rfl ((if0 _ _).trans (teq (by decide : (0 : Int32) = (0 : Int32))).2)) ?_
      refine gs (fun t => XS.iconst X127.here hx rfl (hb hby at_137)) ?_
      refine gs (fun t => XS.goto X127.here hx rfl (pc0 := 138) (pc' := 142) rfl (hb hby at_138) (by decide) (by decide)) ?_
      refine gs (fun t => XS.istore X127.here hx rfl (hb hby at_142) rfl (l' := #[iv p0, iv p1, iv p2, iv p3, jv p4, .second, iv 2, iv (oI a), iv 1, iv (oI ((a + 1) % 2)), rv b119, rv b122, iv 1, iv 1, .unset, .unset, .unset, .unset, .unset]) rfl) ?_
      refine gs (fun t => XS.iload X127.here hx rfl (hb hby at_144) rfl) ?_
      refine gs (fun t => XS.iconst X127.here hx rfl (hb hby at_146)) ?_
      show Go p e below s QQ room_1.cells room_1.slots (T127.setTop (mkF m 147 #[iv p0, iv p1, iv p2, iv p3, jv p4, .second, iv 2, iv (oI a), iv 1, iv (oI ((a + 1) % 2)), rv b119, rv b122, iv 1, iv 1, .unset, .unset, .unset, .unset, .unset] [(.int (3 : Int32)), (.int (2 : Int32))]))
      refine gs (fun t => XS.icmpYes X127.here hx rfl (pc0 := 147) (pc' := 177) rfl (hb hby at_147) rfl (feq (by decide : ¬ ((2 : Int32) = (3 : Int32)))).2 (by decide) (by decide)) ?_
      refine gs (fun t => XS.aload X127.here hx rfl (hb hby at_177) rfl rfl) ?_
      obtain ⟨cq128, kq128, q128a, q128b, q128c⟩ := isOf hZ e127 Ex_b119
      obtain ⟨_, _, ⟨T128, L128, k128, n128⟩, -, X128, ⟨Lc128, hQ128, l128, y128, z128⟩, st128⟩ := X127.virtualBack hx (y := (⟨"weirline/runtime/InputChannels", "linedUp", "()Lweirline/runtime/CheckpointBarrier;"⟩ : MethodName)) (z := (⟨"weirline/runtime/InputChannels", "linedUp", "()Lweirline/runtime/CheckpointBarrier;"⟩ : MethodName)) hown (mvT hZ (hw _ (List.mem_of_getElem? (i := 57) rfl))) (mvT hZ (hw _ (List.mem_of_getElem? (i := 58) rfl))) (notFace_of_selects (args := #[]) (mvT hZ (hw _ (List.mem_of_getElem? (i := 60) rfl)))) (mvT hZ (hw _ (List.mem_of_getElem? (i := 60) rfl))) (mvT hZ (hw _ (List.mem_of_getElem? (i := 59) rfl))) (by decide) (backOf (W := 0) (luF2 l Z a0 hw [] b119 (2 : Int32) eb (1 : Int32) b122 bb (1 : Int32) (updv (fun _ => .int 0) a (.int 1)) T125.heap n0 ZZ G0 G1 G2 G3 G4 G5 Ex_b119 V_bb ge_b119 ge_bb ne_b119_bb (by decide)) hZ (hw _ (List.mem_of_getElem? (i := 61) rfl)) (hw _ (List.mem_of_getElem? (i := 3) rfl)) (by decide) (by decide)) q128a q128c (g := (mkF m 179 #[iv p0, iv p1, iv p2, iv p3, jv p4, .second, iv 2, iv (oI a), iv 1, iv (oI ((a + 1) % 2)), rv b119, rv b122, iv 1, iv 1, .unset, .unset, .unset, .unset, .unset] [(.ref b119)])) rfl (by rw [hml]; rfl) (Steps.refl _) (argsL := []) (rest := []) (lenOf pd_7 rfl) rfl (by show 2 * 0 + _ ≤ _; exact Nat.le_of_eq rfl) (hb hby at_179) (fun _ _ => ⟨rfl, e127, (by decide : 6 + 0 ≤ _), (by decide : 19 + 0 ≤ _)⟩)
      dsimp only [Pt.U, Pt.locs, Pt.cells, Pt.slots] at X128 l128 y128 z128 st128 hQ128
      subst l128 y128 z128
      obtain ⟨rfl, N128q, K128, Gn0_128, Gn1_128, Gn2_128, Gn3_128, Gn4_128, Gn5_128, Vn128⟩ := hQ128
      replace N0 := Fr.app N0 N128q
      refine gt st128 ?_
      show Go p e below s QQ room_1.cells room_1.slots (T128.setTop (mkF m 182 #[iv p0, iv p1, iv p2, iv p3, jv p4, .second, iv 2, iv (oI a), iv 1, iv (oI ((a + 1) % 2)), rv b119, rv b122, iv 1, iv 1, .unset, .unset, .unset, .unset, .unset] [(.ref b122)]))
      replace Ex_b119 := Ex_b119.keep K128
      replace Ex_b122 := Ex_b122.keep K128
      replace ZZ := Nat.le_trans ZZ K128.1
      have G0 : Fld Z T128.heap b119 "weirline/runtime/InputChannels" "count" "I" (.int (2 : Int32)) := Gn0_128
      have G1 : Fld Z T128.heap b119 "weirline/runtime/InputChannels" "ended" "[Z" (.ref eb) := Gn1_128
      have G2 : Fld Z T128.heap b119 "weirline/runtime/InputChannels" "endedCount" "I" (.int (1 : Int32)) := Gn2_128
      have G3 : Fld Z T128.heap b119 "weirline/runtime/InputChannels" "aligning" "Lweirline/runtime/CheckpointBarrier;" .null := Gn3_128
      have G4 : Fld Z T128.heap b119 "weirline/runtime/InputChannels" "barrierIn" "[Z" (.ref bb) := Gn4_128
      have G5 : Fld Z T128.heap b119 "weirline/runtime/InputChannels" "barriersIn" "I" (.int (0 : Int32)) := Gn5_128
      have V_bb := Vn128
      refine gs (fun t => XS.astore X128.here hx rfl (hb hby at_182) rfl rfl (l' := #[iv p0, iv p1, iv p2, iv p3, jv p4, .second, iv 2, iv (oI a), iv 1, iv (oI ((a + 1) % 2)), rv b119, rv b122, iv 1, iv 1, rv b122, .unset, .unset, .unset, .unset]) rfl) ?_
      refine gs (fun t => XS.iconst X128.here hx rfl (hb hby at_184)) ?_
      refine gs (fun t => XS.iload X128.here hx rfl (hb hby at_185) rfl) ?_
      refine gs (fun t => XS.iadd X128.here hx rfl (hb hby at_187) rfl) ?_
      refine gs (fun t => XS.iload X128.here hx rfl (hb hby at_188) rfl) ?_
      refine gs (fun t => XS.icmpNo X128.here hx rfl (hb hby at_190) rfl (flt (by decide : ¬ ((2 : Int32) < (2 : Int32)))).1) ?_
      show Go p e below s QQ room_1.cells room_1.slots (T128.setTop (mkF m 193 #[iv p0, iv p1, iv p2, iv p3, jv p4, .second, iv 2, iv (oI a), iv 1, iv (oI ((a + 1) % 2)), rv b119, rv b122, iv 1, iv 1, rv b122, .unset, .unset, .unset, .unset] []))
      refine gs (fun t => XS.iconst X128.here hx rfl (hb hby at_193)) ?_
      refine gs (fun t => XS.goto X128.here hx rfl (pc0 := 194) (pc' := 198) rfl (hb hby at_194) (by decide) (by decide)) ?_
      refine gs (fun t => XS.istore X128.here hx rfl (hb hby at_198) rfl (l' := #[iv p0, iv p1, iv p2, iv p3, jv p4, .second, iv 2, iv (oI a), iv 1, iv (oI ((a + 1) % 2)), rv b119, rv b122, iv 1, iv 1, rv b122, iv 1, .unset, .unset, .unset]) rfl) ?_
      refine gs (fun t => XS.iload X128.here hx rfl (hb hby at_200) rfl) ?_
      refine gs (fun t => XS.ifNo X128.here hx rfl (hb hby at_202) rfl ((if0 _ _).trans (feq (by decide : ¬ ((1 : Int32) = (0 : Int32)))).1)) ?_
      refine gs (fun t => XS.iload X128.here hx rfl (hb hby at_205) rfl) ?_
      show Go p e below s QQ room_1.cells room_1.slots (T128.setTop (mkF m 207 #[iv p0, iv p1, iv p2, iv p3, jv p4, .second, iv 2, iv (oI a), iv 1, iv (oI ((a + 1) % 2)), rv b119, rv b122, iv 1, iv 1, rv b122, iv 1, .unset, .unset, .unset] [(.int (1 : Int32))]))
      refine gs (fun t => XS.ifNo X128.here hx rfl (hb hby at_207) rfl ((if0 _ _).trans (feq (by decide : ¬ ((1 : Int32) = (0 : Int32)))).1)) ?_
      refine gs (fun t => XS.aload X128.here hx rfl (hb hby at_210) rfl rfl) ?_
      refine gs (fun t => XS.aload X128.here hx rfl (hb hby at_212) rfl rfl) ?_
      refine gs (fun t => Jvm.RoadKit.acmp (g := (mkF m 214 #[iv p0, iv p1, iv p2, iv p3, jv p4, .second, iv 2, iv (oI a), iv 1, iv (oI ((a + 1) % 2)), rv b119, rv b122, iv 1, iv 1, rv b122, iv 1, .unset, .unset, .unset] [(.ref b122), (.ref b122)])) X128 hx rfl rfl rfl (pc0 := 214) (pc' := 217) (same := true) rfl (hb hby at_214) rfl (decide_eq_true rfl) (by decide) (by decide)) ?_
      refine gs (fun t => XS.iconst X128.here hx rfl (hb hby at_217)) ?_
      refine gs (fun t => XS.goto X128.here hx rfl (pc0 := 218) (pc' := 222) rfl (hb hby at_218) (by decide) (by decide)) ?_
      show Go p e below s QQ room_1.cells room_1.slots (T128.setTop (mkF m 222 #[iv p0, iv p1, iv p2, iv p3, jv p4, .second, iv 2, iv (oI a), iv 1, iv (oI ((a + 1) % 2)), rv b119, rv b122, iv 1, iv 1, rv b122, iv 1, .unset, .unset, .unset] [(.int (1 : Int32))]))
      refine gs (fun t => XS.istore X128.here hx rfl (hb hby at_222) rfl (l' := #[iv p0, iv p1, iv p2, iv p3, jv p4, .second, iv 2, iv (oI a), iv 1, iv (oI ((a + 1) % 2)), rv b119, rv b122, iv 1, iv 1, rv b122, iv 1, .unset, .unset, .unset]) rfl) ?_
      refine gs (fun t => XS.goto X128.here hx rfl (pc0 := 224) (pc' := 244) rfl (hb hby at_224) (by decide) (by decide)) ?_
      refine gs (fun t => XS.iload X128.here hx rfl (hb hby at_244) rfl) ?_
      refine gs (fun t => XS.ifNo X128.here hx rfl (hb hby at_246) rfl ((if0 _ _).trans (feq (by decide : ¬ ((1 : Int32) = (0 : Int32)))).1)) ?_
      refine gs (fun t => XS.aload X128.here hx rfl (hb hby at_249) rfl rfl) ?_
      refine gs (fun t => XS.iload X128.here hx rfl (hb hby at_251) rfl) ?_
      show Go p e below s QQ room_1.cells room_1.slots (T128.setTop (mkF m 253 #[iv p0, iv p1, iv p2, iv p3, jv p4, .second, iv 2, iv (oI a), iv 1, iv (oI ((a + 1) % 2)), rv b119, rv b122, iv 1, iv 1, rv b122, iv 1, .unset, .unset, .unset] [(.int (oI a)), (.ref b119)]))
      obtain ⟨cq129, kq129, q129a, q129b, q129c⟩ := isOf hZ rfl Ex_b119
      obtain ⟨_, _, ⟨T129, L129, k129, n129⟩, -, X129, ⟨Lc129, hQ129, l129, y129, z129⟩, st129⟩ := X128.virtualBack hx (y := (⟨"weirline/runtime/InputChannels", "holdsBack", "(I)Z"⟩ : MethodName)) (z := (⟨"weirline/runtime/InputChannels", "holdsBack", "(I)Z"⟩ : MethodName)) hown (mvT hZ (hw _ (List.mem_of_getElem? (i := 52) rfl))) (mvT hZ (hw _ (List.mem_of_getElem? (i := 53) rfl))) (notFace_of_selects (args := #[]) (mvT hZ (hw _ (List.mem_of_getElem? (i := 55) rfl)))) (mvT hZ (hw _ (List.mem_of_getElem? (i := 55) rfl))) (mvT hZ (hw _ (List.mem_of_getElem? (i := 54) rfl))) (by decide) (backOf (W := 0) (rm7 l Z a0 hw [] b119 a 2 bb (fun _ => .int 0) (0 : Int32) T128.heap n0 ZZ G4 V_bb rfl (by decide) ha (by decide)) hZ (hw _ (List.mem_of_getElem? (i := 56) rfl)) (hw _ (List.mem_of_getElem? (i := 3) rfl)) (by decide) (by decide)) q129a q129c (g := (mkF m 253 #[iv p0, iv p1, iv p2, iv p3, jv p4, .second, iv 2, iv (oI a), iv 1, iv (oI ((a + 1) % 2)), rv b119, rv b122, iv 1, iv 1, rv b122, iv 1, .unset, .unset, .unset] [(.int (oI a)), (.ref b119)])) rfl (by rw [hml]; rfl) (Steps.refl _) (argsL := [(.int (oI a))]) (rest := []) (lenOf pd_6 rfl) rfl (by show 2 * 0 + _ ≤ _; exact Nat.le_of_eq rfl) (hb hby at_253) (fun _ _ => ⟨rfl, rfl, (by decide : 6 + 0 ≤ _), (by decide : 19 + 0 ≤ _)⟩)
      dsimp only [Pt.U, Pt.locs, Pt.cells, Pt.slots] at X129 l129 y129 z129 st129 hQ129
      subst l129 y129 z129
      obtain ⟨rfl, N129q, e129⟩ := hQ129
      replace N0 := Fr.app N0 N129q
      refine gt st129 ?_
      show Go p e below s QQ room_1.cells room_1.slots (T129.setTop (mkF m 256 #[iv p0, iv p1, iv p2, iv p3, jv p4, .second, iv 2, iv (oI a), iv 1, iv (oI ((a + 1) % 2)), rv b119, rv b122, iv 1, iv 1, rv b122, iv 1, .unset, .unset, .unset] [(.int (0 : Int32))]))
      refine gs (fun t => XS.iload X129.here hx rfl (hb hby at_256) rfl) ?_
      refine gs (fun t => XS.ifYes X129.here hx rfl (pc0 := 258) (pc' := 265) rfl (hb hby at_258) rfl ((if0 _ _).trans (feq (by decide : ¬ ((1 : Int32) = (0 : Int32)))).2) (by decide) (by decide)) ?_
      refine gs (fun t => XS.iconst X129.here hx rfl (hb hby at_265)) ?_
      refine gs (fun t => XS.icmpNo X129.here hx rfl (hb hby at_266) rfl (teq (by decide : (0 : Int32) = (0 : Int32))).2) ?_
      refine gs (fun t => XS.iconst X129.here hx rfl (hb hby at_269)) ?_
      refine gs (fun t => XS.goto X129.here hx rfl (pc0 := 270) (pc' := 274) rfl (hb hby at_270) (by decide) (by decide)) ?_
      show Go p e below s QQ room_1.cells room_1.slots (T129.setTop (mkF m 274 #[iv p0, iv p1, iv p2, iv p3, jv p4, .second, iv 2, iv (oI a), iv 1, iv (oI ((a + 1) % 2)), rv b119, rv b122, iv 1, iv 1, rv b122, iv 1, .unset, .unset, .unset] [(.int (1 : Int32))]))
      refine gs (fun t => XS.istore X129.here hx rfl (hb hby at_274) rfl (l' := #[iv p0, iv p1, iv p2, iv p3, jv p4, .second, iv 2, iv (oI a), iv 1, iv (oI ((a + 1) % 2)), rv b119, rv b122, iv 1, iv 1, rv b122, iv 1, .unset, .unset, .unset]) rfl) ?_
      refine gs (fun t => XS.iload X129.here hx rfl (hb hby at_276) rfl) ?_
      refine gs (fun t => XS.ifYes X129.here hx rfl (pc0 := 278) (pc' := 434) rfl (hb hby at_278) rfl ((if0 _ _).trans (feq (by decide : ¬ ((1 : Int32) = (0 : Int32)))).2) (by decide) (by decide)) ?_
      refine gs (fun t => XS.iload X129.here hx rfl (hb hby at_434) rfl) ?_
      exact goB X129 hx Bd.notSynchronized Bd.returns (by simp) (w := (1 : Int32)) (by first | rfl | decide) (hb hby at_436) (by rw [← hQQ, e129]; exact ⟨rfl, N0⟩) (by decide) (by decide)
  · skip
    show Go p e below s QQ room_1.cells room_1.slots (s₁.setTop (mkF m 16 #[iv p0, iv p1, iv p2, iv p3, jv p4, .second, iv 3, .unset, .unset, .unset, .unset, .unset, .unset, .unset, .unset, .unset, .unset, .unset, .unset] [(.int (3 : Int32)), (.int (p1 &&& (2147483647 : Int32)))]))
    refine gs (fun t => iremM X0 hx (g := (mkF m 16 #[iv p0, iv p1, iv p2, iv p3, jv p4, .second, iv 3, .unset, .unset, .unset, .unset, .unset, .unset, .unset, .unset, .unset, .unset, .unset, .unset] [(.int (3 : Int32)), (.int (p1 &&& (2147483647 : Int32)))])) rfl (hb hby at_16) rfl (by decide)) ?_
    show Go p e below s QQ room_1.cells room_1.slots (s₁.setTop (mkF m 17 #[iv p0, iv p1, iv p2, iv p3, jv p4, .second, iv 3, .unset, .unset, .unset, .unset, .unset, .unset, .unset, .unset, .unset, .unset, .unset, .unset] [(.int ((p1 &&& (2147483647 : Int32)) % (3 : Int32)))]))
    generalize ha1 : ((p1 &&& (2147483647 : Int32)) % (3 : Int32)) = a1
    show Go p e below s QQ room_1.cells room_1.slots (s₁.setTop (mkF m 17 #[iv p0, iv p1, iv p2, iv p3, jv p4, .second, iv 3, .unset, .unset, .unset, .unset, .unset, .unset, .unset, .unset, .unset, .unset, .unset, .unset] [(.int a1)]))
    obtain ⟨a, ha, rfl⟩ := own_a p1 (N := 3) (by decide) (by decide) rfl ha1
    clear ha1
    show Go p e below s QQ room_1.cells room_1.slots (s₁.setTop (mkF m 17 #[iv p0, iv p1, iv p2, iv p3, jv p4, .second, iv 3, .unset, .unset, .unset, .unset, .unset, .unset, .unset, .unset, .unset, .unset, .unset, .unset] [(.int (oI a))]))
    refine gs (fun t => XS.istore X0.here hx rfl (hb hby at_17) rfl (l' := #[iv p0, iv p1, iv p2, iv p3, jv p4, .second, iv 3, iv (oI a), .unset, .unset, .unset, .unset, .unset, .unset, .unset, .unset, .unset, .unset, .unset]) rfl) ?_
    refine gs (fun t => XS.iloadN X0.here hx rfl (hb hby at_19) rfl) ?_
    refine gs (fun t => XS.iconst X0.here hx rfl (hb hby at_20)) ?_
    refine gs (fun t => XS.iand X0.here hx rfl (hb hby at_21) rfl) ?_
    by_cases hf : (p3 &&& (1 : Int32)) = (0 : Int32)
    · skip
      refine gs (fun t => XS.ifYes X0.here hx rfl (pc0 := 22) (pc' := 35) rfl (hb hby at_22) rfl ((if0 _ _).trans (teq hf).1) (by decide) (by decide)) ?_
      refine gs (fun t => XS.iconst X0.here hx rfl (hb hby at_35)) ?_
      show Go p e below s QQ room_1.cells room_1.slots (s₁.setTop (mkF m 36 #[iv p0, iv p1, iv p2, iv p3, jv p4, .second, iv 3, iv (oI a), .unset, .unset, .unset, .unset, .unset, .unset, .unset, .unset, .unset, .unset, .unset] [(.int (0 : Int32))]))
      refine gs (fun t => XS.istore X0.here hx rfl (hb hby at_36) rfl (l' := #[iv p0, iv p1, iv p2, iv p3, jv p4, .second, iv 3, iv (oI a), iv 0, .unset, .unset, .unset, .unset, .unset, .unset, .unset, .unset, .unset, .unset]) rfl) ?_
      refine gs (fun t => XS.iload X0.here hx rfl (hb hby at_38) rfl) ?_
      refine gs (fun t => XS.iconst X0.here hx rfl (hb hby at_40)) ?_
      refine gs (fun t => XS.iadd X0.here hx rfl (hb hby at_41) rfl) ?_
      refine gs (fun t => XS.iload X0.here hx rfl (hb hby at_42) rfl) ?_
      refine gs (fun t => iremM X0 hx (g := (mkF m 44 #[iv p0, iv p1, iv p2, iv p3, jv p4, .second, iv 3, iv (oI a), iv 0, .unset, .unset, .unset, .unset, .unset, .unset, .unset, .unset, .unset, .unset] [(.int (3 : Int32)), (.int ((oI a) + (1 : Int32)))])) rfl (hb hby at_44) rfl (by decide)) ?_
      show Go p e below s QQ room_1.cells room_1.slots (s₁.setTop (mkF m 45 #[iv p0, iv p1, iv p2, iv p3, jv p4, .second, iv 3, iv (oI a), iv 0, .unset, .unset, .unset, .unset, .unset, .unset, .unset, .unset, .unset, .unset] [(.int (((oI a) + (1 : Int32)) % (3 : Int32)))]))
      rw [show (((oI a) + (1 : Int32)) % (3 : Int32)) = (oI ((a + 1) % 3)) from own_rem (by omega) (by decide) (by decide) (by decide) rfl rfl]
      show Go p e below s QQ room_1.cells room_1.slots (s₁.setTop (mkF m 45 #[iv p0, iv p1, iv p2, iv p3, jv p4, .second, iv 3, iv (oI a), iv 0, .unset, .unset, .unset, .unset, .unset, .unset, .unset, .unset, .unset, .unset] [(.int (oI ((a + 1) % 3)))]))
      refine gs (fun t => XS.istore X0.here hx rfl (hb hby at_45) rfl (l' := #[iv p0, iv p1, iv p2, iv p3, jv p4, .second, iv 3, iv (oI a), iv 0, iv (oI ((a + 1) % 3)), .unset, .unset, .unset, .unset, .unset, .unset, .unset, .unset, .unset]) rfl) ?_
      obtain ⟨T130, h130, X130, e130, E130, A130, D130, -, st130⟩ := newO X0 hx hZ hown (hw _ (List.mem_of_getElem? (i := 1) rfl)) (hw _ (List.mem_of_getElem? (i := 2) rfl)) (hw _ (List.mem_of_getElem? (i := 3) rfl)) e0 (g := (mkF m 47 #[iv p0, iv p1, iv p2, iv p3, jv p4, .second, iv 3, iv (oI a), iv 0, iv (oI ((a + 1) % 3)), .unset, .unset, .unset, .unset, .unset, .unset, .unset, .unset, .unset] [])) rfl (hb hby at_47) (by decide) (by decide)
      obtain ⟨b130, g130⟩ : ∃ z, z = h0.size := ⟨_, rfl⟩
      rw [← g130] at A130 D130 st130
      have ge_b130 : n0 ≤ b130 := by rw [g130]; exact ZZ
      refine gs st130 ?_
      show Go p e below s QQ room_1.cells room_1.slots (T130.setTop (mkF m 50 #[iv p0, iv p1, iv p2, iv p3, jv p4, .second, iv 3, iv (oI a), iv 0, iv (oI ((a + 1) % 3)), .unset, .unset, .unset, .unset, .unset, .unset, .unset, .unset, .unset] [(.ref b130)]))
      replace ZZ := Nat.le_trans ZZ E130.1
      have Ex_b130 := A130
      have F_minimum_b130 : Fld Z h130 b130 "weirline/runtime/InputChannels" "minimum" "J" (.long (0 : Int64)) := D130 (Or.inl (hw _ (List.mem_of_getElem? (i := 12) rfl))) (ty := .long) (by decide)
      have F_count_b130 : Fld Z h130 b130 "weirline/runtime/InputChannels" "count" "I" (.int (0 : Int32)) := D130 (Or.inr (hw _ (List.mem_of_getElem? (i := 14) rfl))) (ty := .int) (by decide)
      have F_latest_b130 : Fld Z h130 b130 "weirline/runtime/InputChannels" "latest" "[J" .null := D130 (Or.inr (hw _ (List.mem_of_getElem? (i := 17) rfl))) (ty := (.array .long)) (by decide)
      have F_channelIdle_b130 : Fld Z h130 b130 "weirline/runtime/InputChannels" "channelIdle" "[Z" .null := D130 (Or.inr (hw _ (List.mem_of_getElem? (i := 20) rfl))) (ty := (.array .boolean)) (by decide)
      have F_ended_b130 : Fld Z h130 b130 "weirline/runtime/InputChannels" "ended" "[Z" .null := D130 (Or.inr (hw _ (List.mem_of_getElem? (i := 22) rfl))) (ty := (.array .boolean)) (by decide)
      have F_barrierIn_b130 : Fld Z h130 b130 "weirline/runtime/InputChannels" "barrierIn" "[Z" .null := D130 (Or.inr (hw _ (List.mem_of_getElem? (i := 24) rfl))) (ty := (.array .boolean)) (by decide)
      have F_aligning_b130 : Fld Z h130 b130 "weirline/runtime/InputChannels" "aligning" "Lweirline/runtime/CheckpointBarrier;" .null := D130 (Or.inl (hw _ (List.mem_of_getElem? (i := 49) rfl))) (ty := (.object "weirline/runtime/CheckpointBarrier")) (by decide)
      have F_barriersIn_b130 : Fld Z h130 b130 "weirline/runtime/InputChannels" "barriersIn" "I" (.int (0 : Int32)) := D130 (Or.inl (hw _ (List.mem_of_getElem? (i := 51) rfl))) (ty := .int) (by decide)
      have F_endedCount_b130 : Fld Z h130 b130 "weirline/runtime/InputChannels" "endedCount" "I" (.int (0 : Int32)) := D130 (Or.inl (hw _ (List.mem_of_getElem? (i := 63) rfl))) (ty := .int) (by decide)
      refine gs (fun t => XS.dup X130.here hx rfl (hb hby at_50) rfl rfl) ?_
      refine gs (fun t => XS.iload X130.here hx rfl (hb hby at_51) rfl) ?_
      have ZZm131 := ZZ
      have lt131_b130 := Ex_b130.lt
      obtain ⟨_, _, ⟨T132, L132, k132, n132⟩, -, X132, ⟨Lc132, hQ132, l132, y132, z132⟩, st132⟩ := X130.specialBack hx (y := (⟨"weirline/runtime/InputChannels", "<init>", "(I)V"⟩ : MethodName)) rfl hown (mvT hZ (hw _ (List.mem_of_getElem? (i := 4) rfl))) (mvT hZ (hw _ (List.mem_of_getElem? (i := 5) rfl))) (mvT hZ (hw _ (List.mem_of_getElem? (i := 6) rfl))) (by decide) (backOf (W := 1) (ctor3 l Z a0 hw [] b130 h130 n0 ZZ F_minimum_b130 F_count_b130 F_latest_b130 F_channelIdle_b130 F_ended_b130 F_barrierIn_b130 F_aligning_b130 F_barriersIn_b130 F_endedCount_b130 Ex_b130 ge_b130) hZ (hw _ (List.mem_of_getElem? (i := 6) rfl)) (hw _ (List.mem_of_getElem? (i := 3) rfl)) (by decide) (by decide)) (g := (mkF m 53 #[iv p0, iv p1, iv p2, iv p3, jv p4, .second, iv 3, iv (oI a), iv 0, iv (oI ((a + 1) % 3)), .unset, .unset, .unset, .unset, .unset, .unset, .unset, .unset, .unset] [(.int (3 : Int32)), (.ref b130), (.ref b130)])) rfl (by rw [hml]; rfl) (Steps.refl _) (a := b130) (argsL := [(.int (3 : Int32))]) (rest := [(.ref b130)]) (lenOf pd_3 rfl) rfl (by show 2 * 0 + _ ≤ _; exact Nat.le_of_eq rfl) (hb hby at_53) (fun _ _ => ⟨rfl, e130, (by decide : 1 + 4 ≤ _), (by decide : 10 + 12 ≤ _)⟩)
      dsimp only [Pt.U, Pt.locs, Pt.cells, Pt.slots] at X132 l132 y132 z132 st132 hQ132
      subst l132 y132 z132
      obtain ⟨eb, bb, rfl, N132q, K132, G0, G1, G2, G3, G4, G5, V_eb, V_bb, geb, gbb, neb⟩ := hQ132
      replace N0 := Fr.app N0 N132q
      refine gt st132 ?_
      show Go p e below s QQ room_1.cells room_1.slots (T132.setTop (mkF m 56 #[iv p0, iv p1, iv p2, iv p3, jv p4, .second, iv 3, iv (oI a), iv 0, iv (oI ((a + 1) % 3)), .unset, .unset, .unset, .unset, .unset, .unset, .unset, .unset, .unset] [(.ref b130)]))
      replace Ex_b130 := Ex_b130.keep K132
      replace ZZ := Nat.le_trans ZZ K132.1
      have ne_b130_eb : b130 ≠ eb := Nat.ne_of_lt (Nat.lt_of_lt_of_le lt131_b130 geb)
      have ge_eb : n0 ≤ eb := Nat.le_trans ZZm131 geb
      have ne_b130_bb : b130 ≠ bb := Nat.ne_of_lt (Nat.lt_of_lt_of_le lt131_b130 gbb)
      have ge_bb : n0 ≤ bb := Nat.le_trans ZZm131 gbb
      refine gs (fun t => XS.astore X132.here hx rfl (hb hby at_56) rfl rfl (l' := #[iv p0, iv p1, iv p2, iv p3, jv p4, .second, iv 3, iv (oI a), iv 0, iv (oI ((a + 1) % 3)), rv b130, .unset, .unset, .unset, .unset, .unset, .unset, .unset, .unset]) rfl) ?_
      obtain ⟨T133, h133, X133, e133, E133, A133, D133, -, st133⟩ := newO X132 hx hZ hown (hw _ (List.mem_of_getElem? (i := 29) rfl)) (hw _ (List.mem_of_getElem? (i := 30) rfl)) (hw _ (List.mem_of_getElem? (i := 31) rfl)) rfl (g := (mkF m 58 #[iv p0, iv p1, iv p2, iv p3, jv p4, .second, iv 3, iv (oI a), iv 0, iv (oI ((a + 1) % 3)), rv b130, .unset, .unset, .unset, .unset, .unset, .unset, .unset, .unset] [])) rfl (hb hby at_58) (by decide) (by decide)
      obtain ⟨b133, g133⟩ : ∃ z, z = T132.heap.size := ⟨_, rfl⟩
      rw [← g133] at A133 D133 st133
      have ge_b133 : n0 ≤ b133 := by rw [g133]; exact ZZ
      have ne_b130_b133 : b130 ≠ b133 := by rw [g133]; exact Nat.ne_of_lt Ex_b130.lt
      have ne_eb_b133 : eb ≠ b133 := by rw [g133]; exact Nat.ne_of_lt V_eb.lt
      have ne_bb_b133 : bb ≠ b133 := by rw [g133]; exact Nat.ne_of_lt V_bb.lt
      refine gs st133 ?_
      show Go p e below s QQ room_1.cells room_1.slots (T133.setTop (mkF m 61 #[iv p0, iv p1, iv p2, iv p3, jv p4, .second, iv 3, iv (oI a), iv 0, iv (oI ((a + 1) % 3)), rv b130, .unset, .unset, .unset, .unset, .unset, .unset, .unset, .unset] [(.ref b133)]))
      replace Ex_b130 := Ex_b130.ext E133
      replace G0 := G0.ext E133
      replace G1 := G1.ext E133
      replace G2 := G2.ext E133
      replace G3 := G3.ext E133
      replace G4 := G4.ext E133
      replace G5 := G5.ext E133
      replace V_eb := V_eb.ext E133
      replace V_bb := V_bb.ext E133
      replace ZZ := Nat.le_trans ZZ E133.1
      have Ex_b133 := A133
      have F_checkpointId_b133 : Fld Z h133 b133 "weirline/runtime/CheckpointBarrier" "checkpointId" "J" (.long (0 : Int64)) := D133 (Or.inr (hw _ (List.mem_of_getElem? (i := 42) rfl))) (ty := .long) (by decide)
      refine gs (fun t => XS.dup X133.here hx rfl (hb hby at_61) rfl rfl) ?_
      refine gs (fun t => XS.lload X133.here hx rfl (hb hby at_62) rfl) ?_
      obtain ⟨_, _, ⟨T134, L134, k134, n134⟩, -, X134, ⟨Lc134, hQ134, l134, y134, z134⟩, st134⟩ := X133.specialBack hx (y := (⟨"weirline/runtime/CheckpointBarrier", "<init>", "(J)V"⟩ : MethodName)) rfl hown (mvT hZ (hw _ (List.mem_of_getElem? (i := 32) rfl))) (mvT hZ (hw _ (List.mem_of_getElem? (i := 33) rfl))) (mvT hZ (hw _ (List.mem_of_getElem? (i := 34) rfl))) (by decide) (backOf (W := 1) (rm4 l Z a0 hw [] b133 p4 h133 n0 ZZ F_checkpointId_b133 Ex_b133 ge_b133) hZ (hw _ (List.mem_of_getElem? (i := 34) rfl)) (hw _ (List.mem_of_getElem? (i := 31) rfl)) (by decide) (by decide)) (g := (mkF m 64 #[iv p0, iv p1, iv p2, iv p3, jv p4, .second, iv 3, iv (oI a), iv 0, iv (oI ((a + 1) % 3)), rv b130, .unset, .unset, .unset, .unset, .unset, .unset, .unset, .unset] [(.long p4), (.ref b133), (.ref b133)])) rfl (by rw [hml]; rfl) (Steps.refl _) (a := b133) (argsL := [(.long p4)]) (rest := [(.ref b133)]) (lenOf pd_4 rfl) rfl (by show 2 * 0 + _ ≤ _; exact Nat.le_of_eq rfl) (hb hby at_64) (fun _ _ => ⟨rfl, e133, (by decide : 6 + 0 ≤ _), (by decide : 23 + 0 ≤ _)⟩)
      dsimp only [Pt.U, Pt.locs, Pt.cells, Pt.slots] at X134 l134 y134 z134 st134 hQ134
      subst l134 y134 z134
      obtain ⟨rfl, N134q, K134⟩ := hQ134
      replace N0 := Fr.app N0 N134q
      refine gt st134 ?_
      show Go p e below s QQ room_1.cells room_1.slots (T134.setTop (mkF m 67 #[iv p0, iv p1, iv p2, iv p3, jv p4, .second, iv 3, iv (oI a), iv 0, iv (oI ((a + 1) % 3)), rv b130, .unset, .unset, .unset, .unset, .unset, .unset, .unset, .unset] [(.ref b133)]))
      replace Ex_b130 := Ex_b130.keep K134
      replace G0 := G0.keep K134 (ninS ne_b130_b133 nin0)
      replace G1 := G1.keep K134 (ninS ne_b130_b133 nin0)
      replace G2 := G2.keep K134 (ninS ne_b130_b133 nin0)
      replace G3 := G3.keep K134 (ninS ne_b130_b133 nin0)
      replace G4 := G4.keep K134 (ninS ne_b130_b133 nin0)
      replace G5 := G5.keep K134 (ninS ne_b130_b133 nin0)
      replace V_eb := V_eb.keep K134 (ninS ne_eb_b133 nin0)
      replace V_bb := V_bb.keep K134 (ninS ne_bb_b133 nin0)
      replace Ex_b133 := Ex_b133.keep K134
      replace ZZ := Nat.le_trans ZZ K134.1
      refine gs (fun t => XS.astore X134.here hx rfl (hb hby at_67) rfl rfl (l' := #[iv p0, iv p1, iv p2, iv p3, jv p4, .second, iv 3, iv (oI a), iv 0, iv (oI ((a + 1) % 3)), rv b130, rv b133, .unset, .unset, .unset, .unset, .unset, .unset, .unset]) rfl) ?_
      refine gs (fun t => XS.iload X134.here hx rfl (hb hby at_69) rfl) ?_
      refine gs (fun t => XS.ifYes X134.here hx rfl (pc0 := 71) (pc' := 81) rfl (hb hby at_71) rfl ((if0 _ _).trans (teq (by decide : (0 : Int32) = (0 : Int32))).1) (by decide) (by decide)) ?_
      refine gs (fun t => XS.iload X134.here hx rfl (hb hby at_81) rfl) ?_
      refine gs (fun t => XS.ifYes X134.here hx rfl (pc0 := 83) (pc' := 90) rfl (hb hby at_83) rfl ((if0 _ _).trans (teq (by decide : (0 : Int32) = (0 : Int32))).1) (by decide) (by decide)) ?_
      refine gs (fun t => XS.iconst X134.here hx rfl (hb hby at_90)) ?_
      show Go p e below s QQ room_1.cells room_1.slots (T134.setTop (mkF m 91 #[iv p0, iv p1, iv p2, iv p3, jv p4, .second, iv 3, iv (oI a), iv 0, iv (oI ((a + 1) % 3)), rv b130, rv b133, .unset, .unset, .unset, .unset, .unset, .unset, .unset] [(.int (0 : Int32))]))
      refine gs (fun t => XS.istore X134.here hx rfl (hb hby at_91) rfl (l' := #[iv p0, iv p1, iv p2, iv p3, jv p4, .second, iv 3, iv (oI a), iv 0, iv (oI ((a + 1) % 3)), rv b130, rv b133, iv 0, .unset, .unset, .unset, .unset, .unset, .unset]) rfl) ?_
      refine gs (fun t => XS.aload X134.here hx rfl (hb hby at_93) rfl rfl) ?_
      refine gs (fun t => XS.iload X134.here hx rfl (hb hby at_95) rfl) ?_
      refine gs (fun t => XS.aload X134.here hx rfl (hb hby at_97) rfl rfl) ?_
      obtain ⟨cq135, kq135, q135a, q135b, q135c⟩ := isOf hZ rfl Ex_b130
      obtain ⟨_, _, ⟨T135, L135, k135, n135⟩, -, X135, ⟨Lc135, hQ135, l135, y135, z135⟩, st135⟩ := X134.virtualBack hx (y := (⟨"weirline/runtime/InputChannels", "barrier", "(ILweirline/runtime/CheckpointBarrier;)V"⟩ : MethodName)) (z := (⟨"weirline/runtime/InputChannels", "barrier", "(ILweirline/runtime/CheckpointBarrier;)V"⟩ : MethodName)) hown (mvT hZ (hw _ (List.mem_of_getElem? (i := 43) rfl))) (mvT hZ (hw _ (List.mem_of_getElem? (i := 44) rfl))) (notFace_of_selects (args := #[]) (mvT hZ (hw _ (List.mem_of_getElem? (i := 46) rfl)))) (mvT hZ (hw _ (List.mem_of_getElem? (i := 46) rfl))) (mvT hZ (hw _ (List.mem_of_getElem? (i := 45) rfl))) (by decide) (backOf (W := 0) (rm6 l Z a0 hw [] b130 b133 a 3 (3 : Int32) eb (0 : Int32) .null bb (0 : Int32) (fun _ => .int 0) T134.heap n0 ZZ G0 G1 G2 G3 G4 G5 Ex_b130 V_bb ge_b130 ge_bb ne_b130_eb ne_b130_bb neb ha (by decide)) hZ (hw _ (List.mem_of_getElem? (i := 47) rfl)) (hw _ (List.mem_of_getElem? (i := 3) rfl)) (by decide) (by decide)) q135a q135c (g := (mkF m 99 #[iv p0, iv p1, iv p2, iv p3, jv p4, .second, iv 3, iv (oI a), iv 0, iv (oI ((a + 1) % 3)), rv b130, rv b133, iv 0, .unset, .unset, .unset, .unset, .unset, .unset] [(.ref b133), (.int (oI a)), (.ref b130)])) rfl (by rw [hml]; rfl) (Steps.refl _) (argsL := [(.int (oI a)), (.ref b133)]) (rest := []) (lenOf pd_5 rfl) rfl (by show 2 * 0 + _ ≤ _; exact Nat.le_of_eq rfl) (hb hby at_99) (fun _ _ => ⟨rfl, rfl, (by decide : 6 + 0 ≤ _), (by decide : 23 + 0 ≤ _)⟩)
      dsimp only [Pt.U, Pt.locs, Pt.cells, Pt.slots] at X135 l135 y135 z135 st135 hQ135
      subst l135 y135 z135
      obtain ⟨rfl, N135q, K135, Gn0_135, Gn1_135, Gn2_135, Gn3_135, Gn4_135, Gn5_135, Vn135⟩ := hQ135
      replace N0 := Fr.app N0 N135q
      refine gt st135 ?_
      show Go p e below s QQ room_1.cells room_1.slots (T135.setTop (mkF m 102 #[iv p0, iv p1, iv p2, iv p3, jv p4, .second, iv 3, iv (oI a), iv 0, iv (oI ((a + 1) % 3)), rv b130, rv b133, iv 0, .unset, .unset, .unset, .unset, .unset, .unset] []))
      replace Ex_b130 := Ex_b130.keep K135
      replace V_eb := V_eb.keep K135 (ninS (Ne.symm ne_b130_eb) (ninS neb nin0))
      replace Ex_b133 := Ex_b133.keep K135
      replace ZZ := Nat.le_trans ZZ K135.1
      have G0 : Fld Z T135.heap b130 "weirline/runtime/InputChannels" "count" "I" (.int (3 : Int32)) := Gn0_135
      have G1 : Fld Z T135.heap b130 "weirline/runtime/InputChannels" "ended" "[Z" (.ref eb) := Gn1_135
      have G2 : Fld Z T135.heap b130 "weirline/runtime/InputChannels" "endedCount" "I" (.int (0 : Int32)) := Gn2_135
      have G3 : Fld Z T135.heap b130 "weirline/runtime/InputChannels" "aligning" "Lweirline/runtime/CheckpointBarrier;" (.ref b133) := Gn3_135
      have G4 : Fld Z T135.heap b130 "weirline/runtime/InputChannels" "barrierIn" "[Z" (.ref bb) := Gn4_135
      have G5 : Fld Z T135.heap b130 "weirline/runtime/InputChannels" "barriersIn" "I" (.int (1 : Int32)) := Gn5_135
      have V_bb := Vn135
      refine gs (fun t => XS.aload X135.here hx rfl (hb hby at_102) rfl rfl) ?_
      refine gs (fun t => XS.iload X135.here hx rfl (hb hby at_104) rfl) ?_
      obtain ⟨cq136, kq136, q136a, q136b, q136c⟩ := isOf hZ rfl Ex_b130
      obtain ⟨_, _, ⟨T136, L136, k136, n136⟩, -, X136, ⟨Lc136, hQ136, l136, y136, z136⟩, st136⟩ := X135.virtualBack hx (y := (⟨"weirline/runtime/InputChannels", "holdsBack", "(I)Z"⟩ : MethodName)) (z := (⟨"weirline/runtime/InputChannels", "holdsBack", "(I)Z"⟩ : MethodName)) hown (mvT hZ (hw _ (List.mem_of_getElem? (i := 52) rfl))) (mvT hZ (hw _ (List.mem_of_getElem? (i := 53) rfl))) (notFace_of_selects (args := #[]) (mvT hZ (hw _ (List.mem_of_getElem? (i := 55) rfl)))) (mvT hZ (hw _ (List.mem_of_getElem? (i := 55) rfl))) (mvT hZ (hw _ (List.mem_of_getElem? (i := 54) rfl))) (by decide) (backOf (W := 0) (rm7 l Z a0 hw [] b130 a 3 bb (updv (fun _ => .int 0) a (.int 1)) (1 : Int32) T135.heap n0 ZZ G4 V_bb (by simp [Jvm.RoadKit.updv]) (by decide) ha (by decide)) hZ (hw _ (List.mem_of_getElem? (i := 56) rfl)) (hw _ (List.mem_of_getElem? (i := 3) rfl)) (by decide) (by decide)) q136a q136c (g := (mkF m 106 #[iv p0, iv p1, iv p2, iv p3, jv p4, .second, iv 3, iv (oI a), iv 0, iv (oI ((a + 1) % 3)), rv b130, rv b133, iv 0, .unset, .unset, .unset, .unset, .unset, .unset] [(.int (oI a)), (.ref b130)])) rfl (by rw [hml]; rfl) (Steps.refl _) (argsL := [(.int (oI a))]) (rest := []) (lenOf pd_6 rfl) rfl (by show 2 * 0 + _ ≤ _; exact Nat.le_of_eq rfl) (hb hby at_106) (fun _ _ => ⟨rfl, rfl, (by decide : 6 + 0 ≤ _), (by decide : 23 + 0 ≤ _)⟩)
      dsimp only [Pt.U, Pt.locs, Pt.cells, Pt.slots] at X136 l136 y136 z136 st136 hQ136
      subst l136 y136 z136
      obtain ⟨rfl, N136q, e136⟩ := hQ136
      replace N0 := Fr.app N0 N136q
      refine gt st136 ?_
      show Go p e below s QQ room_1.cells room_1.slots (T136.setTop (mkF m 109 #[iv p0, iv p1, iv p2, iv p3, jv p4, .second, iv 3, iv (oI a), iv 0, iv (oI ((a + 1) % 3)), rv b130, rv b133, iv 0, .unset, .unset, .unset, .unset, .unset, .unset] [(.int (1 : Int32))]))
      refine gs (fun t => XS.istore X136.here hx rfl (hb hby at_109) rfl (l' := #[iv p0, iv p1, iv p2, iv p3, jv p4, .second, iv 3, iv (oI a), iv 0, iv (oI ((a + 1) % 3)), rv b130, rv b133, iv 0, iv 1, .unset, .unset, .unset, .unset, .unset]) rfl) ?_
      refine gs (fun t => XS.iload X136.here hx rfl (hb hby at_111) rfl) ?_
      refine gs (fun t => XS.iconst X136.here hx rfl (hb hby at_113)) ?_
      refine gs (fun t => XS.icmpNo X136.here hx rfl (hb hby at_114) rfl (flt (by decide : ¬ ((3 : Int32) < (2 : Int32)))).1) ?_
      refine gs (fun t => XS.iload X136.here hx rfl (hb hby at_117) rfl) ?_
      refine gs (fun t => XS.ifNo X136.here hx rfl (hb hby at_119) rfl ((if0 _ _).trans (feq (by decide : ¬ ((1 : Int32) = (0 : Int32)))).1)) ?_
      show Go p e below s QQ room_1.cells room_1.slots (T136.setTop (mkF m 122 #[iv p0, iv p1, iv p2, iv p3, jv p4, .second, iv 3, iv (oI a), iv 0, iv (oI ((a + 1) % 3)), rv b130, rv b133, iv 0, iv 1, .unset, .unset, .unset, .unset, .unset] []))
      refine gs (fun t => XS.aload X136.here hx rfl (hb hby at_122) rfl rfl) ?_
      refine gs (fun t => XS.iload X136.here hx rfl (hb hby at_124) rfl) ?_
      refine gs (fun t => XS.iconst X136.here hx rfl (hb hby at_126)) ?_
      refine gs (fun t => XS.iadd X136.here hx rfl (hb hby at_127) rfl) ?_
      refine gs (fun t => XS.iload X136.here hx rfl (hb hby at_128) rfl) ?_
      refine gs (fun t => iremM X136 hx (g := (mkF m 130 #[iv p0, iv p1, iv p2, iv p3, jv p4, .second, iv 3, iv (oI a), iv 0, iv (oI ((a + 1) % 3)), rv b130, rv b133, iv 0, iv 1, .unset, .unset, .unset, .unset, .unset] [(.int (3 : Int32)), (.int ((oI a) + (1 : Int32))), (.ref b130)])) rfl (hb hby at_130) rfl (by decide)) ?_
      show Go p e below s QQ room_1.cells room_1.slots (T136.setTop (mkF m 131 #[iv p0, iv p1, iv p2, iv p3, jv p4, .second, iv 3, iv (oI a), iv 0, iv (oI ((a + 1) % 3)), rv b130, rv b133, iv 0, iv 1, .unset, .unset, .unset, .unset, .unset] [(.int (((oI a) + (1 : Int32)) % (3 : Int32))), (.ref b130)]))
      rw [show (((oI a) + (1 : Int32)) % (3 : Int32)) = (oI ((a + 1) % 3)) from own_rem (by omega) (by decide) (by decide) (by decide) rfl rfl]
      show Go p e below s QQ room_1.cells room_1.slots (T136.setTop (mkF m 131 #[iv p0, iv p1, iv p2, iv p3, jv p4, .second, iv 3, iv (oI a), iv 0, iv (oI ((a + 1) % 3)), rv b130, rv b133, iv 0, iv 1, .unset, .unset, .unset, .unset, .unset] [(.int (oI ((a + 1) % 3))), (.ref b130)]))
      obtain ⟨cq137, kq137, q137a, q137b, q137c⟩ := isOf hZ e136 Ex_b130
      obtain ⟨_, _, ⟨T137, L137, k137, n137⟩, -, X137, ⟨Lc137, hQ137, l137, y137, z137⟩, st137⟩ := X136.virtualBack hx (y := (⟨"weirline/runtime/InputChannels", "holdsBack", "(I)Z"⟩ : MethodName)) (z := (⟨"weirline/runtime/InputChannels", "holdsBack", "(I)Z"⟩ : MethodName)) hown (mvT hZ (hw _ (List.mem_of_getElem? (i := 52) rfl))) (mvT hZ (hw _ (List.mem_of_getElem? (i := 53) rfl))) (notFace_of_selects (args := #[]) (mvT hZ (hw _ (List.mem_of_getElem? (i := 55) rfl)))) (mvT hZ (hw _ (List.mem_of_getElem? (i := 55) rfl))) (mvT hZ (hw _ (List.mem_of_getElem? (i := 54) rfl))) (by decide) (backOf (W := 0) (rm7 l Z a0 hw [] b130 ((a + 1) % 3) 3 bb (updv (fun _ => .int 0) a (.int 1)) (0 : Int32) T135.heap n0 ZZ G4 V_bb (if_neg (by omega)) (by decide) (Nat.mod_lt _ (by decide)) (by decide)) hZ (hw _ (List.mem_of_getElem? (i := 56) rfl)) (hw _ (List.mem_of_getElem? (i := 3) rfl)) (by decide) (by decide)) q137a q137c (g := (mkF m 131 #[iv p0, iv p1, iv p2, iv p3, jv p4, .second, iv 3, iv (oI a), iv 0, iv (oI ((a + 1) % 3)), rv b130, rv b133, iv 0, iv 1, .unset, .unset, .unset, .unset, .unset] [(.int (oI ((a + 1) % 3))), (.ref b130)])) rfl (by rw [hml]; rfl) (Steps.refl _) (argsL := [(.int (oI ((a + 1) % 3)))]) (rest := []) (lenOf pd_6 rfl) rfl (by show 2 * 0 + _ ≤ _; exact Nat.le_of_eq rfl) (hb hby at_131) (fun _ _ => ⟨rfl, e136, (by decide : 6 + 0 ≤ _), (by decide : 23 + 0 ≤ _)⟩)
      dsimp only [Pt.U, Pt.locs, Pt.cells, Pt.slots] at X137 l137 y137 z137 st137 hQ137
      subst l137 y137 z137
      obtain ⟨rfl, N137q, e137⟩ := hQ137
      replace N0 := Fr.app N0 N137q
      refine gt st137 ?_
      show Go p e below s QQ room_1.cells room_1.slots (T137.setTop (mkF m 134 #[iv p0, iv p1, iv p2, iv p3, jv p4, .second, iv 3, iv (oI a), iv 0, iv (oI ((a + 1) % 3)), rv b130, rv b133, iv 0, iv 1, .unset, .unset, .unset, .unset, .unset] [(.int (0 : Int32))]))
      refine gs (fun t => XS.ifNo X137.here hx rfl (hb hby at_134) rfl ((if0 _ _).trans (teq (by decide : (0 : Int32) = (0 : Int32))).2)) ?_
      refine gs (fun t => XS.iconst X137.here hx rfl (hb hby at_137)) ?_
      refine gs (fun t => XS.goto X137.here hx rfl (pc0 := 138) (pc' := 142) rfl (hb hby at_138) (by decide) (by decide)) ?_
      refine gs (fun t => XS.istore X137.here hx rfl (hb hby at_142) rfl (l' := #[iv p0, iv p1, iv p2, iv p3, jv p4, .second, iv 3, iv (oI a), iv 0, iv (oI ((a + 1) % 3)), rv b130, rv b133, iv 0, iv 1, .unset, .unset, .unset, .unset, .unset]) rfl) ?_
      refine gs (fun t => XS.iload X137.here hx rfl (hb hby at_144) rfl) ?_
      refine gs (fun t => XS.iconst X137.here hx rfl (hb hby at_146)) ?_
      show Go p e below s QQ room_1.cells room_1.slots (T137.setTop (mkF m 147 #[iv p0, iv p1, iv p2, iv p3, jv p4, .second, iv 3, iv (oI a), iv 0, iv (oI ((a + 1) % 3)), rv b130, rv b133, iv 0, iv 1, .unset, .unset, .unset, .unset, .unset] [(.int (3 : Int32)), (.int (3 : Int32))]))
      refine gs (fun t => XS.icmpNo X137.here hx rfl (hb hby at_147) rfl (teq (by decide : (3 : Int32) = (3 : Int32))).2) ?_
      refine gs (fun t => XS.iload X137.here hx rfl (hb hby at_150) rfl) ?_
      refine gs (fun t => XS.ifNo X137.here hx rfl (hb hby at_152) rfl ((if0 _ _).trans (feq (by decide : ¬ ((1 : Int32) = (0 : Int32)))).1)) ?_
      refine gs (fun t => XS.aload X137.here hx rfl (hb hby at_155) rfl rfl) ?_
      refine gs (fun t => XS.iload X137.here hx rfl (hb hby at_157) rfl) ?_
      refine gs (fun t => XS.iconst X137.here hx rfl (hb hby at_159)) ?_
      show Go p e below s QQ room_1.cells room_1.slots (T137.setTop (mkF m 160 #[iv p0, iv p1, iv p2, iv p3, jv p4, .second, iv 3, iv (oI a), iv 0, iv (oI ((a + 1) % 3)), rv b130, rv b133, iv 0, iv 1, .unset, .unset, .unset, .unset, .unset] [(.int (2 : Int32)), (.int (oI a)), (.ref b130)]))
      refine gs (fun t => XS.iadd X137.here hx rfl (hb hby at_160) rfl) ?_
      refine gs (fun t => XS.iload X137.here hx rfl (hb hby at_161) rfl) ?_
      refine gs (fun t => iremM X137 hx (g := (mkF m 163 #[iv p0, iv p1, iv p2, iv p3, jv p4, .second, iv 3, iv (oI a), iv 0, iv (oI ((a + 1) % 3)), rv b130, rv b133, iv 0, iv 1, .unset, .unset, .unset, .unset, .unset] [(.int (3 : Int32)), (.int ((oI a) + (2 : Int32))), (.ref b130)])) rfl (hb hby at_163) rfl (by decide)) ?_
      show Go p e below s QQ room_1.cells room_1.slots (T137.setTop (mkF m 164 #[iv p0, iv p1, iv p2, iv p3, jv p4, .second, iv 3, iv (oI a), iv 0, iv (oI ((a + 1) % 3)), rv b130, rv b133, iv 0, iv 1, .unset, .unset, .unset, .unset, .unset] [(.int (((oI a) + (2 : Int32)) % (3 : Int32))), (.ref b130)]))
      rw [show (((oI a) + (2 : Int32)) % (3 : Int32)) = (oI ((a + 2) % 3)) from own_rem (by omega) (by decide) (by decide) (by decide) rfl rfl]
      show Go p e below s QQ room_1.cells room_1.slots (T137.setTop (mkF m 164 #[iv p0, iv p1, iv p2, iv p3, jv p4, .second, iv 3, iv (oI a), iv 0, iv (oI ((a + 1) % 3)), rv b130, rv b133, iv 0, iv 1, .unset, .unset, .unset, .unset, .unset] [(.int (oI ((a + 2) % 3))), (.ref b130)]))
      obtain ⟨cq138, kq138, q138a, q138b, q138c⟩ := isOf hZ e137 Ex_b130
      obtain ⟨_, _, ⟨T138, L138, k138, n138⟩, -, X138, ⟨Lc138, hQ138, l138, y138, z138⟩, st138⟩ := X137.virtualBack hx (y := (⟨"weirline/runtime/InputChannels", "holdsBack", "(I)Z"⟩ : MethodName)) (z := (⟨"weirline/runtime/InputChannels", "holdsBack", "(I)Z"⟩ : MethodName)) hown (mvT hZ (hw _ (List.mem_of_getElem? (i := 52) rfl))) (mvT hZ (hw _ (List.mem_of_getElem? (i := 53) rfl))) (notFace_of_selects (args := #[]) (mvT hZ (hw _ (List.mem_of_getElem? (i := 55) rfl)))) (mvT hZ (hw _ (List.mem_of_getElem? (i := 55) rfl))) (mvT hZ (hw _ (List.mem_of_getElem? (i := 54) rfl))) (by decide) (backOf (W := 0) (rm7 l Z a0 hw [] b130 ((a + 2) % 3) 3 bb (updv (fun _ => .int 0) a (.int 1)) (0 : Int32) T135.heap n0 ZZ G4 V_bb (if_neg (by omega)) (by decide) (Nat.mod_lt _ (by decide)) (by decide)) hZ (hw _ (List.mem_of_getElem? (i := 56) rfl)) (hw _ (List.mem_of_getElem? (i := 3) rfl)) (by decide) (by decide)) q138a q138c (g := (mkF m 164 #[iv p0, iv p1, iv p2, iv p3, jv p4, .second, iv 3, iv (oI a), iv 0, iv (oI ((a + 1) % 3)), rv b130, rv b133, iv 0, iv 1, .unset, .unset, .unset, .unset, .unset] [(.int (oI ((a + 2) % 3))), (.ref b130)])) rfl (by rw [hml]; rfl) (Steps.refl _) (argsL := [(.int (oI ((a + 2) % 3)))]) (rest := []) (lenOf pd_6 rfl) rfl (by show 2 * 0 + _ ≤ _; exact Nat.le_of_eq rfl) (hb hby at_164) (fun _ _ => ⟨rfl, e137, (by decide : 6 + 0 ≤ _), (by decide : 23 + 0 ≤ _)⟩)
      dsimp only [Pt.U, Pt.locs, Pt.cells, Pt.slots] at X138 l138 y138 z138 st138 hQ138
      subst l138 y138 z138
      obtain ⟨rfl, N138q, e138⟩ := hQ138
      replace N0 := Fr.app N0 N138q
      refine gt st138 ?_
      show Go p e below s QQ room_1.cells room_1.slots (T138.setTop (mkF m 167 #[iv p0, iv p1, iv p2, iv p3, jv p4, .second, iv 3, iv (oI a), iv 0, iv (oI ((a + 1) % 3)), rv b130, rv b133, iv 0, iv 1, .unset, .unset, .unset, .unset, .unset] [(.int (0 : Int32))]))
      refine gs (fun t => XS.ifNo X138.here hx rfl (hb hby at_167) rfl ((if0 _ _).trans (teq (by decide : (0 : Int32) = (0 : Int32))).2)) ?_
      refine gs (fun t => XS.iconst X138.here hx rfl (hb hby at_170)) ?_
      refine gs (fun t => XS.goto X138.here hx rfl (pc0 := 171) (pc' := 175) rfl (hb hby at_171) (by decide) (by decide)) ?_
      refine gs (fun t => XS.istore X138.here hx rfl (hb hby at_175) rfl (l' := #[iv p0, iv p1, iv p2, iv p3, jv p4, .second, iv 3, iv (oI a), iv 0, iv (oI ((a + 1) % 3)), rv b130, rv b133, iv 0, iv 1, .unset, .unset, .unset, .unset, .unset]) rfl) ?_
      refine gs (fun t => XS.aload X138.here hx rfl (hb hby at_177) rfl rfl) ?_
      obtain ⟨cq139, kq139, q139a, q139b, q139c⟩ := isOf hZ e138 Ex_b130
      obtain ⟨_, _, ⟨T139, L139, k139, n139⟩, -, X139, ⟨Lc139, hQ139, l139, y139, z139⟩, st139⟩ := X138.virtualBack hx (y := (⟨"weirline/runtime/InputChannels", "linedUp", "()Lweirline/runtime/CheckpointBarrier;"⟩ : MethodName)) (z := (⟨"weirline/runtime/InputChannels", "linedUp", "()Lweirline/runtime/CheckpointBarrier;"⟩ : MethodName)) hown (mvT hZ (hw _ (List.mem_of_getElem? (i := 57) rfl))) (mvT hZ (hw _ (List.mem_of_getElem? (i := 58) rfl))) (notFace_of_selects (args := #[]) (mvT hZ (hw _ (List.mem_of_getElem? (i := 60) rfl)))) (mvT hZ (hw _ (List.mem_of_getElem? (i := 60) rfl))) (mvT hZ (hw _ (List.mem_of_getElem? (i := 59) rfl))) (by decide) (backOf (W := 0) (lu0 l Z a0 hw [] b130 (3 : Int32) eb (0 : Int32) b133 bb (1 : Int32) T135.heap n0 ZZ G0 G1 G2 G3 G4 G5 (by decide)) hZ (hw _ (List.mem_of_getElem? (i := 61) rfl)) (hw _ (List.mem_of_getElem? (i := 3) rfl)) (by decide) (by decide)) q139a q139c (g := (mkF m 179 #[iv p0, iv p1, iv p2, iv p3, jv p4, .second, iv 3, iv (oI a), iv 0, iv (oI ((a + 1) % 3)), rv b130, rv b133, iv 0, iv 1, .unset, .unset, .unset, .unset, .unset] [(.ref b130)])) rfl (by rw [hml]; rfl) (Steps.refl _) (argsL := []) (rest := []) (lenOf pd_7 rfl) rfl (by show 2 * 0 + _ ≤ _; exact Nat.le_of_eq rfl) (hb hby at_179) (fun _ _ => ⟨rfl, e138, (by decide : 6 + 0 ≤ _), (by decide : 23 + 0 ≤ _)⟩)
      dsimp only [Pt.U, Pt.locs, Pt.cells, Pt.slots] at X139 l139 y139 z139 st139 hQ139
      subst l139 y139 z139
      obtain ⟨rfl, N139q, e139⟩ := hQ139
      replace N0 := Fr.app N0 N139q
      refine gt st139 ?_
      show Go p e below s QQ room_1.cells room_1.slots (T139.setTop (mkF m 182 #[iv p0, iv p1, iv p2, iv p3, jv p4, .second, iv 3, iv (oI a), iv 0, iv (oI ((a + 1) % 3)), rv b130, rv b133, iv 0, iv 1, .unset, .unset, .unset, .unset, .unset] [.null]))
      refine gs (fun t => XS.astore X139.here hx rfl (hb hby at_182) rfl rfl (l' := #[iv p0, iv p1, iv p2, iv p3, jv p4, .second, iv 3, iv (oI a), iv 0, iv (oI ((a + 1) % 3)), rv b130, rv b133, iv 0, iv 1, .val .null, .unset, .unset, .unset, .unset]) rfl) ?_
      refine gs (fun t => XS.iconst X139.here hx rfl (hb hby at_184)) ?_
      refine gs (fun t => XS.iload X139.here hx rfl (hb hby at_185) rfl) ?_
      refine gs (fun t => XS.iadd X139.here hx rfl (hb hby at_187) rfl) ?_
      refine gs (fun t => XS.iload X139.here hx rfl (hb hby at_188) rfl) ?_
      refine gs (fun t => XS.icmpYes X139.here hx rfl (pc0 := 190) (pc' := 197) rfl (hb hby at_190) rfl (tlt (by decide : (1 : Int32) < (3 : Int32))).1 (by decide) (by decide)) ?_
      show Go p e below s QQ room_1.cells room_1.slots (T139.setTop (mkF m 197 #[iv p0, iv p1, iv p2, iv p3, jv p4, .second, iv 3, iv (oI a), iv 0, iv (oI ((a + 1) % 3)), rv b130, rv b133, iv 0, iv 1, .val .null, .unset, .unset, .unset, .unset] []))
      refine gs (fun t => XS.iconst X139.here hx rfl (hb hby at_197)) ?_
      refine gs (fun t => XS.istore X139.here hx rfl (hb hby at_198) rfl (l' := #[iv p0, iv p1, iv p2, iv p3, jv p4, .second, iv 3, iv (oI a), iv 0, iv (oI ((a + 1) % 3)), rv b130, rv b133, iv 0, iv 1, .val .null, iv 0, .unset, .unset, .unset]) rfl) ?_
      refine gs (fun t => XS.iload X139.here hx rfl (hb hby at_200) rfl) ?_
      refine gs (fun t => XS.ifYes X139.here hx rfl (pc0 := 202) (pc' := 227) rfl (hb hby at_202) rfl ((if0 _ _).trans (teq (by decide : (0 : Int32) = (0 : Int32))).1) (by decide) (by decide)) ?_
      refine gs (fun t => XS.iload X139.here hx rfl (hb hby at_227) rfl) ?_
      refine gs (fun t => XS.ifNo X139.here hx rfl (hb hby at_229) rfl ((if0 _ _).trans (feq (by decide : ¬ ((1 : Int32) = (0 : Int32)))).1)) ?_
      show Go p e below s QQ room_1.cells room_1.slots (T139.setTop (mkF m 232 #[iv p0, iv p1, iv p2, iv p3, jv p4, .second, iv 3, iv (oI a), iv 0, iv (oI ((a + 1) % 3)), rv b130, rv b133, iv 0, iv 1, .val .null, iv 0, .unset, .unset, .unset] []))
      refine gs (fun t => XS.aload X139.here hx rfl (hb hby at_232) rfl rfl) ?_
      refine gs (fun t => XS.ifnonnullNo X139.here hx rfl (hb hby at_234) rfl) ?_
      refine gs (fun t => XS.iconst X139.here hx rfl (hb hby at_237)) ?_
      refine gs (fun t => XS.goto X139.here hx rfl (pc0 := 238) (pc' := 242) rfl (hb hby at_238) (by decide) (by decide)) ?_
      refine gs (fun t => XS.istore X139.here hx rfl (hb hby at_242) rfl (l' := #[iv p0, iv p1, iv p2, iv p3, jv p4, .second, iv 3, iv (oI a), iv 0, iv (oI ((a + 1) % 3)), rv b130, rv b133, iv 0, iv 1, .val .null, iv 0, .unset, .unset, .unset]) rfl) ?_
      refine gs (fun t => XS.iload X139.here hx rfl (hb hby at_244) rfl) ?_
      show Go p e below s QQ room_1.cells room_1.slots (T139.setTop (mkF m 246 #[iv p0, iv p1, iv p2, iv p3, jv p4, .second, iv 3, iv (oI a), iv 0, iv (oI ((a + 1) % 3)), rv b130, rv b133, iv 0, iv 1, .val .null, iv 0, .unset, .unset, .unset] [(.int (1 : Int32))]))
      refine gs (fun t => XS.ifNo X139.here hx rfl (hb hby at_246) rfl ((if0 _ _).trans (feq (by decide : ¬ ((1 : Int32) = (0 : Int32)))).1)) ?_
      refine gs (fun t => XS.aload X139.here hx rfl (hb hby at_249) rfl rfl) ?_
      refine gs (fun t => XS.iload X139.here hx rfl (hb hby at_251) rfl) ?_
      obtain ⟨cq140, kq140, q140a, q140b, q140c⟩ := isOf hZ e139 Ex_b130
      obtain ⟨_, _, ⟨T140, L140, k140, n140⟩, -, X140, ⟨Lc140, hQ140, l140, y140, z140⟩, st140⟩ := X139.virtualBack hx (y := (⟨"weirline/runtime/InputChannels", "holdsBack", "(I)Z"⟩ : MethodName)) (z := (⟨"weirline/runtime/InputChannels", "holdsBack", "(I)Z"⟩ : MethodName)) hown (mvT hZ (hw _ (List.mem_of_getElem? (i := 52) rfl))) (mvT hZ (hw _ (List.mem_of_getElem? (i := 53) rfl))) (notFace_of_selects (args := #[]) (mvT hZ (hw _ (List.mem_of_getElem? (i := 55) rfl)))) (mvT hZ (hw _ (List.mem_of_getElem? (i := 55) rfl))) (mvT hZ (hw _ (List.mem_of_getElem? (i := 54) rfl))) (by decide) (backOf (W := 0) (rm7 l Z a0 hw [] b130 a 3 bb (updv (fun _ => .int 0) a (.int 1)) (1 : Int32) T135.heap n0 ZZ G4 V_bb (by simp [Jvm.RoadKit.updv]) (by decide) ha (by decide)) hZ (hw _ (List.mem_of_getElem? (i := 56) rfl)) (hw _ (List.mem_of_getElem? (i := 3) rfl)) (by decide) (by decide)) q140a q140c (g := (mkF m 253 #[iv p0, iv p1, iv p2, iv p3, jv p4, .second, iv 3, iv (oI a), iv 0, iv (oI ((a + 1) % 3)), rv b130, rv b133, iv 0, iv 1, .val .null, iv 0, .unset, .unset, .unset] [(.int (oI a)), (.ref b130)])) rfl (by rw [hml]; rfl) (Steps.refl _) (argsL := [(.int (oI a))]) (rest := []) (lenOf pd_6 rfl) rfl (by show 2 * 0 + _ ≤ _; exact Nat.le_of_eq rfl) (hb hby at_253) (fun _ _ => ⟨rfl, e139, (by decide : 6 + 0 ≤ _), (by decide : 23 + 0 ≤ _)⟩)
      dsimp only [Pt.U, Pt.locs, Pt.cells, Pt.slots] at X140 l140 y140 z140 st140 hQ140
      subst l140 y140 z140
      obtain ⟨rfl, N140q, e140⟩ := hQ140
      replace N0 := Fr.app N0 N140q
      refine gt st140 ?_
      show Go p e below s QQ room_1.cells room_1.slots (T140.setTop (mkF m 256 #[iv p0, iv p1, iv p2, iv p3, jv p4, .second, iv 3, iv (oI a), iv 0, iv (oI ((a + 1) % 3)), rv b130, rv b133, iv 0, iv 1, .val .null, iv 0, .unset, .unset, .unset] [(.int (1 : Int32))]))
      refine gs (fun t => XS.iload X140.here hx rfl (hb hby at_256) rfl) ?_
      refine gs (fun t => XS.ifNo X140.here hx rfl (hb hby at_258) rfl ((if0 _ _).trans (teq (by decide : (0 : Int32) = (0 : Int32))).2)) ?_
      refine gs (fun t => XS.iconst X140.here hx rfl (hb hby at_261)) ?_
      refine gs (fun t => XS.goto X140.here hx rfl (pc0 := 262) (pc' := 266) rfl (hb hby at_262) (by decide) (by decide)) ?_
      refine gs (fun t => XS.icmpNo X140.here hx rfl (hb hby at_266) rfl (teq (by decide : (1 : Int32) = (1 : Int32))).2) ?_
      refine gs (fun t => XS.iconst X140.here hx rfl (hb hby at_269)) ?_
      show Go p e below s QQ room_1.cells room_1.slots (T140.setTop (mkF m 270 #[iv p0, iv p1, iv p2, iv p3, jv p4, .second, iv 3, iv (oI a), iv 0, iv (oI ((a + 1) % 3)), rv b130, rv b133, iv 0, iv 1, .val .null, iv 0, .unset, .unset, .unset] [(.int (1 : Int32))]))
      refine gs (fun t => XS.goto X140.here hx rfl (pc0 := 270) (pc' := 274) rfl (hb hby at_270) (by decide) (by decide)) ?_
      refine gs (fun t => XS.istore X140.here hx rfl (hb hby at_274) rfl (l' := #[iv p0, iv p1, iv p2, iv p3, jv p4, .second, iv 3, iv (oI a), iv 0, iv (oI ((a + 1) % 3)), rv b130, rv b133, iv 0, iv 1, .val .null, iv 0, .unset, .unset, .unset]) rfl) ?_
      refine gs (fun t => XS.iload X140.here hx rfl (hb hby at_276) rfl) ?_
      refine gs (fun t => XS.ifNo X140.here hx rfl (hb hby at_278) rfl ((if0 _ _).trans (teq (by decide : (0 : Int32) = (0 : Int32))).2)) ?_
      refine gs (fun t => XS.iload X140.here hx rfl (hb hby at_281) rfl) ?_
      refine gs (fun t => XS.iconst X140.here hx rfl (hb hby at_283)) ?_
      show Go p e below s QQ room_1.cells room_1.slots (T140.setTop (mkF m 284 #[iv p0, iv p1, iv p2, iv p3, jv p4, .second, iv 3, iv (oI a), iv 0, iv (oI ((a + 1) % 3)), rv b130, rv b133, iv 0, iv 1, .val .null, iv 0, .unset, .unset, .unset] [(.int (2 : Int32)), (.int (3 : Int32))]))
      refine gs (fun t => XS.icmpYes X140.here hx rfl (pc0 := 284) (pc' := 298) rfl (hb hby at_284) rfl (feq (by decide : ¬ ((3 : Int32) = (2 : Int32)))).2 (by decide) (by decide)) ?_
      refine gs (fun t => XS.iload X140.here hx rfl (hb hby at_298) rfl) ?_
      refine gs (fun t => XS.ifYes X140.here hx rfl (pc0 := 300) (pc' := 314) rfl (hb hby at_300) rfl ((if0 _ _).trans (teq (by decide : (0 : Int32) = (0 : Int32))).1) (by decide) (by decide)) ?_
      refine gs (fun t => XS.iload X140.here hx rfl (hb hby at_314) rfl) ?_
      refine gs (fun t => XS.iconst X140.here hx rfl (hb hby at_316)) ?_
      refine gs (fun t => XS.iadd X140.here hx rfl (hb hby at_317) rfl) ?_
      show Go p e below s QQ room_1.cells room_1.slots (T140.setTop (mkF m 318 #[iv p0, iv p1, iv p2, iv p3, jv p4, .second, iv 3, iv (oI a), iv 0, iv (oI ((a + 1) % 3)), rv b130, rv b133, iv 0, iv 1, .val .null, iv 0, .unset, .unset, .unset] [(.int ((oI a) + (1 : Int32)))]))
      refine gs (fun t => XS.iloadN X140.here hx rfl (hb hby at_318) rfl) ?_
      refine gs (fun t => XS.iconst X140.here hx rfl (hb hby at_319)) ?_
      refine gs (fun t => XS.iand X140.here hx rfl (hb hby at_320) rfl) ?_
      refine gs (fun t => XS.iadd X140.here hx rfl (hb hby at_321) rfl) ?_
      refine gs (fun t => XS.iconst X140.here hx rfl (hb hby at_322)) ?_
      refine gs (fun t => iremM X140 hx (g := (mkF m 323 #[iv p0, iv p1, iv p2, iv p3, jv p4, .second, iv 3, iv (oI a), iv 0, iv (oI ((a + 1) % 3)), rv b130, rv b133, iv 0, iv 1, .val .null, iv 0, .unset, .unset, .unset] [(.int (3 : Int32)), (.int (((oI a) + (1 : Int32)) + (p2 &&& (1 : Int32))))])) rfl (hb hby at_323) rfl (by decide)) ?_
      show Go p e below s QQ room_1.cells room_1.slots (T140.setTop (mkF m 324 #[iv p0, iv p1, iv p2, iv p3, jv p4, .second, iv 3, iv (oI a), iv 0, iv (oI ((a + 1) % 3)), rv b130, rv b133, iv 0, iv 1, .val .null, iv 0, .unset, .unset, .unset] [(.int ((((oI a) + (1 : Int32)) + (p2 &&& (1 : Int32))) % (3 : Int32)))]))
      obtain ⟨cc, hcc, hca, hce⟩ := own_y p2 ha
      rw [show ((((oI a) + (1 : Int32)) + (p2 &&& (1 : Int32))) % (3 : Int32)) = (oI cc) from hce]
      show Go p e below s QQ room_1.cells room_1.slots (T140.setTop (mkF m 324 #[iv p0, iv p1, iv p2, iv p3, jv p4, .second, iv 3, iv (oI a), iv 0, iv (oI ((a + 1) % 3)), rv b130, rv b133, iv 0, iv 1, .val .null, iv 0, .unset, .unset, .unset] [(.int (oI cc))]))
      refine gs (fun t => XS.istore X140.here hx rfl (hb hby at_324) rfl (l' := #[iv p0, iv p1, iv p2, iv p3, jv p4, .second, iv 3, iv (oI a), iv 0, iv (oI ((a + 1) % 3)), rv b130, rv b133, iv 0, iv 1, .val .null, iv 0, iv (oI cc), .unset, .unset]) rfl) ?_
      refine gs (fun t => XS.aload X140.here hx rfl (hb hby at_326) rfl rfl) ?_
      refine gs (fun t => XS.iload X140.here hx rfl (hb hby at_328) rfl) ?_
      refine gs (fun t => XS.aload X140.here hx rfl (hb hby at_330) rfl rfl) ?_
      obtain ⟨cq141, kq141, q141a, q141b, q141c⟩ := isOf hZ e140 Ex_b130
      obtain ⟨_, _, ⟨T141, L141, k141, n141⟩, -, X141, ⟨Lc141, hQ141, l141, y141, z141⟩, st141⟩ := X140.virtualBack hx (y := (⟨"weirline/runtime/InputChannels", "barrier", "(ILweirline/runtime/CheckpointBarrier;)V"⟩ : MethodName)) (z := (⟨"weirline/runtime/InputChannels", "barrier", "(ILweirline/runtime/CheckpointBarrier;)V"⟩ : MethodName)) hown (mvT hZ (hw _ (List.mem_of_getElem? (i := 43) rfl))) (mvT hZ (hw _ (List.mem_of_getElem? (i := 44) rfl))) (notFace_of_selects (args := #[]) (mvT hZ (hw _ (List.mem_of_getElem? (i := 46) rfl)))) (mvT hZ (hw _ (List.mem_of_getElem? (i := 46) rfl))) (mvT hZ (hw _ (List.mem_of_getElem? (i := 45) rfl))) (by decide) (backOf (W := 0) (rm6 l Z a0 hw [] b130 b133 cc 3 (3 : Int32) eb (0 : Int32) (.ref b133) bb (1 : Int32) (updv (fun _ => .int 0) a (.int 1)) T135.heap n0 ZZ G0 G1 G2 G3 G4 G5 Ex_b130 V_bb ge_b130 ge_bb ne_b130_eb ne_b130_bb neb hcc (by decide)) hZ (hw _ (List.mem_of_getElem? (i := 47) rfl)) (hw _ (List.mem_of_getElem? (i := 3) rfl)) (by decide) (by decide)) q141a q141c (g := (mkF m 332 #[iv p0, iv p1, iv p2, iv p3, jv p4, .second, iv 3, iv (oI a), iv 0, iv (oI ((a + 1) % 3)), rv b130, rv b133, iv 0, iv 1, .val .null, iv 0, iv (oI cc), .unset, .unset] [(.ref b133), (.int (oI cc)), (.ref b130)])) rfl (by rw [hml]; rfl) (Steps.refl _) (argsL := [(.int (oI cc)), (.ref b133)]) (rest := []) (lenOf pd_5 rfl) rfl (by show 2 * 0 + _ ≤ _; exact Nat.le_of_eq rfl) (hb hby at_332) (fun _ _ => ⟨rfl, e140, (by decide : 6 + 0 ≤ _), (by decide : 23 + 0 ≤ _)⟩)
      dsimp only [Pt.U, Pt.locs, Pt.cells, Pt.slots] at X141 l141 y141 z141 st141 hQ141
      subst l141 y141 z141
      obtain ⟨rfl, N141q, K141, Gn0_141, Gn1_141, Gn2_141, Gn3_141, Gn4_141, Gn5_141, Vn141⟩ := hQ141
      replace N0 := Fr.app N0 N141q
      refine gt st141 ?_
      show Go p e below s QQ room_1.cells room_1.slots (T141.setTop (mkF m 335 #[iv p0, iv p1, iv p2, iv p3, jv p4, .second, iv 3, iv (oI a), iv 0, iv (oI ((a + 1) % 3)), rv b130, rv b133, iv 0, iv 1, .val .null, iv 0, iv (oI cc), .unset, .unset] []))
      replace Ex_b130 := Ex_b130.keep K141
      replace V_eb := V_eb.keep K141 (ninS (Ne.symm ne_b130_eb) (ninS neb nin0))
      replace Ex_b133 := Ex_b133.keep K141
      replace ZZ := Nat.le_trans ZZ K141.1
      have G0 : Fld Z T141.heap b130 "weirline/runtime/InputChannels" "count" "I" (.int (3 : Int32)) := Gn0_141
      have G1 : Fld Z T141.heap b130 "weirline/runtime/InputChannels" "ended" "[Z" (.ref eb) := Gn1_141
      have G2 : Fld Z T141.heap b130 "weirline/runtime/InputChannels" "endedCount" "I" (.int (0 : Int32)) := Gn2_141
      have G3 : Fld Z T141.heap b130 "weirline/runtime/InputChannels" "aligning" "Lweirline/runtime/CheckpointBarrier;" (.ref b133) := Gn3_141
      have G4 : Fld Z T141.heap b130 "weirline/runtime/InputChannels" "barrierIn" "[Z" (.ref bb) := Gn4_141
      have G5 : Fld Z T141.heap b130 "weirline/runtime/InputChannels" "barriersIn" "I" (.int (2 : Int32)) := Gn5_141
      have V_bb := Vn141
      refine gs (fun t => XS.aload X141.here hx rfl (hb hby at_335) rfl rfl) ?_
      obtain ⟨cq142, kq142, q142a, q142b, q142c⟩ := isOf hZ rfl Ex_b130
      obtain ⟨_, _, ⟨T142, L142, k142, n142⟩, -, X142, ⟨Lc142, hQ142, l142, y142, z142⟩, st142⟩ := X141.virtualBack hx (y := (⟨"weirline/runtime/InputChannels", "linedUp", "()Lweirline/runtime/CheckpointBarrier;"⟩ : MethodName)) (z := (⟨"weirline/runtime/InputChannels", "linedUp", "()Lweirline/runtime/CheckpointBarrier;"⟩ : MethodName)) hown (mvT hZ (hw _ (List.mem_of_getElem? (i := 57) rfl))) (mvT hZ (hw _ (List.mem_of_getElem? (i := 58) rfl))) (notFace_of_selects (args := #[]) (mvT hZ (hw _ (List.mem_of_getElem? (i := 60) rfl)))) (mvT hZ (hw _ (List.mem_of_getElem? (i := 60) rfl))) (mvT hZ (hw _ (List.mem_of_getElem? (i := 59) rfl))) (by decide) (backOf (W := 0) (lu0 l Z a0 hw [] b130 (3 : Int32) eb (0 : Int32) b133 bb (2 : Int32) T141.heap n0 ZZ G0 G1 G2 G3 G4 G5 (by decide)) hZ (hw _ (List.mem_of_getElem? (i := 61) rfl)) (hw _ (List.mem_of_getElem? (i := 3) rfl)) (by decide) (by decide)) q142a q142c (g := (mkF m 337 #[iv p0, iv p1, iv p2, iv p3, jv p4, .second, iv 3, iv (oI a), iv 0, iv (oI ((a + 1) % 3)), rv b130, rv b133, iv 0, iv 1, .val .null, iv 0, iv (oI cc), .unset, .unset] [(.ref b130)])) rfl (by rw [hml]; rfl) (Steps.refl _) (argsL := []) (rest := []) (lenOf pd_7 rfl) rfl (by show 2 * 0 + _ ≤ _; exact Nat.le_of_eq rfl) (hb hby at_337) (fun _ _ => ⟨rfl, rfl, (by decide : 6 + 0 ≤ _), (by decide : 23 + 0 ≤ _)⟩)
      dsimp only [Pt.U, Pt.locs, Pt.cells, Pt.slots] at X142 l142 y142 z142 st142 hQ142
      subst l142 y142 z142
      obtain ⟨rfl, N142q, e142⟩ := hQ142
      replace N0 := Fr.app N0 N142q
      refine gt st142 ?_
      show Go p e below s QQ room_1.cells room_1.slots (T142.setTop (mkF m 340 #[iv p0, iv p1, iv p2, iv p3, jv p4, .second, iv 3, iv (oI a), iv 0, iv (oI ((a + 1) % 3)), rv b130, rv b133, iv 0, iv 1, .val .null, iv 0, iv (oI cc), .unset, .unset] [.null]))
      refine gs (fun t => XS.astore X142.here hx rfl (hb hby at_340) rfl rfl (l' := #[iv p0, iv p1, iv p2, iv p3, jv p4, .second, iv 3, iv (oI a), iv 0, iv (oI ((a + 1) % 3)), rv b130, rv b133, iv 0, iv 1, .val .null, iv 0, iv (oI cc), .val .null, .unset]) rfl) ?_
      refine gs (fun t => XS.iconst X142.here hx rfl (hb hby at_342)) ?_
      refine gs (fun t => XS.iload X142.here hx rfl (hb hby at_343) rfl) ?_
      refine gs (fun t => XS.iadd X142.here hx rfl (hb hby at_345) rfl) ?_
      refine gs (fun t => XS.iload X142.here hx rfl (hb hby at_346) rfl) ?_
      refine gs (fun t => XS.icmpYes X142.here hx rfl (pc0 := 348) (pc' := 355) rfl (hb hby at_348) rfl (tlt (by decide : (2 : Int32) < (3 : Int32))).1 (by decide) (by decide)) ?_
      show Go p e below s QQ room_1.cells room_1.slots (T142.setTop (mkF m 355 #[iv p0, iv p1, iv p2, iv p3, jv p4, .second, iv 3, iv (oI a), iv 0, iv (oI ((a + 1) % 3)), rv b130, rv b133, iv 0, iv 1, .val .null, iv 0, iv (oI cc), .val .null, .unset] []))
      refine gs (fun t => XS.iconst X142.here hx rfl (hb hby at_355)) ?_
      refine gs (fun t => XS.istore X142.here hx rfl (hb hby at_356) rfl (l' := #[iv p0, iv p1, iv p2, iv p3, jv p4, .second, iv 3, iv (oI a), iv 0, iv (oI ((a + 1) % 3)), rv b130, rv b133, iv 0, iv 1, .val .null, iv 0, iv (oI cc), .val .null, iv 0]) rfl) ?_
      refine gs (fun t => XS.iload X142.here hx rfl (hb hby at_358) rfl) ?_
      refine gs (fun t => XS.ifYes X142.here hx rfl (pc0 := 360) (pc' := 385) rfl (hb hby at_360) rfl ((if0 _ _).trans (teq (by decide : (0 : Int32) = (0 : Int32))).1) (by decide) (by decide)) ?_
      refine gs (fun t => XS.iload X142.here hx rfl (hb hby at_385) rfl) ?_
      refine gs (fun t => XS.ifNo X142.here hx rfl (hb hby at_387) rfl ((if0 _ _).trans (feq (by decide : ¬ ((1 : Int32) = (0 : Int32)))).1)) ?_
      show Go p e below s QQ room_1.cells room_1.slots (T142.setTop (mkF m 390 #[iv p0, iv p1, iv p2, iv p3, jv p4, .second, iv 3, iv (oI a), iv 0, iv (oI ((a + 1) % 3)), rv b130, rv b133, iv 0, iv 1, .val .null, iv 0, iv (oI cc), .val .null, iv 0] []))
      refine gs (fun t => XS.aload X142.here hx rfl (hb hby at_390) rfl rfl) ?_
      refine gs (fun t => XS.ifnonnullNo X142.here hx rfl (hb hby at_392) rfl) ?_
      refine gs (fun t => XS.iconst X142.here hx rfl (hb hby at_395)) ?_
      refine gs (fun t => XS.goto X142.here hx rfl (pc0 := 396) (pc' := 400) rfl (hb hby at_396) (by decide) (by decide)) ?_
      refine gs (fun t => XS.istore X142.here hx rfl (hb hby at_400) rfl (l' := #[iv p0, iv p1, iv p2, iv p3, jv p4, .second, iv 3, iv (oI a), iv 0, iv (oI ((a + 1) % 3)), rv b130, rv b133, iv 0, iv 1, .val .null, iv 0, iv (oI cc), .val .null, iv 0]) rfl) ?_
      refine gs (fun t => XS.iload X142.here hx rfl (hb hby at_402) rfl) ?_
      show Go p e below s QQ room_1.cells room_1.slots (T142.setTop (mkF m 404 #[iv p0, iv p1, iv p2, iv p3, jv p4, .second, iv 3, iv (oI a), iv 0, iv (oI ((a + 1) % 3)), rv b130, rv b133, iv 0, iv 1, .val .null, iv 0, iv (oI cc), .val .null, iv 0] [(.int (1 : Int32))]))
      refine gs (fun t => XS.ifNo X142.here hx rfl (hb hby at_404) rfl ((if0 _ _).trans (feq (by decide : ¬ ((1 : Int32) = (0 : Int32)))).1)) ?_
      refine gs (fun t => XS.aload X142.here hx rfl (hb hby at_407) rfl rfl) ?_
      refine gs (fun t => XS.iload X142.here hx rfl (hb hby at_409) rfl) ?_
      obtain ⟨cq143, kq143, q143a, q143b, q143c⟩ := isOf hZ e142 Ex_b130
      obtain ⟨_, _, ⟨T143, L143, k143, n143⟩, -, X143, ⟨Lc143, hQ143, l143, y143, z143⟩, st143⟩ := X142.virtualBack hx (y := (⟨"weirline/runtime/InputChannels", "holdsBack", "(I)Z"⟩ : MethodName)) (z := (⟨"weirline/runtime/InputChannels", "holdsBack", "(I)Z"⟩ : MethodName)) hown (mvT hZ (hw _ (List.mem_of_getElem? (i := 52) rfl))) (mvT hZ (hw _ (List.mem_of_getElem? (i := 53) rfl))) (notFace_of_selects (args := #[]) (mvT hZ (hw _ (List.mem_of_getElem? (i := 55) rfl)))) (mvT hZ (hw _ (List.mem_of_getElem? (i := 55) rfl))) (mvT hZ (hw _ (List.mem_of_getElem? (i := 54) rfl))) (by decide) (backOf (W := 0) (rm7 l Z a0 hw [] b130 cc 3 bb (updv (updv (fun _ => .int 0) a (.int 1)) cc (.int 1)) (1 : Int32) T141.heap n0 ZZ G4 V_bb (by simp [Jvm.RoadKit.updv]) (by decide) hcc (by decide)) hZ (hw _ (List.mem_of_getElem? (i := 56) rfl)) (hw _ (List.mem_of_getElem? (i := 3) rfl)) (by decide) (by decide)) q143a q143c (g := (mkF m 411 #[iv p0, iv p1, iv p2, iv p3, jv p4, .second, iv 3, iv (oI a), iv 0, iv (oI ((a + 1) % 3)), rv b130, rv b133, iv 0, iv 1, .val .null, iv 0, iv (oI cc), .val .null, iv 0] [(.int (oI cc)), (.ref b130)])) rfl (by rw [hml]; rfl) (Steps.refl _) (argsL := [(.int (oI cc))]) (rest := []) (lenOf pd_6 rfl) rfl (by show 2 * 0 + _ ≤ _; exact Nat.le_of_eq rfl) (hb hby at_411) (fun _ _ => ⟨rfl, e142, (by decide : 6 + 0 ≤ _), (by decide : 23 + 0 ≤ _)⟩)
      dsimp only [Pt.U, Pt.locs, Pt.cells, Pt.slots] at X143 l143 y143 z143 st143 hQ143
      subst l143 y143 z143
      obtain ⟨rfl, N143q, e143⟩ := hQ143
      replace N0 := Fr.app N0 N143q
      refine gt st143 ?_
      show Go p e below s QQ room_1.cells room_1.slots (T143.setTop (mkF m 414 #[iv p0, iv p1, iv p2, iv p3, jv p4, .second, iv 3, iv (oI a), iv 0, iv (oI ((a + 1) % 3)), rv b130, rv b133, iv 0, iv 1, .val .null, iv 0, iv (oI cc), .val .null, iv 0] [(.int (1 : Int32))]))
      refine gs (fun t => XS.iload X143.here hx rfl (hb hby at_414) rfl) ?_
      refine gs (fun t => XS.ifNo X143.here hx rfl (hb hby at_416) rfl ((if0 _ _).trans (teq (by decide : (0 : Int32) = (0 : Int32))).2)) ?_
      refine gs (fun t => XS.iconst X143.here hx rfl (hb hby at_419)) ?_
      refine gs (fun t => XS.goto X143.here hx rfl (pc0 := 420) (pc' := 424) rfl (hb hby at_420) (by decide) (by decide)) ?_
      refine gs (fun t => XS.icmpNo X143.here hx rfl (hb hby at_424) rfl (teq (by decide : (1 : Int32) = (1 : Int32))).2) ?_
      refine gs (fun t => XS.iconst X143.here hx rfl (hb hby at_427)) ?_
      show Go p e below s QQ room_1.cells room_1.slots (T143.setTop (mkF m 428 #[iv p0, iv p1, iv p2, iv p3, jv p4, .second, iv 3, iv (oI a), iv 0, iv (oI ((a + 1) % 3)), rv b130, rv b133, iv 0, iv 1, .val .null, iv 0, iv (oI cc), .val .null, iv 0] [(.int (1 : Int32))]))
      refine gs (fun t => XS.goto X143.here hx rfl (pc0 := 428) (pc' := 432) rfl (hb hby at_428) (by decide) (by decide)) ?_
      refine gs (fun t => XS.istore X143.here hx rfl (hb hby at_432) rfl (l' := #[iv p0, iv p1, iv p2, iv p3, jv p4, .second, iv 3, iv (oI a), iv 0, iv (oI ((a + 1) % 3)), rv b130, rv b133, iv 0, iv 1, .val .null, iv 0, iv (oI cc), .val .null, iv 0]) rfl) ?_
      refine gs (fun t => XS.iload X143.here hx rfl (hb hby at_434) rfl) ?_
      exact goB X143 hx Bd.notSynchronized Bd.returns (by simp) (w := (1 : Int32)) (by first | rfl | decide) (hb hby at_436) (by rw [← hQQ, e143]; exact ⟨rfl, N0⟩) (by decide) (by decide)
    · skip
      refine gs (fun t => XS.ifNo X0.here hx rfl (hb hby at_22) rfl ((if0 _ _).trans (feq hf).1)) ?_
      refine gs (fun t => XS.iload X0.here hx rfl (hb hby at_25) rfl) ?_
      show Go p e below s QQ room_1.cells room_1.slots (s₁.setTop (mkF m 27 #[iv p0, iv p1, iv p2, iv p3, jv p4, .second, iv 3, iv (oI a), .unset, .unset, .unset, .unset, .unset, .unset, .unset, .unset, .unset, .unset, .unset] [(.int (3 : Int32))]))
      refine gs (fun t => XS.iconst X0.here hx rfl (hb hby at_27)) ?_
      refine gs (fun t => XS.icmpNo X0.here hx rfl (hb hby at_28) rfl (flt (by decide : ¬ ((3 : Int32) < (2 : Int32)))).1) ?_
      refine gs (fun t => XS.iconst X0.here hx rfl (hb hby at_31)) ?_
      refine gs (fun t => XS.goto X0.here hx rfl (pc0 := 32) (pc' := 36) rfl (hb hby at_32) (by decide) (by decide)) ?_
      refine gs (fun t => XS.istore X0.here hx rfl (hb hby at_36) rfl (l' := #[iv p0, iv p1, iv p2, iv p3, jv p4, .second, iv 3, iv (oI a), iv 1, .unset, .unset, .unset, .unset, .unset, .unset, .unset, .unset, .unset, .unset]) rfl) ?_
      refine gs (fun t => XS.iload X0.here hx rfl (hb hby at_38) rfl) ?_
      show Go p e below s QQ room_1.cells room_1.slots (s₁.setTop (mkF m 40 #[iv p0, iv p1, iv p2, iv p3, jv p4, .second, iv 3, iv (oI a), iv 1, .unset, .unset, .unset, .unset, .unset, .unset, .unset, .unset, .unset, .unset] [(.int (oI a))]))
      refine gs (fun t => XS.iconst X0.here hx rfl (hb hby at_40)) ?_
      refine gs (fun t => XS.iadd X0.here hx rfl (hb hby at_41) rfl) ?_
      refine gs (fun t => XS.iload X0.here hx rfl (hb hby at_42) rfl) ?_
      refine gs (fun t => iremM X0 hx (g := (mkF m 44 #[iv p0, iv p1, iv p2, iv p3, jv p4, .second, iv 3, iv (oI a), iv 1, .unset, .unset, .unset, .unset, .unset, .unset, .unset, .unset, .unset, .unset] [(.int (3 : Int32)), (.int ((oI a) + (1 : Int32)))])) rfl (hb hby at_44) rfl (by decide)) ?_
      show Go p e below s QQ room_1.cells room_1.slots (s₁.setTop (mkF m 45 #[iv p0, iv p1, iv p2, iv p3, jv p4, .second, iv 3, iv (oI a), iv 1, .unset, .unset, .unset, .unset, .unset, .unset, .unset, .unset, .unset, .unset] [(.int (((oI a) + (1 : Int32)) % (3 : Int32)))]))
      rw [show (((oI a) + (1 : Int32)) % (3 : Int32)) = (oI ((a + 1) % 3)) from own_rem (by omega) (by decide) (by decide) (by decide) rfl rfl]
      show Go p e below s QQ room_1.cells room_1.slots (s₁.setTop (mkF m 45 #[iv p0, iv p1, iv p2, iv p3, jv p4, .second, iv 3, iv (oI a), iv 1, .unset, .unset, .unset, .unset, .unset, .unset, .unset, .unset, .unset, .unset] [(.int (oI ((a + 1) % 3)))]))
      refine gs (fun t => XS.istore X0.here hx rfl (hb hby at_45) rfl (l' := #[iv p0, iv p1, iv p2, iv p3, jv p4, .second, iv 3, iv (oI a), iv 1, iv (oI ((a + 1) % 3)), .unset, .unset, .unset, .unset, .unset, .unset, .unset, .unset, .unset]) rfl) ?_
      obtain ⟨T144, h144, X144, e144, E144, A144, D144, -, st144⟩ := newO X0 hx hZ hown (hw _ (List.mem_of_getElem? (i := 1) rfl)) (hw _ (List.mem_of_getElem? (i := 2) rfl)) (hw _ (List.mem_of_getElem? (i := 3) rfl)) e0 (g := (mkF m 47 #[iv p0, iv p1, iv p2, iv p3, jv p4, .second, iv 3, iv (oI a), iv 1, iv (oI ((a + 1) % 3)), .unset, .unset, .unset, .unset, .unset, .unset, .unset, .unset, .unset] [])) rfl (hb hby at_47) (by decide) (by decide)
      obtain ⟨b144, g144⟩ : ∃ z, z = h0.size := ⟨_, rfl⟩
      rw [← g144] at A144 D144 st144
      have ge_b144 : n0 ≤ b144 := by rw [g144]; exact ZZ
      refine gs st144 ?_
      show Go p e below s QQ room_1.cells room_1.slots (T144.setTop (mkF m 50 #[iv p0, iv p1, iv p2, iv p3, jv p4, .second, iv 3, iv (oI a), iv 1, iv (oI ((a + 1) % 3)), .unset, .unset, .unset, .unset, .unset, .unset, .unset, .unset, .unset] [(.ref b144)]))
      replace ZZ := Nat.le_trans ZZ E144.1
      have Ex_b144 := A144
      have F_minimum_b144 : Fld Z h144 b144 "weirline/runtime/InputChannels" "minimum" "J" (.long (0 : Int64)) := D144 (Or.inl (hw _ (List.mem_of_getElem? (i := 12) rfl))) (ty := .long) (by decide)
      have F_count_b144 : Fld Z h144 b144 "weirline/runtime/InputChannels" "count" "I" (.int (0 : Int32)) := D144 (Or.inr (hw _ (List.mem_of_getElem? (i := 14) rfl))) (ty := .int) (by decide)
      have F_latest_b144 : Fld Z h144 b144 "weirline/runtime/InputChannels" "latest" "[J" .null := D144 (Or.inr (hw _ (List.mem_of_getElem? (i := 17) rfl))) (ty := (.array .long)) (by decide)
      have F_channelIdle_b144 : Fld Z h144 b144 "weirline/runtime/InputChannels" "channelIdle" "[Z" .null := D144 (Or.inr (hw _ (List.mem_of_getElem? (i := 20) rfl))) (ty := (.array .boolean)) (by decide)
      have F_ended_b144 : Fld Z h144 b144 "weirline/runtime/InputChannels" "ended" "[Z" .null := D144 (Or.inr (hw _ (List.mem_of_getElem? (i := 22) rfl))) (ty := (.array .boolean)) (by decide)
      have F_barrierIn_b144 : Fld Z h144 b144 "weirline/runtime/InputChannels" "barrierIn" "[Z" .null := D144 (Or.inr (hw _ (List.mem_of_getElem? (i := 24) rfl))) (ty := (.array .boolean)) (by decide)
      have F_aligning_b144 : Fld Z h144 b144 "weirline/runtime/InputChannels" "aligning" "Lweirline/runtime/CheckpointBarrier;" .null := D144 (Or.inl (hw _ (List.mem_of_getElem? (i := 49) rfl))) (ty := (.object "weirline/runtime/CheckpointBarrier")) (by decide)
      have F_barriersIn_b144 : Fld Z h144 b144 "weirline/runtime/InputChannels" "barriersIn" "I" (.int (0 : Int32)) := D144 (Or.inl (hw _ (List.mem_of_getElem? (i := 51) rfl))) (ty := .int) (by decide)
      have F_endedCount_b144 : Fld Z h144 b144 "weirline/runtime/InputChannels" "endedCount" "I" (.int (0 : Int32)) := D144 (Or.inl (hw _ (List.mem_of_getElem? (i := 63) rfl))) (ty := .int) (by decide)
      refine gs (fun t => XS.dup X144.here hx rfl (hb hby at_50) rfl rfl) ?_
      refine gs (fun t => XS.iload X144.here hx rfl (hb hby at_51) rfl) ?_
      have ZZm145 := ZZ
      have lt145_b144 := Ex_b144.lt
      obtain ⟨_, _, ⟨T146, L146, k146, n146⟩, -, X146, ⟨Lc146, hQ146, l146, y146, z146⟩, st146⟩ := X144.specialBack hx (y := (⟨"weirline/runtime/InputChannels", "<init>", "(I)V"⟩ : MethodName)) rfl hown (mvT hZ (hw _ (List.mem_of_getElem? (i := 4) rfl))) (mvT hZ (hw _ (List.mem_of_getElem? (i := 5) rfl))) (mvT hZ (hw _ (List.mem_of_getElem? (i := 6) rfl))) (by decide) (backOf (W := 1) (ctor3 l Z a0 hw [] b144 h144 n0 ZZ F_minimum_b144 F_count_b144 F_latest_b144 F_channelIdle_b144 F_ended_b144 F_barrierIn_b144 F_aligning_b144 F_barriersIn_b144 F_endedCount_b144 Ex_b144 ge_b144) hZ (hw _ (List.mem_of_getElem? (i := 6) rfl)) (hw _ (List.mem_of_getElem? (i := 3) rfl)) (by decide) (by decide)) (g := (mkF m 53 #[iv p0, iv p1, iv p2, iv p3, jv p4, .second, iv 3, iv (oI a), iv 1, iv (oI ((a + 1) % 3)), .unset, .unset, .unset, .unset, .unset, .unset, .unset, .unset, .unset] [(.int (3 : Int32)), (.ref b144), (.ref b144)])) rfl (by rw [hml]; rfl) (Steps.refl _) (a := b144) (argsL := [(.int (3 : Int32))]) (rest := [(.ref b144)]) (lenOf pd_3 rfl) rfl (by show 2 * 0 + _ ≤ _; exact Nat.le_of_eq rfl) (hb hby at_53) (fun _ _ => ⟨rfl, e144, (by decide : 1 + 4 ≤ _), (by decide : 10 + 12 ≤ _)⟩)
      dsimp only [Pt.U, Pt.locs, Pt.cells, Pt.slots] at X146 l146 y146 z146 st146 hQ146
      subst l146 y146 z146
      obtain ⟨eb, bb, rfl, N146q, K146, G0, G1, G2, G3, G4, G5, V_eb, V_bb, geb, gbb, neb⟩ := hQ146
      replace N0 := Fr.app N0 N146q
      refine gt st146 ?_
      show Go p e below s QQ room_1.cells room_1.slots (T146.setTop (mkF m 56 #[iv p0, iv p1, iv p2, iv p3, jv p4, .second, iv 3, iv (oI a), iv 1, iv (oI ((a + 1) % 3)), .unset, .unset, .unset, .unset, .unset, .unset, .unset, .unset, .unset] [(.ref b144)]))
      replace Ex_b144 := Ex_b144.keep K146
      replace ZZ := Nat.le_trans ZZ K146.1
      have ne_b144_eb : b144 ≠ eb := Nat.ne_of_lt (Nat.lt_of_lt_of_le lt145_b144 geb)
      have ge_eb : n0 ≤ eb := Nat.le_trans ZZm145 geb
      have ne_b144_bb : b144 ≠ bb := Nat.ne_of_lt (Nat.lt_of_lt_of_le lt145_b144 gbb)
      have ge_bb : n0 ≤ bb := Nat.le_trans ZZm145 gbb
      refine gs (fun t => XS.astore X146.here hx rfl (hb hby at_56) rfl rfl (l' := #[iv p0, iv p1, iv p2, iv p3, jv p4, .second, iv 3, iv (oI a), iv 1, iv (oI ((a + 1) % 3)), rv b144, .unset, .unset, .unset, .unset, .unset, .unset, .unset, .unset]) rfl) ?_
      obtain ⟨T147, h147, X147, e147, E147, A147, D147, -, st147⟩ := newO X146 hx hZ hown (hw _ (List.mem_of_getElem? (i := 29) rfl)) (hw _ (List.mem_of_getElem? (i := 30) rfl)) (hw _ (List.mem_of_getElem? (i := 31) rfl)) rfl (g := (mkF m 58 #[iv p0, iv p1, iv p2, iv p3, jv p4, .second, iv 3, iv (oI a), iv 1, iv (oI ((a + 1) % 3)), rv b144, .unset, .unset, .unset, .unset, .unset, .unset, .unset, .unset] [])) rfl (hb hby at_58) (by decide) (by decide)
      obtain ⟨b147, g147⟩ : ∃ z, z = T146.heap.size := ⟨_, rfl⟩
      rw [← g147] at A147 D147 st147
      have ge_b147 : n0 ≤ b147 := by rw [g147]; exact ZZ
      have ne_b144_b147 : b144 ≠ b147 := by rw [g147]; exact Nat.ne_of_lt Ex_b144.lt
      have ne_eb_b147 : eb ≠ b147 := by rw [g147]; exact Nat.ne_of_lt V_eb.lt
      have ne_bb_b147 : bb ≠ b147 := by rw [g147]; exact Nat.ne_of_lt V_bb.lt
      refine gs st147 ?_
      show Go p e below s QQ room_1.cells room_1.slots (T147.setTop (mkF m 61 #[iv p0, iv p1, iv p2, iv p3, jv p4, .second, iv 3, iv (oI a), iv 1, iv (oI ((a + 1) % 3)), rv b144, .unset, .unset, .unset, .unset, .unset, .unset, .unset, .unset] [(.ref b147)]))
      replace Ex_b144 := Ex_b144.ext E147
      replace G0 := G0.ext E147
      replace G1 := G1.ext E147
      replace G2 := G2.ext E147
      replace G3 := G3.ext E147
      replace G4 := G4.ext E147
      replace G5 := G5.ext E147
      replace V_eb := V_eb.ext E147
      replace V_bb := V_bb.ext E147
      replace ZZ := Nat.le_trans ZZ E147.1
      have Ex_b147 := A147
      have F_checkpointId_b147 : Fld Z h147 b147 "weirline/runtime/CheckpointBarrier" "checkpointId" "J" (.long (0 : Int64)) := D147 (Or.inr (hw _ (List.mem_of_getElem? (i := 42) rfl))) (ty := .long) (by decide)
      refine gs (fun t => XS.dup X147.here hx rfl (hb hby at_61) rfl rfl) ?_
      refine gs (fun t => XS.lload X147.here hx rfl (hb hby at_62) rfl) ?_
      obtain ⟨_, _, ⟨T148, L148, k148, n148⟩, -, X148, ⟨Lc148, hQ148, l148, y148, z148⟩, st148⟩ := X147.specialBack hx (y := (⟨"weirline/runtime/CheckpointBarrier", "<init>", "(J)V"⟩ : MethodName)) rfl hown (mvT hZ (hw _ (List.mem_of_getElem? (i := 32) rfl))) (mvT hZ (hw _ (List.mem_of_getElem? (i := 33) rfl))) (mvT hZ (hw _ (List.mem_of_getElem? (i := 34) rfl))) (by decide) (backOf (W := 1) (rm4 l Z a0 hw [] b147 p4 h147 n0 ZZ F_checkpointId_b147 Ex_b147 ge_b147) hZ (hw _ (List.mem_of_getElem? (i := 34) rfl)) (hw _ (List.mem_of_getElem? (i := 31) rfl)) (by decide) (by decide)) (g := (mkF m 64 #[iv p0, iv p1, iv p2, iv p3, jv p4, .second, iv 3, iv (oI a), iv 1, iv (oI ((a + 1) % 3)), rv b144, .unset, .unset, .unset, .unset, .unset, .unset, .unset, .unset] [(.long p4), (.ref b147), (.ref b147)])) rfl (by rw [hml]; rfl) (Steps.refl _) (a := b147) (argsL := [(.long p4)]) (rest := [(.ref b147)]) (lenOf pd_4 rfl) rfl (by show 2 * 0 + _ ≤ _; exact Nat.le_of_eq rfl) (hb hby at_64) (fun _ _ => ⟨rfl, e147, (by decide : 6 + 0 ≤ _), (by decide : 23 + 0 ≤ _)⟩)
      dsimp only [Pt.U, Pt.locs, Pt.cells, Pt.slots] at X148 l148 y148 z148 st148 hQ148
      subst l148 y148 z148
      obtain ⟨rfl, N148q, K148⟩ := hQ148
      replace N0 := Fr.app N0 N148q
      refine gt st148 ?_
      show Go p e below s QQ room_1.cells room_1.slots (T148.setTop (mkF m 67 #[iv p0, iv p1, iv p2, iv p3, jv p4, .second, iv 3, iv (oI a), iv 1, iv (oI ((a + 1) % 3)), rv b144, .unset, .unset, .unset, .unset, .unset, .unset, .unset, .unset] [(.ref b147)]))
      replace Ex_b144 := Ex_b144.keep K148
      replace G0 := G0.keep K148 (ninS ne_b144_b147 nin0)
      replace G1 := G1.keep K148 (ninS ne_b144_b147 nin0)
      replace G2 := G2.keep K148 (ninS ne_b144_b147 nin0)
      replace G3 := G3.keep K148 (ninS ne_b144_b147 nin0)
      replace G4 := G4.keep K148 (ninS ne_b144_b147 nin0)
      replace G5 := G5.keep K148 (ninS ne_b144_b147 nin0)
      replace V_eb := V_eb.keep K148 (ninS ne_eb_b147 nin0)
      replace V_bb := V_bb.keep K148 (ninS ne_bb_b147 nin0)
      replace Ex_b147 := Ex_b147.keep K148
      replace ZZ := Nat.le_trans ZZ K148.1
      refine gs (fun t => XS.astore X148.here hx rfl (hb hby at_67) rfl rfl (l' := #[iv p0, iv p1, iv p2, iv p3, jv p4, .second, iv 3, iv (oI a), iv 1, iv (oI ((a + 1) % 3)), rv b144, rv b147, .unset, .unset, .unset, .unset, .unset, .unset, .unset]) rfl) ?_
      refine gs (fun t => XS.iload X148.here hx rfl (hb hby at_69) rfl) ?_
      refine gs (fun t => XS.ifNo X148.here hx rfl (hb hby at_71) rfl ((if0 _ _).trans (feq (by decide : ¬ ((1 : Int32) = (0 : Int32)))).1)) ?_
      refine gs (fun t => XS.aload X148.here hx rfl (hb hby at_74) rfl rfl) ?_
      refine gs (fun t => XS.iload X148.here hx rfl (hb hby at_76) rfl) ?_
      obtain ⟨cq149, kq149, q149a, q149b, q149c⟩ := isOf hZ rfl Ex_b144
      obtain ⟨_, _, ⟨T149, L149, k149, n149⟩, -, X149, ⟨Lc149, hQ149, l149, y149, z149⟩, st149⟩ := X148.virtualBack hx (y := (⟨"weirline/runtime/InputChannels", "end", "(I)V"⟩ : MethodName)) (z := (⟨"weirline/runtime/InputChannels", "end", "(I)V"⟩ : MethodName)) hown (mvT hZ (hw _ (List.mem_of_getElem? (i := 67) rfl))) (mvT hZ (hw _ (List.mem_of_getElem? (i := 68) rfl))) (notFace_of_selects (args := #[]) (mvT hZ (hw _ (List.mem_of_getElem? (i := 70) rfl)))) (mvT hZ (hw _ (List.mem_of_getElem? (i := 70) rfl))) (mvT hZ (hw _ (List.mem_of_getElem? (i := 69) rfl))) (by decide) (backOf (W := 0) (rm10 l Z a0 hw [] b144 ((a + 1) % 3) 3 (3 : Int32) eb (0 : Int32) .null bb (0 : Int32) (fun _ => .int 0) T148.heap n0 ZZ G0 G1 G2 G3 G4 G5 Ex_b144 V_eb ge_b144 ge_eb ne_b144_eb ne_b144_bb neb (Nat.mod_lt _ (by decide)) (by decide)) hZ (hw _ (List.mem_of_getElem? (i := 71) rfl)) (hw _ (List.mem_of_getElem? (i := 3) rfl)) (by decide) (by decide)) q149a q149c (g := (mkF m 78 #[iv p0, iv p1, iv p2, iv p3, jv p4, .second, iv 3, iv (oI a), iv 1, iv (oI ((a + 1) % 3)), rv b144, rv b147, .unset, .unset, .unset, .unset, .unset, .unset, .unset] [(.int (oI ((a + 1) % 3))), (.ref b144)])) rfl (by rw [hml]; rfl) (Steps.refl _) (argsL := [(.int (oI ((a + 1) % 3)))]) (rest := []) (lenOf pd_3 rfl) rfl (by show 2 * 0 + _ ≤ _; exact Nat.le_of_eq rfl) (hb hby at_78) (fun _ _ => ⟨rfl, rfl, (by decide : 6 + 0 ≤ _), (by decide : 23 + 0 ≤ _)⟩)
      dsimp only [Pt.U, Pt.locs, Pt.cells, Pt.slots] at X149 l149 y149 z149 st149 hQ149
      subst l149 y149 z149
      obtain ⟨rfl, N149q, K149, Gn0_149, Gn1_149, Gn2_149, Gn3_149, Gn4_149, Gn5_149⟩ := hQ149
      replace N0 := Fr.app N0 N149q
      refine gt st149 ?_
      show Go p e below s QQ room_1.cells room_1.slots (T149.setTop (mkF m 81 #[iv p0, iv p1, iv p2, iv p3, jv p4, .second, iv 3, iv (oI a), iv 1, iv (oI ((a + 1) % 3)), rv b144, rv b147, .unset, .unset, .unset, .unset, .unset, .unset, .unset] []))
      replace Ex_b144 := Ex_b144.keep K149
      replace V_bb := V_bb.keep K149 (ninS (Ne.symm ne_b144_bb) (ninS (Ne.symm neb) nin0))
      replace Ex_b147 := Ex_b147.keep K149
      replace ZZ := Nat.le_trans ZZ K149.1
      have G0 : Fld Z T149.heap b144 "weirline/runtime/InputChannels" "count" "I" (.int (3 : Int32)) := Gn0_149
      have G1 : Fld Z T149.heap b144 "weirline/runtime/InputChannels" "ended" "[Z" (.ref eb) := Gn1_149
      have G2 : Fld Z T149.heap b144 "weirline/runtime/InputChannels" "endedCount" "I" (.int (1 : Int32)) := Gn2_149
      have G3 : Fld Z T149.heap b144 "weirline/runtime/InputChannels" "aligning" "Lweirline/runtime/CheckpointBarrier;" .null := Gn3_149
      have G4 : Fld Z T149.heap b144 "weirline/runtime/InputChannels" "barrierIn" "[Z" (.ref bb) := Gn4_149
      have G5 : Fld Z T149.heap b144 "weirline/runtime/InputChannels" "barriersIn" "I" (.int (0 : Int32)) := Gn5_149
      refine gs (fun t => XS.iload X149.here hx rfl (hb hby at_81) rfl) ?_
      refine gs (fun t => XS.ifNo X149.here hx rfl (hb hby at_83) rfl ((if0 _ _).trans (feq (by decide : ¬ ((1 : Int32) = (0 : Int32)))).1)) ?_
      refine gs (fun t => XS.iconst X149.here hx rfl (hb hby at_86)) ?_
      refine gs (fun t => XS.goto X149.here hx rfl (pc0 := 87) (pc' := 91) rfl (hb hby at_87) (by decide) (by decide)) ?_
      refine gs (fun t => XS.istore X149.here hx rfl (hb hby at_91) rfl (l' := #[iv p0, iv p1, iv p2, iv p3, jv p4, .second, iv 3, iv (oI a), iv 1, iv (oI ((a + 1) % 3)), rv b144, rv b147, iv 1, .unset, .unset, .unset, .unset, .unset, .unset]) rfl) ?_
      refine gs (fun t => XS.aload X149.here hx rfl (hb hby at_93) rfl rfl) ?_
      show Go p e below s QQ room_1.cells room_1.slots (T149.setTop (mkF m 95 #[iv p0, iv p1, iv p2, iv p3, jv p4, .second, iv 3, iv (oI a), iv 1, iv (oI ((a + 1) % 3)), rv b144, rv b147, iv 1, .unset, .unset, .unset, .unset, .unset, .unset] [(.ref b144)]))
      refine gs (fun t => XS.iload X149.here hx rfl (hb hby at_95) rfl) ?_
      refine gs (fun t => XS.aload X149.here hx rfl (hb hby at_97) rfl rfl) ?_
      obtain ⟨cq150, kq150, q150a, q150b, q150c⟩ := isOf hZ rfl Ex_b144
      obtain ⟨_, _, ⟨T150, L150, k150, n150⟩, -, X150, ⟨Lc150, hQ150, l150, y150, z150⟩, st150⟩ := X149.virtualBack hx (y := (⟨"weirline/runtime/InputChannels", "barrier", "(ILweirline/runtime/CheckpointBarrier;)V"⟩ : MethodName)) (z := (⟨"weirline/runtime/InputChannels", "barrier", "(ILweirline/runtime/CheckpointBarrier;)V"⟩ : MethodName)) hown (mvT hZ (hw _ (List.mem_of_getElem? (i := 43) rfl))) (mvT hZ (hw _ (List.mem_of_getElem? (i := 44) rfl))) (notFace_of_selects (args := #[]) (mvT hZ (hw _ (List.mem_of_getElem? (i := 46) rfl)))) (mvT hZ (hw _ (List.mem_of_getElem? (i := 46) rfl))) (mvT hZ (hw _ (List.mem_of_getElem? (i := 45) rfl))) (by decide) (backOf (W := 0) (rm6 l Z a0 hw [] b144 b147 a 3 (3 : Int32) eb (1 : Int32) .null bb (0 : Int32) (fun _ => .int 0) T149.heap n0 ZZ G0 G1 G2 G3 G4 G5 Ex_b144 V_bb ge_b144 ge_bb ne_b144_eb ne_b144_bb neb ha (by decide)) hZ (hw _ (List.mem_of_getElem? (i := 47) rfl)) (hw _ (List.mem_of_getElem? (i := 3) rfl)) (by decide) (by decide)) q150a q150c (g := (mkF m 99 #[iv p0, iv p1, iv p2, iv p3, jv p4, .second, iv 3, iv (oI a), iv 1, iv (oI ((a + 1) % 3)), rv b144, rv b147, iv 1, .unset, .unset, .unset, .unset, .unset, .unset] [(.ref b147), (.int (oI a)), (.ref b144)])) rfl (by rw [hml]; rfl) (Steps.refl _) (argsL := [(.int (oI a)), (.ref b147)]) (rest := []) (lenOf pd_5 rfl) rfl (by show 2 * 0 + _ ≤ _; exact Nat.le_of_eq rfl) (hb hby at_99) (fun _ _ => ⟨rfl, rfl, (by decide : 6 + 0 ≤ _), (by decide : 23 + 0 ≤ _)⟩)
      dsimp only [Pt.U, Pt.locs, Pt.cells, Pt.slots] at X150 l150 y150 z150 st150 hQ150
      subst l150 y150 z150
      obtain ⟨rfl, N150q, K150, Gn0_150, Gn1_150, Gn2_150, Gn3_150, Gn4_150, Gn5_150, Vn150⟩ := hQ150
      replace N0 := Fr.app N0 N150q
      refine gt st150 ?_
      show Go p e below s QQ room_1.cells room_1.slots (T150.setTop (mkF m 102 #[iv p0, iv p1, iv p2, iv p3, jv p4, .second, iv 3, iv (oI a), iv 1, iv (oI ((a + 1) % 3)), rv b144, rv b147, iv 1, .unset, .unset, .unset, .unset, .unset, .unset] []))
      replace Ex_b144 := Ex_b144.keep K150
      replace Ex_b147 := Ex_b147.keep K150
      replace ZZ := Nat.le_trans ZZ K150.1
      have G0 : Fld Z T150.heap b144 "weirline/runtime/InputChannels" "count" "I" (.int (3 : Int32)) := Gn0_150
      have G1 : Fld Z T150.heap b144 "weirline/runtime/InputChannels" "ended" "[Z" (.ref eb) := Gn1_150
      have G2 : Fld Z T150.heap b144 "weirline/runtime/InputChannels" "endedCount" "I" (.int (1 : Int32)) := Gn2_150
      have G3 : Fld Z T150.heap b144 "weirline/runtime/InputChannels" "aligning" "Lweirline/runtime/CheckpointBarrier;" (.ref b147) := Gn3_150
      have G4 : Fld Z T150.heap b144 "weirline/runtime/InputChannels" "barrierIn" "[Z" (.ref bb) := Gn4_150
      have G5 : Fld Z T150.heap b144 "weirline/runtime/InputChannels" "barriersIn" "I" (.int (1 : Int32)) := Gn5_150
      have V_bb := Vn150
      refine gs (fun t => XS.aload X150.here hx rfl (hb hby at_102) rfl rfl) ?_
      refine gs (fun t => XS.iload X150.here hx rfl (hb hby at_104) rfl) ?_
      obtain ⟨cq151, kq151, q151a, q151b, q151c⟩ := isOf hZ rfl Ex_b144
      obtain ⟨_, _, ⟨T151, L151, k151, n151⟩, -, X151, ⟨Lc151, hQ151, l151, y151, z151⟩, st151⟩ := X150.virtualBack hx (y := (⟨"weirline/runtime/InputChannels", "holdsBack", "(I)Z"⟩ : MethodName)) (z := (⟨"weirline/runtime/InputChannels", "holdsBack", "(I)Z"⟩ : MethodName)) hown (mvT hZ (hw _ (List.mem_of_getElem? (i := 52) rfl))) (mvT hZ (hw _ (List.mem_of_getElem? (i := 53) rfl))) (notFace_of_selects (args := #[]) (mvT hZ (hw _ (List.mem_of_getElem? (i := 55) rfl)))) (mvT hZ (hw _ (List.mem_of_getElem? (i := 55) rfl))) (mvT hZ (hw _ (List.mem_of_getElem? (i := 54) rfl))) (by decide) (backOf (W := 0) (rm7 l Z a0 hw [] b144 a 3 bb (updv (fun _ => .int 0) a (.int 1)) (1 : Int32) T150.heap n0 ZZ G4 V_bb (by simp [Jvm.RoadKit.updv]) (by decide) ha (by decide)) hZ (hw _ (List.mem_of_getElem? (i := 56) rfl)) (hw _ (List.mem_of_getElem? (i := 3) rfl)) (by decide) (by decide)) q151a q151c (g := (mkF m 106 #[iv p0, iv p1, iv p2, iv p3, jv p4, .second, iv 3, iv (oI a), iv 1, iv (oI ((a + 1) % 3)), rv b144, rv b147, iv 1, .unset, .unset, .unset, .unset, .unset, .unset] [(.int (oI a)), (.ref b144)])) rfl (by rw [hml]; rfl) (Steps.refl _) (argsL := [(.int (oI a))]) (rest := []) (lenOf pd_6 rfl) rfl (by show 2 * 0 + _ ≤ _; exact Nat.le_of_eq rfl) (hb hby at_106) (fun _ _ => ⟨rfl, rfl, (by decide : 6 + 0 ≤ _), (by decide : 23 + 0 ≤ _)⟩)
      dsimp only [Pt.U, Pt.locs, Pt.cells, Pt.slots] at X151 l151 y151 z151 st151 hQ151
      subst l151 y151 z151
      obtain ⟨rfl, N151q, e151⟩ := hQ151
      replace N0 := Fr.app N0 N151q
      refine gt st151 ?_
      show Go p e below s QQ room_1.cells room_1.slots (T151.setTop (mkF m 109 #[iv p0, iv p1, iv p2, iv p3, jv p4, .second, iv 3, iv (oI a), iv 1, iv (oI ((a + 1) % 3)), rv b144, rv b147, iv 1, .unset, .unset, .unset, .unset, .unset, .unset] [(.int (1 : Int32))]))
      refine gs (fun t => XS.istore X151.here hx rfl (hb hby at_109) rfl (l' := #[iv p0, iv p1, iv p2, iv p3, jv p4, .second, iv 3, iv (oI a), iv 1, iv (oI ((a + 1) % 3)), rv b144, rv b147, iv 1, iv 1, .unset, .unset, .unset, .unset, .unset]) rfl) ?_
      refine gs (fun t => XS.iload X151.here hx rfl (hb hby at_111) rfl) ?_
      refine gs (fun t => XS.iconst X151.here hx rfl (hb hby at_113)) ?_
      refine gs (fun t => XS.icmpNo X151.here hx rfl (hb hby at_114) rfl (flt (by decide : ¬ ((3 : Int32) < (2 : Int32)))).1) ?_
      refine gs (fun t => XS.iload X151.here hx rfl (hb hby at_117) rfl) ?_
      refine gs (fun t => XS.ifNo X151.here hx rfl (hb hby at_119) rfl ((if0 _ _).trans (feq (by decide : ¬ ((1 : Int32) = (0 : Int32)))).1)) ?_
      show Go p e below s QQ room_1.cells room_1.slots (T151.setTop (mkF m 122 #[iv p0, iv p1, iv p2, iv p3, jv p4, .second, iv 3, iv (oI a), iv 1, iv (oI ((a + 1) % 3)), rv b144, rv b147, iv 1, iv 1, .unset, .unset, .unset, .unset, .unset] []))
      refine gs (fun t => XS.aload X151.here hx rfl (hb hby at_122) rfl rfl) ?_
      refine gs (fun t => XS.iload X151.here hx rfl (hb hby at_124) rfl) ?_
      refine gs (fun t => XS.iconst X151.here hx rfl (hb hby at_126)) ?_
      refine gs (fun t => XS.iadd X151.here hx rfl (hb hby at_127) rfl) ?_
      refine gs (fun t => XS.iload X151.here hx rfl (hb hby at_128) rfl) ?_
      refine gs (fun t => iremM X151 hx (g := (mkF m 130 #[iv p0, iv p1, iv p2, iv p3, jv p4, .second, iv 3, iv (oI a), iv 1, iv (oI ((a + 1) % 3)), rv b144, rv b147, iv 1, iv 1, .unset, .unset, .unset, .unset, .unset] [(.int (3 : Int32)), (.int ((oI a) + (1 : Int32))), (.ref b144)])) rfl (hb hby at_130) rfl (by decide)) ?_
      show Go p e below s QQ room_1.cells room_1.slots (T151.setTop (mkF m 131 #[iv p0, iv p1, iv p2, iv p3, jv p4, .second, iv 3, iv (oI a), iv 1, iv (oI ((a + 1) % 3)), rv b144, rv b147, iv 1, iv 1, .unset, .unset, .unset, .unset, .unset] [(.int (((oI a) + (1 : Int32)) % (3 : Int32))), (.ref b144)]))
      rw [show (((oI a) + (1 : Int32)) % (3 : Int32)) = (oI ((a + 1) % 3)) from own_rem (by omega) (by decide) (by decide) (by decide) rfl rfl]
      show Go p e below s QQ room_1.cells room_1.slots (T151.setTop (mkF m 131 #[iv p0, iv p1, iv p2, iv p3, jv p4, .second, iv 3, iv (oI a), iv 1, iv (oI ((a + 1) % 3)), rv b144, rv b147, iv 1, iv 1, .unset, .unset, .unset, .unset, .unset] [(.int (oI ((a + 1) % 3))), (.ref b144)]))
      obtain ⟨cq152, kq152, q152a, q152b, q152c⟩ := isOf hZ e151 Ex_b144
      obtain ⟨_, _, ⟨T152, L152, k152, n152⟩, -, X152, ⟨Lc152, hQ152, l152, y152, z152⟩, st152⟩ := X151.virtualBack hx (y := (⟨"weirline/runtime/InputChannels", "holdsBack", "(I)Z"⟩ : MethodName)) (z := (⟨"weirline/runtime/InputChannels", "holdsBack", "(I)Z"⟩ : MethodName)) hown (mvT hZ (hw _ (List.mem_of_getElem? (i := 52) rfl))) (mvT hZ (hw _ (List.mem_of_getElem? (i := 53) rfl))) (notFace_of_selects (args := #[]) (mvT hZ (hw _ (List.mem_of_getElem? (i := 55) rfl)))) (mvT hZ (hw _ (List.mem_of_getElem? (i := 55) rfl))) (mvT hZ (hw _ (List.mem_of_getElem? (i := 54) rfl))) (by decide) (backOf (W := 0) (rm7 l Z a0 hw [] b144 ((a + 1) % 3) 3 bb (updv (fun _ => .int 0) a (.int 1)) (0 : Int32) T150.heap n0 ZZ G4 V_bb (if_neg (by omega)) (by decide) (Nat.mod_lt _ (by decide)) (by decide)) hZ (hw _ (List.mem_of_getElem? (i := 56) rfl)) (hw _ (List.mem_of_getElem? (i := 3) rfl)) (by decide) (by decide)) q152a q152c (g := (mkF m 131 #[iv p0, iv p1, iv p2, iv p3, jv p4, .second, iv 3, iv (oI a), iv 1, iv (oI ((a + 1) % 3)), rv b144, rv b147, iv 1, iv 1, .unset, .unset, .unset, .unset, .unset] [(.int (oI ((a + 1) % 3))), (.ref b144)])) rfl (by rw [hml]; rfl) (Steps.refl _) (argsL := [(.int (oI ((a + 1) % 3)))]) (rest := []) (lenOf pd_6 rfl) rfl (by show 2 * 0 + _ ≤ _; exact Nat.le_of_eq rfl) (hb hby at_131) (fun _ _ => ⟨rfl, e151, (by decide : 6 + 0 ≤ _), (by decide : 23 + 0 ≤ _)⟩)
      dsimp only [Pt.U, Pt.locs, Pt.cells, Pt.slots] at X152 l152 y152 z152 st152 hQ152
      subst l152 y152 z152
      obtain ⟨rfl, N152q, e152⟩ := hQ152
      replace N0 := Fr.app N0 N152q
      refine gt st152 ?_
      show Go p e below s QQ room_1.cells room_1.slots (T152.setTop (mkF m 134 #[iv p0, iv p1, iv p2, iv p3, jv p4, .second, iv 3, iv (oI a), iv 1, iv (oI ((a + 1) % 3)), rv b144, rv b147, iv 1, iv 1, .unset, .unset, .unset, .unset, .unset] [(.int (0 : Int32))]))
      refine gs (fun t => XS.ifNo X152.here hx rfl (hb hby at_134) rfl ((if0 _ _).trans (teq (by decide : (0 : Int32) = (0 : Int32))).2)) ?_
      refine gs (fun t => XS.iconst X152.here hx rfl (hb hby at_137)) ?_
      refine gs (fun t => XS.goto X152.here hx rfl (pc0 := 138) (pc' := 142) rfl (hb hby at_138) (by decide) (by decide)) ?_
      refine gs (fun t => XS.istore X152.here hx rfl (hb hby at_142) rfl (l' := #[iv p0, iv p1, iv p2, iv p3, jv p4, .second, iv 3, iv (oI a), iv 1, iv (oI ((a + 1) % 3)), rv b144, rv b147, iv 1, iv 1, .unset, .unset, .unset, .unset, .unset]) rfl) ?_
      refine gs (fun t => XS.iload X152.here hx rfl (hb hby at_144) rfl) ?_
      refine gs (fun t => XS.iconst X152.here hx rfl (hb hby at_146)) ?_
      show Go p e below s QQ room_1.cells room_1.slots (T152.setTop (mkF m 147 #[iv p0, iv p1, iv p2, iv p3, jv p4, .second, iv 3, iv (oI a), iv 1, iv (oI ((a + 1) % 3)), rv b144, rv b147, iv 1, iv 1, .unset, .unset, .unset, .unset, .unset] [(.int (3 : Int32)), (.int (3 : Int32))]))
      refine gs (fun t => XS.icmpNo X152.here hx rfl (hb hby at_147) rfl (teq (by decide : (3 : Int32) = (3 : Int32))).2) ?_
      refine gs (fun t => XS.iload X152.here hx rfl (hb hby at_150) rfl) ?_
      refine gs (fun t => XS.ifNo X152.here hx rfl (hb hby at_152) rfl ((if0 _ _).trans (feq (by decide : ¬ ((1 : Int32) = (0 : Int32)))).1)) ?_
      refine gs (fun t => XS.aload X152.here hx rfl (hb hby at_155) rfl rfl) ?_
      refine gs (fun t => XS.iload X152.here hx rfl (hb hby at_157) rfl) ?_
      refine gs (fun t => XS.iconst X152.here hx rfl (hb hby at_159)) ?_
      show Go p e below s QQ room_1.cells room_1.slots (T152.setTop (mkF m 160 #[iv p0, iv p1, iv p2, iv p3, jv p4, .second, iv 3, iv (oI a), iv 1, iv (oI ((a + 1) % 3)), rv b144, rv b147, iv 1, iv 1, .unset, .unset, .unset, .unset, .unset] [(.int (2 : Int32)), (.int (oI a)), (.ref b144)]))
      refine gs (fun t => XS.iadd X152.here hx rfl (hb hby at_160) rfl) ?_
      refine gs (fun t => XS.iload X152.here hx rfl (hb hby at_161) rfl) ?_
      refine gs (fun t => iremM X152 hx (g := (mkF m 163 #[iv p0, iv p1, iv p2, iv p3, jv p4, .second, iv 3, iv (oI a), iv 1, iv (oI ((a + 1) % 3)), rv b144, rv b147, iv 1, iv 1, .unset, .unset, .unset, .unset, .unset] [(.int (3 : Int32)), (.int ((oI a) + (2 : Int32))), (.ref b144)])) rfl (hb hby at_163) rfl (by decide)) ?_
      show Go p e below s QQ room_1.cells room_1.slots (T152.setTop (mkF m 164 #[iv p0, iv p1, iv p2, iv p3, jv p4, .second, iv 3, iv (oI a), iv 1, iv (oI ((a + 1) % 3)), rv b144, rv b147, iv 1, iv 1, .unset, .unset, .unset, .unset, .unset] [(.int (((oI a) + (2 : Int32)) % (3 : Int32))), (.ref b144)]))
      rw [show (((oI a) + (2 : Int32)) % (3 : Int32)) = (oI ((a + 2) % 3)) from own_rem (by omega) (by decide) (by decide) (by decide) rfl rfl]
      show Go p e below s QQ room_1.cells room_1.slots (T152.setTop (mkF m 164 #[iv p0, iv p1, iv p2, iv p3, jv p4, .second, iv 3, iv (oI a), iv 1, iv (oI ((a + 1) % 3)), rv b144, rv b147, iv 1, iv 1, .unset, .unset, .unset, .unset, .unset] [(.int (oI ((a + 2) % 3))), (.ref b144)]))
      obtain ⟨cq153, kq153, q153a, q153b, q153c⟩ := isOf hZ e152 Ex_b144
      obtain ⟨_, _, ⟨T153, L153, k153, n153⟩, -, X153, ⟨Lc153, hQ153, l153, y153, z153⟩, st153⟩ := X152.virtualBack hx (y := (⟨"weirline/runtime/InputChannels", "holdsBack", "(I)Z"⟩ : MethodName)) (z := (⟨"weirline/runtime/InputChannels", "holdsBack", "(I)Z"⟩ : MethodName)) hown (mvT hZ (hw _ (List.mem_of_getElem? (i := 52) rfl))) (mvT hZ (hw _ (List.mem_of_getElem? (i := 53) rfl))) (notFace_of_selects (args := #[]) (mvT hZ (hw _ (List.mem_of_getElem? (i := 55) rfl)))) (mvT hZ (hw _ (List.mem_of_getElem? (i := 55) rfl))) (mvT hZ (hw _ (List.mem_of_getElem? (i := 54) rfl))) (by decide) (backOf (W := 0) (rm7 l Z a0 hw [] b144 ((a + 2) % 3) 3 bb (updv (fun _ => .int 0) a (.int 1)) (0 : Int32) T150.heap n0 ZZ G4 V_bb (if_neg (by omega)) (by decide) (Nat.mod_lt _ (by decide)) (by decide)) hZ (hw _ (List.mem_of_getElem? (i := 56) rfl)) (hw _ (List.mem_of_getElem? (i := 3) rfl)) (by decide) (by decide)) q153a q153c (g := (mkF m 164 #[iv p0, iv p1, iv p2, iv p3, jv p4, .second, iv 3, iv (oI a), iv 1, iv (oI ((a + 1) % 3)), rv b144, rv b147, iv 1, iv 1, .unset, .unset, .unset, .unset, .unset] [(.int (oI ((a + 2) % 3))), (.ref b144)])) rfl (by rw [hml]; rfl) (Steps.refl _) (argsL := [(.int (oI ((a + 2) % 3)))]) (rest := []) (lenOf pd_6 rfl) rfl (by show 2 * 0 + _ ≤ _; exact Nat.le_of_eq rfl) (hb hby at_164) (fun _ _ => ⟨rfl, e152, (by decide : 6 + 0 ≤ _), (by decide : 23 + 0 ≤ _)⟩)
      dsimp only [Pt.U, Pt.locs, Pt.cells, Pt.slots] at X153 l153 y153 z153 st153 hQ153
      subst l153 y153 z153
      obtain ⟨rfl, N153q, e153⟩ := hQ153
      replace N0 := Fr.app N0 N153q
      refine gt st153 ?_
      show Go p e below s QQ room_1.cells room_1.slots (T153.setTop (mkF m 167 #[iv p0, iv p1, iv p2, iv p3, jv p4, .second, iv 3, iv (oI a), iv 1, iv (oI ((a + 1) % 3)), rv b144, rv b147, iv 1, iv 1, .unset, .unset, .unset, .unset, .unset] [(.int (0 : Int32))]))
      refine gs (fun t => XS.ifNo X153.here hx rfl (hb hby at_167) rfl ((if0 _ _).trans (teq (by decide : (0 : Int32) = (0 : Int32))).2)) ?_
      refine gs (fun t => XS.iconst X153.here hx rfl (hb hby at_170)) ?_
      refine gs (fun t => XS.goto X153.here hx rfl (pc0 := 171) (pc' := 175) rfl (hb hby at_171) (by decide) (by decide)) ?_
      refine gs (fun t => XS.istore X153.here hx rfl (hb hby at_175) rfl (l' := #[iv p0, iv p1, iv p2, iv p3, jv p4, .second, iv 3, iv (oI a), iv 1, iv (oI ((a + 1) % 3)), rv b144, rv b147, iv 1, iv 1, .unset, .unset, .unset, .unset, .unset]) rfl) ?_
      refine gs (fun t => XS.aload X153.here hx rfl (hb hby at_177) rfl rfl) ?_
      obtain ⟨cq154, kq154, q154a, q154b, q154c⟩ := isOf hZ e153 Ex_b144
      obtain ⟨_, _, ⟨T154, L154, k154, n154⟩, -, X154, ⟨Lc154, hQ154, l154, y154, z154⟩, st154⟩ := X153.virtualBack hx (y := (⟨"weirline/runtime/InputChannels", "linedUp", "()Lweirline/runtime/CheckpointBarrier;"⟩ : MethodName)) (z := (⟨"weirline/runtime/InputChannels", "linedUp", "()Lweirline/runtime/CheckpointBarrier;"⟩ : MethodName)) hown (mvT hZ (hw _ (List.mem_of_getElem? (i := 57) rfl))) (mvT hZ (hw _ (List.mem_of_getElem? (i := 58) rfl))) (notFace_of_selects (args := #[]) (mvT hZ (hw _ (List.mem_of_getElem? (i := 60) rfl)))) (mvT hZ (hw _ (List.mem_of_getElem? (i := 60) rfl))) (mvT hZ (hw _ (List.mem_of_getElem? (i := 59) rfl))) (by decide) (backOf (W := 0) (lu0 l Z a0 hw [] b144 (3 : Int32) eb (1 : Int32) b147 bb (1 : Int32) T150.heap n0 ZZ G0 G1 G2 G3 G4 G5 (by decide)) hZ (hw _ (List.mem_of_getElem? (i := 61) rfl)) (hw _ (List.mem_of_getElem? (i := 3) rfl)) (by decide) (by decide)) q154a q154c (g := (mkF m 179 #[iv p0, iv p1, iv p2, iv p3, jv p4, .second, iv 3, iv (oI a), iv 1, iv (oI ((a + 1) % 3)), rv b144, rv b147, iv 1, iv 1, .unset, .unset, .unset, .unset, .unset] [(.ref b144)])) rfl (by rw [hml]; rfl) (Steps.refl _) (argsL := []) (rest := []) (lenOf pd_7 rfl) rfl (by show 2 * 0 + _ ≤ _; exact Nat.le_of_eq rfl) (hb hby at_179) (fun _ _ => ⟨rfl, e153, (by decide : 6 + 0 ≤ _), (by decide : 23 + 0 ≤ _)⟩)
      dsimp only [Pt.U, Pt.locs, Pt.cells, Pt.slots] at X154 l154 y154 z154 st154 hQ154
      subst l154 y154 z154
      obtain ⟨rfl, N154q, e154⟩ := hQ154
      replace N0 := Fr.app N0 N154q
      refine gt st154 ?_
      show Go p e below s QQ room_1.cells room_1.slots (T154.setTop (mkF m 182 #[iv p0, iv p1, iv p2, iv p3, jv p4, .second, iv 3, iv (oI a), iv 1, iv (oI ((a + 1) % 3)), rv b144, rv b147, iv 1, iv 1, .unset, .unset, .unset, .unset, .unset] [.null]))
      refine gs (fun t => XS.astore X154.here hx rfl (hb hby at_182) rfl rfl (l' := #[iv p0, iv p1, iv p2, iv p3, jv p4, .second, iv 3, iv (oI a), iv 1, iv (oI ((a + 1) % 3)), rv b144, rv b147, iv 1, iv 1, .val .null, .unset, .unset, .unset, .unset]) rfl) ?_
      refine gs (fun t => XS.iconst X154.here hx rfl (hb hby at_184)) ?_
      refine gs (fun t => XS.iload X154.here hx rfl (hb hby at_185) rfl) ?_
      refine gs (fun t => XS.iadd X154.here hx rfl (hb hby at_187) rfl) ?_
      refine gs (fun t => XS.iload X154.here hx rfl (hb hby at_188) rfl) ?_
      refine gs (fun t => XS.icmpYes X154.here hx rfl (pc0 := 190) (pc' := 197) rfl (hb hby at_190) rfl (tlt (by decide : (2 : Int32) < (3 : Int32))).1 (by decide) (by decide)) ?_
      show Go p e below s QQ room_1.cells room_1.slots (T154.setTop (mkF m 197 #[iv p0, iv p1, iv p2, iv p3, jv p4, .second, iv 3, iv (oI a), iv 1, iv (oI ((a + 1) % 3)), rv b144, rv b147, iv 1, iv 1, .val .null, .unset, .unset, .unset, .unset] []))
      refine gs (fun t => XS.iconst X154.here hx rfl (hb hby at_197)) ?_
      refine gs (fun t => XS.istore X154.here hx rfl (hb hby at_198) rfl (l' := #[iv p0, iv p1, iv p2, iv p3, jv p4, .second, iv 3, iv (oI a), iv 1, iv (oI ((a + 1) % 3)), rv b144, rv b147, iv 1, iv 1, .val .null, iv 0, .unset, .unset, .unset]) rfl) ?_
      refine gs (fun t => XS.iload X154.here hx rfl (hb hby at_200) rfl) ?_
      refine gs (fun t => XS.ifYes X154.here hx rfl (pc0 := 202) (pc' := 227) rfl (hb hby at_202) rfl ((if0 _ _).trans (teq (by decide : (0 : Int32) = (0 : Int32))).1) (by decide) (by decide)) ?_
      refine gs (fun t => XS.iload X154.here hx rfl (hb hby at_227) rfl) ?_
      refine gs (fun t => XS.ifNo X154.here hx rfl (hb hby at_229) rfl ((if0 _ _).trans (feq (by decide : ¬ ((1 : Int32) = (0 : Int32)))).1)) ?_
      show Go p e below s QQ room_1.cells room_1.slots (T154.setTop (mkF m 232 #[iv p0, iv p1, iv p2, iv p3, jv p4, .second, iv 3, iv (oI a), iv 1, iv (oI ((a + 1) % 3)), rv b144, rv b147, iv 1, iv 1, .val .null, iv 0, .unset, .unset, .unset] []))
      refine gs (fun t => XS.aload X154.here hx rfl (hb hby at_232) rfl rfl) ?_
      refine gs (fun t => XS.ifnonnullNo X154.here hx rfl (hb hby at_234) rfl) ?_
      refine gs (fun t => XS.iconst X154.here hx rfl (hb hby at_237)) ?_
      refine gs (fun t => XS.goto X154.here hx rfl (pc0 := 238) (pc' := 242) rfl (hb hby at_238) (by decide) (by decide)) ?_
      refine gs (fun t => XS.istore X154.here hx rfl (hb hby at_242) rfl (l' := #[iv p0, iv p1, iv p2, iv p3, jv p4, .second, iv 3, iv (oI a), iv 1, iv (oI ((a + 1) % 3)), rv b144, rv b147, iv 1, iv 1, .val .null, iv 0, .unset, .unset, .unset]) rfl) ?_
      refine gs (fun t => XS.iload X154.here hx rfl (hb hby at_244) rfl) ?_
      show Go p e below s QQ room_1.cells room_1.slots (T154.setTop (mkF m 246 #[iv p0, iv p1, iv p2, iv p3, jv p4, .second, iv 3, iv (oI a), iv 1, iv (oI ((a + 1) % 3)), rv b144, rv b147, iv 1, iv 1, .val .null, iv 0, .unset, .unset, .unset] [(.int (1 : Int32))]))
      refine gs (fun t => XS.ifNo X154.here hx rfl (hb hby at_246) rfl ((if0 _ _).trans (feq (by decide : ¬ ((1 : Int32) = (0 : Int32)))).1)) ?_
      refine gs (fun t => XS.aload X154.here hx rfl (hb hby at_249) rfl rfl) ?_
      refine gs (fun t => XS.iload X154.here hx rfl (hb hby at_251) rfl) ?_
      obtain ⟨cq155, kq155, q155a, q155b, q155c⟩ := isOf hZ e154 Ex_b144
      obtain ⟨_, _, ⟨T155, L155, k155, n155⟩, -, X155, ⟨Lc155, hQ155, l155, y155, z155⟩, st155⟩ := X154.virtualBack hx (y := (⟨"weirline/runtime/InputChannels", "holdsBack", "(I)Z"⟩ : MethodName)) (z := (⟨"weirline/runtime/InputChannels", "holdsBack", "(I)Z"⟩ : MethodName)) hown (mvT hZ (hw _ (List.mem_of_getElem? (i := 52) rfl))) (mvT hZ (hw _ (List.mem_of_getElem? (i := 53) rfl))) (notFace_of_selects (args := #[]) (mvT hZ (hw _ (List.mem_of_getElem? (i := 55) rfl)))) (mvT hZ (hw _ (List.mem_of_getElem? (i := 55) rfl))) (mvT hZ (hw _ (List.mem_of_getElem? (i := 54) rfl))) (by decide) (backOf (W := 0) (rm7 l Z a0 hw [] b144 a 3 bb (updv (fun _ => .int 0) a (.int 1)) (1 : Int32) T150.heap n0 ZZ G4 V_bb (by simp [Jvm.RoadKit.updv]) (by decide) ha (by decide)) hZ (hw _ (List.mem_of_getElem? (i := 56) rfl)) (hw _ (List.mem_of_getElem? (i := 3) rfl)) (by decide) (by decide)) q155a q155c (g := (mkF m 253 #[iv p0, iv p1, iv p2, iv p3, jv p4, .second, iv 3, iv (oI a), iv 1, iv (oI ((a + 1) % 3)), rv b144, rv b147, iv 1, iv 1, .val .null, iv 0, .unset, .unset, .unset] [(.int (oI a)), (.ref b144)])) rfl (by rw [hml]; rfl) (Steps.refl _) (argsL := [(.int (oI a))]) (rest := []) (lenOf pd_6 rfl) rfl (by show 2 * 0 + _ ≤ _; exact Nat.le_of_eq rfl) (hb hby at_253) (fun _ _ => ⟨rfl, e154, (by decide : 6 + 0 ≤ _), (by decide : 23 + 0 ≤ _)⟩)
      dsimp only [Pt.U, Pt.locs, Pt.cells, Pt.slots] at X155 l155 y155 z155 st155 hQ155
      subst l155 y155 z155
      obtain ⟨rfl, N155q, e155⟩ := hQ155
      replace N0 := Fr.app N0 N155q
      refine gt st155 ?_
      show Go p e below s QQ room_1.cells room_1.slots (T155.setTop (mkF m 256 #[iv p0, iv p1, iv p2, iv p3, jv p4, .second, iv 3, iv (oI a), iv 1, iv (oI ((a + 1) % 3)), rv b144, rv b147, iv 1, iv 1, .val .null, iv 0, .unset, .unset, .unset] [(.int (1 : Int32))]))
      refine gs (fun t => XS.iload X155.here hx rfl (hb hby at_256) rfl) ?_
      refine gs (fun t => XS.ifNo X155.here hx rfl (hb hby at_258) rfl ((if0 _ _).trans (teq (by decide : (0 : Int32) = (0 : Int32))).2)) ?_
      refine gs (fun t => XS.iconst X155.here hx rfl (hb hby at_261)) ?_
      refine gs (fun t => XS.goto X155.here hx rfl (pc0 := 262) (pc' := 266) rfl (hb hby at_262) (by decide) (by decide)) ?_
      refine gs (fun t => XS.icmpNo X155.here hx rfl (hb hby at_266) rfl (teq (by decide : (1 : Int32) = (1 : Int32))).2) ?_
      refine gs (fun t => XS.iconst X155.here hx rfl (hb hby at_269)) ?_
      show Go p e below s QQ room_1.cells room_1.slots (T155.setTop (mkF m 270 #[iv p0, iv p1, iv p2, iv p3, jv p4, .second, iv 3, iv (oI a), iv 1, iv (oI ((a + 1) % 3)), rv b144, rv b147, iv 1, iv 1, .val .null, iv 0, .unset, .unset, .unset] [(.int (1 : Int32))]))
      refine gs (fun t => XS.goto X155.here hx rfl (pc0 := 270) (pc' := 274) rfl (hb hby at_270) (by decide) (by decide)) ?_
      refine gs (fun t => XS.istore X155.here hx rfl (hb hby at_274) rfl (l' := #[iv p0, iv p1, iv p2, iv p3, jv p4, .second, iv 3, iv (oI a), iv 1, iv (oI ((a + 1) % 3)), rv b144, rv b147, iv 1, iv 1, .val .null, iv 0, .unset, .unset, .unset]) rfl) ?_
      refine gs (fun t => XS.iload X155.here hx rfl (hb hby at_276) rfl) ?_
      refine gs (fun t => XS.ifNo X155.here hx rfl (hb hby at_278) rfl ((if0 _ _).trans (teq (by decide : (0 : Int32) = (0 : Int32))).2)) ?_
      refine gs (fun t => XS.iload X155.here hx rfl (hb hby at_281) rfl) ?_
      refine gs (fun t => XS.iconst X155.here hx rfl (hb hby at_283)) ?_
      show Go p e below s QQ room_1.cells room_1.slots (T155.setTop (mkF m 284 #[iv p0, iv p1, iv p2, iv p3, jv p4, .second, iv 3, iv (oI a), iv 1, iv (oI ((a + 1) % 3)), rv b144, rv b147, iv 1, iv 1, .val .null, iv 0, .unset, .unset, .unset] [(.int (2 : Int32)), (.int (3 : Int32))]))
      refine gs (fun t => XS.icmpYes X155.here hx rfl (pc0 := 284) (pc' := 298) rfl (hb hby at_284) rfl (feq (by decide : ¬ ((3 : Int32) = (2 : Int32)))).2 (by decide) (by decide)) ?_
      refine gs (fun t => XS.iload X155.here hx rfl (hb hby at_298) rfl) ?_
      refine gs (fun t => XS.ifNo X155.here hx rfl (hb hby at_300) rfl ((if0 _ _).trans (feq (by decide : ¬ ((1 : Int32) = (0 : Int32)))).1)) ?_
      refine gs (fun t => XS.iload X155.here hx rfl (hb hby at_303) rfl) ?_
      refine gs (fun t => XS.iconst X155.here hx rfl (hb hby at_305)) ?_
      refine gs (fun t => XS.iadd X155.here hx rfl (hb hby at_306) rfl) ?_
      show Go p e below s QQ room_1.cells room_1.slots (T155.setTop (mkF m 307 #[iv p0, iv p1, iv p2, iv p3, jv p4, .second, iv 3, iv (oI a), iv 1, iv (oI ((a + 1) % 3)), rv b144, rv b147, iv 1, iv 1, .val .null, iv 0, .unset, .unset, .unset] [(.int ((oI a) + (2 : Int32)))]))
      refine gs (fun t => XS.iconst X155.here hx rfl (hb hby at_307)) ?_
      refine gs (fun t => iremM X155 hx (g := (mkF m 308 #[iv p0, iv p1, iv p2, iv p3, jv p4, .second, iv 3, iv (oI a), iv 1, iv (oI ((a + 1) % 3)), rv b144, rv b147, iv 1, iv 1, .val .null, iv 0, .unset, .unset, .unset] [(.int (3 : Int32)), (.int ((oI a) + (2 : Int32)))])) rfl (hb hby at_308) rfl (by decide)) ?_
      show Go p e below s QQ room_1.cells room_1.slots (T155.setTop (mkF m 309 #[iv p0, iv p1, iv p2, iv p3, jv p4, .second, iv 3, iv (oI a), iv 1, iv (oI ((a + 1) % 3)), rv b144, rv b147, iv 1, iv 1, .val .null, iv 0, .unset, .unset, .unset] [(.int (((oI a) + (2 : Int32)) % (3 : Int32)))]))
      rw [show (((oI a) + (2 : Int32)) % (3 : Int32)) = (oI ((a + 2) % 3)) from own_rem (by omega) (by decide) (by decide) (by decide) rfl rfl]
      show Go p e below s QQ room_1.cells room_1.slots (T155.setTop (mkF m 309 #[iv p0, iv p1, iv p2, iv p3, jv p4, .second, iv 3, iv (oI a), iv 1, iv (oI ((a + 1) % 3)), rv b144, rv b147, iv 1, iv 1, .val .null, iv 0, .unset, .unset, .unset] [(.int (oI ((a + 2) % 3)))]))
      refine gs (fun t => XS.istore X155.here hx rfl (hb hby at_309) rfl (l' := #[iv p0, iv p1, iv p2, iv p3, jv p4, .second, iv 3, iv (oI a), iv 1, iv (oI ((a + 1) % 3)), rv b144, rv b147, iv 1, iv 1, .val .null, iv 0, iv (oI ((a + 2) % 3)), .unset, .unset]) rfl) ?_
      refine gs (fun t => XS.goto X155.here hx rfl (pc0 := 311) (pc' := 326) rfl (hb hby at_311) (by decide) (by decide)) ?_
      refine gs (fun t => XS.aload X155.here hx rfl (hb hby at_326) rfl rfl) ?_
      refine gs (fun t => XS.iload X155.here hx rfl (hb hby at_328) rfl) ?_
      refine gs (fun t => XS.aload X155.here hx rfl (hb hby at_330) rfl rfl) ?_
      obtain ⟨cq156, kq156, q156a, q156b, q156c⟩ := isOf hZ e155 Ex_b144
      obtain ⟨_, _, ⟨T156, L156, k156, n156⟩, -, X156, ⟨Lc156, hQ156, l156, y156, z156⟩, st156⟩ := X155.virtualBack hx (y := (⟨"weirline/runtime/InputChannels", "barrier", "(ILweirline/runtime/CheckpointBarrier;)V"⟩ : MethodName)) (z := (⟨"weirline/runtime/InputChannels", "barrier", "(ILweirline/runtime/CheckpointBarrier;)V"⟩ : MethodName)) hown (mvT hZ (hw _ (List.mem_of_getElem? (i := 43) rfl))) (mvT hZ (hw _ (List.mem_of_getElem? (i := 44) rfl))) (notFace_of_selects (args := #[]) (mvT hZ (hw _ (List.mem_of_getElem? (i := 46) rfl)))) (mvT hZ (hw _ (List.mem_of_getElem? (i := 46) rfl))) (mvT hZ (hw _ (List.mem_of_getElem? (i := 45) rfl))) (by decide) (backOf (W := 0) (rm6 l Z a0 hw [] b144 b147 ((a + 2) % 3) 3 (3 : Int32) eb (1 : Int32) (.ref b147) bb (1 : Int32) (updv (fun _ => .int 0) a (.int 1)) T150.heap n0 ZZ G0 G1 G2 G3 G4 G5 Ex_b144 V_bb ge_b144 ge_bb ne_b144_eb ne_b144_bb neb (Nat.mod_lt _ (by decide)) (by decide)) hZ (hw _ (List.mem_of_getElem? (i := 47) rfl)) (hw _ (List.mem_of_getElem? (i := 3) rfl)) (by decide) (by decide)) q156a q156c (g := (mkF m 332 #[iv p0, iv p1, iv p2, iv p3, jv p4, .second, iv 3, iv (oI a), iv 1, iv (oI ((a + 1) % 3)), rv b144, rv b147, iv 1, iv 1, .val .null, iv 0, iv (oI ((a + 2) % 3)), .unset, .unset] [(.ref b147), (.int (oI ((a + 2) % 3))), (.ref b144)])) rfl (by rw [hml]; rfl) (Steps.refl _) (argsL := [(.int (oI ((a + 2) % 3))), (.ref b147)]) (rest := []) (lenOf pd_5 rfl) rfl (by show 2 * 0 + _ ≤ _; exact Nat.le_of_eq rfl) (hb hby at_332) (fun _ _ => ⟨rfl, e155, (by decide : 6 + 0 ≤ _), (by decide : 23 + 0 ≤ _)⟩)
      dsimp only [Pt.U, Pt.locs, Pt.cells, Pt.slots] at X156 l156 y156 z156 st156 hQ156
      subst l156 y156 z156
      obtain ⟨rfl, N156q, K156, Gn0_156, Gn1_156, Gn2_156, Gn3_156, Gn4_156, Gn5_156, Vn156⟩ := hQ156
      replace N0 := Fr.app N0 N156q
      refine gt st156 ?_
      show Go p e below s QQ room_1.cells room_1.slots (T156.setTop (mkF m 335 #[iv p0, iv p1, iv p2, iv p3, jv p4, .second, iv 3, iv (oI a), iv 1, iv (oI ((a + 1) % 3)), rv b144, rv b147, iv 1, iv 1, .val .null, iv 0, iv (oI ((a + 2) % 3)), .unset, .unset] []))
      replace Ex_b144 := Ex_b144.keep K156
      replace Ex_b147 := Ex_b147.keep K156
      replace ZZ := Nat.le_trans ZZ K156.1
      have G0 : Fld Z T156.heap b144 "weirline/runtime/InputChannels" "count" "I" (.int (3 : Int32)) := Gn0_156
      have G1 : Fld Z T156.heap b144 "weirline/runtime/InputChannels" "ended" "[Z" (.ref eb) := Gn1_156
      have G2 : Fld Z T156.heap b144 "weirline/runtime/InputChannels" "endedCount" "I" (.int (1 : Int32)) := Gn2_156
      have G3 : Fld Z T156.heap b144 "weirline/runtime/InputChannels" "aligning" "Lweirline/runtime/CheckpointBarrier;" (.ref b147) := Gn3_156
      have G4 : Fld Z T156.heap b144 "weirline/runtime/InputChannels" "barrierIn" "[Z" (.ref bb) := Gn4_156
      have G5 : Fld Z T156.heap b144 "weirline/runtime/InputChannels" "barriersIn" "I" (.int (2 : Int32)) := Gn5_156
      have V_bb := Vn156
      refine gs (fun t => XS.aload X156.here hx rfl (hb hby at_335) rfl rfl) ?_
      obtain ⟨cq157, kq157, q157a, q157b, q157c⟩ := isOf hZ rfl Ex_b144
      obtain ⟨_, _, ⟨T157, L157, k157, n157⟩, -, X157, ⟨Lc157, hQ157, l157, y157, z157⟩, st157⟩ := X156.virtualBack hx (y := (⟨"weirline/runtime/InputChannels", "linedUp", "()Lweirline/runtime/CheckpointBarrier;"⟩ : MethodName)) (z := (⟨"weirline/runtime/InputChannels", "linedUp", "()Lweirline/runtime/CheckpointBarrier;"⟩ : MethodName)) hown (mvT hZ (hw _ (List.mem_of_getElem? (i := 57) rfl))) (mvT hZ (hw _ (List.mem_of_getElem? (i := 58) rfl))) (notFace_of_selects (args := #[]) (mvT hZ (hw _ (List.mem_of_getElem? (i := 60) rfl)))) (mvT hZ (hw _ (List.mem_of_getElem? (i := 60) rfl))) (mvT hZ (hw _ (List.mem_of_getElem? (i := 59) rfl))) (by decide) (backOf (W := 0) (luF3 l Z a0 hw [] b144 (3 : Int32) eb (1 : Int32) b147 bb (2 : Int32) (updv (updv (fun _ => .int 0) a (.int 1)) ((a + 2) % 3) (.int 1)) T156.heap n0 ZZ G0 G1 G2 G3 G4 G5 Ex_b144 V_bb ge_b144 ge_bb ne_b144_bb (by decide)) hZ (hw _ (List.mem_of_getElem? (i := 61) rfl)) (hw _ (List.mem_of_getElem? (i := 3) rfl)) (by decide) (by decide)) q157a q157c (g := (mkF m 337 #[iv p0, iv p1, iv p2, iv p3, jv p4, .second, iv 3, iv (oI a), iv 1, iv (oI ((a + 1) % 3)), rv b144, rv b147, iv 1, iv 1, .val .null, iv 0, iv (oI ((a + 2) % 3)), .unset, .unset] [(.ref b144)])) rfl (by rw [hml]; rfl) (Steps.refl _) (argsL := []) (rest := []) (lenOf pd_7 rfl) rfl (by show 2 * 0 + _ ≤ _; exact Nat.le_of_eq rfl) (hb hby at_337) (fun _ _ => ⟨rfl, rfl, (by decide : 6 + 0 ≤ _), (by decide : 23 + 0 ≤ _)⟩)
      dsimp only [Pt.U, Pt.locs, Pt.cells, Pt.slots] at X157 l157 y157 z157 st157 hQ157
      subst l157 y157 z157
      obtain ⟨rfl, N157q, K157, Gn0_157, Gn1_157, Gn2_157, Gn3_157, Gn4_157, Gn5_157, Vn157⟩ := hQ157
      replace N0 := Fr.app N0 N157q
      refine gt st157 ?_
      show Go p e below s QQ room_1.cells room_1.slots (T157.setTop (mkF m 340 #[iv p0, iv p1, iv p2, iv p3, jv p4, .second, iv 3, iv (oI a), iv 1, iv (oI ((a + 1) % 3)), rv b144, rv b147, iv 1, iv 1, .val .null, iv 0, iv (oI ((a + 2) % 3)), .unset, .unset] [(.ref b147)]))
      replace Ex_b144 := Ex_b144.keep K157
      replace Ex_b147 := Ex_b147.keep K157
      replace ZZ := Nat.le_trans ZZ K157.1
      have G0 : Fld Z T157.heap b144 "weirline/runtime/InputChannels" "count" "I" (.int (3 : Int32)) := Gn0_157
      have G1 : Fld Z T157.heap b144 "weirline/runtime/InputChannels" "ended" "[Z" (.ref eb) := Gn1_157
      have G2 : Fld Z T157.heap b144 "weirline/runtime/InputChannels" "endedCount" "I" (.int (1 : Int32)) := Gn2_157
      have G3 : Fld Z T157.heap b144 "weirline/runtime/InputChannels" "aligning" "Lweirline/runtime/CheckpointBarrier;" .null := Gn3_157
      have G4 : Fld Z T157.heap b144 "weirline/runtime/InputChannels" "barrierIn" "[Z" (.ref bb) := Gn4_157
      have G5 : Fld Z T157.heap b144 "weirline/runtime/InputChannels" "barriersIn" "I" (.int (0 : Int32)) := Gn5_157
      have V_bb := Vn157
      refine gs (fun t => XS.astore X157.here hx rfl (hb hby at_340) rfl rfl (l' := #[iv p0, iv p1, iv p2, iv p3, jv p4, .second, iv 3, iv (oI a), iv 1, iv (oI ((a + 1) % 3)), rv b144, rv b147, iv 1, iv 1, .val .null, iv 0, iv (oI ((a + 2) % 3)), rv b147, .unset]) rfl) ?_
      refine gs (fun t => XS.iconst X157.here hx rfl (hb hby at_342)) ?_
      refine gs (fun t => XS.iload X157.here hx rfl (hb hby at_343) rfl) ?_
      refine gs (fun t => XS.iadd X157.here hx rfl (hb hby at_345) rfl) ?_
      refine gs (fun t => XS.iload X157.here hx rfl (hb hby at_346) rfl) ?_
      refine gs (fun t => XS.icmpNo X157.here hx rfl (hb hby at_348) rfl (flt (by decide : ¬ ((3 : Int32) < (3 : Int32)))).1) ?_
      show Go p e below s QQ room_1.cells room_1.slots (T157.setTop (mkF m 351 #[iv p0, iv p1, iv p2, iv p3, jv p4, .second, iv 3, iv (oI a), iv 1, iv (oI ((a + 1) % 3)), rv b144, rv b147, iv 1, iv 1, .val .null, iv 0, iv (oI ((a + 2) % 3)), rv b147, .unset] []))
      refine gs (fun t => XS.iconst X157.here hx rfl (hb hby at_351)) ?_
      refine gs (fun t => XS.goto X157.here hx rfl (pc0 := 352) (pc' := 356) rfl (hb hby at_352) (by decide) (by decide)) ?_
      refine gs (fun t => XS.istore X157.here hx rfl (hb hby at_356) rfl (l' := #[iv p0, iv p1, iv p2, iv p3, jv p4, .second, iv 3, iv (oI a), iv 1, iv (oI ((a + 1) % 3)), rv b144, rv b147, iv 1, iv 1, .val .null, iv 0, iv (oI ((a + 2) % 3)), rv b147, iv 1]) rfl) ?_
      refine gs (fun t => XS.iload X157.here hx rfl (hb hby at_358) rfl) ?_
      refine gs (fun t => XS.ifNo X157.here hx rfl (hb hby at_360) rfl ((if0 _ _).trans (feq (by decide : ¬ ((1 : Int32) = (0 : Int32)))).1)) ?_
      refine gs (fun t => XS.iload X157.here hx rfl (hb hby at_363) rfl) ?_
      show Go p e below s QQ room_1.cells room_1.slots (T157.setTop (mkF m 365 #[iv p0, iv p1, iv p2, iv p3, jv p4, .second, iv 3, iv (oI a), iv 1, iv (oI ((a + 1) % 3)), rv b144, rv b147, iv 1, iv 1, .val .null, iv 0, iv (oI ((a + 2) % 3)), rv b147, iv 1] [(.int (1 : Int32))]))
      refine gs (fun t => XS.ifNo X157.here hx rfl (hb hby at_365) rfl ((if0 _ _).trans (feq (by decide : ¬ ((1 : Int32) = (0 : Int32)))).1)) ?_
      refine gs (fun t => XS.aload X157.here hx rfl (hb hby at_368) rfl rfl) ?_
      refine gs (fun t => XS.aload X157.here hx rfl (hb hby at_370) rfl rfl) ?_
      refine gs (fun t => Jvm.RoadKit.acmp (g := (mkF m 372 #[iv p0, iv p1, iv p2, iv p3, jv p4, .second, iv 3, iv (oI a), iv 1, iv (oI ((a + 1) % 3)), rv b144, rv b147, iv 1, iv 1, .val .null, iv 0, iv (oI ((a + 2) % 3)), rv b147, iv 1] [(.ref b147), (.ref b147)])) X157 hx rfl rfl rfl (pc0 := 372) (pc' := 375) (same := true) rfl (hb hby at_372) rfl (decide_eq_true rfl) (by decide) (by decide)) ?_
      refine gs (fun t => XS.iconst X157.here hx rfl (hb hby at_375)) ?_
      refine gs (fun t => XS.goto X157.here hx rfl (pc0 := 376) (pc' := 380) rfl (hb hby at_376) (by decide) (by decide)) ?_
      show Go p e below s QQ room_1.cells room_1.slots (T157.setTop (mkF m 380 #[iv p0, iv p1, iv p2, iv p3, jv p4, .second, iv 3, iv (oI a), iv 1, iv (oI ((a + 1) % 3)), rv b144, rv b147, iv 1, iv 1, .val .null, iv 0, iv (oI ((a + 2) % 3)), rv b147, iv 1] [(.int (1 : Int32))]))
      refine gs (fun t => XS.istore X157.here hx rfl (hb hby at_380) rfl (l' := #[iv p0, iv p1, iv p2, iv p3, jv p4, .second, iv 3, iv (oI a), iv 1, iv (oI ((a + 1) % 3)), rv b144, rv b147, iv 1, iv 1, .val .null, iv 0, iv (oI ((a + 2) % 3)), rv b147, iv 1]) rfl) ?_
      refine gs (fun t => XS.goto X157.here hx rfl (pc0 := 382) (pc' := 402) rfl (hb hby at_382) (by decide) (by decide)) ?_
      refine gs (fun t => XS.iload X157.here hx rfl (hb hby at_402) rfl) ?_
      refine gs (fun t => XS.ifNo X157.here hx rfl (hb hby at_404) rfl ((if0 _ _).trans (feq (by decide : ¬ ((1 : Int32) = (0 : Int32)))).1)) ?_
      refine gs (fun t => XS.aload X157.here hx rfl (hb hby at_407) rfl rfl) ?_
      refine gs (fun t => XS.iload X157.here hx rfl (hb hby at_409) rfl) ?_
      show Go p e below s QQ room_1.cells room_1.slots (T157.setTop (mkF m 411 #[iv p0, iv p1, iv p2, iv p3, jv p4, .second, iv 3, iv (oI a), iv 1, iv (oI ((a + 1) % 3)), rv b144, rv b147, iv 1, iv 1, .val .null, iv 0, iv (oI ((a + 2) % 3)), rv b147, iv 1] [(.int (oI ((a + 2) % 3))), (.ref b144)]))
      obtain ⟨cq158, kq158, q158a, q158b, q158c⟩ := isOf hZ rfl Ex_b144
      obtain ⟨_, _, ⟨T158, L158, k158, n158⟩, -, X158, ⟨Lc158, hQ158, l158, y158, z158⟩, st158⟩ := X157.virtualBack hx (y := (⟨"weirline/runtime/InputChannels", "holdsBack", "(I)Z"⟩ : MethodName)) (z := (⟨"weirline/runtime/InputChannels", "holdsBack", "(I)Z"⟩ : MethodName)) hown (mvT hZ (hw _ (List.mem_of_getElem? (i := 52) rfl))) (mvT hZ (hw _ (List.mem_of_getElem? (i := 53) rfl))) (notFace_of_selects (args := #[]) (mvT hZ (hw _ (List.mem_of_getElem? (i := 55) rfl)))) (mvT hZ (hw _ (List.mem_of_getElem? (i := 55) rfl))) (mvT hZ (hw _ (List.mem_of_getElem? (i := 54) rfl))) (by decide) (backOf (W := 0) (rm7 l Z a0 hw [] b144 ((a + 2) % 3) 3 bb (fun _ => .int 0) (0 : Int32) T157.heap n0 ZZ G4 V_bb rfl (by decide) (Nat.mod_lt _ (by decide)) (by decide)) hZ (hw _ (List.mem_of_getElem? (i := 56) rfl)) (hw _ (List.mem_of_getElem? (i := 3) rfl)) (by decide) (by decide)) q158a q158c (g := (mkF m 411 #[iv p0, iv p1, iv p2, iv p3, jv p4, .second, iv 3, iv (oI a), iv 1, iv (oI ((a + 1) % 3)), rv b144, rv b147, iv 1, iv 1, .val .null, iv 0, iv (oI ((a + 2) % 3)), rv b147, iv 1] [(.int (oI ((a + 2) % 3))), (.ref b144)])) rfl (by rw [hml]; rfl) (Steps.refl _) (argsL := [(.int (oI ((a + 2) % 3)))]) (rest := []) (lenOf pd_6 rfl) rfl (by show 2 * 0 + _ ≤ _; exact Nat.le_of_eq rfl) (hb hby at_411) (fun _ _ => ⟨rfl, rfl, (by decide : 6 + 0 ≤ _), (by decide : 23 + 0 ≤ _)⟩)
      dsimp only [Pt.U, Pt.locs, Pt.cells, Pt.slots] at X158 l158 y158 z158 st158 hQ158
      subst l158 y158 z158
      obtain ⟨rfl, N158q, e158⟩ := hQ158
      replace N0 := Fr.app N0 N158q
      refine gt st158 ?_
      show Go p e below s QQ room_1.cells room_1.slots (T158.setTop (mkF m 414 #[iv p0, iv p1, iv p2, iv p3, jv p4, .second, iv 3, iv (oI a), iv 1, iv (oI ((a + 1) % 3)), rv b144, rv b147, iv 1, iv 1, .val .null, iv 0, iv (oI ((a + 2) % 3)), rv b147, iv 1] [(.int (0 : Int32))]))
      refine gs (fun t => XS.iload X158.here hx rfl (hb hby at_414) rfl) ?_
      refine gs (fun t => XS.ifYes X158.here hx rfl (pc0 := 416) (pc' := 423) rfl (hb hby at_416) rfl ((if0 _ _).trans (feq (by decide : ¬ ((1 : Int32) = (0 : Int32)))).2) (by decide) (by decide)) ?_
      refine gs (fun t => XS.iconst X158.here hx rfl (hb hby at_423)) ?_
      refine gs (fun t => XS.icmpNo X158.here hx rfl (hb hby at_424) rfl (teq (by decide : (0 : Int32) = (0 : Int32))).2) ?_
      refine gs (fun t => XS.iconst X158.here hx rfl (hb hby at_427)) ?_
      refine gs (fun t => XS.goto X158.here hx rfl (pc0 := 428) (pc' := 432) rfl (hb hby at_428) (by decide) (by decide)) ?_
      show Go p e below s QQ room_1.cells room_1.slots (T158.setTop (mkF m 432 #[iv p0, iv p1, iv p2, iv p3, jv p4, .second, iv 3, iv (oI a), iv 1, iv (oI ((a + 1) % 3)), rv b144, rv b147, iv 1, iv 1, .val .null, iv 0, iv (oI ((a + 2) % 3)), rv b147, iv 1] [(.int (1 : Int32))]))
      refine gs (fun t => XS.istore X158.here hx rfl (hb hby at_432) rfl (l' := #[iv p0, iv p1, iv p2, iv p3, jv p4, .second, iv 3, iv (oI a), iv 1, iv (oI ((a + 1) % 3)), rv b144, rv b147, iv 1, iv 1, .val .null, iv 0, iv (oI ((a + 2) % 3)), rv b147, iv 1]) rfl) ?_
      refine gs (fun t => XS.iload X158.here hx rfl (hb hby at_434) rfl) ?_
      exact goB X158 hx Bd.notSynchronized Bd.returns (by simp) (w := (1 : Int32)) (by first | rfl | decide) (hb hby at_436) (by rw [← hQQ, e158]; exact ⟨rfl, N0⟩) (by decide) (by decide)
set_option maxRecDepth 65536 in
set_option maxHeartbeats 40000000 in
theorem comes_1 {Post : Tables → Env → Array Value → State → Outcome → State → Prop} (hpost : ∀ tb e args s v u, (limb_1_1.after args s (.returned v) u = true ∧ limb_1_2.after args s (.returned v) u = true ∧ True) → FrameEnd s (.returned v) u (Jvm.fieldLocs frame_1_writes args s ++ Jvm.arrayLocs frame_1_arrays args s ++ Jvm.staticLocs frame_1_statics s) 24 128 → Post tb e args s (.returned v) u) :
    ArmFor flags0 classFile x code maxLocals ret World_1 tables_1 room_1 Calls_1 rest_1 Pre_1 Post := by
  intro l hfl _ _ p e ha hc hk s m args below hf hA hF happ hP
  obtain ⟨hcalls, hrest, hpre⟩ := hP
  obtain ⟨-, -, -, hnamed, -, -, -, hat⟩ := (Spec.applies_iff hf).mp happ
  obtain ⟨hg, hn⟩ := and_e (Cond.before_iff.mp (show (Jvm.Cond.and given_1 narrow_1).before args s = true from hpre))
  obtain ⟨gc, hg0⟩ := and_e hg
  obtain ⟨w0, w1, w2, w3, w4, rfl⟩ : ∃ w0 w1 w2 w3 w4 : Value, args = #[w0, w1, w2, w3, w4] := by
    have hs : args.size = 5 := by simpa [Cond.value, given_1] using gc
    obtain ⟨L⟩ := args
    match L, hs with
    | [w0, w1, w2, w3, w4], _ => exact ⟨w0, w1, w2, w3, w4, rfl⟩
  obtain ⟨ga0, hg1⟩ := and_e hg0
  obtain ⟨i0, ei0⟩ := is_v ga0
  obtain rfl : w0 = (.int i0) := Option.some.inj ei0
  obtain ⟨ga1, hg2⟩ := and_e hg1
  obtain ⟨i1, ei1⟩ := is_v ga1
  obtain rfl : w1 = (.int i1) := Option.some.inj ei1
  obtain ⟨ga2, hg3⟩ := and_e hg2
  obtain ⟨i2, ei2⟩ := is_v ga2
  obtain rfl : w2 = (.int i2) := Option.some.inj ei2
  obtain ⟨ga3, hg4⟩ := and_e hg3
  obtain ⟨i3, ei3⟩ := is_v ga3
  obtain rfl : w3 = (.int i3) := Option.some.inj ei3
  obtain ⟨i4, ei4⟩ := isL_v hg4
  obtain rfl : w4 = (.long i4) := Option.some.inj ei4
  have hw := fun d (hd : d ∈ tables_1) => atoms_spec (ws := Jvm.Cond.code x code maxLocals ret :: tables_1) hat d (List.mem_cons_of_mem _ hd)
  have hfit : Fit s := fun {y c} hc i hi => by
    obtain ⟨ha, rfl⟩ := Array.getElem?_eq_some_iff.mp hc
    have q := List.all_eq_true.mp ((Array.all_eq_true_iff_forall_mem.mp hF) _ (Array.getElem_mem ha)) i (List.mem_range.mpr hi)
    simpa [Array.getElem?_eq_getElem hi] using q
  obtain ⟨n, o, h1, h2, h3, _, L, rfl, ⟨rfl, N⟩, hq⟩ := rm0 l s _ hw tables_1 i0 i1 i2 i3 i4 s.heap s.heap.size (Nat.le_refl _)  p e ha hc hk s m _ below hf ((Spec.applies_iff_loose hf).mp happ).1 ⟨rfl, State.Warmed39.refl s, rfl⟩ trivial
  refine ⟨n, _, h1, h2, h3, hpost _ _ _ _ _ _ ⟨Cond.after_iff.mpr rfl, Cond.after_iff.mpr (eq_i res_at (Term.int_eval (1)) rfl), trivial⟩ ⟨hq.1, hq.2.1, (hq.2.2.sift fun y hy => Or.inr (N y hy)).mono (by decide) (by decide)⟩⟩
theorem main_1_1 : Claimed_1_1 := comes_1 fun _ _ _ _ _ _ h hF => ⟨h.1, hF⟩
theorem main_1_2 : Claimed_1_2 := comes_1 fun _ _ _ _ _ _ h hF => ⟨h.2.1, hF⟩
end Jvm.Pilot.@@N@@
namespace Jvm.Pilot.@@N@@
open Jvm Jvm.ClassFile Sem Op Lib Jvm.Free Jvm.Stand Jvm.Pilot.@@N@@.Jvm.D
/-! MADE BY PROGRAM (witnessworld.py) out of the Statement's table words and the real class files: 16 classes; the members and pool entries that the words name. The judged class is class 1, her method 1. -/
namespace start1
open Jvm.ClassFile
def u (s : String) : CpInfo := .utf8 (stringToUtf16 s)
/-- a pool by its gaps: so many unusable entries, then the entry; so many at the end -/
def gap : Nat → List CpInfo → List CpInfo
  | 0, r => r
  | n + 1, r => .unusable :: gap n r
def poolList (es : List (Nat × CpInfo)) (last : Nat) : List CpInfo := es.foldr (fun e r => gap e.1 (e.2 :: r)) (gap last [])
def pool (es : List (Nat × CpInfo)) (last : Nat) : Array CpInfo := ⟨poolList es last⟩
def fileOf (pool : Array CpInfo) (this : Nat) (attrs : Array Attribute := #[]) (ms : Array MethodInfo := #[]) (fl : Nat := 33) (sup : Nat := 0) (ifs : Array Nat := #[]) (fds : Array FieldInfo := #[]) : ClassFile where
  minorVersion := 0
  majorVersion := 65
  constantPool := pool
  accessFlags := fl
  thisClass := this
  superClass := sup
  interfaces := ifs
  fields := fds
  methods := ms
  attributes := attrs
def plain (name : String) (sup : Option ClassId) : Class where
  name := name
  kind := .ordinary
  loader := none
  accessFlags := 33
  super := sup
  interfaces := #[]
  cf := none
  fields := #[]
  methods := #[]
  instanceTypes := #[]
  staticTypes := #[]
  resolved := #[]
  callSites := []
  init := .initialized
  statics := none
  mirror := none

def pool0 : Array CpInfo := pool [(5, u "<init>"), (0, u "()V"), (1, .class_ 10), (1, u "java/lang/Object")] 113

def k0c0 : Code := { maxStack := 0, maxLocals := 1, code := object_method_1_code, exceptionTable := #[], attributes := #[] }
def k0m0 : Method := { name := "<init>", desc := "()V", sig := { parameters := [], returnType := none }, accessFlags := 1, code := some k0c0 }
/-- java/lang/Object -/
def k0 : Class := { plain "java/lang/Object" none with
  accessFlags := 33
  interfaces := #[]
  cf := some (fileOf pool0 8 #[] #[{ accessFlags := 1, nameIndex := 5, descriptorIndex := 6, attributes := #[] }] 33 0 #[] #[])
  fields := #[]
  methods := #[k0m0]
  instanceTypes := #[]
  staticTypes := #[]
  resolved := Array.replicate 124 none
  statics := none }

def pool1 : Array CpInfo := pool [(2, .class_ 4), (1, u "java/lang/Object"), (0, u "<init>"), (0, u "()V"), (0, .integer 2147483647), (0, .class_ 9), (0, u "weirline/runtime/InputChannels"), (0, .methodref 8 11), (0, .nameAndType 5 12), (0, u "(I)V"), (0, .class_ 14), (0, u "weirline/runtime/CheckpointBarrier"), (0, .methodref 13 16), (0, .nameAndType 5 17), (0, u "(J)V"), (0, .methodref 8 19), (0, .nameAndType 20 12), (0, u "end"), (0, .methodref 8 22), (0, .nameAndType 23 24), (0, u "barrier"), (0, u "(ILweirline/runtime/CheckpointBarrier;)V"), (0, .methodref 8 26), (0, .nameAndType 27 28), (0, u "holdsBack"), (0, u "(I)Z"), (0, .methodref 8 30), (0, .nameAndType 31 32), (0, u "linedUp"), (0, u "()Lweirline/runtime/CheckpointBarrier;"), (0, .class_ 34), (0, u "weirline/runtime/InputChannelsBarrierPinLaw"), (2, u "law"), (0, u "(IIIIJ)Z")] 3

def k1m0 : Method := { name := "<init>", desc := "()V", sig := { parameters := [], returnType := none }, accessFlags := 1, code := none }
def k1c1 : Code := { maxStack := 4, maxLocals := 19, code := code, exceptionTable := #[], attributes := #[] }
def k1m1 : Method := { name := "law", desc := "(IIIIJ)Z", sig := { parameters := [.int, .int, .int, .int, .long], returnType := some .boolean }, accessFlags := 9, code := some k1c1 }
/-- weirline/runtime/InputChannelsBarrierPinLaw -/
def k1 : Class := { plain "weirline/runtime/InputChannelsBarrierPinLaw" (some 0) with
  accessFlags := 49
  interfaces := #[]
  cf := some (fileOf pool1 33 #[] #[{ accessFlags := 1, nameIndex := 5, descriptorIndex := 6, attributes := #[] }, { accessFlags := 9, nameIndex := 37, descriptorIndex := 38, attributes := #[] }] 49 2 #[] #[])
  fields := #[]
  methods := #[k1m0, k1m1]
  instanceTypes := #[]
  staticTypes := #[]
  resolved := Array.replicate 42 none
  statics := none }

def pool2 : Array CpInfo := pool [(3, .methodref 4 5), (0, .class_ 6), (0, .nameAndType 7 8), (0, u "java/lang/Object"), (0, u "<init>"), (0, u "()V"), (0, .long 9223372036854775808), (1, .fieldref 12 13), (0, .class_ 14), (0, .nameAndType 15 16), (0, u "weirline/runtime/InputChannels"), (0, u "minimum"), (0, u "J"), (0, .fieldref 12 18), (0, .nameAndType 19 20), (0, u "count"), (0, u "I"), (0, .fieldref 12 22), (0, .nameAndType 23 24), (0, u "latest"), (0, u "[J"), (0, .fieldref 12 26), (0, .nameAndType 27 28), (0, u "channelIdle"), (0, u "[Z"), (0, .fieldref 12 30), (0, .nameAndType 31 28), (0, u "ended"), (0, .fieldref 12 33), (0, .nameAndType 34 28), (0, u "barrierIn"), (0, .methodref 36 37), (0, .class_ 38), (0, .nameAndType 39 40), (0, u "java/util/Arrays"), (0, u "fill"), (0, u "([JJ)V"), (4, .fieldref 12 46), (0, .nameAndType 47 20), (0, u "endedCount"), (6, u "idleChannels"), (0, .fieldref 12 56), (0, .nameAndType 57 58), (0, u "aligning"), (0, u "Lweirline/runtime/CheckpointBarrier;"), (0, .fieldref 12 60), (0, .nameAndType 61 20), (0, u "barriersIn"), (0, .methodref 36 63), (0, .nameAndType 39 64), (0, u "([ZZ)V"), (10, u "(I)V"), (38, u "CHANNEL_BYTES"), (2, u "ENDED_FLAG"), (1, u "IDLE_FLAG"), (6, u "holdsBack"), (0, u "(I)Z"), (5, u "end"), (0, u "barrier"), (0, u "(ILweirline/runtime/CheckpointBarrier;)V"), (0, u "linedUp"), (0, u "()Lweirline/runtime/CheckpointBarrier;")] 23

def k2c0 : Code := { maxStack := 3, maxLocals := 2, code := prog_151_method_1_code, exceptionTable := #[], attributes := #[] }
def k2m0 : Method := { name := "<init>", desc := "(I)V", sig := { parameters := [.int], returnType := none }, accessFlags := 0, code := some k2c0 }
def k2c1 : Code := { maxStack := 2, maxLocals := 2, code := prog_151_method_5_code, exceptionTable := #[], attributes := #[] }
def k2m1 : Method := { name := "holdsBack", desc := "(I)Z", sig := { parameters := [.int], returnType := some .boolean }, accessFlags := 0, code := some k2c1 }
def k2c2 : Code := { maxStack := 3, maxLocals := 2, code := prog_151_method_9_code, exceptionTable := #[], attributes := #[] }
def k2m2 : Method := { name := "end", desc := "(I)V", sig := { parameters := [.int], returnType := none }, accessFlags := 0, code := some k2c2 }
def k2c3 : Code := { maxStack := 3, maxLocals := 3, code := prog_151_method_10_code, exceptionTable := #[], attributes := #[] }
def k2m3 : Method := { name := "barrier", desc := "(ILweirline/runtime/CheckpointBarrier;)V", sig := { parameters := [.int, (.object "weirline/runtime/CheckpointBarrier")], returnType := none }, accessFlags := 0, code := some k2c3 }
def k2c4 : Code := { maxStack := 2, maxLocals := 2, code := prog_151_method_11_code, exceptionTable := #[], attributes := #[] }
def k2m4 : Method := { name := "linedUp", desc := "()Lweirline/runtime/CheckpointBarrier;", sig := { parameters := [], returnType := some (.object "weirline/runtime/CheckpointBarrier") }, accessFlags := 0, code := some k2c4 }
/-- weirline/runtime/InputChannels -/
def k2 : Class := { plain "weirline/runtime/InputChannels" (some 0) with
  accessFlags := 48
  interfaces := #[]
  cf := some (fileOf pool2 12 #[] #[{ accessFlags := 0, nameIndex := 7, descriptorIndex := 75, attributes := #[] }, { accessFlags := 0, nameIndex := 126, descriptorIndex := 127, attributes := #[] }, { accessFlags := 0, nameIndex := 133, descriptorIndex := 75, attributes := #[] }, { accessFlags := 0, nameIndex := 134, descriptorIndex := 135, attributes := #[] }, { accessFlags := 0, nameIndex := 136, descriptorIndex := 137, attributes := #[] }] 48 4 #[] #[{ accessFlags := 26, nameIndex := 114, descriptorIndex := 20, attributes := #[] }, { accessFlags := 26, nameIndex := 117, descriptorIndex := 20, attributes := #[] }, { accessFlags := 26, nameIndex := 119, descriptorIndex := 20, attributes := #[] }, { accessFlags := 18, nameIndex := 19, descriptorIndex := 20, attributes := #[] }, { accessFlags := 18, nameIndex := 23, descriptorIndex := 24, attributes := #[] }, { accessFlags := 2, nameIndex := 15, descriptorIndex := 16, attributes := #[] }, { accessFlags := 18, nameIndex := 27, descriptorIndex := 28, attributes := #[] }, { accessFlags := 2, nameIndex := 54, descriptorIndex := 20, attributes := #[] }, { accessFlags := 18, nameIndex := 31, descriptorIndex := 28, attributes := #[] }, { accessFlags := 2, nameIndex := 47, descriptorIndex := 20, attributes := #[] }, { accessFlags := 2, nameIndex := 57, descriptorIndex := 58, attributes := #[] }, { accessFlags := 18, nameIndex := 34, descriptorIndex := 28, attributes := #[] }, { accessFlags := 2, nameIndex := 61, descriptorIndex := 20, attributes := #[] }])
  fields := #[{ name := "CHANNEL_BYTES", type := .int, accessFlags := 26, slot := 0, constantValue := 0 }, { name := "ENDED_FLAG", type := .int, accessFlags := 26, slot := 1, constantValue := 0 }, { name := "IDLE_FLAG", type := .int, accessFlags := 26, slot := 2, constantValue := 0 }, { name := "count", type := .int, accessFlags := 18, slot := 0, constantValue := 0 }, { name := "latest", type := (.array .long), accessFlags := 18, slot := 1, constantValue := 0 }, { name := "minimum", type := .long, accessFlags := 2, slot := 2, constantValue := 0 }, { name := "channelIdle", type := (.array .boolean), accessFlags := 18, slot := 3, constantValue := 0 }, { name := "idleChannels", type := .int, accessFlags := 2, slot := 4, constantValue := 0 }, { name := "ended", type := (.array .boolean), accessFlags := 18, slot := 5, constantValue := 0 }, { name := "endedCount", type := .int, accessFlags := 2, slot := 6, constantValue := 0 }, { name := "aligning", type := (.object "weirline/runtime/CheckpointBarrier"), accessFlags := 2, slot := 7, constantValue := 0 }, { name := "barrierIn", type := (.array .boolean), accessFlags := 18, slot := 8, constantValue := 0 }, { name := "barriersIn", type := .int, accessFlags := 2, slot := 9, constantValue := 0 }]
  methods := #[k2m0, k2m1, k2m2, k2m3, k2m4]
  instanceTypes := #[.int, (.array .long), .long, (.array .boolean), .int, (.array .boolean), .int, (.object "weirline/runtime/CheckpointBarrier"), (.array .boolean), .int]
  staticTypes := #[.int, .int, .int]
  resolved := Array.replicate 161 none
  statics := none }

def pool3 : Array CpInfo := pool [(2, .class_ 4), (1, u "java/lang/Object"), (0, u "<init>"), (0, u "()V"), (7, .class_ 16), (1, u "java/util/Arrays"), (57, .class_ 76), (1, u "java/util/Arrays$NaturalOrder"), (36, .class_ 115), (1, u "java/util/Arrays$LegacyMergeSort"), (1, u "Z"), (257, .class_ 376), (0, u "java/util/Arrays$ArrayList"), (68, u "$assertionsDisabled"), (269, u "MIN_ARRAY_SORT_GRAN"), (0, u "I"), (2, u "INSERTIONSORT_THRESHOLD"), (120, u "fill"), (0, u "([JJ)V"), (10, u "([ZZ)V"), (122, .class_ 976), (0, u "java/util/Arrays$ArrayItr")] 52

def k3m0 : Method := { name := "<init>", desc := "()V", sig := { parameters := [], returnType := none }, accessFlags := 2, code := none }
def k3c1 : Code := { maxStack := 4, maxLocals := 5, code := jdk_65_method_101_code, exceptionTable := #[], attributes := #[] }
def k3m1 : Method := { name := "fill", desc := "([JJ)V", sig := { parameters := [(.array .long), .long], returnType := none }, accessFlags := 9, code := some k3c1 }
def k3c2 : Code := { maxStack := 3, maxLocals := 4, code := jdk_65_method_111_code, exceptionTable := #[], attributes := #[] }
def k3m2 : Method := { name := "fill", desc := "([ZZ)V", sig := { parameters := [(.array .boolean), .boolean], returnType := none }, accessFlags := 9, code := some k3c2 }
/-- java/util/Arrays -/
def k3 : Class := { plain "java/util/Arrays" (some 0) with
  accessFlags := 49
  interfaces := #[]
  cf := some (fileOf pool3 14 #[.nestMembers #[975, 375, 113, 74]] #[{ accessFlags := 2, nameIndex := 5, descriptorIndex := 6, attributes := #[] }, { accessFlags := 9, nameIndex := 840, descriptorIndex := 841, attributes := #[] }, { accessFlags := 9, nameIndex := 840, descriptorIndex := 852, attributes := #[] }] 49 2 #[] #[{ accessFlags := 26, nameIndex := 715, descriptorIndex := 716, attributes := #[] }, { accessFlags := 26, nameIndex := 719, descriptorIndex := 716, attributes := #[] }, { accessFlags := 4120, nameIndex := 445, descriptorIndex := 117, attributes := #[] }])
  fields := #[{ name := "MIN_ARRAY_SORT_GRAN", type := .int, accessFlags := 26, slot := 0, constantValue := 0 }, { name := "INSERTIONSORT_THRESHOLD", type := .int, accessFlags := 26, slot := 1, constantValue := 0 }, { name := "$assertionsDisabled", type := .boolean, accessFlags := 4120, slot := 2, constantValue := 0 }]
  methods := #[k3m0, k3m1, k3m2]
  instanceTypes := #[]
  staticTypes := #[.int, .int, .boolean]
  resolved := Array.replicate 1029 none
  statics := none }

def pool4 : Array CpInfo := pool [(1, .methodref 2 3), (0, .class_ 4), (0, .nameAndType 5 6), (0, u "java/lang/Object"), (0, u "<init>"), (0, u "()V"), (0, .class_ 8), (0, u "java/lang/Record")] 13

def k4c0 : Code := { maxStack := 1, maxLocals := 1, code := jdk_30_method_1_code, exceptionTable := #[], attributes := #[] }
def k4m0 : Method := { name := "<init>", desc := "()V", sig := { parameters := [], returnType := none }, accessFlags := 4, code := some k4c0 }
/-- java/lang/Record -/
def k4 : Class := { plain "java/lang/Record" (some 0) with
  accessFlags := 1057
  interfaces := #[]
  cf := some (fileOf pool4 7 #[] #[{ accessFlags := 4, nameIndex := 5, descriptorIndex := 6, attributes := #[] }] 1057 2 #[] #[])
  fields := #[]
  methods := #[k4m0]
  instanceTypes := #[]
  staticTypes := #[]
  resolved := Array.replicate 22 none
  statics := none }

def pool5 : Array CpInfo := pool [(1, .methodref 2 3), (0, .class_ 4), (0, .nameAndType 5 6), (0, u "java/lang/Record"), (0, u "<init>"), (0, u "()V"), (0, .fieldref 8 9), (0, .class_ 10), (0, .nameAndType 11 12), (0, u "weirline/runtime/CheckpointBarrier"), (0, u "checkpointId"), (0, u "J"), (12, u "(J)V")] 26

def k5c0 : Code := { maxStack := 3, maxLocals := 3, code := prog_135_method_1_code, exceptionTable := #[], attributes := #[] }
def k5m0 : Method := { name := "<init>", desc := "(J)V", sig := { parameters := [.long], returnType := none }, accessFlags := 0, code := some k5c0 }
/-- weirline/runtime/CheckpointBarrier -/
def k5 : Class := { plain "weirline/runtime/CheckpointBarrier" (some 4) with
  accessFlags := 48
  interfaces := #[]
  cf := some (fileOf pool5 8 #[] #[{ accessFlags := 0, nameIndex := 5, descriptorIndex := 25, attributes := #[] }] 48 2 #[] #[{ accessFlags := 18, nameIndex := 11, descriptorIndex := 12, attributes := #[] }])
  fields := #[{ name := "checkpointId", type := .long, accessFlags := 18, slot := 0, constantValue := 0 }]
  methods := #[k5m0]
  instanceTypes := #[.long]
  staticTypes := #[]
  resolved := Array.replicate 52 none
  statics := none }

def pool6 : Array CpInfo := pool [(1, u "java/lang/Cloneable"), (0, .class_ 1), (0, u "java/lang/Object"), (0, .class_ 3)] 3

/-- java/lang/Cloneable -/
def k6 : Class := { plain "java/lang/Cloneable" (some 0) with
  accessFlags := 1537
  interfaces := #[]
  cf := some (fileOf pool6 2 #[] #[] 1537 4 #[] #[])
  fields := #[]
  methods := #[]
  instanceTypes := #[]
  staticTypes := #[]
  resolved := Array.replicate 8 none
  statics := none }

def pool7 : Array CpInfo := pool [(1, u "java/io/Serializable"), (0, .class_ 1), (0, u "java/lang/Object"), (0, .class_ 3)] 3

/-- java/io/Serializable -/
def k7 : Class := { plain "java/io/Serializable" (some 0) with
  accessFlags := 1537
  interfaces := #[]
  cf := some (fileOf pool7 2 #[] #[] 1537 4 #[] #[])
  fields := #[]
  methods := #[]
  instanceTypes := #[]
  staticTypes := #[]
  resolved := Array.replicate 8 none
  statics := none }

/-- the primitive boolean -/
def k8 : Class := { plain "boolean" none with kind := .primitive 'Z', accessFlags := 0x411 }
/-- [Z -/
def k9 : Class := { plain "[Z" (some 0) with kind := .array 8 .boolean, interfaces := #[6, 7], accessFlags := 1041 }

/-- the primitive byte -/
def k10 : Class := { plain "byte" none with kind := .primitive 'B', accessFlags := 0x411 }
/-- [B -/
def k11 : Class := { plain "[B" (some 0) with kind := .array 10 .byte, interfaces := #[6, 7], accessFlags := 1041 }

/-- the primitive int -/
def k12 : Class := { plain "int" none with kind := .primitive 'I', accessFlags := 0x411 }
/-- [I -/
def k13 : Class := { plain "[I" (some 0) with kind := .array 12 .int, interfaces := #[6, 7], accessFlags := 1041 }

/-- the primitive long -/
def k14 : Class := { plain "long" none with kind := .primitive 'J', accessFlags := 0x411 }
/-- [J -/
def k15 : Class := { plain "[J" (some 0) with kind := .array 14 .long, interfaces := #[6, 7], accessFlags := 1041 }

def heap : Heap := #[]
def classes : Array Class := #[k0, k1, k2, k3, k4, k5, k6, k7, k8, k9, k10, k11, k12, k13, k14, k15]
def interned : List (Array UInt16 × Addr) := []
def slotsUsed : Nat := 0
def theMethod : MethodId := ⟨1, 1⟩
def args0 : Array Value := #[.int 1, .int 2, .int 3, .int 4, .long 5]
def aboutOver (below : List Frame) : State where
  vm := { classes := classes, interned := interned.toArray }
  heap := heap
  slotsUsed := slotsUsed
  threads := #[{ frames := .invoking theMethod args0 :: below }]
def below0 : List Frame := [.native { method := ⟨0, 0⟩, args := #[] }]
def about1 : State := aboutOver below0
def p0 : Program := .bare "" "" ""
def e0 : Env := launch0.env 0 0 0
theorem w_frames : about1.frames = Frame.invoking theMethod args0 :: below0 := rfl
set_option maxRecDepth 65536 in
theorem w_args : argsFit about1.vm theMethod args0 = true := by decide +kernel
set_option maxRecDepth 65536 in
theorem w_heap : heapFits about1 = true := by decide +kernel
set_option maxRecDepth 65536 in
theorem w_runnable : about1.curStatus? = some .runnable := by decide +kernel
set_option maxRecDepth 65536 in
theorem w_alone : about1.alone = true := by decide +kernel
set_option maxRecDepth 65536 in
theorem w_named : about1.methodNamed? x = some theMethod := by decide +kernel
set_option maxRecDepth 65536 in
theorem w_hears : about1.hears theMethod below0 = true := by decide +kernel
set_option maxRecDepth 65536 in
theorem w_ripe : about1.ripe theMethod args0 below0 = true := by decide +kernel
theorem w_running : about1.status = .running := rfl
set_option maxRecDepth 65536 in
theorem w_room : about1.hasRoom e0.platform room_1 = true :=
  launch0.hasRoom_least _ room_1 (by decide +kernel) (by decide +kernel) (by decide +kernel) (by decide +kernel) (by decide +kernel) (by decide +kernel)
theorem allAtoms_all (ts : List Jvm.Cond) (a : Array Jvm.Value) (st : Jvm.State) : (allAtoms ts).before a st = ts.all (fun c => c.before a st) := by
  induction ts with
  | nil => rfl
  | cons c t ih =>
    show (Jvm.Cond.and c (allAtoms t)).before a st = _
    rw [Jvm.Cond.before_and, ih, List.all_cons]
def words1 : List Jvm.Cond := Jvm.Cond.code x code maxLocals ret :: tables_1
/-- a 'code' word, met by the world's own term for the bytes: nothing is compared byte by byte -/
theorem code_word {y : MethodName} {bytes : ByteArray} {mx : Nat} {rt : Option FieldType} {a : Array Value} {s : State} {m : MethodId} {meth : Method} {c : Code} (h1 : s.methodNamed? y = some m) (h2 : s.vm.method? m = some meth) (h3 : meth.code = some c) (h4 : c.code = bytes)
    (h5 : (c.maxLocals == mx && c.exceptionTable.isEmpty && decide (c.maxStack ≤ mostOperands) && decide (meth.sig.returnType = rt) && !meth.locks && decide (parseMethodDescriptor y.desc = some meth.sig)) = true) : (Jvm.Cond.code y bytes mx rt).before a s = true := by
  simp only [Bool.and_eq_true, beq_iff_eq, Bool.not_eq_true', decide_eq_true_eq] at h5
  obtain ⟨⟨⟨⟨⟨g1, g2⟩, g3⟩, g4⟩, g5⟩, g6⟩ := h5
  simp [Cond.before, Cond.holds, Cond.value, h1, h2, h3, h4, g1, g2, g3, g4, g5, g6]
def isCode : Jvm.Cond → Bool
  | .code _ _ _ _ => true
  | _ => false
theorem all_split {L : List Jvm.Cond} {P : Jvm.Cond → Bool} (h1 : L.all (fun c => isCode c || P c) = true) (h2 : ∀ c ∈ L.filter isCode, P c = true) : L.all P = true := by
  refine List.all_eq_true.mpr fun c hc => ?_
  have h := List.all_eq_true.mp h1 c hc
  rcases Bool.eq_false_or_eq_true (isCode c) with hi | hi
  · exact h2 c (List.mem_filter.mpr ⟨hc, hi⟩)
  · simpa [hi] using h
set_option maxRecDepth 65536 in
theorem w_c0 : (Jvm.Cond.code x code maxLocals ret).before args0 about1 = true := code_word (m := ⟨1, 1⟩) (meth := k1m1) (c := k1c1) (by decide +kernel) rfl rfl rfl (by decide +kernel)
set_option maxRecDepth 65536 in
theorem w_c1 : (Jvm.Cond.code ({ cls := "weirline/runtime/InputChannels", name := "<init>", desc := "(I)V" } : Jvm.MethodName) prog_151_method_1_code (2 : Nat) (Option.none : Option Jvm.ClassFile.FieldType)).before args0 about1 = true := code_word (m := ⟨2, 0⟩) (meth := k2m0) (c := k2c0) (by decide +kernel) rfl rfl rfl (by decide +kernel)
set_option maxRecDepth 65536 in
theorem w_c2 : (Jvm.Cond.code ({ cls := "java/lang/Object", name := "<init>", desc := "()V" } : Jvm.MethodName) object_method_1_code (1 : Nat) (Option.none : Option Jvm.ClassFile.FieldType)).before args0 about1 = true := code_word (m := ⟨0, 0⟩) (meth := k0m0) (c := k0c0) (by decide +kernel) rfl rfl rfl (by decide +kernel)
set_option maxRecDepth 65536 in
theorem w_c3 : (Jvm.Cond.code ({ cls := "java/util/Arrays", name := "fill", desc := "([JJ)V" } : Jvm.MethodName) jdk_65_method_101_code (5 : Nat) (Option.none : Option Jvm.ClassFile.FieldType)).before args0 about1 = true := code_word (m := ⟨3, 1⟩) (meth := k3m1) (c := k3c1) (by decide +kernel) rfl rfl rfl (by decide +kernel)
set_option maxRecDepth 65536 in
theorem w_c4 : (Jvm.Cond.code ({ cls := "weirline/runtime/CheckpointBarrier", name := "<init>", desc := "(J)V" } : Jvm.MethodName) prog_135_method_1_code (3 : Nat) (Option.none : Option Jvm.ClassFile.FieldType)).before args0 about1 = true := code_word (m := ⟨5, 0⟩) (meth := k5m0) (c := k5c0) (by decide +kernel) rfl rfl rfl (by decide +kernel)
set_option maxRecDepth 65536 in
theorem w_c5 : (Jvm.Cond.code ({ cls := "java/lang/Record", name := "<init>", desc := "()V" } : Jvm.MethodName) jdk_30_method_1_code (1 : Nat) (Option.none : Option Jvm.ClassFile.FieldType)).before args0 about1 = true := code_word (m := ⟨4, 0⟩) (meth := k4m0) (c := k4c0) (by decide +kernel) rfl rfl rfl (by decide +kernel)
set_option maxRecDepth 65536 in
theorem w_c6 : (Jvm.Cond.code ({ cls := "weirline/runtime/InputChannels", name := "barrier", desc := "(ILweirline/runtime/CheckpointBarrier;)V" } : Jvm.MethodName) prog_151_method_10_code (3 : Nat) (Option.none : Option Jvm.ClassFile.FieldType)).before args0 about1 = true := code_word (m := ⟨2, 3⟩) (meth := k2m3) (c := k2c3) (by decide +kernel) rfl rfl rfl (by decide +kernel)
set_option maxRecDepth 65536 in
theorem w_c7 : (Jvm.Cond.code ({ cls := "weirline/runtime/InputChannels", name := "holdsBack", desc := "(I)Z" } : Jvm.MethodName) prog_151_method_5_code (2 : Nat) (Option.some Jvm.ClassFile.FieldType.boolean)).before args0 about1 = true := code_word (m := ⟨2, 1⟩) (meth := k2m1) (c := k2c1) (by decide +kernel) rfl rfl rfl (by decide +kernel)
set_option maxRecDepth 65536 in
theorem w_c8 : (Jvm.Cond.code ({ cls := "weirline/runtime/InputChannels", name := "linedUp", desc := "()Lweirline/runtime/CheckpointBarrier;" } : Jvm.MethodName) prog_151_method_11_code (2 : Nat) (Option.some (Jvm.ClassFile.FieldType.object "weirline/runtime/CheckpointBarrier"))).before args0 about1 = true := code_word (m := ⟨2, 4⟩) (meth := k2m4) (c := k2c4) (by decide +kernel) rfl rfl rfl (by decide +kernel)
set_option maxRecDepth 65536 in
theorem w_c9 : (Jvm.Cond.code ({ cls := "java/util/Arrays", name := "fill", desc := "([ZZ)V" } : Jvm.MethodName) jdk_65_method_111_code (4 : Nat) (Option.none : Option Jvm.ClassFile.FieldType)).before args0 about1 = true := code_word (m := ⟨3, 2⟩) (meth := k3m2) (c := k3c2) (by decide +kernel) rfl rfl rfl (by decide +kernel)
set_option maxRecDepth 65536 in
theorem w_c10 : (Jvm.Cond.code ({ cls := "weirline/runtime/InputChannels", name := "end", desc := "(I)V" } : Jvm.MethodName) prog_151_method_9_code (2 : Nat) (Option.none : Option Jvm.ClassFile.FieldType)).before args0 about1 = true := code_word (m := ⟨2, 2⟩) (meth := k2m2) (c := k2c2) (by decide +kernel) rfl rfl rfl (by decide +kernel)
def codes1 : List Jvm.Cond := [Jvm.Cond.code x code maxLocals ret, Jvm.Cond.code ({ cls := "weirline/runtime/InputChannels", name := "<init>", desc := "(I)V" } : Jvm.MethodName) prog_151_method_1_code (2 : Nat) (Option.none : Option Jvm.ClassFile.FieldType), Jvm.Cond.code ({ cls := "java/lang/Object", name := "<init>", desc := "()V" } : Jvm.MethodName) object_method_1_code (1 : Nat) (Option.none : Option Jvm.ClassFile.FieldType), Jvm.Cond.code ({ cls := "java/util/Arrays", name := "fill", desc := "([JJ)V" } : Jvm.MethodName) jdk_65_method_101_code (5 : Nat) (Option.none : Option Jvm.ClassFile.FieldType), Jvm.Cond.code ({ cls := "weirline/runtime/CheckpointBarrier", name := "<init>", desc := "(J)V" } : Jvm.MethodName) prog_135_method_1_code (3 : Nat) (Option.none : Option Jvm.ClassFile.FieldType), Jvm.Cond.code ({ cls := "java/lang/Record", name := "<init>", desc := "()V" } : Jvm.MethodName) jdk_30_method_1_code (1 : Nat) (Option.none : Option Jvm.ClassFile.FieldType), Jvm.Cond.code ({ cls := "weirline/runtime/InputChannels", name := "barrier", desc := "(ILweirline/runtime/CheckpointBarrier;)V" } : Jvm.MethodName) prog_151_method_10_code (3 : Nat) (Option.none : Option Jvm.ClassFile.FieldType), Jvm.Cond.code ({ cls := "weirline/runtime/InputChannels", name := "holdsBack", desc := "(I)Z" } : Jvm.MethodName) prog_151_method_5_code (2 : Nat) (Option.some Jvm.ClassFile.FieldType.boolean), Jvm.Cond.code ({ cls := "weirline/runtime/InputChannels", name := "linedUp", desc := "()Lweirline/runtime/CheckpointBarrier;" } : Jvm.MethodName) prog_151_method_11_code (2 : Nat) (Option.some (Jvm.ClassFile.FieldType.object "weirline/runtime/CheckpointBarrier")), Jvm.Cond.code ({ cls := "java/util/Arrays", name := "fill", desc := "([ZZ)V" } : Jvm.MethodName) jdk_65_method_111_code (4 : Nat) (Option.none : Option Jvm.ClassFile.FieldType), Jvm.Cond.code ({ cls := "weirline/runtime/InputChannels", name := "end", desc := "(I)V" } : Jvm.MethodName) prog_151_method_9_code (2 : Nat) (Option.none : Option Jvm.ClassFile.FieldType)]
set_option maxRecDepth 65536 in
theorem codes_eq : words1.filter isCode = codes1 := rfl
theorem w_codes : ∀ c ∈ words1.filter isCode, c.before args0 about1 = true := by
  rw [codes_eq]
  intro c hc
  simp only [codes1, List.mem_cons, List.not_mem_nil, or_false] at hc
  rcases hc with rfl | rfl | rfl | rfl | rfl | rfl | rfl | rfl | rfl | rfl | rfl
  · exact w_c0
  · exact w_c1
  · exact w_c2
  · exact w_c3
  · exact w_c4
  · exact w_c5
  · exact w_c6
  · exact w_c7
  · exact w_c8
  · exact w_c9
  · exact w_c10
set_option maxRecDepth 65536 in
theorem w_t1 : (words1.take 24).all (fun c => isCode c || c.before args0 about1) = true := by decide +kernel
set_option maxRecDepth 65536 in
theorem w_t2 : ((words1.drop 24).take 24).all (fun c => isCode c || c.before args0 about1) = true := by decide +kernel
set_option maxRecDepth 65536 in
theorem w_t3 : (((words1.drop 24).drop 24).take 24).all (fun c => isCode c || c.before args0 about1) = true := by decide +kernel
set_option maxRecDepth 65536 in
theorem w_t4 : (((words1.drop 24).drop 24).drop 24).all (fun c => isCode c || c.before args0 about1) = true := by decide +kernel
theorem w_tables : (allAtoms (Jvm.Cond.code x code maxLocals ret :: tables_1)).before args0 about1 = true := by
  rw [allAtoms_all]
  show words1.all (fun c => c.before args0 about1) = true
  refine all_split ?_ w_codes
  rw [← List.take_append_drop 24 words1, List.all_append, w_t1, ← List.take_append_drop 24 (words1.drop 24), List.all_append, w_t2, ← List.take_append_drop 24 ((words1.drop 24).drop 24), List.all_append, w_t3, w_t4]
  rfl
set_option maxRecDepth 65536 in
theorem w_case : (Jvm.Cond.and given_1 narrow_1).before args0 about1 = true := by decide +kernel
theorem w_applies : (headSpec (Jvm.Cond.code x code maxLocals ret :: tables_1) room_1).applies x e0.platform about1 = true :=
  (Spec.applies_iff w_frames).mpr ⟨w_running, w_runnable, w_alone, w_named, w_hears, w_ripe, w_room, w_tables⟩
theorem atStart : AtStart classFile x code maxLocals ret World_1 tables_1 room_1 Calls_1 rest_1 Pre_1 launch0 p0 e0 about1 theMethod args0 below0 :=
  ⟨lists_1, trivial, launch0.admits_env _ _ _, launch0.least_env, fairChoices_fair.cas, fairChoices_fair.clock, w_frames, w_args, w_heap, w_applies, trivial, trivial, w_case⟩
end start1
theorem witness_1 : WitnessClaimed_1 := ⟨start1.p0, start1.e0, start1.about1, start1.theMethod, start1.args0, start1.below0, start1.atStart⟩
end Jvm.Pilot.@@N@@
