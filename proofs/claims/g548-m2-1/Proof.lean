import JvmDerived
import JvmDerived.Pilot.@@N@@Statement
import JvmDerived.Pilot.@@N@@Code
set_option linter.unusedVariables false
set_option linter.unusedSimpArgs false
namespace Jvm.RoadKit
open Sem ClassFile Op Lib Jvm.Stand Jvm.Free Jvm.LawKit
section Own
variable {p : Program} {l : Launch} {e : Env} {R : Room} {s : State} {m : MethodId} {args : Array Value} {below : List Frame} {meth : Method} {c : Code} {T : State} {locs : List Loc} {cells slots : Nat}
/-- from S the run comes to an end of which K holds -/
def oG (p : Program) (e : Env) (below : List Frame) (K : State → Outcome → Prop) (S : State) : Prop := ∃ t o, Steps p.tables e below S t ∧ t.status = .running ∧ Ended t below o ∧ K t o
def own_K (s : State) (Q : Option Value → Heap → List Loc → Prop) (k n : Nat) (t : State) (o : Outcome) : Prop := ∃ v L, o = .returned v ∧ Q v t.heap L ∧ FrameEnd s o t L k n
theorem og {K : State → Outcome → Prop} {S S' : State} (h : ∀ t, Steps p.tables e below S' t → Steps p.tables e below S t) (g : oG p e below K S') : oG p e below K S := by
  obtain ⟨t, o, h1, h2⟩ := g; exact ⟨t, o, h t h1, h2⟩
theorem own_via {K : State → Outcome → Prop} {S S' : State} (h : Steps p.tables e below S S') (g : oG p e below K S') : oG p e below K S := by
  obtain ⟨t, o, h1, h2⟩ := g; exact ⟨t, o, h.trans h1, h2⟩
variable {Q : Option Value → Heap → List Loc → Prop} {k n : Nat}
theorem own_end (X : Stand p l e R s m args below meth c T locs cells slots) {v : Option Value} (hlk : meth.locks = false) (hv : meth.sig.returnType = none → v = none) (hk : cells ≤ k) (hn : slots ≤ n) (hQ : Q v T.heap locs) {S : State}
    (st : ∀ fs, (∀ (f : JFrame) (acts : List Action), f.method = m → f.locked = none → f.entered = [] → (doReturn e (T.setTop f) acts v).1 = T.setFrames fs) → Steps p.tables e below S (T.setFrames fs)) : oG p e below (own_K s Q k n) S := by
  obtain ⟨fs, hr, hrun, hended, hW, hsame⟩ := X.leave hv hlk
  exact ⟨_, _, st fs hr, hrun, hended, v, locs, rfl, hQ, ⟨_, rfl⟩, hW, hsame.mono hk hn⟩
theorem own_ret0 (X : Stand p l e R s m args below meth c T locs cells slots) (hx : p.tables.exec = Jvm.exec) (hlk : meth.locks = false) (hret : meth.sig.returnType = none) {pc : Nat} {Ls : Array Slot} (hd : decode c.code pc = .ok (.return_, 1)) (hk : cells ≤ k) (hn : slots ≤ n) (hQ : Q none T.heap locs) :
    oG p e below (own_K s Q k n) (T.setTop (mkF m pc Ls [])) := own_end X hlk (fun _ => rfl) hk hn hQ fun _ hr => X.returnOut hx hret hd hr
theorem own_retN (X : Stand p l e R s m args below meth c T locs cells slots) (hx : p.tables.exec = Jvm.exec) (hlk : meth.locks = false) {t : FieldType} (hret : meth.sig.returnType = some t) (ht : t = .boolean ∨ t = .byte ∨ t = .char ∨ t = .short) {pc : Nat} {Ls : Array Slot} {z : Int32} {rest : List Value} (hd : decode c.code pc = .ok (.ireturn, 1)) (hk : cells ≤ k) (hn : slots ≤ n) (hQ : Q (some (.int (nar t z))) T.heap locs) :
    oG p e below (own_K s Q k n) (T.setTop (mkF m pc Ls (.int z :: rest))) := own_end X hlk (fun h => by rw [hret] at h; cases h) hk hn hQ fun _ hr => retN X hx hret ht hd hr
theorem own_retI (X : Stand p l e R s m args below meth c T locs cells slots) (hx : p.tables.exec = Jvm.exec) (hlk : meth.locks = false) (hret : meth.sig.returnType = some .int) {pc : Nat} {Ls : Array Slot} {z : Int32} {rest : List Value} (hd : decode c.code pc = .ok (.ireturn, 1)) (hk : cells ≤ k) (hn : slots ≤ n) (hQ : Q (some (.int z)) T.heap locs) :
    oG p e below (own_K s Q k n) (T.setTop (mkF m pc Ls (.int z :: rest))) := own_end X hlk (fun h => by rw [hret] at h; cases h) hk hn hQ fun _ hr => retOut X hx hret rfl (Or.inl ⟨rfl, Or.inl rfl, z, rfl⟩) hd hr
theorem own_retJ (X : Stand p l e R s m args below meth c T locs cells slots) (hx : p.tables.exec = Jvm.exec) (hlk : meth.locks = false) (hret : meth.sig.returnType = some .long) {pc : Nat} {Ls : Array Slot} {z : Int64} {rest : List Value} (hd : decode c.code pc = .ok (.lreturn, 1)) (hk : cells ≤ k) (hn : slots ≤ n) (hQ : Q (some (.long z)) T.heap locs) :
    oG p e below (own_K s Q k n) (T.setTop (mkF m pc Ls (.long z :: rest))) := own_end X hlk (fun h => by rw [hret] at h; cases h) hk hn hQ fun _ hr => retOut X hx hret rfl (Or.inr (Or.inl ⟨rfl, rfl, z, rfl⟩)) hd hr
theorem own_retR (X : Stand p l e R s m args below meth c T locs cells slots) (hx : p.tables.exec = Jvm.exec) (hlk : meth.locks = false) {t : FieldType} (hret : meth.sig.returnType = some t) (ht : t.isReference = true) {pc : Nat} {Ls : Array Slot} {w : Value} {rest : List Value} (hw : w.isRef = true) (hd : decode c.code pc = .ok (.areturn, 1)) (hk : cells ≤ k) (hn : slots ≤ n) (hQ : Q (some w) T.heap locs) :
    oG p e below (own_K s Q k n) (T.setTop (mkF m pc Ls (w :: rest))) := own_end X hlk (fun h => by rw [hret] at h; cases h) hk hn hQ fun _ hr => retOut X hx hret (by cases t <;> first | rfl | cases ht) (Or.inr (Or.inr (Or.inr (Or.inr ⟨rfl, ht, hw⟩)))) hd hr
section Arrays
variable {Z : State} {h : Heap} {a : Addr} {k : ClassId} {ty : FieldType} {z : Int32} {vs : List Value} {dv : Value}
theorem own_iaload {g : JFrame} {target : State} (X : Stand p l e R s m args below meth c T locs cells slots) (hx : p.tables.exec = Jvm.exec) (hZ : Z.Warmed39 s.vm) (eT : T.heap = h) (F : Arv Z h a k .int z vs dv) (j : Int32) (v : Value) (hj : ¬ j < 0 ∧ j < z) (hat : vs.getD j.toNatClampNeg dv = v) (hg : g.method = m) {rest : List Value} (hs : g.stack = .int j :: .ref a :: rest) (hd : decode c.code g.pc = .ok (.iaload, 1))
    (hr : Steps p.tables e below (T.setTop { g with pc := g.pc + 1, stack := v :: rest }) target) : Steps p.tables e below (T.setTop g) target := by
  obtain ⟨cl, A, q, S, N, H, G⟩ := F
  have hi := inb_of S hj
  exact X.iaload hx (j := j) (v := v) (by rw [eT]; exact A.1) (State.isArrayOf_alike hZ.alike A.2.1) A.2.2 hi (Has.at H hi hat) hg hs hd _ hr
theorem own_caload {g : JFrame} {target : State} (X : Stand p l e R s m args below meth c T locs cells slots) (hx : p.tables.exec = Jvm.exec) (hZ : Z.Warmed39 s.vm) (eT : T.heap = h) (F : Arv Z h a k .char z vs dv) (j : Int32) (v : Value) (hj : ¬ j < 0 ∧ j < z) (hat : vs.getD j.toNatClampNeg dv = v) (hg : g.method = m) {rest : List Value} (hs : g.stack = .int j :: .ref a :: rest) (hd : decode c.code g.pc = .ok (.caload, 1))
    (hr : Steps p.tables e below (T.setTop { g with pc := g.pc + 1, stack := v :: rest }) target) : Steps p.tables e below (T.setTop g) target := by
  obtain ⟨cl, A, q, S, N, H, G⟩ := F
  have hi := inb_of S hj
  exact X.caload hx (j := j) (v := v) (by rw [eT]; exact A.1) (State.isArrayOf_alike hZ.alike A.2.1) A.2.2 hi (Has.at H hi hat) hg hs hd _ hr
theorem own_saload {g : JFrame} {target : State} (X : Stand p l e R s m args below meth c T locs cells slots) (hx : p.tables.exec = Jvm.exec) (hZ : Z.Warmed39 s.vm) (eT : T.heap = h) (F : Arv Z h a k .short z vs dv) (j : Int32) (v : Value) (hj : ¬ j < 0 ∧ j < z) (hat : vs.getD j.toNatClampNeg dv = v) (hg : g.method = m) {rest : List Value} (hs : g.stack = .int j :: .ref a :: rest) (hd : decode c.code g.pc = .ok (.saload, 1))
    (hr : Steps p.tables e below (T.setTop { g with pc := g.pc + 1, stack := v :: rest }) target) : Steps p.tables e below (T.setTop g) target := by
  obtain ⟨cl, A, q, S, N, H, G⟩ := F
  have hi := inb_of S hj
  exact X.saload hx (j := j) (v := v) (by rw [eT]; exact A.1) (State.isArrayOf_alike hZ.alike A.2.1) A.2.2 hi (Has.at H hi hat) hg hs hd _ hr
theorem own_baload {g : JFrame} {target : State} (X : Stand p l e R s m args below meth c T locs cells slots) (hx : p.tables.exec = Jvm.exec) (hZ : Z.Warmed39 s.vm) (eT : T.heap = h) (F : Arv Z h a k .byte z vs dv) (j : Int32) (v : Value) (hj : ¬ j < 0 ∧ j < z) (hat : vs.getD j.toNatClampNeg dv = v) (hg : g.method = m) {rest : List Value} (hs : g.stack = .int j :: .ref a :: rest) (hd : decode c.code g.pc = .ok (.baload, 1))
    (hr : Steps p.tables e below (T.setTop { g with pc := g.pc + 1, stack := v :: rest }) target) : Steps p.tables e below (T.setTop g) target := by
  obtain ⟨cl, A, q, S, N, H, G⟩ := F
  have hi := inb_of S hj
  exact X.baloadBytes hx (j := j) (v := v) (by rw [eT]; exact A.1) (State.isArrayOf_alike hZ.alike A.2.1) A.2.2 hi (Has.at H hi hat) hg hs hd _ hr
theorem own_zaload {g : JFrame} {target : State} (X : Stand p l e R s m args below meth c T locs cells slots) (hx : p.tables.exec = Jvm.exec) (hZ : Z.Warmed39 s.vm) (eT : T.heap = h) (F : Arv Z h a k .boolean z vs dv) (j : Int32) (v : Value) (hj : ¬ j < 0 ∧ j < z) (hat : vs.getD j.toNatClampNeg dv = v) (hg : g.method = m) {rest : List Value} (hs : g.stack = .int j :: .ref a :: rest) (hd : decode c.code g.pc = .ok (.baload, 1))
    (hr : Steps p.tables e below (T.setTop { g with pc := g.pc + 1, stack := v :: rest }) target) : Steps p.tables e below (T.setTop g) target := by
  obtain ⟨cl, A, q, S, N, H, G⟩ := F
  have hi := inb_of S hj
  exact X.baloadBooleans hx (j := j) (v := v) (by rw [eT]; exact A.1) (State.isArrayOf_alike hZ.alike A.2.1) A.2.2 hi (Has.at H hi hat) hg hs hd _ hr
theorem own_laload {g : JFrame} {target : State} (X : Stand p l e R s m args below meth c T locs cells slots) (hx : p.tables.exec = Jvm.exec) (hZ : Z.Warmed39 s.vm) (eT : T.heap = h) (F : Arv Z h a k .long z vs dv) (j : Int32) (v : Value) (hj : ¬ j < 0 ∧ j < z) (hat : vs.getD j.toNatClampNeg dv = v) (hg : g.method = m) {rest : List Value} (hs : g.stack = .int j :: .ref a :: rest) (hd : decode c.code g.pc = .ok (.laload, 1))
    (hr : Steps p.tables e below (T.setTop { g with pc := g.pc + 1, stack := v :: rest }) target) : Steps p.tables e below (T.setTop g) target := by
  obtain ⟨cl, A, q, S, N, H, G⟩ := F
  have hi := inb_of S hj
  exact X.laload hx (j := j) (v := v) (by rw [eT]; exact A.1) (State.isArrayOf_alike hZ.alike A.2.1) A.2.2 hi (Has.at H hi hat) hg hs hd _ hr
theorem own_aaload {g : JFrame} {target : State} (X : Stand p l e R s m args below meth c T locs cells slots) (hx : p.tables.exec = Jvm.exec) (hZ : Z.Warmed39 s.vm) (eT : T.heap = h) (F : Arv Z h a k ty z vs dv) (j : Int32) (v : Value) (hj : ¬ j < 0 ∧ j < z) (hat : vs.getD j.toNatClampNeg dv = v) (hty : ty.isReference = true) (hg : g.method = m) {rest : List Value} (hs : g.stack = .int j :: .ref a :: rest) (hd : decode c.code g.pc = .ok (.aaload, 1))
    (hr : Steps p.tables e below (T.setTop { g with pc := g.pc + 1, stack := v :: rest }) target) : Steps p.tables e below (T.setTop g) target := by
  obtain ⟨cl, A, q, S, N, H, G⟩ := F
  have hi := inb_of S hj
  exact X.aaload hx (j := j) (v := v) (by rw [eT]; exact A.1) (State.isArrayOf_alike hZ.alike A.2.1) hty A.2.2 hi (Has.at H hi hat) hg hs hd _ hr
theorem own_alen {g : JFrame} {target : State} (X : Stand p l e R s m args below meth c T locs cells slots) (hx : p.tables.exec = Jvm.exec) (hZ : Z.Warmed39 s.vm) (eT : T.heap = h) (F : Arv Z h a k ty z vs dv) (hg : g.method = m) {rest : List Value} (hs : g.stack = .ref a :: rest) (hd : decode c.code g.pc = .ok (.arraylength, 1))
    (hr : Steps p.tables e below (T.setTop { g with pc := g.pc + 1, stack := .int z :: rest }) target) : Steps p.tables e below (T.setTop g) target := by
  obtain ⟨cl, A, q, S, N, -, -⟩ := F
  exact X.arraylength hx (by rw [eT]; exact A.1) (State.isArrayOf_alike hZ.alike A.2.1) hg hs hd _ (by rw [len_of S N]; exact hr)
theorem own_stI {K : State → Outcome → Prop} {n0 : Nat} (X : Stand p l e R s m args below meth c T locs cells slots) (hx : p.tables.exec = Jvm.exec) (hZ : Z.Warmed39 s.vm) (eT : T.heap = h) (F : Arv Z h a k .int z vs dv) (j : Int32) (x : Int32) (i : Nat) (hj : ¬ j < 0 ∧ j < z) (hi : j.toNatClampNeg = i) (hl : i < vs.length) (vs' : List Value) (hv : vs.set i (.int x) = vs') (N : Fr n0 locs) (ge : n0 ≤ a) {pc : Nat} {Ls : Array Slot} {rest : List Value} (hd : decode c.code pc = .ok (.iastore, 1))
    (kk : ∀ (T' : State) (h' : Heap) (L' : List Loc), Stand p l e R s m args below meth c T' L' cells slots → T'.heap = h' → Wr h h' a i (.int x) → Fr n0 L' → Arv Z h' a k .int z vs' dv → oG p e below K (T'.setTop (mkF m (pc + 1) Ls rest))) : oG p e below K (T.setTop (mkF m pc Ls (.int x :: .int j :: .ref a :: rest))) := by
  obtain ⟨cl, A, q, S, M, H, G⟩ := F
  subst hi; subst hv
  obtain ⟨T', h', X', e', W, st⟩ := stI X hx hZ eT A (j := j) (inb_of S hj) (g := mkF m pc Ls (.int x :: .int j :: .ref a :: rest)) rfl rfl hd
  exact og st (kk T' h' _ X' e' W (Fr.snoc X' N ge) (Arv.set A q S M H G rfl W _ rfl hl))
theorem own_stJ {K : State → Outcome → Prop} {n0 : Nat} (X : Stand p l e R s m args below meth c T locs cells slots) (hx : p.tables.exec = Jvm.exec) (hZ : Z.Warmed39 s.vm) (eT : T.heap = h) (F : Arv Z h a k .long z vs dv) (j : Int32) (x : Int64) (i : Nat) (hj : ¬ j < 0 ∧ j < z) (hi : j.toNatClampNeg = i) (hl : i < vs.length) (vs' : List Value) (hv : vs.set i (.long x) = vs') (N : Fr n0 locs) (ge : n0 ≤ a) {pc : Nat} {Ls : Array Slot} {rest : List Value} (hd : decode c.code pc = .ok (.lastore, 1))
    (kk : ∀ (T' : State) (h' : Heap) (L' : List Loc), Stand p l e R s m args below meth c T' L' cells slots → T'.heap = h' → Wr h h' a i (.long x) → Fr n0 L' → Arv Z h' a k .long z vs' dv → oG p e below K (T'.setTop (mkF m (pc + 1) Ls rest))) : oG p e below K (T.setTop (mkF m pc Ls (.long x :: .int j :: .ref a :: rest))) := by
  obtain ⟨cl, A, q, S, M, H, G⟩ := F
  subst hi; subst hv
  obtain ⟨T', h', X', e', W, st⟩ := stJ X hx hZ eT A (j := j) (inb_of S hj) (g := mkF m pc Ls (.long x :: .int j :: .ref a :: rest)) rfl rfl hd
  exact og st (kk T' h' _ X' e' W (Fr.snoc X' N ge) (Arv.set A q S M H G rfl W _ rfl hl))
theorem own_stB {K : State → Outcome → Prop} {n0 : Nat} (X : Stand p l e R s m args below meth c T locs cells slots) (hx : p.tables.exec = Jvm.exec) (hZ : Z.Warmed39 s.vm) (eT : T.heap = h) (F : Arv Z h a k .byte z vs dv) (j : Int32) (x x' : Int32) (i : Nat) (hj : ¬ j < 0 ∧ j < z) (hi : j.toNatClampNeg = i) (hl : i < vs.length) (hn : nar .byte x = x') (vs' : List Value) (hv : vs.set i (.int x') = vs') (N : Fr n0 locs) (ge : n0 ≤ a) {pc : Nat} {Ls : Array Slot} {rest : List Value} (hd : decode c.code pc = .ok (.bastore, 1))
    (kk : ∀ (T' : State) (h' : Heap) (L' : List Loc), Stand p l e R s m args below meth c T' L' cells slots → T'.heap = h' → Wr h h' a i (.int x') → Fr n0 L' → Arv Z h' a k .byte z vs' dv → oG p e below K (T'.setTop (mkF m (pc + 1) Ls rest))) : oG p e below K (T.setTop (mkF m pc Ls (.int x :: .int j :: .ref a :: rest))) := by
  obtain ⟨cl, A, q, S, M, H, G⟩ := F
  subst hn; subst hi; subst hv
  obtain ⟨T', h', X', e', W, st⟩ := stB X hx hZ eT A (j := j) (inb_of S hj) (g := mkF m pc Ls (.int x :: .int j :: .ref a :: rest)) rfl rfl hd
  exact og st (kk T' h' _ X' e' W (Fr.snoc X' N ge) (Arv.set A q S M H G (fits_nar_byte _) W _ rfl hl))
theorem own_stZ {K : State → Outcome → Prop} {n0 : Nat} (X : Stand p l e R s m args below meth c T locs cells slots) (hx : p.tables.exec = Jvm.exec) (hZ : Z.Warmed39 s.vm) (eT : T.heap = h) (F : Arv Z h a k .boolean z vs dv) (j : Int32) (x x' : Int32) (i : Nat) (hj : ¬ j < 0 ∧ j < z) (hi : j.toNatClampNeg = i) (hl : i < vs.length) (hn : nar .boolean x = x') (vs' : List Value) (hv : vs.set i (.int x') = vs') (N : Fr n0 locs) (ge : n0 ≤ a) {pc : Nat} {Ls : Array Slot} {rest : List Value} (hd : decode c.code pc = .ok (.bastore, 1))
    (kk : ∀ (T' : State) (h' : Heap) (L' : List Loc), Stand p l e R s m args below meth c T' L' cells slots → T'.heap = h' → Wr h h' a i (.int x') → Fr n0 L' → Arv Z h' a k .boolean z vs' dv → oG p e below K (T'.setTop (mkF m (pc + 1) Ls rest))) : oG p e below K (T.setTop (mkF m pc Ls (.int x :: .int j :: .ref a :: rest))) := by
  obtain ⟨cl, A, q, S, M, H, G⟩ := F
  subst hn; subst hi; subst hv
  obtain ⟨T', h', X', e', W, st⟩ := stZ X hx hZ eT A (j := j) (inb_of S hj) (g := mkF m pc Ls (.int x :: .int j :: .ref a :: rest)) rfl rfl hd
  exact og st (kk T' h' _ X' e' W (Fr.snoc X' N ge) (Arv.set A q S M H G (fits_nar_bool _) W _ rfl hl))
theorem own_stC {K : State → Outcome → Prop} {n0 : Nat} (X : Stand p l e R s m args below meth c T locs cells slots) (hx : p.tables.exec = Jvm.exec) (hZ : Z.Warmed39 s.vm) (eT : T.heap = h) (F : Arv Z h a k .char z vs dv) (j : Int32) (x x' : Int32) (i : Nat) (hj : ¬ j < 0 ∧ j < z) (hi : j.toNatClampNeg = i) (hl : i < vs.length) (hn : nar .char x = x') (vs' : List Value) (hv : vs.set i (.int x') = vs') (N : Fr n0 locs) (ge : n0 ≤ a) {pc : Nat} {Ls : Array Slot} {rest : List Value} (hd : decode c.code pc = .ok (.castore, 1))
    (kk : ∀ (T' : State) (h' : Heap) (L' : List Loc), Stand p l e R s m args below meth c T' L' cells slots → T'.heap = h' → Wr h h' a i (.int x') → Fr n0 L' → Arv Z h' a k .char z vs' dv → oG p e below K (T'.setTop (mkF m (pc + 1) Ls rest))) : oG p e below K (T.setTop (mkF m pc Ls (.int x :: .int j :: .ref a :: rest))) := by
  obtain ⟨cl, A, q, S, M, H, G⟩ := F
  subst hn; subst hi; subst hv
  obtain ⟨T', h', X', e', W, st⟩ := stC X hx hZ eT A (j := j) (inb_of S hj) (g := mkF m pc Ls (.int x :: .int j :: .ref a :: rest)) rfl rfl hd
  exact og st (kk T' h' _ X' e' W (Fr.snoc X' N ge) (Arv.set A q S M H G (fits_nar_char _) W _ rfl hl))
theorem own_stS {K : State → Outcome → Prop} {n0 : Nat} (X : Stand p l e R s m args below meth c T locs cells slots) (hx : p.tables.exec = Jvm.exec) (hZ : Z.Warmed39 s.vm) (eT : T.heap = h) (F : Arv Z h a k .short z vs dv) (j : Int32) (x x' : Int32) (i : Nat) (hj : ¬ j < 0 ∧ j < z) (hi : j.toNatClampNeg = i) (hl : i < vs.length) (hn : nar .short x = x') (vs' : List Value) (hv : vs.set i (.int x') = vs') (N : Fr n0 locs) (ge : n0 ≤ a) {pc : Nat} {Ls : Array Slot} {rest : List Value} (hd : decode c.code pc = .ok (.sastore, 1))
    (kk : ∀ (T' : State) (h' : Heap) (L' : List Loc), Stand p l e R s m args below meth c T' L' cells slots → T'.heap = h' → Wr h h' a i (.int x') → Fr n0 L' → Arv Z h' a k .short z vs' dv → oG p e below K (T'.setTop (mkF m (pc + 1) Ls rest))) : oG p e below K (T.setTop (mkF m pc Ls (.int x :: .int j :: .ref a :: rest))) := by
  obtain ⟨cl, A, q, S, M, H, G⟩ := F
  subst hn; subst hi; subst hv
  obtain ⟨T', h', X', e', W, st⟩ := stS X hx hZ eT A (j := j) (inb_of S hj) (g := mkF m pc Ls (.int x :: .int j :: .ref a :: rest)) rfl rfl hd
  exact og st (kk T' h' _ X' e' W (Fr.snoc X' N ge) (Arv.set A q S M H G (fits_nar_short _) W _ rfl hl))
theorem own_stR {K : State → Outcome → Prop} {n0 : Nat} (X : Stand p l e R s m args below meth c T locs cells slots) (hx : p.tables.exec = Jvm.exec) (hZ : Z.Warmed39 s.vm) (eT : T.heap = h) (F : Arv Z h a k ty z vs dv) (j : Int32) (v : Value) (i : Nat) (hj : ¬ j < 0 ∧ j < z) (hi : j.toNatClampNeg = i) (hl : i < vs.length) (sto : ∀ cl : Cell, Arr Z h a cl ty → cl.cls = k → Sto Z h a v) (hty : ty.isReference = true) (vs' : List Value) (hv : vs.set i v = vs') (N : Fr n0 locs) (ge : n0 ≤ a) {pc : Nat} {Ls : Array Slot} {rest : List Value} (hd : decode c.code pc = .ok (.aastore, 1))
    (kk : ∀ (T' : State) (h' : Heap) (L' : List Loc), Stand p l e R s m args below meth c T' L' cells slots → T'.heap = h' → Wr h h' a i v → Fr n0 L' → Arv Z h' a k ty z vs' dv → oG p e below K (T'.setTop (mkF m (pc + 1) Ls rest))) : oG p e below K (T.setTop (mkF m pc Ls (v :: .int j :: .ref a :: rest))) := by
  obtain ⟨cl, A, q, S, M, H, G⟩ := F
  subst hi; subst hv
  have so := sto cl A q
  obtain ⟨T', h', X', e', W, st⟩ := stR X hx hZ eT A (j := j) (inb_of S hj) hty so (g := mkF m pc Ls (v :: .int j :: .ref a :: rest)) rfl rfl hd
  have fv : fits ty v = true := by
    rcases so with rfl | ⟨_, _, _, _, _, _, _, y, _, _, _, _, rfl, _⟩ <;> cases ty <;> first | rfl | cases hty
  exact og st (kk T' h' _ X' e' W (Fr.snoc X' N ge) (Arv.set A q S M H G fv W _ rfl hl))
end Arrays
section Calls
variable {own : String} {index : Nat} {y z : MethodName} {bytes : ByteArray} {maxL : Nat} {ret : Option FieldType} {rm : Room} {W : Nat} {as' : Array Value} {Z : State} {a0 : Array Value} {h : Heap} {K : State → Outcome → Prop} {pc : Nat} {Ls : Array Slot} {argsL rest stk : List Value} {C : String} {b : Addr}
theorem own_cs (X : Stand p l e R s m args below meth c T locs cells slots) (hx : p.tables.exec = Jvm.exec) (hZ : Z.Warmed39 s.vm) (hown : s.vm.findClass own = some m.cls) (w1 : (Cond.methodLink own index y).before a0 Z = true) (w2 : (Cond.static y).before a0 Z = true) (w3 : (Cond.initialized y.cls).before a0 Z = true) (w4 : (Cond.code y bytes maxL ret).before a0 Z = true)
    (hy : y.cls ≠ "java/lang/invoke/MethodHandle" ∧ y.cls ≠ "java/lang/invoke/VarHandle")
    (hM : MetFree l y (head1 [Cond.code y bytes maxL ret] rm) (fun a U => a = as' ∧ Z.Warmed39 U.vm ∧ U.heap = h) (fun _ _ _ _ _ => True) (fun _ U o U' => ∃ v L, o = .returned v ∧ Q v U'.heap L ∧ FrameEnd U o U' L rm.cells rm.slots))
    (hf : rm.frames + 1 ≤ R.frames) (hl : W + (maxL + 11) + rm.locals ≤ R.locals) (hc : cells + rm.cells ≤ R.cells) (hs : slots + rm.slots ≤ R.slots) (eT : T.heap = h) (hsz : Ls.size = c.maxLocals) (hlen : ∀ sig, parseMethodDescriptor y.desc = some sig → argsL.length = sig.parameters.length)
    (hst : stk = argsL.reverse ++ rest) (has : argsL.toArray = as') (hW : (rest.map fun v => v.category).sum ≤ W) (hd : decode c.code pc = .ok (.invokestatic index, 3))
    (k : ∀ (v : Option Value) (T' : State) (L : List Loc), Stand p l e R s m args below meth c T' (locs ++ L) (cells + rm.cells) (slots + rm.slots) → Q v T'.heap L → oG p e below K (T'.setTop (mkF m (pc + 3) Ls (v.toList ++ rest)))) : oG p e below K (T.setTop (mkF m pc Ls stk)) := by
  obtain ⟨v, _, ⟨T', L', k', n'⟩, -, X', ⟨L, hQ, h1, h2, h3⟩, st⟩ := Jvm.LawKit.callS X hx (y := y) hown (mvT hZ w1) (mvT hZ w2) (mvT hZ w3) (mvT hZ w4) hy (backOf (W := W) hM hZ w4 w3 hf hl) (g := mkF m pc Ls stk) rfl hsz (argsL := argsL) (rest := rest) hlen hst (by show 2 * 0 + _ ≤ _; simpa using hW) hd (fun _ _ => ⟨has, eT, hc, hs⟩)
  dsimp only [Pt.U, Pt.locs, Pt.cells, Pt.slots] at X' h1 h2 h3 st hQ
  subst h1 h2 h3
  exact og st (k v T' L X' hQ)
theorem own_cp (X : Stand p l e R s m args below meth c T locs cells slots) (hx : p.tables.exec = Jvm.exec) (hZ : Z.Warmed39 s.vm) (hown : s.vm.findClass own = some m.cls) (hy1 : y.name = "<init>") (w1 : (Cond.methodLink own index y).before a0 Z = true) (w2 : (Cond.instanceMethod y).before a0 Z = true) (w3 : (Cond.initialized y.cls).before a0 Z = true) (w4 : (Cond.code y bytes maxL none).before a0 Z = true)
    (hy : y.cls ≠ "java/lang/invoke/MethodHandle" ∧ y.cls ≠ "java/lang/invoke/VarHandle")
    (hM : MetFree l y (head1 [Cond.code y bytes maxL none] rm) (fun a U => a = as' ∧ Z.Warmed39 U.vm ∧ U.heap = h) (fun _ _ _ _ _ => True) (fun _ U o U' => ∃ v L, o = .returned v ∧ Q v U'.heap L ∧ FrameEnd U o U' L rm.cells rm.slots))
    (hf : rm.frames + 1 ≤ R.frames) (hl : W + (maxL + 11) + rm.locals ≤ R.locals) (hc : cells + rm.cells ≤ R.cells) (hs : slots + rm.slots ≤ R.slots) (eT : T.heap = h) (hsz : Ls.size = c.maxLocals) (hlen : ∀ sig, parseMethodDescriptor y.desc = some sig → argsL.length = sig.parameters.length)
    (hst : stk = argsL.reverse ++ .ref b :: rest) (has : (.ref b :: argsL).toArray = as') (hW : (rest.map fun v => v.category).sum ≤ W) (hd : decode c.code pc = .ok (.invokespecial index, 3))
    (k : ∀ (v : Option Value) (T' : State) (L : List Loc), Stand p l e R s m args below meth c T' (locs ++ L) (cells + rm.cells) (slots + rm.slots) → Q v T'.heap L → oG p e below K (T'.setTop (mkF m (pc + 3) Ls (v.toList ++ rest)))) : oG p e below K (T.setTop (mkF m pc Ls stk)) := by
  obtain ⟨v, _, ⟨T', L', k', n'⟩, -, X', ⟨L, hQ, h1, h2, h3⟩, st⟩ := X.specialBack hx (y := y) hy1 hown (mvT hZ w1) (mvT hZ w2) (mvT hZ w4) hy (backOf (W := W) hM hZ w4 w3 hf hl) (g := mkF m pc Ls stk) rfl hsz (Steps.refl _) (a := b) (argsL := argsL) (rest := rest) hlen hst (by show 2 * 0 + _ ≤ _; simpa using hW) hd (fun _ _ => ⟨has, eT, hc, hs⟩)
  dsimp only [Pt.U, Pt.locs, Pt.cells, Pt.slots] at X' h1 h2 h3 st hQ
  subst h1 h2 h3
  exact own_via st (k v T' L X' hQ)
theorem own_cv (X : Stand p l e R s m args below meth c T locs cells slots) (hx : p.tables.exec = Jvm.exec) (hZ : Z.Warmed39 s.vm) (hown : s.vm.findClass own = some m.cls) (nf : NotFace s y) (w1 : (Cond.methodLink own index y).before a0 Z = true) (w2 : (Cond.declares y).before a0 Z = true) (w5 : (Cond.selects C y z).before a0 Z = true) (w6 : (Cond.instanceMethod z).before a0 Z = true) (w3 : (Cond.initialized z.cls).before a0 Z = true) (w4 : (Cond.code z bytes maxL ret).before a0 Z = true)
    (hy : y.cls ≠ "java/lang/invoke/MethodHandle" ∧ y.cls ≠ "java/lang/invoke/VarHandle") (E : Exa Z h b C)
    (hM : MetFree l z (head1 [Cond.code z bytes maxL ret] rm) (fun a U => a = as' ∧ Z.Warmed39 U.vm ∧ U.heap = h) (fun _ _ _ _ _ => True) (fun _ U o U' => ∃ v L, o = .returned v ∧ Q v U'.heap L ∧ FrameEnd U o U' L rm.cells rm.slots))
    (hf : rm.frames + 1 ≤ R.frames) (hl : W + (maxL + 11) + rm.locals ≤ R.locals) (hc : cells + rm.cells ≤ R.cells) (hs : slots + rm.slots ≤ R.slots) (eT : T.heap = h) (hsz : Ls.size = c.maxLocals) (hlen : ∀ sig, parseMethodDescriptor y.desc = some sig → argsL.length = sig.parameters.length)
    (hst : stk = argsL.reverse ++ .ref b :: rest) (has : (.ref b :: argsL).toArray = as') (hW : (rest.map fun v => v.category).sum ≤ W) (hd : decode c.code pc = .ok (.invokevirtual index, 3))
    (k : ∀ (v : Option Value) (T' : State) (L : List Loc), Stand p l e R s m args below meth c T' (locs ++ L) (cells + rm.cells) (slots + rm.slots) → Q v T'.heap L → oG p e below K (T'.setTop (mkF m (pc + 3) Ls (v.toList ++ rest)))) : oG p e below K (T.setTop (mkF m pc Ls stk)) := by
  obtain ⟨cq, kq, qa, qb, qc⟩ := isOf hZ eT E
  obtain ⟨v, _, ⟨T', L', k', n'⟩, -, X', ⟨L, hQ, h1, h2, h3⟩, st⟩ := X.virtualBack hx (y := y) (z := z) hown (mvT hZ w1) (mvT hZ w2) nf (mvT hZ w5) (mvT hZ w6) hy (backOf (W := W) hM hZ w4 w3 hf hl) qa qc (g := mkF m pc Ls stk) rfl hsz (Steps.refl _) (argsL := argsL) (rest := rest) hlen hst (by show 2 * 0 + _ ≤ _; simpa using hW) hd (fun _ _ => ⟨has, eT, hc, hs⟩)
  dsimp only [Pt.U, Pt.locs, Pt.cells, Pt.slots] at X' h1 h2 h3 st hQ
  subst h1 h2 h3
  exact own_via st (k v T' L X' hQ)
theorem own_cq (X : Stand p l e R s m args below meth c T locs cells slots) (hx : p.tables.exec = Jvm.exec) (hZ : Z.Warmed39 s.vm) (hown : s.vm.findClass own = some m.cls) (w1 : (Cond.methodLink own index y).before a0 Z = true) (w6 : (Cond.instanceMethod y).before a0 Z = true) (w5 : (Cond.selects y.cls y y).before a0 Z = true) (w7 : (Cond.privateMethod y).before a0 Z = true) (w3 : (Cond.initialized y.cls).before a0 Z = true) (w4 : (Cond.code y bytes maxL ret).before a0 Z = true)
    (hy : y.cls ≠ "java/lang/invoke/MethodHandle" ∧ y.cls ≠ "java/lang/invoke/VarHandle") (E : Exa Z h b C)
    (hM : MetFree l y (head1 [Cond.code y bytes maxL ret] rm) (fun a U => a = as' ∧ Z.Warmed39 U.vm ∧ U.heap = h) (fun _ _ _ _ _ => True) (fun _ U o U' => ∃ v L, o = .returned v ∧ Q v U'.heap L ∧ FrameEnd U o U' L rm.cells rm.slots))
    (hf : rm.frames + 1 ≤ R.frames) (hl : W + (maxL + 11) + rm.locals ≤ R.locals) (hc : cells + rm.cells ≤ R.cells) (hs : slots + rm.slots ≤ R.slots) (eT : T.heap = h) (hsz : Ls.size = c.maxLocals) (hlen : ∀ sig, parseMethodDescriptor y.desc = some sig → argsL.length = sig.parameters.length)
    (hst : stk = argsL.reverse ++ .ref b :: rest) (has : (.ref b :: argsL).toArray = as') (hW : (rest.map fun v => v.category).sum ≤ W) (hd : decode c.code pc = .ok (.invokevirtual index, 3))
    (k : ∀ (v : Option Value) (T' : State) (L : List Loc), Stand p l e R s m args below meth c T' (locs ++ L) (cells + rm.cells) (slots + rm.slots) → Q v T'.heap L → oG p e below K (T'.setTop (mkF m (pc + 3) Ls (v.toList ++ rest)))) : oG p e below K (T.setTop (mkF m pc Ls stk)) := by
  obtain ⟨cq, q1, q2⟩ := E.cell
  obtain ⟨v, _, ⟨T', L', k', n'⟩, -, X', ⟨L, hQ, h1, h2, h3⟩, st⟩ := X.privateBack hx (y := y) hown (mvT hZ w1) (mvT hZ w6) (mvT hZ w5) (Cond.privateMethod_at (mvP hZ w7 (args := #[]))) (mvT hZ w4) hy (backOf (W := W) hM hZ w4 w3 hf hl) (g := mkF m pc Ls stk) rfl hsz (Steps.refl _) (a := b) (by rw [eT]; exact q1) q2 (argsL := argsL) (rest := rest) hlen hst (by show 2 * 0 + _ ≤ _; simpa using hW) hd (fun _ _ => ⟨has, eT, hc, hs⟩)
  dsimp only [Pt.U, Pt.locs, Pt.cells, Pt.slots] at X' h1 h2 h3 st hQ
  subst h1 h2 h3
  exact own_via st (k v T' L X' hQ)
theorem own_cu {owner : String} (X : Stand p l e R s m args below meth c T locs cells slots) (hx : p.tables.exec = Jvm.exec) (hZ : Z.Warmed39 s.vm) (hown : s.vm.findClass own = some m.cls) (w1 : (Cond.methodLink own index y).before a0 Z = true) (w8 : (Cond.sameMethod y.cls owner y.name y.desc).before a0 Z = true) (w2 : (Cond.declares ⟨owner, y.name, y.desc⟩).before a0 Z = true) (w5 : (Cond.selects C y z).before a0 Z = true) (w6 : (Cond.instanceMethod z).before a0 Z = true) (w3 : (Cond.initialized z.cls).before a0 Z = true) (w4 : (Cond.code z bytes maxL ret).before a0 Z = true)
    (hy : owner ≠ "java/lang/invoke/MethodHandle" ∧ owner ≠ "java/lang/invoke/VarHandle") (E : Exa Z h b C)
    (hM : MetFree l z (head1 [Cond.code z bytes maxL ret] rm) (fun a U => a = as' ∧ Z.Warmed39 U.vm ∧ U.heap = h) (fun _ _ _ _ _ => True) (fun _ U o U' => ∃ v L, o = .returned v ∧ Q v U'.heap L ∧ FrameEnd U o U' L rm.cells rm.slots))
    (hf : rm.frames + 1 ≤ R.frames) (hl : W + (maxL + 11) + rm.locals ≤ R.locals) (hc : cells + rm.cells ≤ R.cells) (hs : slots + rm.slots ≤ R.slots) (eT : T.heap = h) (hsz : Ls.size = c.maxLocals) (hlen : ∀ sig, parseMethodDescriptor y.desc = some sig → argsL.length = sig.parameters.length)
    (hst : stk = argsL.reverse ++ .ref b :: rest) (has : (.ref b :: argsL).toArray = as') (hW : (rest.map fun v => v.category).sum ≤ W) (hd : decode c.code pc = .ok (.invokevirtual index, 3))
    (k : ∀ (v : Option Value) (T' : State) (L : List Loc), Stand p l e R s m args below meth c T' (locs ++ L) (cells + rm.cells) (slots + rm.slots) → Q v T'.heap L → oG p e below K (T'.setTop (mkF m (pc + 3) Ls (v.toList ++ rest)))) : oG p e below K (T.setTop (mkF m pc Ls stk)) := by
  obtain ⟨cq, kq, qa, qb, qc⟩ := isOf hZ eT E
  obtain ⟨v, _, ⟨T', L', k', n'⟩, -, X', ⟨L, hQ, h1, h2, h3⟩, st⟩ := X.virtualBackUp hx (x := y) (y := z) (owner := owner) hown (mvT hZ w1) (mvT hZ w8) (mvT hZ w2) hy (mvT hZ w5) (mvT hZ w6) (backOf (W := W) hM hZ w4 w3 hf hl) qa qc (g := mkF m pc Ls stk) rfl hsz (Steps.refl _) (argsL := argsL) (rest := rest) hlen hst (by show 2 * 0 + _ ≤ _; simpa using hW) hd (fun _ _ => ⟨has, eT, hc, hs⟩)
  dsimp only [Pt.U, Pt.locs, Pt.cells, Pt.slots] at X' h1 h2 h3 st hQ
  subst h1 h2 h3
  exact own_via st (k v T' L X' hQ)
end Calls
theorem own_fld_eq {Z : State} {h : Heap} {a : Addr} {C n d : String} {v w : Value} (F : Fld Z h a C n d v) (G : Fld Z h a C n d w) : v = w := Classical.byContradiction fun q => Fld.ne F G q rfl
theorem own_nsroot {Z : State} {a0 : Array Value} {O K : String} {n : Nat} (w : (Cond.noSuperclass O).before a0 Z = true) (wk : (Cond.instantiable K n).before a0 Z = true) (hn : O ≠ K) : NS Z O K := by
  obtain ⟨c, k, h1, h2, h3, -, -⟩ := Cond.noSuperclass_spec w
  obtain ⟨t, kt, g1, -⟩ := Cond.instantiable_spec wk
  have ne := ids_ne h1 g1 hn
  refine ⟨c, t, h1, g1, fun fuel => ?_⟩
  cases fuel with
  | zero => rfl
  | succ f => simp [Vm.isSubclassAux, ne, h2, h3]
theorem own_nsno {Z : State} {a0 : Array Value} {C S K : String} {n : Nat} (w : (Cond.superclass C S).before a0 Z = true) (wk : (Cond.instantiable K n).before a0 Z = true) (nn : NS Z C K) (hn : C ≠ K) : ∃ c t, Z.vm.findClass C = some c ∧ Z.vm.findClass K = some t ∧ Z.vm.assignable c t = false := by
  obtain ⟨c, t, h0, g0, n3⟩ := nn
  obtain ⟨p, k, kp, h1, h2, h3, h4, h5, -, h7⟩ := Cond.superclass_spec h0 w
  obtain ⟨t', kt, g1, g2, g5, g6, -⟩ := Cond.instantiable_spec wk
  cases g0.symm.trans g1
  have g7 : kt.isInterface = false := by simp only [Bool.or_eq_false_iff] at g6; exact g6.1
  have ne := ids_ne h0 g0 hn
  refine ⟨c, t, h0, g0, ?_⟩
  show Z.vm.assignableAux (255 + 1) c t = false
  simp [Vm.assignableAux, ne, h2, g2, h5, g5, g7, Vm.isSubclass, n3]
theorem own_arv_ne {Z : State} {h : Heap} {a b : Addr} {k1 k2 : ClassId} {t1 t2 : FieldType} {z1 z2 : Int32} {v1 v2 : List Value} {d1 d2 : Value} (A : Arv Z h a k1 t1 z1 v1 d1) (B : Arv Z h b k2 t2 z2 v2 d2) (q : ¬ z1 = z2) : a ≠ b := by
  refine arv_ne A B (Or.inl fun e => q ?_)
  obtain ⟨_, -, -, -, n1, -⟩ := A
  obtain ⟨_, -, -, -, n2, -⟩ := B
  simp only [Int32.lt_iff_toInt_lt, Int32.reduceToInt, Int32.toNatClampNeg] at n1 n2 e
  apply Int32.toInt_inj.mp
  omega
theorem own_ns_exa {Z : State} {h : Heap} {a : Addr} {C : String} (F : Exa Z h a C) : ∀ cell : Cell, h[a]? = some cell → cell.vm.isStatics = false := fun cell hc => by
  obtain ⟨c, _, h1, -, -, h4, -⟩ := F; cases h1.symm.trans hc; exact h4
theorem own_ns_arv {Z : State} {h : Heap} {a : Addr} {k : ClassId} {ty : FieldType} {z : Int32} {vs : List Value} {dv : Value} (F : Arv Z h a k ty z vs dv) : ∀ cell : Cell, h[a]? = some cell → cell.vm.isStatics = false := fun cell hc => by
  obtain ⟨c, A, -⟩ := F; cases A.1.symm.trans hc; exact A.plain
theorem own_sta_keep {Z : State} {h h' : Heap} {C f d : String} {v : Value} {ws : List Addr} (F : Sta Z h C f d v) (K : Keep h h' ws) (q : ∀ x ∈ ws, ∀ cell : Cell, h[x]? = some cell → cell.vm.isStatics = false) : Sta Z h' C f d v := by
  obtain ⟨cf, i, k, fl, st, cell, h1, h2, h3, h4, h5, h6, h7⟩ := F
  exact ⟨cf, i, k, fl, st, cell, h1, h2, h3, h4, K.2.1 _ _ h5 (fun hm => by rw [q _ hm _ h5] at h6; cases h6), h6, h7⟩
section Wide
variable {vm0 : Vm} {Z : State} {a0 : Array Value} {EL : List (String × Nat)} {h h0 : Heap}
def own_KW (Z : State) (EL : List (String × Nat)) (s : State) (Q : Option Value → Heap → List Loc → Prop) (k n : Nat) (t : State) (o : Outcome) : Prop := ∃ v L, o = .returned v ∧ Q v t.heap L ∧ CHr Z EL s.vm s.heap t.vm t.heap ∧ ReturnedEndW s o t L k n
theorem own_endW (X : Stand p l e R (s.setVm vm0) m args below meth c T locs cells slots) {v : Option Value} (hlk : meth.locks = false) (hv : meth.sig.returnType = none → v = none) {k0 : Nat} (hS : s.Since vm0 k0) (hk0 : k0 ≤ h.size) (hZ : Z.Warmed39 vm0) (hEL : EW Z a0 EL) (hh : s.heap = h0) (eT : T.heap = h) (A : CHr Z EL s.vm h0 vm0 h) (hk : cells ≤ k) (hn : slots ≤ n) (hQ : Q v T.heap locs) {S : State}
    (st : ∀ fs, (∀ (f : JFrame) (acts : List Action), f.method = m → f.locked = none → f.entered = [] → (doReturn e (T.setTop f) acts v).1 = T.setFrames fs) → Steps p.tables e below S (T.setFrames fs)) : oG p e below (own_KW Z EL s Q k n) S := by
  subst hh eT
  obtain ⟨fs, hr, hrun, hended, hW⟩ := X.leaveW hS hk0 hv hlk
  exact ⟨_, _, st fs hr, hrun, hended, v, locs, rfl, hQ, (show CHr Z EL s.vm s.heap T.vm T.heap from A.trans (CHv.at X hZ hEL A.1)), hW.1, hW.2.1, hW.2.2.1, hW.2.2.2.mono hk hn⟩
theorem own_ret0W (X : Stand p l e R (s.setVm vm0) m args below meth c T locs cells slots) (hx : p.tables.exec = Jvm.exec) (hlk : meth.locks = false) (hret : meth.sig.returnType = none) {k0 : Nat} (hS : s.Since vm0 k0) (hk0 : k0 ≤ h.size) (hZ : Z.Warmed39 vm0) (hEL : EW Z a0 EL) (hh : s.heap = h0) (eT : T.heap = h) (A : CHr Z EL s.vm h0 vm0 h) {pc : Nat} {Ls : Array Slot} (hd : decode c.code pc = .ok (.return_, 1)) (hk : cells ≤ k) (hn : slots ≤ n) (hQ : Q none T.heap locs) :
    oG p e below (own_KW Z EL s Q k n) (T.setTop (mkF m pc Ls [])) := own_endW X hlk (fun _ => rfl) hS hk0 hZ hEL hh eT A hk hn hQ fun _ hr => X.returnOut hx hret hd hr
theorem own_retNW (X : Stand p l e R (s.setVm vm0) m args below meth c T locs cells slots) (hx : p.tables.exec = Jvm.exec) {t : FieldType} (hlk : meth.locks = false) (hret : meth.sig.returnType = some t) {k0 : Nat} (hS : s.Since vm0 k0) (hk0 : k0 ≤ h.size) (hZ : Z.Warmed39 vm0) (hEL : EW Z a0 EL) (hh : s.heap = h0) (eT : T.heap = h) (A : CHr Z EL s.vm h0 vm0 h) (ht : t = .boolean ∨ t = .byte ∨ t = .char ∨ t = .short) {pc : Nat} {Ls : Array Slot} {z : Int32} {rest : List Value} (hd : decode c.code pc = .ok (.ireturn, 1)) (hk : cells ≤ k) (hn : slots ≤ n) (hQ : Q (some (.int (nar t z))) T.heap locs) :
    oG p e below (own_KW Z EL s Q k n) (T.setTop (mkF m pc Ls (.int z :: rest))) := own_endW X hlk (fun h => by rw [hret] at h; cases h) hS hk0 hZ hEL hh eT A hk hn hQ fun _ hr => retN X hx hret ht hd hr
theorem own_retIW (X : Stand p l e R (s.setVm vm0) m args below meth c T locs cells slots) (hx : p.tables.exec = Jvm.exec) (hlk : meth.locks = false) (hret : meth.sig.returnType = some .int) {k0 : Nat} (hS : s.Since vm0 k0) (hk0 : k0 ≤ h.size) (hZ : Z.Warmed39 vm0) (hEL : EW Z a0 EL) (hh : s.heap = h0) (eT : T.heap = h) (A : CHr Z EL s.vm h0 vm0 h) {pc : Nat} {Ls : Array Slot} {z : Int32} {rest : List Value} (hd : decode c.code pc = .ok (.ireturn, 1)) (hk : cells ≤ k) (hn : slots ≤ n) (hQ : Q (some (.int z)) T.heap locs) :
    oG p e below (own_KW Z EL s Q k n) (T.setTop (mkF m pc Ls (.int z :: rest))) := own_endW X hlk (fun h => by rw [hret] at h; cases h) hS hk0 hZ hEL hh eT A hk hn hQ fun _ hr => retOut X hx hret rfl (Or.inl ⟨rfl, Or.inl rfl, z, rfl⟩) hd hr
theorem own_retJW (X : Stand p l e R (s.setVm vm0) m args below meth c T locs cells slots) (hx : p.tables.exec = Jvm.exec) (hlk : meth.locks = false) (hret : meth.sig.returnType = some .long) {k0 : Nat} (hS : s.Since vm0 k0) (hk0 : k0 ≤ h.size) (hZ : Z.Warmed39 vm0) (hEL : EW Z a0 EL) (hh : s.heap = h0) (eT : T.heap = h) (A : CHr Z EL s.vm h0 vm0 h) {pc : Nat} {Ls : Array Slot} {z : Int64} {rest : List Value} (hd : decode c.code pc = .ok (.lreturn, 1)) (hk : cells ≤ k) (hn : slots ≤ n) (hQ : Q (some (.long z)) T.heap locs) :
    oG p e below (own_KW Z EL s Q k n) (T.setTop (mkF m pc Ls (.long z :: rest))) := own_endW X hlk (fun h => by rw [hret] at h; cases h) hS hk0 hZ hEL hh eT A hk hn hQ fun _ hr => retOut X hx hret rfl (Or.inr (Or.inl ⟨rfl, rfl, z, rfl⟩)) hd hr
theorem own_retRW (X : Stand p l e R (s.setVm vm0) m args below meth c T locs cells slots) (hx : p.tables.exec = Jvm.exec) {t : FieldType} (hlk : meth.locks = false) (hret : meth.sig.returnType = some t) {k0 : Nat} (hS : s.Since vm0 k0) (hk0 : k0 ≤ h.size) (hZ : Z.Warmed39 vm0) (hEL : EW Z a0 EL) (hh : s.heap = h0) (eT : T.heap = h) (A : CHr Z EL s.vm h0 vm0 h) (ht : t.isReference = true) {pc : Nat} {Ls : Array Slot} {w : Value} {rest : List Value} (hw : w.isRef = true) (hd : decode c.code pc = .ok (.areturn, 1)) (hk : cells ≤ k) (hn : slots ≤ n) (hQ : Q (some w) T.heap locs) :
    oG p e below (own_KW Z EL s Q k n) (T.setTop (mkF m pc Ls (w :: rest))) := own_endW X hlk (fun h => by rw [hret] at h; cases h) hS hk0 hZ hEL hh eT A hk hn hQ fun _ hr => retOut X hx hret (by cases t <;> first | rfl | cases ht) (Or.inr (Or.inr (Or.inr (Or.inr ⟨rfl, ht, hw⟩)))) hd hr
variable {own : String} {index : Nat} {y z : MethodName} {bytes : ByteArray} {maxL : Nat} {ret : Option FieldType} {rm : Room} {W : Nat} {as' : Array Value} {K : State → Outcome → Prop} {pc : Nat} {Ls : Array Slot} {argsL rest stk : List Value} {C : String} {b : Addr}
theorem own_csW (X : Stand p l e R (s.setVm vm0) m args below meth c T locs cells slots) (hx : p.tables.exec = Jvm.exec) (hZ : Z.Warmed39 vm0) (hown : vm0.findClass own = some m.cls) (w1 : (Cond.methodLink own index y).before a0 Z = true) (w2 : (Cond.static y).before a0 Z = true) (w3 : (Cond.initialized y.cls).before a0 Z = true) (w4 : (Cond.code y bytes maxL ret).before a0 Z = true)
    (hy : y.cls ≠ "java/lang/invoke/MethodHandle" ∧ y.cls ≠ "java/lang/invoke/VarHandle")
    (hM : MetFree l y (head1 [Cond.code y bytes maxL ret] rm) (fun a U => a = as' ∧ Z.Warmed39 U.vm ∧ U.heap = h ∧ CHv Z EL U.vm h) (fun _ _ _ _ _ => True) (fun _ U o U' => ∃ v L, o = .returned v ∧ Q v U'.heap L ∧ CHr Z EL U.vm U.heap U'.vm U'.heap ∧ ReturnedEndW U o U' L rm.cells rm.slots))
    (hf : rm.frames + 1 ≤ R.frames) (hl : W + (maxL + 11) + rm.locals ≤ R.locals) (hc : cells + rm.cells ≤ R.cells) (hs : slots + rm.slots ≤ R.slots) (eT : T.heap = h) (hEL : EW Z a0 EL) (H : CHv Z EL vm0 h) {k0 : Nat} (hS : s.Since vm0 k0) (hk : k0 ≤ h.size) (hsz : Ls.size = c.maxLocals) (hlen : ∀ sig, parseMethodDescriptor y.desc = some sig → argsL.length = sig.parameters.length)
    (hst : stk = argsL.reverse ++ rest) (has : argsL.toArray = as') (hW : (rest.map fun v => v.category).sum ≤ W) (hd : decode c.code pc = .ok (.invokestatic index, 3))
    (k : ∀ (v : Option Value) (T' : State) (L : List Loc), Stand p l e R (s.setVm T'.vm) m args below meth c T' (locs ++ L) (cells + rm.cells) (slots + rm.slots) → Q v T'.heap L → CHr Z EL vm0 h T'.vm T'.heap → s.Since T'.vm T'.heap.size → Z.Warmed39 T'.vm → T'.vm.findClass own = some m.cls → oG p e below K (T'.setTop (mkF m (pc + 3) Ls (v.toList ++ rest)))) : oG p e below K (T.setTop (mkF m pc Ls stk)) := by
  obtain ⟨v, _, ⟨T', L', k', n'⟩, -, X', hS', hg, ⟨L, hQ, h1, h2, h3, hA⟩, st⟩ := callSS X hx (y := y) hown (mvT (s := s.setVm vm0) hZ w1) (mvT (s := s.setVm vm0) hZ w2) (mvT (s := s.setVm vm0) hZ w3) (mvT (s := s.setVm vm0) hZ w4) hy (backOfSH (W := W) hM hZ w4 w3 hf hl hEL H) (g := mkF m pc Ls stk) rfl hsz (argsL := argsL) (rest := rest) hlen hst (by show 2 * 0 + _ ≤ _; simpa using hW) hd (fun _ _ => ⟨has, eT, hc, hs⟩)
  dsimp only [Pt.U, Pt.locs, Pt.cells, Pt.slots] at X' h1 h2 h3 st hQ hS' hg hA
  subst h1 h2 h3
  subst eT
  exact own_via st (k v T' L X' hQ hA (foldS hS hk hS' hg) (State.Warmed39.trans (t := s.setVm vm0) hZ hS'.1) (by rw [hS'.1.alike.findClass]; exact hown))
theorem own_cpW (X : Stand p l e R (s.setVm vm0) m args below meth c T locs cells slots) (hx : p.tables.exec = Jvm.exec) (hZ : Z.Warmed39 vm0) (hown : vm0.findClass own = some m.cls) (hy1 : y.name = "<init>") (w1 : (Cond.methodLink own index y).before a0 Z = true) (w2 : (Cond.instanceMethod y).before a0 Z = true) (w3 : (Cond.initialized y.cls).before a0 Z = true) (w4 : (Cond.code y bytes maxL none).before a0 Z = true)
    (hy : y.cls ≠ "java/lang/invoke/MethodHandle" ∧ y.cls ≠ "java/lang/invoke/VarHandle")
    (hM : MetFree l y (head1 [Cond.code y bytes maxL none] rm) (fun a U => a = as' ∧ Z.Warmed39 U.vm ∧ U.heap = h ∧ CHv Z EL U.vm h) (fun _ _ _ _ _ => True) (fun _ U o U' => ∃ v L, o = .returned v ∧ Q v U'.heap L ∧ CHr Z EL U.vm U.heap U'.vm U'.heap ∧ ReturnedEndW U o U' L rm.cells rm.slots))
    (hf : rm.frames + 1 ≤ R.frames) (hl : W + (maxL + 11) + rm.locals ≤ R.locals) (hc : cells + rm.cells ≤ R.cells) (hs : slots + rm.slots ≤ R.slots) (eT : T.heap = h) (hEL : EW Z a0 EL) (H : CHv Z EL vm0 h) {k0 : Nat} (hS : s.Since vm0 k0) (hk : k0 ≤ h.size) (hsz : Ls.size = c.maxLocals) (hlen : ∀ sig, parseMethodDescriptor y.desc = some sig → argsL.length = sig.parameters.length)
    (hst : stk = argsL.reverse ++ .ref b :: rest) (has : (.ref b :: argsL).toArray = as') (hW : (rest.map fun v => v.category).sum ≤ W) (hd : decode c.code pc = .ok (.invokespecial index, 3))
    (k : ∀ (v : Option Value) (T' : State) (L : List Loc), Stand p l e R (s.setVm T'.vm) m args below meth c T' (locs ++ L) (cells + rm.cells) (slots + rm.slots) → Q v T'.heap L → CHr Z EL vm0 h T'.vm T'.heap → s.Since T'.vm T'.heap.size → Z.Warmed39 T'.vm → T'.vm.findClass own = some m.cls → oG p e below K (T'.setTop (mkF m (pc + 3) Ls (v.toList ++ rest)))) : oG p e below K (T.setTop (mkF m pc Ls stk)) := by
  obtain ⟨v, _, ⟨T', L', k', n'⟩, -, X', hS', hg, ⟨L, hQ, h1, h2, h3, hA⟩, st⟩ := X.specialBackS hx (y := y) hy1 hown (mvT (s := s.setVm vm0) hZ w1) (mvT (s := s.setVm vm0) hZ w2) (mvT (s := s.setVm vm0) hZ w4) hy (backOfSH (W := W) hM hZ w4 w3 hf hl hEL H) (g := mkF m pc Ls stk) rfl hsz (Steps.refl _) (a := b) (argsL := argsL) (rest := rest) hlen hst (by show 2 * 0 + _ ≤ _; simpa using hW) hd (fun _ _ => ⟨has, eT, hc, hs⟩)
  dsimp only [Pt.U, Pt.locs, Pt.cells, Pt.slots] at X' h1 h2 h3 st hQ hS' hg hA
  subst h1 h2 h3
  subst eT
  exact own_via st (k v T' L X' hQ hA (foldS hS hk hS' hg) (State.Warmed39.trans (t := s.setVm vm0) hZ hS'.1) (by rw [hS'.1.alike.findClass]; exact hown))
theorem own_cvW (X : Stand p l e R (s.setVm vm0) m args below meth c T locs cells slots) (hx : p.tables.exec = Jvm.exec) (hZ : Z.Warmed39 vm0) (hown : vm0.findClass own = some m.cls) (nf : NotFace (s.setVm vm0) y) (w1 : (Cond.methodLink own index y).before a0 Z = true) (w2 : (Cond.declares y).before a0 Z = true) (w5 : (Cond.selects C y z).before a0 Z = true) (w6 : (Cond.instanceMethod z).before a0 Z = true) (w3 : (Cond.initialized z.cls).before a0 Z = true) (w4 : (Cond.code z bytes maxL ret).before a0 Z = true)
    (hy : y.cls ≠ "java/lang/invoke/MethodHandle" ∧ y.cls ≠ "java/lang/invoke/VarHandle") (E : Exa Z h b C)
    (hM : MetFree l z (head1 [Cond.code z bytes maxL ret] rm) (fun a U => a = as' ∧ Z.Warmed39 U.vm ∧ U.heap = h ∧ CHv Z EL U.vm h) (fun _ _ _ _ _ => True) (fun _ U o U' => ∃ v L, o = .returned v ∧ Q v U'.heap L ∧ CHr Z EL U.vm U.heap U'.vm U'.heap ∧ ReturnedEndW U o U' L rm.cells rm.slots))
    (hf : rm.frames + 1 ≤ R.frames) (hl : W + (maxL + 11) + rm.locals ≤ R.locals) (hc : cells + rm.cells ≤ R.cells) (hs : slots + rm.slots ≤ R.slots) (eT : T.heap = h) (hEL : EW Z a0 EL) (H : CHv Z EL vm0 h) {k0 : Nat} (hS : s.Since vm0 k0) (hk : k0 ≤ h.size) (hsz : Ls.size = c.maxLocals) (hlen : ∀ sig, parseMethodDescriptor y.desc = some sig → argsL.length = sig.parameters.length)
    (hst : stk = argsL.reverse ++ .ref b :: rest) (has : (.ref b :: argsL).toArray = as') (hW : (rest.map fun v => v.category).sum ≤ W) (hd : decode c.code pc = .ok (.invokevirtual index, 3))
    (k : ∀ (v : Option Value) (T' : State) (L : List Loc), Stand p l e R (s.setVm T'.vm) m args below meth c T' (locs ++ L) (cells + rm.cells) (slots + rm.slots) → Q v T'.heap L → CHr Z EL vm0 h T'.vm T'.heap → s.Since T'.vm T'.heap.size → Z.Warmed39 T'.vm → T'.vm.findClass own = some m.cls → oG p e below K (T'.setTop (mkF m (pc + 3) Ls (v.toList ++ rest)))) : oG p e below K (T.setTop (mkF m pc Ls stk)) := by
  obtain ⟨cq, kq, qa, qb, qc⟩ := isOf (s := s.setVm vm0) hZ eT E
  obtain ⟨v, _, ⟨T', L', k', n'⟩, -, X', hS', hg, ⟨L, hQ, h1, h2, h3, hA⟩, st⟩ := X.virtualBackS hx (y := y) (z := z) hown (mvT (s := s.setVm vm0) hZ w1) (mvT (s := s.setVm vm0) hZ w2) nf (mvT (s := s.setVm vm0) hZ w5) (mvT (s := s.setVm vm0) hZ w6) hy (backOfSH (W := W) hM hZ w4 w3 hf hl hEL H) qa qc (g := mkF m pc Ls stk) rfl hsz (Steps.refl _) (argsL := argsL) (rest := rest) hlen hst (by show 2 * 0 + _ ≤ _; simpa using hW) hd (fun _ _ => ⟨has, eT, hc, hs⟩)
  dsimp only [Pt.U, Pt.locs, Pt.cells, Pt.slots] at X' h1 h2 h3 st hQ hS' hg hA
  subst h1 h2 h3
  subst eT
  exact own_via st (k v T' L X' hQ hA (foldS hS hk hS' hg) (State.Warmed39.trans (t := s.setVm vm0) hZ hS'.1) (by rw [hS'.1.alike.findClass]; exact hown))
/-- a String whose array isn't laid yet is nobody's constant -/
theorem own_safe_null {vm : Vm} {a : Addr} (hal : Z.vm.Alike vm) (E : Exa Z h a "java/lang/String") (F : Fld Z h a "java/lang/String" "value" "[B" .null) : Safe Z EL vm h a := fun B => by
  obtain ⟨p, -, u, a', -, q, rfl, G, r⟩ := B
  obtain ⟨cS, ⟨⟨s1, -, -, ⟨cv, kv, iv, s4, -⟩, -, -, -, s8, -⟩, -⟩, -, hB, -⟩ := id G
  have hd := G.hd
  rcases r with rfl | rfl
  · obtain ⟨cell, cf, k, i, f, h1, h2, -, -, -, -, h7⟩ := F
    cases h1.symm.trans s1
    obtain ⟨k', e3, -⟩ := State.fieldFound?_setVm (s := Z) hal h2
    have e4 := (show (Wst Z vm h).fieldFound? _ _ _ = _ from e3).symm.trans s4
    simp only [Option.some.injEq, Prod.mk.injEq] at e4
    rw [e4.2.2.2, s8] at h7
    cases h7
  · obtain ⟨cell, k, h1, h2, -⟩ := E
    cases h1.symm.trans hd
    have h3 : vm.findClass "[B" = some q.SA.cls := hB
    rw [hal.findClass] at h3
    obtain ⟨k1, a1, a2⟩ := Vm.findClass_spec h2
    obtain ⟨k2, b1, b2⟩ := Vm.findClass_spec h3
    cases a1.symm.trans b1
    exact absurd (a2.symm.trans b2) (by decide)
end Wide
end Own
end Jvm.RoadKit
/- laws to paste: Road.backV, Road.eqW, Road.codOf (cut by pick.py; bodies as the Statement names them) -/
namespace Jvm.Pilot.@@N@@
namespace StrChars
open Jvm Sem ClassFile Op Lib Jvm.Stand Jvm.Free.XT Jvm.Free.ALB Jvm.Free.JM Jvm.Free
open Jvm.Lib.Cold (StaticIs)
/-- a char array whose places are chars -/
def Ch (a : Addr) (A : Cell) (U : State) : Prop := Arr .char a A U ∧ Typed .char A
theorem Ch.mv {a : Addr} {A : Cell} {U U' : State} (h : Ch a A U) (hal : U.vm.Alike U'.vm) (hh : U'.heap = U.heap) : Ch a A U' := ⟨h.1.mv hal hh, h.2⟩
theorem Ch.keep {a : Addr} {A : Cell} {U U' : State} (h : Ch a A U) (hal : U.vm.Alike U'.vm) (hk : U'.heap[a]? = some A) : Ch a A U' := ⟨h.1.keep hal hk, h.2⟩
/-- what place i of a char[]'s cell holds -/
def cv (A : Cell) (i : Nat) : Int32 := match A.slots[i]? with | some (.int x) => x | _ => 0
theorem Ch.get {a : Addr} {A : Cell} {U : State} (h : Ch a A U) {i : Nat} (hi : i < A.slots.size) : A.slots[i]? = some (.int (cv A i)) := by
  have e := Array.getElem?_eq_getElem hi
  have f := h.2 i _ e
  unfold cv; rw [e]
  generalize A.slots[i] = v at f
  cases v <;> simp [fits] at f ⊢
/-- the byte that i2b leaves of a char -/
def lo8 (x : Int32) : Int32 := x.toInt8.toInt32
theorem fits_lo8 (y : Int32) : fits .byte (.int (lo8 y)) = true := by
  have h1 := y.toInt8.le_toInt
  have h2 := y.toInt8.toInt_lt
  simp only [lo8, fits, Bool.and_eq_true, decide_eq_true_eq, Int32.le_iff_toInt_le, Int8.toInt_toInt32, show (-128 : Int32).toInt = -128 from by decide, show (127 : Int32).toInt = 127 from by decide]
  omega
/-- A' is A but that each place j of lo .. hi - 1 holds f j -/
def Laid (A A' : Cell) (lo hi : Nat) (f : Nat → Value) : Prop := A'.cls = A.cls ∧ A'.vm = A.vm ∧ A'.slots.size = A.slots.size ∧ ∀ i, A'.slots[i]? = if lo ≤ i ∧ i < hi then some (f i) else A.slots[i]?
theorem Laid.zero (A : Cell) (lo : Nat) (f : Nat → Value) : Laid A A lo (lo + 0) f := ⟨rfl, rfl, rfl, fun i => by rw [if_neg (by omega)]⟩
theorem Laid.step {A Ak : Cell} {lo k : Nat} {f : Nat → Value} {v : Value} (h : Laid A Ak lo k f) (hlo : lo ≤ k) (hk : k < Ak.slots.size) (hv : v = f k) : Laid A (Ak.setSlot k v) lo (k + 1) f := by
  refine ⟨h.1, h.2.1, by simpa [Cell.setSlot] using h.2.2.1, fun i => ?_⟩
  by_cases e : k = i
  · subst e; rw [Cell.slots_setSlot_self v hk, if_pos (by omega), hv]
  · rw [Cell.slots_setSlot_ne v e, h.2.2.2 i]
    by_cases q : lo ≤ i ∧ i < k
    · rw [if_pos q, if_pos (by omega)]
    · rw [if_neg q, if_neg (by omega)]
def U16 : String := "java/lang/StringUTF16"
namespace Cmp5
def yN : MethodName := ⟨"java/lang/StringUTF16", "compress", "([CI[BII)I"⟩
abbrev yB : ByteArray := jdk_52_method_21_code
theorem d0 : decode yB 0 = .ok (.iconst 0, 1) := by decide +kernel
theorem d1 : decode yB 1 = .ok (.istore 5, 2) := by decide +kernel
theorem d3 : decode yB 3 = .ok (.iload 5, 2) := by decide +kernel
theorem d5 : decode yB 5 = .ok (.iload 4, 2) := by decide +kernel
theorem d7 : decode yB 7 = .ok (.if_icmp (.ge) 37, 3) := by decide +kernel
theorem d10 : decode yB 10 = .ok (.aload_n 0, 1) := by decide +kernel
theorem d11 : decode yB 11 = .ok (.iload_n 1, 1) := by decide +kernel
theorem d12 : decode yB 12 = .ok (.caload, 1) := by decide +kernel
theorem d13 : decode yB 13 = .ok (.istore 6, 2) := by decide +kernel
theorem d15 : decode yB 15 = .ok (.iload 6, 2) := by decide +kernel
theorem d17 : decode yB 17 = .ok (.sipush 255, 3) := by decide +kernel
theorem d20 : decode yB 20 = .ok (.if_icmp (.le) 6, 3) := by decide +kernel
theorem d26 : decode yB 26 = .ok (.aload_n 2, 1) := by decide +kernel
theorem d27 : decode yB 27 = .ok (.iload_n 3, 1) := by decide +kernel
theorem d28 : decode yB 28 = .ok (.iload 6, 2) := by decide +kernel
theorem d30 : decode yB 30 = .ok (.i2b, 1) := by decide +kernel
theorem d31 : decode yB 31 = .ok (.bastore, 1) := by decide +kernel
theorem d32 : decode yB 32 = .ok (.iinc 1 1, 3) := by decide +kernel
theorem d35 : decode yB 35 = .ok (.iinc 3 1, 3) := by decide +kernel
theorem d38 : decode yB 38 = .ok (.iinc 5 1, 3) := by decide +kernel
theorem d41 : decode yB 41 = .ok (.goto (-38), 3) := by decide +kernel
theorem d44 : decode yB 44 = .ok (.iload 4, 2) := by decide +kernel
theorem d46 : decode yB 46 = .ok (.ireturn, 1) := by decide +kernel
def site : List Cond := []
def tab : Cond := tabOf yN yB 7 (some .int) site
def P (b : Addr) (A : Cell) (d : Addr) (B : Cell) (o q len : Nat) (args : Array Value) (s : State) : Prop := args = #[.ref b, .int (Int32.ofNat o), .ref d, .int (Int32.ofNat q), .int (Int32.ofNat len)] ∧ Ch b A s ∧ Arr .byte d B s ∧ b ≠ d ∧ o + len ≤ A.slots.size ∧ q + len ≤ B.slots.size ∧ ∀ i, i < len → ¬ 255 < cv A (o + i)
def E (b : Addr) (A : Cell) (d : Addr) (B : Cell) (o q len : Nat) (r : Option Value) (s u : State) : Prop := r = some (.int (Int32.ofNat len)) ∧ ∃ B', Put d B' s u ∧ Laid B B' q (q + len) (fun j => Value.int (lo8 (cv A (o + (j - q)))))
/-- no char of the range above 255: len; the places written hold each char's low byte -/
theorem law (l : Launch) (b : Addr) (A : Cell) (d : Addr) (B : Cell) (o q len : Nat) : Law l yN 5 5 0 0 yB 7 (some .int) site (P b A d B o q len) (E b A d B o q len) (copyLocs d q len) 0 0 := by
  refine Law.of_walk (plainFor_of_name (by decide +kernel)) (by decide +kernel) (by decide +kernel) (by decide) (fun _ _ h => by rw [h.1]; rfl) (fun _ U U' hal hh h => ⟨h.1, h.2.1.mv hal hh, h.2.2.1.mv hal hh, h.2.2.2⟩) (fun r U U' V V' h1 hal h2 h => ⟨h.1, h.2.elim fun B' q => ⟨B', q.1.mv h1 h2, q.2⟩⟩) ?_
  intro p e s m args below meth c s₁ X0 hexec hbytes hml hret hlk hnm hown hh0 W hP
  obtain ⟨rfl, hA, hB, hne, l1, l2, hp⟩ := hP
  have c1 : Steps p.tables e below (s₁.setTop (entryFrame m #[.ref b, .int (Int32.ofNat o), .ref d, .int (Int32.ofNat q), .int (Int32.ofNat len)] 7)) (s₁.setTop (mkF m 0 #[.val (.ref b), .val (.int (Int32.ofNat o)), .val (.ref d), .val (.int (Int32.ofNat q)), .val (.int (Int32.ofNat len)), .unset, .unset] [])) := entry rfl
  have hA0 := hA.1.mv X0.warmed.alike hh0
  have hB0 := hB.mv X0.warmed.alike hh0
  have a31 := hA.1.2.2.2
  have c2 : Steps p.tables e below (s₁.setTop (entryFrame m #[.ref b, .int (Int32.ofNat o), .ref d, .int (Int32.ofNat q), .int (Int32.ofNat len)] 7)) (s₁.setTop (mkF m 3 #[.val (.ref b), .val (.int (Int32.ofNat o)), .val (.ref d), .val (.int (Int32.ofNat q)), .val (.int (Int32.ofNat len)), .val (.int 0), .unset] [])) := c1.trans (by
    refine iconstV X0.here hexec rfl 0 (hb hbytes d0) (by decide) ?_
    refine XS.istore X0.here hexec rfl (hb hbytes d1) rfl rfl ?_
    exact Steps.refl _)
  have loop : ∀ (r i : Nat), i + r = len → ∀ (z : Slot), (z = .unset ∨ ∃ w, z = .val w ∧ w.category = 1) → ∀ (Tl : State) (Bk : Cell), Stand p l e { frames := 0, locals := 0, cells := 0, slots := 0 } s m #[.ref b, .int (Int32.ofNat o), .ref d, .int (Int32.ofNat q), .int (Int32.ofNat len)] below meth c Tl ([] ++ copyLocs d q i) 0 0 → Put d Bk s₁ Tl → Laid B Bk q (q + i) (fun j => Value.int (lo8 (cv A (o + (j - q))))) →
      Steps p.tables e below (s₁.setTop (entryFrame m #[.ref b, .int (Int32.ofNat o), .ref d, .int (Int32.ofNat q), .int (Int32.ofNat len)] 7)) (Tl.setTop (mkF m 3 #[.val (.ref b), .val (.int (Int32.ofNat (o + i))), .val (.ref d), .val (.int (Int32.ofNat (q + i))), .val (.int (Int32.ofNat len)), .val (.int (Int32.ofNat i)), z] [])) → ∃ (T' : State) (B' : Cell) (z' : Slot), Stand p l e { frames := 0, locals := 0, cells := 0, slots := 0 } s m #[.ref b, .int (Int32.ofNat o), .ref d, .int (Int32.ofNat q), .int (Int32.ofNat len)] below meth c T' ([] ++ copyLocs d q len) 0 0 ∧ Put d B' s₁ T' ∧ Laid B B' q (q + len) (fun j => Value.int (lo8 (cv A (o + (j - q))))) ∧
      Steps p.tables e below (s₁.setTop (entryFrame m #[.ref b, .int (Int32.ofNat o), .ref d, .int (Int32.ofNat q), .int (Int32.ofNat len)] 7)) (T'.setTop (mkF m 3 #[.val (.ref b), .val (.int (Int32.ofNat (o + len))), .val (.ref d), .val (.int (Int32.ofNat (q + len))), .val (.int (Int32.ofNat len)), .val (.int (Int32.ofNat len)), z'] [])) := by
    intro r
    induction r with
    | zero =>
      intro i hi z hz Tl Bk Xl pl fl cl
      have hil : i = len := by omega
      rw [hil] at Xl fl cl
      exact ⟨Tl, Bk, z, Xl, pl, fl, cl⟩
    | succ r ih =>
      intro i hi z hz Tl Bk Xl pl fl cl
      have all := X0.warmed.alike.symm.trans Xl.warmed.alike
      have hAl := hA0.keep all (pl.other hne hA0.1)
      have hBk := hB0.like all pl.1 fl.1 fl.2.1 fl.2.2.1
      have hlt : q + i < Bk.slots.size := by rw [fl.2.2.1]; omega
      have c3 : Steps p.tables e below (s₁.setTop (entryFrame m #[.ref b, .int (Int32.ofNat o), .ref d, .int (Int32.ofNat q), .int (Int32.ofNat len)] 7)) (Tl.setTop (mkF m 12 #[.val (.ref b), .val (.int (Int32.ofNat (o + i))), .val (.ref d), .val (.int (Int32.ofNat (q + i))), .val (.int (Int32.ofNat len)), .val (.int (Int32.ofNat i)), z] [.int (Int32.ofNat (o + i)), .ref b])) := cl.trans (by
        refine XS.iload Xl.here hexec rfl (hb hbytes d3) rfl ?_
        refine XS.iload Xl.here hexec rfl (hb hbytes d5) rfl ?_
        refine XS.icmpNo Xl.here hexec rfl (hb hbytes d7) rfl (ii_ge_f (lt32 (by omega) (by omega))) ?_
        refine XS.aloadN Xl.here hexec rfl (hb hbytes d10) rfl rfl ?_
        refine XS.iloadN Xl.here hexec rfl (hb hbytes d11) rfl ?_
        exact Steps.refl _)
      have c4 : Steps p.tables e below (s₁.setTop (entryFrame m #[.ref b, .int (Int32.ofNat o), .ref d, .int (Int32.ofNat q), .int (Int32.ofNat len)] 7)) (Tl.setTop (mkF m 13 #[.val (.ref b), .val (.int (Int32.ofNat (o + i))), .val (.ref d), .val (.int (Int32.ofNat (q + i))), .val (.int (Int32.ofNat len)), .val (.int (Int32.ofNat i)), z] [.int (cv A (o + i))])) := c3.trans (by
        refine Xl.aget hexec hAl rfl (hA.get (i := o + i) (by omega)) rfl rfl (hb hbytes d12) ?_
        exact Steps.refl _)
      have c5 : Steps p.tables e below (s₁.setTop (entryFrame m #[.ref b, .int (Int32.ofNat o), .ref d, .int (Int32.ofNat q), .int (Int32.ofNat len)] 7)) (Tl.setTop (mkF m 15 #[.val (.ref b), .val (.int (Int32.ofNat (o + i))), .val (.ref d), .val (.int (Int32.ofNat (q + i))), .val (.int (Int32.ofNat len)), .val (.int (Int32.ofNat i)), .val (.int (cv A (o + i)))] [])) := c4.trans (by
        refine XS.istoreS Xl.here hexec rfl (hb hbytes d13) rfl rfl hz ?_
        exact Steps.refl _)
      have c6 : Steps p.tables e below (s₁.setTop (entryFrame m #[.ref b, .int (Int32.ofNat o), .ref d, .int (Int32.ofNat q), .int (Int32.ofNat len)] 7)) (Tl.setTop (mkF m 31 #[.val (.ref b), .val (.int (Int32.ofNat (o + i))), .val (.ref d), .val (.int (Int32.ofNat (q + i))), .val (.int (Int32.ofNat len)), .val (.int (Int32.ofNat i)), .val (.int (cv A (o + i)))] [.int (lo8 (cv A (o + i))), .int (Int32.ofNat (q + i)), .ref d])) := c5.trans (by
        refine XS.iload Xl.here hexec rfl (hb hbytes d15) rfl ?_
        refine sipushV Xl.here hexec rfl 255 (hb hbytes d17) (by decide) ?_
        refine XS.icmpYes Xl.here hexec rfl (pc0 := 20) rfl (hb hbytes d20) rfl (ii_le_t (hp i (by omega))) (by decide) rfl ?_
        refine XS.aloadN Xl.here hexec rfl (hb hbytes d26) rfl rfl ?_
        refine XS.iloadN Xl.here hexec rfl (hb hbytes d27) rfl ?_
        refine XS.iload Xl.here hexec rfl (hb hbytes d28) rfl ?_
        refine i2b Xl.here hexec rfl (hb hbytes d30) rfl ?_
        exact Steps.refl _)
      obtain ⟨T7, X7, p7, st7⟩ := Xl.aput hexec hBk rfl hlt rfl (fits_lo8 (cv A (o + i))) (g := (mkF m 31 #[.val (.ref b), .val (.int (Int32.ofNat (o + i))), .val (.ref d), .val (.int (Int32.ofNat (q + i))), .val (.int (Int32.ofNat len)), .val (.int (Int32.ofNat i)), .val (.int (cv A (o + i)))] [.int (lo8 (cv A (o + i))), .int (Int32.ofNat (q + i)), .ref d])) rfl (rest := []) rfl (hb hbytes d31)
      have c8 : Steps p.tables e below (s₁.setTop (entryFrame m #[.ref b, .int (Int32.ofNat o), .ref d, .int (Int32.ofNat q), .int (Int32.ofNat len)] 7)) (T7.setTop (mkF m 32 #[.val (.ref b), .val (.int (Int32.ofNat (o + i))), .val (.ref d), .val (.int (Int32.ofNat (q + i))), .val (.int (Int32.ofNat len)), .val (.int (Int32.ofNat i)), .val (.int (cv A (o + i)))] [])) := c6.trans (st7 _ (Steps.refl _))
      have c9 : Steps p.tables e below (s₁.setTop (entryFrame m #[.ref b, .int (Int32.ofNat o), .ref d, .int (Int32.ofNat q), .int (Int32.ofNat len)] 7)) (T7.setTop (mkF m 3 #[.val (.ref b), .val (.int (Int32.ofNat (o + i) + 1)), .val (.ref d), .val (.int (Int32.ofNat (q + i) + 1)), .val (.int (Int32.ofNat len)), .val (.int (Int32.ofNat i + 1)), .val (.int (cv A (o + i)))] [])) := c8.trans (by
        refine iincV X7.here hexec rfl 1 (hb hbytes d32) (by decide) rfl rfl ?_
        refine iincV X7.here hexec rfl 1 (hb hbytes d35) (by decide) rfl rfl ?_
        refine iincV X7.here hexec rfl 1 (hb hbytes d38) (by decide) rfl rfl ?_
        refine XS.goto X7.here hexec rfl (pc0 := 41) rfl (hb hbytes d41) (by decide) rfl ?_
        exact Steps.refl _)
      have c10 : Steps p.tables e below (s₁.setTop (entryFrame m #[.ref b, .int (Int32.ofNat o), .ref d, .int (Int32.ofNat q), .int (Int32.ofNat len)] 7)) (T7.setTop (mkF m 3 #[.val (.ref b), .val (.int (Int32.ofNat (o + (i + 1)))), .val (.ref d), .val (.int (Int32.ofNat (q + (i + 1)))), .val (.int (Int32.ofNat len)), .val (.int (Int32.ofNat (i + 1))), .val (.int (cv A (o + i)))] [])) := by
        have := c9
        rw [succ32, succ32, succ32] at this
        exact this
      exact ih (i + 1) (by omega) _ (Or.inr ⟨_, rfl, rfl⟩) T7 _ (by rw [copyLocs_step, ← List.append_assoc]; exact X7) (pl.trans p7) (fl.step (by omega) hlt (by simp)) c10
  obtain ⟨T9, B9, z9, X9, p9, f9, g9⟩ := loop len 0 (by omega) .unset (Or.inl rfl) s₁ B (by simpa [copyLocs] using X0) ⟨hB0.1, fun _ _ => rfl, rfl⟩ (Laid.zero _ _ _) c2
  have c11 : Steps p.tables e below (s₁.setTop (entryFrame m #[.ref b, .int (Int32.ofNat o), .ref d, .int (Int32.ofNat q), .int (Int32.ofNat len)] 7)) (T9.setTop (mkF m 46 #[.val (.ref b), .val (.int (Int32.ofNat (o + len))), .val (.ref d), .val (.int (Int32.ofNat (q + len))), .val (.int (Int32.ofNat len)), .val (.int (Int32.ofNat len)), z9] [.int (Int32.ofNat len)])) := g9.trans (by
    refine XS.iload X9.here hexec rfl (hb hbytes d3) rfl ?_
    refine XS.iload X9.here hexec rfl (hb hbytes d5) rfl ?_
    refine XS.icmpYes X9.here hexec rfl (pc0 := 7) rfl (hb hbytes d7) rfl (ii_ge_t (nlt32 (by omega) (Nat.le_refl _))) (by decide) rfl ?_
    refine XS.iload X9.here hexec rfl (hb hbytes d44) rfl ?_
    exact Steps.refl _)
  exact ⟨T9, some (.int (Int32.ofNat len)), _, _, _, X9, by simp, rfl, rfl, (fun h => by cases h), ⟨rfl, B9, p9.from hh0, f9⟩, fun fs hl => c11.trans (X9.ireturnOut hexec hret rfl (Or.inl rfl) (hb hbytes d46) hl)⟩
end Cmp5
namespace Cmp3
def yN : MethodName := ⟨"java/lang/StringUTF16", "compress", "([CII)[B"⟩
abbrev yB : ByteArray := jdk_52_method_16_code
theorem d0 : decode yB 0 = .ok (.iload_n 2, 1) := by decide +kernel
theorem d1 : decode yB 1 = .ok (.newarray .byte, 2) := by decide +kernel
theorem d3 : decode yB 3 = .ok (.astore_n 3, 1) := by decide +kernel
theorem d4 : decode yB 4 = .ok (.aload_n 0, 1) := by decide +kernel
theorem d5 : decode yB 5 = .ok (.iload_n 1, 1) := by decide +kernel
theorem d6 : decode yB 6 = .ok (.aload_n 3, 1) := by decide +kernel
theorem d7 : decode yB 7 = .ok (.iconst 0, 1) := by decide +kernel
theorem d8 : decode yB 8 = .ok (.iload_n 2, 1) := by decide +kernel
theorem d9 : decode yB 9 = .ok (.invokestatic 115, 3) := by decide +kernel
theorem d12 : decode yB 12 = .ok (.istore 4, 2) := by decide +kernel
theorem d14 : decode yB 14 = .ok (.iload 4, 2) := by decide +kernel
theorem d16 : decode yB 16 = .ok (.iload_n 2, 1) := by decide +kernel
theorem d17 : decode yB 17 = .ok (.if_icmp (.eq) 40, 3) := by decide +kernel
theorem d57 : decode yB 57 = .ok (.aload_n 3, 1) := by decide +kernel
theorem d58 : decode yB 58 = .ok (.areturn, 1) := by decide +kernel
def site : List Cond := [.arrayClass .byte, Cmp5.tab] ++ staticW U16 115 Cmp5.yN
def tab : Cond := tabOf yN yB 6 (some (.array .byte)) site
def P (b : Addr) (A : Cell) (o len : Nat) (args : Array Value) (s : State) : Prop := args = #[.ref b, .int (Int32.ofNat o), .int (Int32.ofNat len)] ∧ Ch b A s ∧ o + len ≤ A.slots.size ∧ len ≤ 536870912 ∧ ∀ i, i < len → ¬ 255 < cv A (o + i)
def E (b : Addr) (A : Cell) (o len : Nat) (r : Option Value) (s u : State) : Prop := NewArr .byte "[B" len (fun j => .int (lo8 (cv A (o + j)))) r s u ∧ u.heap.size = s.heap.size + 1
/-- no char of the range above 255: a new byte[] of their low bytes -/
theorem law (l : Launch) (b : Addr) (A : Cell) (o len : Nat) : Law l yN 3 3 1 18 yB 6 (some (.array .byte)) site (P b A o len) (E b A o len) [] 1 len := by
  refine Law.of_walk (plainFor_of_name (by decide +kernel)) (by decide +kernel) (by decide +kernel) (by decide) (fun _ _ h => by rw [h.1]; rfl) (fun _ U U' hal hh h => ⟨h.1, h.2.1.mv hal hh, h.2.2⟩) (fun r U U' V V' h1 hal h2 h => ⟨NewArr.mv r U U' V V' h1 hal h2 h.1, by rw [h1, h2]; exact h.2⟩) ?_
  intro p e s m args below meth c s₁ X0 hexec hbytes hml hret hlk hnm hown hh0 W hP
  obtain ⟨rfl, hA, l1, l2, hp⟩ := hP
  have a31 := hA.1.2.2.2
  have c1 : Steps p.tables e below (s₁.setTop (entryFrame m #[.ref b, .int (Int32.ofNat o), .int (Int32.ofNat len)] 6)) (s₁.setTop (mkF m 0 #[.val (.ref b), .val (.int (Int32.ofNat o)), .val (.int (Int32.ofNat len)), .unset, .unset, .unset] [])) := entry rfl
  have c2 : Steps p.tables e below (s₁.setTop (entryFrame m #[.ref b, .int (Int32.ofNat o), .int (Int32.ofNat len)] 6)) (s₁.setTop (mkF m 1 #[.val (.ref b), .val (.int (Int32.ofNat o)), .val (.int (Int32.ofNat len)), .unset, .unset, .unset] [.int (Int32.ofNat len)])) := c1.trans (by
    refine XS.iloadN X0.here hexec rfl (hb hbytes d0) rfl ?_
    exact Steps.refl _)
  obtain ⟨T3, B3, X3, ba3, bs3, bv3, bh3, bf3, st3⟩ := X0.anew hexec (atype := .byte) (wk W (.arrayClass .byte)) rfl (by show len * 1 ≤ _; omega) (by omega) (g := (mkF m 1 #[.val (.ref b), .val (.int (Int32.ofNat o)), .val (.int (Int32.ofNat len)), .unset, .unset, .unset] [.int (Int32.ofNat len)])) rfl (hb hbytes d1) (rest := []) rfl (Nat.le_refl _) (by show 0 + len ≤ len; omega)
  rw [hh0] at ba3 st3
  have kp3 : XT.Kept s T3 := (XT.Kept.of_eq hh0).push bh3
  have hA3 := hA.keep X3.warmed.alike (kp3 _ _ hA.1.1)
  have hne : b ≠ s.heap.size := hA.1.ne
  have c4 : Steps p.tables e below (s₁.setTop (entryFrame m #[.ref b, .int (Int32.ofNat o), .int (Int32.ofNat len)] 6)) (T3.setTop (mkF m 3 #[.val (.ref b), .val (.int (Int32.ofNat o)), .val (.int (Int32.ofNat len)), .unset, .unset, .unset] [.ref s.heap.size])) := c2.trans (st3 _ (Steps.refl _))
  have c5 : Steps p.tables e below (s₁.setTop (entryFrame m #[.ref b, .int (Int32.ofNat o), .int (Int32.ofNat len)] 6)) (T3.setTop (mkF m 9 #[.val (.ref b), .val (.int (Int32.ofNat o)), .val (.int (Int32.ofNat len)), .val (.ref s.heap.size), .unset, .unset] [.int (Int32.ofNat len), .int 0, .ref s.heap.size, .int (Int32.ofNat o), .ref b])) := c4.trans (by
    refine XS.astoreN X3.here hexec rfl (hb hbytes d3) rfl rfl rfl ?_
    refine XS.aloadN X3.here hexec rfl (hb hbytes d4) rfl rfl ?_
    refine XS.iloadN X3.here hexec rfl (hb hbytes d5) rfl ?_
    refine XS.aloadN X3.here hexec rfl (hb hbytes d6) rfl rfl ?_
    refine iconstV X3.here hexec rfl 0 (hb hbytes d7) (by decide) ?_
    refine XS.iloadN X3.here hexec rfl (hb hbytes d8) rfl ?_
    exact Steps.refl _)
  obtain ⟨v6, T6, X6, E6, g6⟩ := X3.callS hexec (Cmp5.law l b A s.heap.size B3 o 0 len) hown (wks W (staticW U16 115 Cmp5.yN)) (wk W Cmp5.tab) (W := 0) (Nat.le_of_ble_eq_true rfl) (Nat.le_of_ble_eq_true rfl) (Nat.le_refl _) (by show 0 + len + 0 ≤ len; omega) (g := (mkF m 9 #[.val (.ref b), .val (.int (Int32.ofNat o)), .val (.int (Int32.ofNat len)), .val (.ref s.heap.size), .unset, .unset] [.int (Int32.ofNat len), .int (Int32.ofNat 0), .ref s.heap.size, .int (Int32.ofNat o), .ref b])) rfl (by rw [hml]; rfl) c5 (argsL := [.ref b, .int (Int32.ofNat o), .ref s.heap.size, .int (Int32.ofNat 0), .int (Int32.ofNat len)]) (rest := []) rfl rfl (by show 2 * 0 + 0 ≤ _; decide) (hb hbytes d9) (⟨rfl, hA3, ba3, hne, l1, by rw [bs3]; simp, hp⟩)
  obtain ⟨rfl, B6, p6, f6⟩ := E6
  have c7 : Steps p.tables e below (s₁.setTop (entryFrame m #[.ref b, .int (Int32.ofNat o), .int (Int32.ofNat len)] 6)) (T6.setTop (mkF m 12 #[.val (.ref b), .val (.int (Int32.ofNat o)), .val (.int (Int32.ofNat len)), .val (.ref s.heap.size), .unset, .unset] [.int (Int32.ofNat len)])) := g6
  have c8 : Steps p.tables e below (s₁.setTop (entryFrame m #[.ref b, .int (Int32.ofNat o), .int (Int32.ofNat len)] 6)) (T6.setTop (mkF m 58 #[.val (.ref b), .val (.int (Int32.ofNat o)), .val (.int (Int32.ofNat len)), .val (.ref s.heap.size), .val (.int (Int32.ofNat len)), .unset] [.ref s.heap.size])) := c7.trans (by
    refine XS.istore X6.here hexec rfl (hb hbytes d12) rfl rfl ?_
    refine XS.iload X6.here hexec rfl (hb hbytes d14) rfl ?_
    refine XS.iloadN X6.here hexec rfl (hb hbytes d16) rfl ?_
    refine XS.icmpYes X6.here hexec rfl (pc0 := 17) rfl (hb hbytes d17) rfl (ii_eq_t rfl) (by decide) rfl ?_
    refine XS.aloadN X6.here hexec rfl (hb hbytes d57) rfl rfl ?_
    exact Steps.refl _)
  have X8 := X6.wide (L' := []) (cells' := 1) (slots' := len) (fun x hx hlt => by
    simp only [List.nil_append, copyLocs, List.mem_map, List.mem_range] at hx
    obtain ⟨i, -, rfl⟩ := hx
    exact absurd hlt (Nat.lt_irrefl _)) (Nat.le_refl _) (by omega)
  exact ⟨T6, some (.ref s.heap.size), _, _, _, X8, rfl, rfl, rfl, (fun h => by cases h), ⟨⟨rfl, B6, ba3.like (X3.warmed.alike.symm.trans X6.warmed.alike) p6.1 f6.1 f6.2.1 f6.2.2.1, f6.2.1.trans bv3, by rw [X6.warmed.alike.findClass, f6.1]; exact bf3, by rw [f6.2.2.1, bs3]; simp, fun j hj => by rw [f6.2.2.2 j, if_pos (by omega)]; rfl, kp3.put p6 (Nat.le_refl _)⟩, by rw [p6.2.2, bh3, hh0]; simp⟩, fun fs hl => c8.trans (X8.areturnOut hexec rfl hret rfl (hb hbytes d58) hl)⟩
end Cmp3
namespace CodL
def yN : MethodName := ⟨"java/lang/StringUTF16", "coderFromArrayLen", "([BI)B"⟩
abbrev yB : ByteArray := jdk_52_method_15_code
theorem d0 : decode yB 0 = .ok (.iload_n 1, 1) := by decide +kernel
theorem d1 : decode yB 1 = .ok (.aload_n 0, 1) := by decide +kernel
theorem d2 : decode yB 2 = .ok (.arraylength, 1) := by decide +kernel
theorem d3 : decode yB 3 = .ok (.isub, 1) := by decide +kernel
theorem d4 : decode yB 4 = .ok (.bipush 31, 2) := by decide +kernel
theorem d6 : decode yB 6 = .ok (.iushr, 1) := by decide +kernel
theorem d7 : decode yB 7 = .ok (.i2b, 1) := by decide +kernel
theorem d8 : decode yB 8 = .ok (.ireturn, 1) := by decide +kernel
def site : List Cond := []
def tab : Cond := tabOf yN yB 2 (some .byte) site
def P (d : Addr) (B : Cell) (args : Array Value) (s : State) : Prop := args = #[.ref d, .int (Int32.ofNat B.slots.size)] ∧ Arr .byte d B s
def E (r : Option Value) (s u : State) : Prop := XT.PureE (some (.int 0)) r s u
/-- an array as long as the number of chars: LATIN1 -/
theorem law (l : Launch) (d : Addr) (B : Cell) : Law l yN 2 2 0 0 yB 2 (some .byte) site (P d B) E [] 0 0 := by
  refine Law.of_walk (plainFor_of_name (by decide +kernel)) (by decide +kernel) (by decide +kernel) (by decide) (fun _ _ h => by rw [h.1]; rfl) (fun _ U U' hal hh h => ⟨h.1, h.2.mv hal hh⟩) (fun r U U' V V' h1 hal h2 h => XT.PureE.mv r U U' V V' h1 hal h2 h) ?_
  intro p e s m args below meth c s₁ X0 hexec hbytes hml hret hlk hnm hown hh0 W hP
  obtain ⟨rfl, hB⟩ := hP
  have hB0 := hB.mv X0.warmed.alike hh0
  have c1 : Steps p.tables e below (s₁.setTop (entryFrame m #[.ref d, .int (Int32.ofNat B.slots.size)] 2)) (s₁.setTop (mkF m 0 #[.val (.ref d), .val (.int (Int32.ofNat B.slots.size))] [])) := entry rfl
  have c2 : Steps p.tables e below (s₁.setTop (entryFrame m #[.ref d, .int (Int32.ofNat B.slots.size)] 2)) (s₁.setTop (mkF m 2 #[.val (.ref d), .val (.int (Int32.ofNat B.slots.size))] [.ref d, .int (Int32.ofNat B.slots.size)])) := c1.trans (by
    refine XS.iloadN X0.here hexec rfl (hb hbytes d0) rfl ?_
    refine XS.aloadN X0.here hexec rfl (hb hbytes d1) rfl rfl ?_
    exact Steps.refl _)
  have c3 : Steps p.tables e below (s₁.setTop (entryFrame m #[.ref d, .int (Int32.ofNat B.slots.size)] 2)) (s₁.setTop (mkF m 8 #[.val (.ref d), .val (.int (Int32.ofNat B.slots.size))] [.int (lo8 (ushr (Int32.ofNat B.slots.size - Int32.ofNat B.slots.size) 31))])) := c2.trans (by
    refine X0.alen hexec hB0 rfl rfl (hb hbytes d2) ?_
    refine XS.isub X0.here hexec rfl (hb hbytes d3) rfl ?_
    refine bipushV X0.here hexec rfl 31 (hb hbytes d4) (by decide) ?_
    refine iushr X0.here hexec rfl (hb hbytes d6) rfl ?_
    refine i2b X0.here hexec rfl (hb hbytes d7) rfl ?_
    exact Steps.refl _)
  have e0 : lo8 (ushr (Int32.ofNat B.slots.size - Int32.ofNat B.slots.size) 31) = 0 := by rw [Int32.sub_self]; decide
  rw [e0] at c3
  exact ⟨s₁, some (.int 0), _, _, _, X0, rfl, rfl, rfl, (fun h => by cases h), ⟨rfl, hh0⟩, fun fs hl => c3.trans (X0.ireturnOut hexec hret rfl (Or.inr (Or.inr (Or.inl rfl))) (hb hbytes d8) hl)⟩
end CodL
/-- the String at a is Latin-1 over a new byte[] (the heap's one new cell): the low bytes of the len chars of A from o on; every cell but a is kept -/
def Got (a : Addr) (D : Cell) (fV fC : Field) (A : Cell) (o len : Nat) (r : Option Value) (s u : State) : Prop := r = none ∧ ∃ D' V : Cell, Blank "java/lang/String" a D' u ∧ Same D D' [fV.slot, fC.slot] ∧ D'.slots[fV.slot]? = some (.ref s.heap.size) ∧ D'.slots[fC.slot]? = some (.int 0) ∧ Arr .byte s.heap.size V u ∧ V.vm = .none ∧ u.vm.findClass "[B" = some V.cls ∧ V.slots.size = len ∧ (∀ j, j < len → V.slots[j]? = some (.int (lo8 (cv A (o + j))))) ∧ (∀ (y : Addr) (c : Cell), y ≠ a → s.heap[y]? = some c → u.heap[y]? = some c) ∧ u.heap.size = s.heap.size + 1
theorem Got.mv {a : Addr} {D A : Cell} {fV fC : Field} {o len : Nat} : ∀ r (U U' V V' : State), U'.heap = U.heap → V.vm.Alike V'.vm → V'.heap = V.heap → Got a D fV fC A o len r U V → Got a D fV fC A o len r U' V' :=
  fun r U U' V V' h1 hal h2 ⟨e0, D', X, a1, a2, a3, a4, a5, a6, a7, a8, a9, a10, a11⟩ => ⟨e0, D', X, a1.mv hal h2, a2, by rw [h1]; exact a3, a4, by rw [h1]; exact a5.mv hal h2, a6, by rw [hal.findClass]; exact a7, a8, a9, by rw [h1, h2]; exact a10, by rw [h1, h2]; exact a11⟩
namespace New4
def yN : MethodName := ⟨"java/lang/String", "<init>", "([CIILjava/lang/Void;)V"⟩
abbrev yB : ByteArray := jdk_42_method_149_code
theorem d0 : decode yB 0 = .ok (.aload_n 0, 1) := by decide +kernel
theorem d1 : decode yB 1 = .ok (.invokespecial 1, 3) := by decide +kernel
theorem d4 : decode yB 4 = .ok (.iload_n 3, 1) := by decide +kernel
theorem d5 : decode yB 5 = .ok (.ifCond (.ne) 22, 3) := by decide +kernel
theorem d27 : decode yB 27 = .ok (.getstatic 38, 3) := by decide +kernel
theorem d30 : decode yB 30 = .ok (.ifCond (.eq) 28, 3) := by decide +kernel
theorem d33 : decode yB 33 = .ok (.aload_n 1, 1) := by decide +kernel
theorem d34 : decode yB 34 = .ok (.iload_n 2, 1) := by decide +kernel
theorem d35 : decode yB 35 = .ok (.iload_n 3, 1) := by decide +kernel
theorem d36 : decode yB 36 = .ok (.invokestatic 177, 3) := by decide +kernel
theorem d39 : decode yB 39 = .ok (.astore 5, 2) := by decide +kernel
theorem d41 : decode yB 41 = .ok (.aload_n 0, 1) := by decide +kernel
theorem d42 : decode yB 42 = .ok (.aload 5, 2) := by decide +kernel
theorem d44 : decode yB 44 = .ok (.iload_n 3, 1) := by decide +kernel
theorem d45 : decode yB 45 = .ok (.invokestatic 47, 3) := by decide +kernel
theorem d48 : decode yB 48 = .ok (.putfield 15, 3) := by decide +kernel
theorem d51 : decode yB 51 = .ok (.aload_n 0, 1) := by decide +kernel
theorem d52 : decode yB 52 = .ok (.aload 5, 2) := by decide +kernel
theorem d54 : decode yB 54 = .ok (.putfield 9, 3) := by decide +kernel
theorem d57 : decode yB 57 = .ok (.return_, 1) := by decide +kernel
def site : List Cond := [.fieldLink "java/lang/String" 38 "java/lang/String" "COMPACT_STRINGS" "Z", Cmp3.tab, CodL.tab, .laysFinal "java/lang/String" "java/lang/String" "value" "[B", .fieldLink "java/lang/String" 9 "java/lang/String" "value" "[B", .laysFinal "java/lang/String" "java/lang/String" "coder" "B", .fieldLink "java/lang/String" 15 "java/lang/String" "coder" "B"] ++ objW "java/lang/String" 1 ++ staticW "java/lang/String" 177 Cmp3.yN ++ staticW "java/lang/String" 47 CodL.yN
def tab : Cond := tabOf yN yB 6 none site
def P (a : Addr) (D : Cell) (fV fC : Field) (b : Addr) (A : Cell) (z : Int32) (o len : Nat) (args : Array Value) (s : State) : Prop := args = #[.ref a, .ref b, .int (Int32.ofNat o), .int (Int32.ofNat len), .null] ∧ Blank "java/lang/String" a D s ∧ Found "java/lang/String" "value" "[B" fV s ∧ Found "java/lang/String" "coder" "B" fC s ∧ Ch b A s ∧ StaticIs s "java/lang/String" "COMPACT_STRINGS" "Z" (.int z) ∧ ¬ z = 0 ∧ 0 < len ∧ o + len ≤ A.slots.size ∧ len ≤ 536870912 ∧ ∀ i, i < len → ¬ 255 < cv A (o + i)
def E (a : Addr) (D : Cell) (fV fC : Field) (A : Cell) (o len : Nat) (r : Option Value) (s u : State) : Prop := Got a D fV fC A o len r s u
/-- len > 0, no char of the range above 255: a Latin-1 String of their low bytes -/
theorem law (l : Launch) (a : Addr) (D : Cell) (fV fC : Field) (b : Addr) (A : Cell) (z : Int32) (o len : Nat) : Law l yN 5 4 2 35 yB 6 none site (P a D fV fC b A z o len) (E a D fV fC A o len) [⟨a, fC.slot⟩, ⟨a, fV.slot⟩] 1 len := by
  refine Law.of_walk (plainFor_of_name (by decide +kernel)) (by decide +kernel) (by decide +kernel) (by decide) (fun _ _ h => by rw [h.1]; rfl) (fun _ U U' hal hh h => ⟨h.1, h.2.1.mv hal hh, h.2.2.1.al hal, h.2.2.2.1.al hal, h.2.2.2.2.1.mv hal hh, h.2.2.2.2.2.1.there hal hh, h.2.2.2.2.2.2⟩) (fun r U U' V V' h1 hal h2 h => Got.mv r U U' V V' h1 hal h2 h) ?_
  intro p e s m args below meth c s₁ X0 hexec hbytes hml hret hlk hnm hown hh0 W hP
  obtain ⟨rfl, hB, f1, f2, hA, s1, hz, l0, l1, l2, hp⟩ := hP
  have a31 := hA.1.2.2.2
  have c1 : Steps p.tables e below (s₁.setTop (entryFrame m #[.ref a, .ref b, .int (Int32.ofNat o), .int (Int32.ofNat len), .null] 6)) (s₁.setTop (mkF m 0 #[.val (.ref a), .val (.ref b), .val (.int (Int32.ofNat o)), .val (.int (Int32.ofNat len)), .val .null, .unset] [])) := entry rfl
  have c2 : Steps p.tables e below (s₁.setTop (entryFrame m #[.ref a, .ref b, .int (Int32.ofNat o), .int (Int32.ofNat len), .null] 6)) (s₁.setTop (mkF m 1 #[.val (.ref a), .val (.ref b), .val (.int (Int32.ofNat o)), .val (.int (Int32.ofNat len)), .val .null, .unset] [.ref a])) := c1.trans (by
    refine XS.aloadN X0.here hexec rfl (hb hbytes d0) rfl rfl ?_
    exact Steps.refl _)
  obtain ⟨T3, X3, q3, st3⟩ := X0.oinit hexec hown (wks W (objW "java/lang/String" 1)) (g := (mkF m 1 #[.val (.ref a), .val (.ref b), .val (.int (Int32.ofNat o)), .val (.int (Int32.ofNat len)), .val .null, .unset] [.ref a])) rfl (by rw [hml]; rfl) (rest := []) rfl (hb hbytes d1) (W := 0) (by show 2 * 0 + 0 ≤ _; decide) (Nat.le_of_ble_eq_true rfl) (Nat.le_of_ble_eq_true rfl)
  have hh3 := q3.trans hh0
  have c4 : Steps p.tables e below (s₁.setTop (entryFrame m #[.ref a, .ref b, .int (Int32.ofNat o), .int (Int32.ofNat len), .null] 6)) (T3.setTop (mkF m 27 #[.val (.ref a), .val (.ref b), .val (.int (Int32.ofNat o)), .val (.int (Int32.ofNat len)), .val .null, .unset] [])) := (c2.trans (st3 _ (Steps.refl _))).trans (by
    refine XS.iloadN X3.here hexec rfl (hb hbytes d4) rfl ?_
    refine XS.ifYes X3.here hexec rfl (pc0 := 5) rfl (hb hbytes d5) rfl (i0_ne_t (nz32 (by omega) l0)) (by decide) rfl ?_
    exact Steps.refl _)
  obtain ⟨T5, X5, q5, st5⟩ := X3.sget hexec hown (wk W (.fieldLink "java/lang/String" 38 "java/lang/String" "COMPACT_STRINGS" "Z")) s1 (fun _ _ h => by rw [hh3]; exact h) (g := (mkF m 27 #[.val (.ref a), .val (.ref b), .val (.int (Int32.ofNat o)), .val (.int (Int32.ofNat len)), .val .null, .unset] [])) rfl (hb hbytes d27)
  have hh5 := q5.trans hh3
  have c6 : Steps p.tables e below (s₁.setTop (entryFrame m #[.ref a, .ref b, .int (Int32.ofNat o), .int (Int32.ofNat len), .null] 6)) (T5.setTop (mkF m 30 #[.val (.ref a), .val (.ref b), .val (.int (Int32.ofNat o)), .val (.int (Int32.ofNat len)), .val .null, .unset] [.int z])) := c4.trans (st5 _ (Steps.refl _))
  have c7 : Steps p.tables e below (s₁.setTop (entryFrame m #[.ref a, .ref b, .int (Int32.ofNat o), .int (Int32.ofNat len), .null] 6)) (T5.setTop (mkF m 36 #[.val (.ref a), .val (.ref b), .val (.int (Int32.ofNat o)), .val (.int (Int32.ofNat len)), .val .null, .unset] [.int (Int32.ofNat len), .int (Int32.ofNat o), .ref b])) := c6.trans (by
    refine XS.ifNo X5.here hexec rfl (hb hbytes d30) rfl (i0_eq_f hz) ?_
    refine XS.aloadN X5.here hexec rfl (hb hbytes d33) rfl rfl ?_
    refine XS.iloadN X5.here hexec rfl (hb hbytes d34) rfl ?_
    refine XS.iloadN X5.here hexec rfl (hb hbytes d35) rfl ?_
    exact Steps.refl _)
  obtain ⟨v8, T8, X8, E8, g8⟩ := X5.callS hexec (Cmp3.law l b A o len) hown (wks W (staticW "java/lang/String" 177 Cmp3.yN)) (wk W Cmp3.tab) (W := 0) (Nat.le_of_ble_eq_true rfl) (Nat.le_of_ble_eq_true rfl) (Nat.le_refl _) (by show 0 + len ≤ len; omega) (g := (mkF m 36 #[.val (.ref a), .val (.ref b), .val (.int (Int32.ofNat o)), .val (.int (Int32.ofNat len)), .val .null, .unset] [.int (Int32.ofNat len), .int (Int32.ofNat o), .ref b])) rfl (by rw [hml]; rfl) c7 (argsL := [.ref b, .int (Int32.ofNat o), .int (Int32.ofNat len)]) (rest := []) rfl rfl (by show 2 * 0 + 0 ≤ _; decide) (hb hbytes d36) (⟨rfl, hA.mv X5.warmed.alike hh5, l1, l2, hp⟩)
  obtain ⟨e8, z8⟩ := E8
  obtain ⟨rfl, N, n1, n2, n3, n4, n5, n6⟩ := NewArr.mv _ T5 s _ _ hh5.symm (Vm.Alike.refl _) rfl e8
  rw [hh5] at z8
  have hB1 := hB.keep X8.warmed.alike (n6 _ _ hB.1)
  have hne : s.heap.size ≠ a := (Nat.ne_of_lt (Array.getElem?_eq_some_iff.mp hB.1).1).symm
  have c9 : Steps p.tables e below (s₁.setTop (entryFrame m #[.ref a, .ref b, .int (Int32.ofNat o), .int (Int32.ofNat len), .null] 6)) (T8.setTop (mkF m 39 #[.val (.ref a), .val (.ref b), .val (.int (Int32.ofNat o)), .val (.int (Int32.ofNat len)), .val .null, .unset] [.ref s.heap.size])) := g8
  have c10 : Steps p.tables e below (s₁.setTop (entryFrame m #[.ref a, .ref b, .int (Int32.ofNat o), .int (Int32.ofNat len), .null] 6)) (T8.setTop (mkF m 45 #[.val (.ref a), .val (.ref b), .val (.int (Int32.ofNat o)), .val (.int (Int32.ofNat len)), .val .null, .val (.ref s.heap.size)] [.int (Int32.ofNat N.slots.size), .ref s.heap.size, .ref a])) := by
    have hc : Steps p.tables e below (s₁.setTop (entryFrame m #[.ref a, .ref b, .int (Int32.ofNat o), .int (Int32.ofNat len), .null] 6)) (T8.setTop (mkF m 45 #[.val (.ref a), .val (.ref b), .val (.int (Int32.ofNat o)), .val (.int (Int32.ofNat len)), .val .null, .val (.ref s.heap.size)] [.int (Int32.ofNat len), .ref s.heap.size, .ref a])) := c9.trans (by
      refine XS.astore X8.here hexec rfl (hb hbytes d39) rfl rfl rfl ?_
      refine XS.aloadN X8.here hexec rfl (hb hbytes d41) rfl rfl ?_
      refine XS.aload X8.here hexec rfl (hb hbytes d42) rfl rfl ?_
      refine XS.iloadN X8.here hexec rfl (hb hbytes d44) rfl ?_
      exact Steps.refl _)
    rw [n4]; exact hc
  obtain ⟨v11, T11, X11, E11, g11⟩ := X8.callS hexec (CodL.law l s.heap.size N) hown (wks W (staticW "java/lang/String" 47 CodL.yN)) (wk W CodL.tab) (W := 1) (Nat.le_of_ble_eq_true rfl) (Nat.le_of_ble_eq_true rfl) (Nat.le_refl _) (by show 0 + len + 0 ≤ len; omega) (g := (mkF m 45 #[.val (.ref a), .val (.ref b), .val (.int (Int32.ofNat o)), .val (.int (Int32.ofNat len)), .val .null, .val (.ref s.heap.size)] [.int (Int32.ofNat N.slots.size), .ref s.heap.size, .ref a])) rfl (by rw [hml]; rfl) c10 (argsL := [.ref s.heap.size, .int (Int32.ofNat N.slots.size)]) (rest := [.ref a]) rfl rfl (by show 2 * 0 + (1 + 0) ≤ _; decide) (hb hbytes d45) (⟨rfl, n1⟩)
  obtain ⟨rfl, q11⟩ := E11
  have hB11 := hB1.mv (X8.warmed.alike.symm.trans X11.warmed.alike) q11
  have c12 : Steps p.tables e below (s₁.setTop (entryFrame m #[.ref a, .ref b, .int (Int32.ofNat o), .int (Int32.ofNat len), .null] 6)) (T11.setTop (mkF m 48 #[.val (.ref a), .val (.ref b), .val (.int (Int32.ofNat o)), .val (.int (Int32.ofNat len)), .val .null, .val (.ref s.heap.size)] [.int 0, .ref a])) := g11
  obtain ⟨T13, X13, p13, bl13, sl13, st13⟩ := X11.finit hexec hown (wk W (.fieldLink "java/lang/String" 15 "java/lang/String" "coder" "B")) (Or.inr ⟨_, (wk W (.laysFinal "java/lang/String" "java/lang/String" "coder" "B"))⟩) (Or.inl ⟨rfl, hnm⟩) f2 (Or.inl rfl) hB11 (t := .byte) (by decide +kernel) rfl (g := (mkF m 48 #[.val (.ref a), .val (.ref b), .val (.int (Int32.ofNat o)), .val (.int (Int32.ofNat len)), .val .null, .val (.ref s.heap.size)] [.int 0, .ref a])) rfl (rest := []) rfl (hb hbytes d48)
  have c14 : Steps p.tables e below (s₁.setTop (entryFrame m #[.ref a, .ref b, .int (Int32.ofNat o), .int (Int32.ofNat len), .null] 6)) (T13.setTop (mkF m 54 #[.val (.ref a), .val (.ref b), .val (.int (Int32.ofNat o)), .val (.int (Int32.ofNat len)), .val .null, .val (.ref s.heap.size)] [.ref s.heap.size, .ref a])) := (c12.trans (st13 _ (Steps.refl _))).trans (by
    refine XS.aloadN X13.here hexec rfl (hb hbytes d51) rfl rfl ?_
    refine XS.aload X13.here hexec rfl (hb hbytes d52) rfl rfl ?_
    exact Steps.refl _)
  obtain ⟨T15, X15, p15, bl15, sl15, st15⟩ := X13.finit hexec hown (wk W (.fieldLink "java/lang/String" 9 "java/lang/String" "value" "[B")) (Or.inr ⟨_, (wk W (.laysFinal "java/lang/String" "java/lang/String" "value" "[B"))⟩) (Or.inl ⟨rfl, hnm⟩) f1 (Or.inl rfl) bl13 (t := (.array .byte)) (by decide +kernel) rfl (g := (mkF m 54 #[.val (.ref a), .val (.ref b), .val (.int (Int32.ofNat o)), .val (.int (Int32.ofNat len)), .val .null, .val (.ref s.heap.size)] [.ref s.heap.size, .ref a])) rfl (rest := []) rfl (hb hbytes d54)
  have c16 : Steps p.tables e below (s₁.setTop (entryFrame m #[.ref a, .ref b, .int (Int32.ofNat o), .int (Int32.ofNat len), .null] 6)) (T15.setTop (mkF m 57 #[.val (.ref a), .val (.ref b), .val (.int (Int32.ofNat o)), .val (.int (Int32.ofNat len)), .val .null, .val (.ref s.heap.size)] [])) := c14.trans (st15 _ (Steps.refl _))
  have ap := apart (Or.inr ⟨_, (wk W (.laysFinal "java/lang/String" "java/lang/String" "value" "[B"))⟩) (Or.inr ⟨_, (wk W (.laysFinal "java/lang/String" "java/lang/String" "coder" "B"))⟩) f1 f2 (t₁ := .array .byte) (t₂ := .byte) (by decide +kernel) (by decide +kernel) (by decide)
  have al := X8.warmed.alike.symm.trans X15.warmed.alike
  have n7 : T11.heap[s.heap.size]? = some N := by rw [q11]; exact n1.1
  exact ⟨T15, none, _, _, _, X15, by simp, rfl, by omega, (fun _ => rfl), ⟨rfl, _, N, bl15, ((Same.refl D _).set _ (by simp)).set _ (by simp), sl15, (Cell.slots_setSlot_ne _ ap).trans sl13, n1.keep al (p15.other hne (p13.other hne n7)), n2, by rw [al.findClass]; exact n3, n4, n5, fun y c h1 h2 => p15.other h1 (p13.other h1 (by rw [q11]; exact n6 y c h2)), by rw [p15.2.2, p13.2.2, q11]; exact z8⟩, fun fs hl => c16.trans (X15.returnOut hexec hret (hb hbytes d57) hl)⟩
end New4
namespace New1
def yN : MethodName := ⟨"java/lang/String", "<init>", "([C)V"⟩
abbrev yB : ByteArray := jdk_42_method_3_code
theorem d0 : decode yB 0 = .ok (.aload_n 0, 1) := by decide +kernel
theorem d1 : decode yB 1 = .ok (.aload_n 1, 1) := by decide +kernel
theorem d2 : decode yB 2 = .ok (.iconst 0, 1) := by decide +kernel
theorem d3 : decode yB 3 = .ok (.aload_n 1, 1) := by decide +kernel
theorem d4 : decode yB 4 = .ok (.arraylength, 1) := by decide +kernel
theorem d5 : decode yB 5 = .ok (.aconst_null, 1) := by decide +kernel
theorem d6 : decode yB 6 = .ok (.invokespecial 27, 3) := by decide +kernel
theorem d9 : decode yB 9 = .ok (.return_, 1) := by decide +kernel
def site : List Cond := [New4.tab] ++ initW "java/lang/String" 27 New4.yN
def tab : Cond := tabOf yN yB 2 none site
def P (a : Addr) (D : Cell) (fV fC : Field) (b : Addr) (A : Cell) (z : Int32) (args : Array Value) (s : State) : Prop := args = #[.ref a, .ref b] ∧ Blank "java/lang/String" a D s ∧ Found "java/lang/String" "value" "[B" fV s ∧ Found "java/lang/String" "coder" "B" fC s ∧ Ch b A s ∧ StaticIs s "java/lang/String" "COMPACT_STRINGS" "Z" (.int z) ∧ ¬ z = 0 ∧ 0 < A.slots.size ∧ A.slots.size ≤ 536870912 ∧ ∀ i, i < A.slots.size → ¬ 255 < cv A i
def E (a : Addr) (D : Cell) (fV fC : Field) (A : Cell) (r : Option Value) (s u : State) : Prop := Got a D fV fC A 0 A.slots.size r s u
/-- new String(chars), not empty, no char above 255: a Latin-1 String of their low bytes -/
theorem law (l : Launch) (a : Addr) (D : Cell) (fV fC : Field) (b : Addr) (A : Cell) (z : Int32) : Law l yN 2 1 3 52 yB 2 none site (P a D fV fC b A z) (E a D fV fC A) [⟨a, fC.slot⟩, ⟨a, fV.slot⟩] 1 A.slots.size := by
  refine Law.of_walk (plainFor_of_name (by decide +kernel)) (by decide +kernel) (by decide +kernel) (by decide) (fun _ _ h => by rw [h.1]; rfl) (fun _ U U' hal hh h => ⟨h.1, h.2.1.mv hal hh, h.2.2.1.al hal, h.2.2.2.1.al hal, h.2.2.2.2.1.mv hal hh, h.2.2.2.2.2.1.there hal hh, h.2.2.2.2.2.2⟩) (fun r U U' V V' h1 hal h2 h => Got.mv r U U' V V' h1 hal h2 h) ?_
  intro p e s m args below meth c s₁ X0 hexec hbytes hml hret hlk hnm hown hh0 W hP
  obtain ⟨rfl, hB, f1, f2, hA, s1, hz, l0, l2, hp⟩ := hP
  have c1 : Steps p.tables e below (s₁.setTop (entryFrame m #[.ref a, .ref b] 2)) (s₁.setTop (mkF m 0 #[.val (.ref a), .val (.ref b)] [])) := entry rfl
  have c2 : Steps p.tables e below (s₁.setTop (entryFrame m #[.ref a, .ref b] 2)) (s₁.setTop (mkF m 6 #[.val (.ref a), .val (.ref b)] [.null, .int (Int32.ofNat A.slots.size), .int 0, .ref b, .ref a])) := c1.trans (by
    refine XS.aloadN X0.here hexec rfl (hb hbytes d0) rfl rfl ?_
    refine XS.aloadN X0.here hexec rfl (hb hbytes d1) rfl rfl ?_
    refine iconstV X0.here hexec rfl 0 (hb hbytes d2) (by decide) ?_
    refine XS.aloadN X0.here hexec rfl (hb hbytes d3) rfl rfl ?_
    refine X0.alen hexec (hA.1.mv X0.warmed.alike hh0) rfl rfl (hb hbytes d4) ?_
    refine XS.aconstNull X0.here hexec rfl (hb hbytes d5) ?_
    exact Steps.refl _)
  obtain ⟨v3, T3, X3, E3, g3⟩ := X0.callN hexec (New4.law l a D fV fC b A z 0 A.slots.size) rfl hown (wks W (initW "java/lang/String" 27 New4.yN)) (W New4.tab (by simp only [site, List.mem_cons, List.mem_append, true_or, or_true])) (W := 0) (Nat.le_of_ble_eq_true rfl) (Nat.le_of_ble_eq_true rfl) (Nat.le_refl _) (by show 0 + A.slots.size ≤ A.slots.size; omega) (g := (mkF m 6 #[.val (.ref a), .val (.ref b)] [.null, .int (Int32.ofNat A.slots.size), .int (Int32.ofNat 0), .ref b, .ref a])) rfl (by rw [hml]; rfl) c2 (argsL := [.ref b, .int (Int32.ofNat 0), .int (Int32.ofNat A.slots.size), .null]) (rest := []) rfl rfl (by show 2 * 0 + 0 ≤ _; decide) (hb hbytes d6) (⟨rfl, hB.mv X0.warmed.alike hh0, f1.al X0.warmed.alike, f2.al X0.warmed.alike, hA.mv X0.warmed.alike hh0, s1.there X0.warmed.alike hh0, hz, l0, by omega, l2, fun i hi => by rw [Nat.zero_add]; exact hp i hi⟩)
  have e0 := Got.mv _ s₁ s _ _ hh0.symm (Vm.Alike.refl _) rfl E3
  obtain rfl := e0.1
  have c4 : Steps p.tables e below (s₁.setTop (entryFrame m #[.ref a, .ref b] 2)) (T3.setTop (mkF m 9 #[.val (.ref a), .val (.ref b)] [])) := g3
  exact ⟨T3, none, _, _, _, X3, by simp, rfl, by omega, (fun _ => rfl), e0, fun fs hl => c4.trans (X3.returnOut hexec hret (hb hbytes d9) hl)⟩
theorem pays {l : Launch} {R : Room} {p : Program} {e : Env} {below : List Frame} {s : State} {sargs : Array Value} {len W : Nat} (a : Addr) (D : Cell) (fV fC : Field) (b : Addr) (A : Cell) (z : Int32) (htab : tab.before sargs s = true) (hfr : 4 ≤ R.frames) (hlo : W + 65 ≤ R.locals) :
    Back l R p e below s sargs yN len W (fun A₁ a₁ => A₁.cells + 1 ≤ R.cells ∧ A₁.slots + A.slots.size ≤ R.slots ∧ P a D fV fC b A z a₁ A₁.U) (fun A₁ _ v₁ B₁ => E a D fV fC A v₁ A₁.U B₁.U ∧ B₁.locs = A₁.locs ++ [⟨a, fC.slot⟩, ⟨a, fV.slot⟩] ∧ B₁.cells = A₁.cells + 1 ∧ B₁.slots = A₁.slots + A.slots.size) :=
  (law l a D fV fC b A z).pays htab hfr (by omega)
end New1
/-- the byte, read back as charAt reads it, is the char -/
theorem lo8_mask {x : Int32} (h0 : ¬ x < 0) (h1 : ¬ 255 < x) : lo8 x &&& 255 = x := by
  have t : ∀ k : Fin 256, lo8 (Int32.ofNat k.val) &&& 255 = Int32.ofNat k.val := by decide +kernel
  rw [Int32.lt_iff_toInt_lt] at h0 h1
  have e0 : (0 : Int32).toInt = 0 := rfl
  have e1 : (255 : Int32).toInt = 255 := rfl
  obtain ⟨k, hk⟩ : ∃ k : Nat, x.toInt = k := ⟨x.toInt.toNat, by omega⟩
  have hx : x = Int32.ofNat k := Int32.toInt_inj.mp (by rw [hk, Int32.toInt_ofNat_small (by omega)])
  rw [hx]
  exact t ⟨k, by omega⟩
end StrChars
namespace StrChars.Road
open Jvm Sem ClassFile Op Lib Jvm.Stand Jvm.Free Jvm.Free.XT
open Jvm.Lib.Cold (StaticIs)
abbrev ST : String := "java/lang/String"
/-- every table word that New1's law asks, flat -/
abbrev words : List Jvm.Cond := [.code New1.yN New1.yB 2 none, .initialized ST, .methodLink ST 27 New4.yN, .instanceMethod New4.yN,
  .code New4.yN New4.yB 6 none, .fieldLink ST 38 ST "COMPACT_STRINGS" "Z", .laysFinal ST ST "value" "[B", .fieldLink ST 9 ST "value" "[B", .laysFinal ST ST "coder" "B", .fieldLink ST 15 ST "coder" "B",
  .methodLink ST 1 Lib.objectInit, .instanceMethod Lib.objectInit, .code Lib.objectInit ⟨#[0xb1]⟩ 1 none, .methodLink ST 177 Cmp3.yN, .static Cmp3.yN, .methodLink ST 47 CodL.yN, .static CodL.yN,
  .code Cmp3.yN Cmp3.yB 6 (some (.array .byte)), .initialized U16, .arrayClass .byte, .methodLink U16 115 Cmp5.yN, .static Cmp5.yN, .code Cmp5.yN Cmp5.yB 7 (some .int), .code CodL.yN CodL.yB 2 (some .byte)]
theorem tab_of {a : Array Value} {s : State} (h : ∀ w ∈ words, w.before a s = true) : New1.tab.before a s = true := by
  have h5 : Cmp5.tab.before a s = true := unparts (wk h (.code Cmp5.yN Cmp5.yB 7 (some .int))) (wks h (.initialized Cmp5.yN.cls :: Cmp5.site))
  have hc : CodL.tab.before a s = true := unparts (wk h (.code CodL.yN CodL.yB 2 (some .byte))) (wks h (.initialized CodL.yN.cls :: CodL.site))
  have q5 : ∀ w ∈ Cmp5.tab :: words, w.before a s = true := fun w hw => (List.mem_cons.mp hw).elim (fun e => e ▸ h5) (h w)
  have h3 : Cmp3.tab.before a s = true := unparts (wk q5 (.code Cmp3.yN Cmp3.yB 6 (some (.array .byte)))) (wks q5 (.initialized Cmp3.yN.cls :: Cmp3.site))
  have q3 : ∀ w ∈ Cmp3.tab :: CodL.tab :: words, w.before a s = true := fun w hw => (List.mem_cons.mp hw).elim (fun e => e ▸ h3) fun hw => (List.mem_cons.mp hw).elim (fun e => e ▸ hc) (h w)
  have h4 : New4.tab.before a s = true := unparts (wk q3 (.code New4.yN New4.yB 6 none)) (wks q3 (.initialized New4.yN.cls :: New4.site))
  have q4 : ∀ w ∈ New4.tab :: words, w.before a s = true := fun w hw => (List.mem_cons.mp hw).elim (fun e => e ▸ h4) (h w)
  exact unparts (wk q4 (.code New1.yN New1.yB 2 none)) (wks q4 (.initialized New1.yN.cls :: New1.site))
/-- the words ride from the start Z to the walk's own state -/
theorem moved {Z s : State} {a0 args : Array Value} (hZ : Z.Warmed39 s.vm) (hw : ∀ d ∈ words, d.before a0 Z = true) : ∀ d ∈ words, d.before args s = true := fun d hd => by
  have q := hw d hd
  have t : ∀ d ∈ words, d = .arrayClass .byte ∨ (d.onTables && d.keepsFace) = true := by decide +kernel
  rcases t d hd with rfl | t
  · exact RoadKit.mvA hZ q
  · exact RoadKit.mv hZ q t
/-- WHAT COMES BACK, over the tables of the start Z: h the heap at the call, h' behind it -/
def Q (Z : State) (x : Addr) (A : Cell) (h : Heap) (v : Option Value) (h' : Heap) (L : List Loc) : Prop := v = none ∧ (∀ y ∈ L, y.base = x) ∧ RoadKit.Keep h h' [x] ∧ h'.size = h.size + 1 ∧ RoadKit.Exa Z h' x ST ∧ RoadKit.Fld Z h' x ST "value" "[B" (.ref h.size) ∧ RoadKit.Fld Z h' x ST "coder" "B" (.int 0) ∧
  (∃ V : Cell, RoadKit.Arr Z h' h.size V .byte ∧ V.vm = .none ∧ Z.vm.findClass "[B" = some V.cls ∧ V.slots.size = A.slots.size ∧ ∀ j, j < A.slots.size → V.slots[j]? = some (.int (lo8 (cv A j)))) ∧
  ∀ (O n d : String) (w : Value), RoadKit.Fld Z h x O n d w → RoadKit.slotOf Z O n d ≠ RoadKit.slotOf Z ST "value" "[B" → RoadKit.slotOf Z O n d ≠ RoadKit.slotOf Z ST "coder" "B" → RoadKit.Fld Z h' x O n d w
/-- **new String(chars) AT A CALL, IN THE ROAD'S FORM**: for specialBack behind newO: x the fresh String, b the char[] with the cell A -/
theorem back {p : Program} {l : Launch} {e : Env} {R : Room} {s : State} {args : Array Value} {below : List Frame} {len W : Nat} {Z : State} {a0 : Array Value} {h : Heap} (hZ : Z.Warmed39 s.vm) (hw : ∀ d ∈ words, d.before a0 Z = true) {kI : Nat} (wi : (Jvm.Cond.instantiable ST kI).before a0 Z = true)
    {x b : Addr} {A : Cell} {z : Int32} {v0 c0 : Value} (E : RoadKit.Exa Z h x ST) (V : RoadKit.Fld Z h x ST "value" "[B" v0) (C : RoadKit.Fld Z h x ST "coder" "B" c0) (K : RoadKit.Arr Z h b A .char) (hty : Typed .char A) (S : RoadKit.Sta Z h ST "COMPACT_STRINGS" "Z" (.int z)) (hz : ¬ z = 0)
    (l0 : 0 < A.slots.size) (l2 : A.slots.size ≤ 536870912) (hp : ∀ i, i < A.slots.size → ¬ 255 < cv A i) (hfr : 4 ≤ R.frames) (hlo : W + 65 ≤ R.locals) :
    Back l R p e below s args New1.yN len W (fun P a => a = #[.ref x, .ref b] ∧ P.U.heap = h ∧ P.cells + 1 ≤ R.cells ∧ P.slots + A.slots.size ≤ R.slots)
      (fun P _ v B => ∃ L, Q Z x A h v B.U.heap L ∧ B.locs = P.locs ++ L ∧ B.cells = P.cells + 1 ∧ B.slots = P.slots + A.slots.size) := by
  intro m meth c P g ig mk a X hg hsize hdg hW hn hp'
  obtain ⟨rfl, rfl, r1, r2⟩ := hp'
  have al : Z.vm.Alike P.U.vm := hZ.alike.trans X.warmed.alike
  obtain ⟨D, cfV, kV, iV, fV, hD, gV, stV, knV, obV, asV, slV⟩ := id V
  obtain ⟨D', cfC, kC, iC, fC, hD', gC, stC, -, -, asC, slC⟩ := id C
  cases hD.symm.trans hD'
  obtain ⟨D2, kD, e1, e2, e3, e4, e5⟩ := id E
  cases hD.symm.trans e1
  obtain ⟨c2, k2, i1, i2, i3, -⟩ := Cond.instantiable_spec wi
  cases e2.symm.trans i1
  cases e3.symm.trans i2
  obtain ⟨kU, u1, u2⟩ := al.2.2 _ _ e3
  have hB : Blank ST x D P.U := ⟨hD, ⟨knV, fun q hq => by rw [hq] at obV; cases obV⟩, by rw [al.findClass]; exact e2, kU, u1, by rw [u2]; exact i3, by rw [u2]; exact e5 i3⟩
  have F1 : Found ST "value" "[B" fV P.U := ⟨SBG.found_only al ⟨cfV, kV, iV, gV⟩, stV⟩
  have F2 : Found ST "coder" "B" fC P.U := ⟨SBG.found_only al ⟨cfC, kC, iC, gC⟩, stC⟩
  have hA : Ch b A P.U := ⟨⟨K.1, State.isArrayOf_alike al K.2.1, K.2.2, by omega⟩, hty⟩
  have hS : StaticIs P.U ST "COMPACT_STRINGS" "Z" (.int z) := by
    obtain ⟨cfS, iS, kS, fS, st, cS, t1, t2, t3, t4, t5, t6, t7⟩ := S
    exact StaticIs.there (s := { Z with heap := P.U.heap }) ⟨cfS, iS, kS, fS, st, cS, t1, t2, t3, t4, t5, (fun q => by rw [q] at t6; cases t6), t7⟩ al rfl
  obtain ⟨v, B, X', ⟨⟨hv, E', V', q1, q2, q3, q4, q5, q6, q7, q8, q9, q10, q11⟩, hl, hc, hs⟩, st⟩ := New1.pays x D fV fC b A z (tab_of (moved hZ hw)) hfr hlo m meth c P g ig mk _ X hg hsize hdg hW hn ⟨r1, r2, rfl, hB, F1, F2, hA, hS, hz, l0, l2, hp⟩
  have al' : Z.vm.Alike B.U.vm := hZ.alike.trans X'.warmed.alike
  have hsz : E'.slots.size = D.slots.size := by
    obtain ⟨-, -, -, kB, w1, w2, w3⟩ := q1
    obtain ⟨kB', y1, y2⟩ := al'.2.2 _ _ e3
    rw [q2.2.1] at w1
    cases w1.symm.trans y1
    rw [w3, e5 i3, y2]
  refine ⟨v, B, X', ⟨_, ⟨hv, ?_, ⟨by omega, fun y cy hy hn' => q10 y cy (by simpa using hn') hy, fun y cy hy => ?_⟩, q11, ⟨E', _, q1.1, by rw [q2.2.1]; exact e2, by rw [q2.2.1]; exact e3, by rw [q2.1]; exact obV, fun _ => by rw [hsz]; exact e5 i3⟩,
    ⟨E', cfV, kV, iV, fV, q1.1, gV, stV, by rw [q2.1]; exact knV, by rw [q2.1]; exact obV, by rw [q2.2.1]; exact asV, q3⟩, ⟨E', cfC, kC, iC, fC, q1.1, gC, stC, by rw [q2.1]; exact knV, by rw [q2.1]; exact obV, by rw [q2.2.1]; exact asC, q4⟩,
    ⟨V', ⟨q5.1, State.isArrayOf_alike al'.symm q5.2.1, q5.2.2.1⟩, q6, by rw [← al'.findClass]; exact q7, q8, fun j hj => by have := q9 j hj; rwa [Nat.zero_add] at this⟩, fun O n d w F n1 n2 => ?_⟩, hl, hc, hs⟩, st⟩
  · intro y hy
    simp only [List.mem_cons, List.not_mem_nil, or_false] at hy
    rcases hy with rfl | rfl <;> rfl
  · by_cases q : y = x
    · subst q
      cases hD.symm.trans hy
      exact ⟨E', q1.1, q2.2.1, q2.1, hsz⟩
    · exact ⟨cy, q10 y cy q hy, rfl, rfl, rfl⟩
  · obtain ⟨D3, cf, k, i, f, g1, g2, g3, g4, g5, g6, g7⟩ := F
    cases hD.symm.trans g1
    simp only [RoadKit.slotOf, g2, gV, gC, Option.map_some, Option.getD_some] at n1 n2
    exact ⟨E', cf, k, i, f, q1.1, g2, g3, by rw [q2.1]; exact g4, by rw [q2.1]; exact g5, by rw [q2.2.1]; exact g6, by rw [q2.2.2 f.slot (by simp [n1, n2])]; exact g7⟩
end StrChars.Road
namespace StrChars.Road
open Jvm Sem ClassFile Op Lib Jvm.Stand Jvm.Free Jvm.Free.XT
/-- WHAT COMES BACK, the byte[] as a list of values -/
def QA (Z : State) (x : Addr) (zn : Int32) (cs : List Int32) (h : Heap) (v : Option Value) (h' : Heap) (L : List Loc) : Prop := v = none ∧ (∀ y ∈ L, y.base = x) ∧ RoadKit.Keep h h' [x] ∧ h'.size = h.size + 1 ∧ RoadKit.Exa Z h' x ST ∧ RoadKit.Fld Z h' x ST "value" "[B" (.ref h.size) ∧ RoadKit.Fld Z h' x ST "coder" "B" (.int 0) ∧
  (∃ kb, Z.vm.findClass "[B" = some kb ∧ RoadKit.Arv Z h' h.size kb .byte zn (cs.map fun c => .int (lo8 c)) (.int 0)) ∧
  ∀ (O n d : String) (w : Value), RoadKit.Fld Z h x O n d w → RoadKit.slotOf Z O n d ≠ RoadKit.slotOf Z ST "value" "[B" → RoadKit.slotOf Z O n d ≠ RoadKit.slotOf Z ST "coder" "B" → RoadKit.Fld Z h' x O n d w
/-- **new String(chars) AT A CALL, THE ARRAYS AS LISTS**: the char[] at b holds cs, not empty, no char above 255 -/
theorem backArv {p : Program} {l : Launch} {e : Env} {R : Room} {s : State} {args : Array Value} {below : List Frame} {len W : Nat} {Z : State} {a0 : Array Value} {h : Heap} (hZ : Z.Warmed39 s.vm) (hw : ∀ d ∈ words, d.before a0 Z = true) {kI : Nat} (wi : (Jvm.Cond.instantiable ST kI).before a0 Z = true)
    {x b : Addr} {k : ClassId} {zn z : Int32} {cs : List Int32} {dv v0 c0 : Value} (E : RoadKit.Exa Z h x ST) (V : RoadKit.Fld Z h x ST "value" "[B" v0) (C : RoadKit.Fld Z h x ST "coder" "B" c0) (K : RoadKit.Arv Z h b k .char zn (cs.map Value.int) dv) (S : RoadKit.Sta Z h ST "COMPACT_STRINGS" "Z" (.int z)) (hz : ¬ z = 0)
    (hlen : zn.toNatClampNeg = cs.length) (h0 : 0 < cs.length) (hbig : cs.length ≤ 536870912) (hall : ∀ c ∈ cs, ¬ 255 < c) (hfr : 4 ≤ R.frames) (hlo : W + 65 ≤ R.locals) :
    Back l R p e below s args New1.yN len W (fun P a => a = #[.ref x, .ref b] ∧ P.U.heap = h ∧ P.cells + 1 ≤ R.cells ∧ P.slots + cs.length ≤ R.slots)
      (fun P _ v B => ∃ L, QA Z x zn cs h v B.U.heap L ∧ B.locs = P.locs ++ L ∧ B.cells = P.cells + 1 ∧ B.slots = P.slots + cs.length) := by
  obtain ⟨A, K1, K2, K3, K4, K5, K6⟩ := K
  have e : A.slots.size = cs.length := K3.trans hlen
  have hat : ∀ (i : Nat) (hi : i < cs.length), A.slots[i]? = some (.int cs[i]) := fun i hi => by rw [K5 i (by omega)]; simp [List.getD_eq_getElem?_getD, hi]
  have hcv : ∀ (i : Nat) (hi : i < cs.length), cv A i = cs[i] := fun i hi => by unfold cv; rw [hat i hi]
  have hty : Typed .char A := fun i v hv => by
    have hi : i < A.slots.size := (Array.getElem?_eq_some_iff.mp hv).1
    have q := K5 i hi
    rw [hv] at q
    rw [Option.some.inj q]
    exact K6 i hi
  refine Back.mono (back hZ hw wi E V C K1 hty S hz (by omega) (by omega) (fun i hi => by rw [hcv i (by omega)]; exact hall _ (List.getElem_mem _)) hfr hlo) (fun P a hp => ⟨hp.1, hp.2.1, hp.2.2.1, by rw [e]; exact hp.2.2.2⟩) (fun P a v B hp hq => ?_)
  obtain ⟨L, ⟨q1, q2, q3, q4, q5, q6, q7, ⟨V', v1, v2, v3, v4, v5⟩, q9⟩, hl, hc, hs⟩ := hq
  refine ⟨L, ⟨q1, q2, q3, q4, q5, q6, q7, ⟨V'.cls, v3, V', v1, rfl, by rw [v4, e, hlen], K4, fun i hi => ?_, fun i hi => ?_⟩, q9⟩, hl, hc, by rw [hs, e]⟩
  · have hi' : i < cs.length := by omega
    rw [v5 i (by omega), hcv i hi']; simp [List.getD_eq_getElem?_getD, hi']
  · have hi' : i < cs.length := by omega
    simp only [List.getD_eq_getElem?_getD, List.getElem?_map, List.getElem?_eq_getElem hi', Option.map_some, Option.getD_some]
    exact fits_lo8 _
end StrChars.Road
namespace StrChars.Road
open Jvm Sem ClassFile Op Lib Jvm.Stand Jvm.Free Jvm.Free.XT
/-- WHAT COMES BACK, in the writer's own shape -/
def QV (Z : State) (x : Addr) (N : Int32) (bs : List Int32) (h : Heap) (n0 : Nat) (v : Option Value) (h' : Heap) (L : List Loc) : Prop := v = none ∧ RoadKit.Fr n0 L ∧ RoadKit.Keep h h' [x] ∧ RoadKit.Exa Z h' x ST ∧ RoadKit.Fld Z h' x ST "coder" "B" (.int 0) ∧
  ∃ (t : Addr) (kb : ClassId), n0 ≤ t ∧ h.size ≤ t ∧ ¬ t = x ∧ RoadKit.Fld Z h' x ST "value" "[B" (.ref t) ∧ RoadKit.Arv Z h' t kb .byte N (bs.map Value.int) (.int 0)
/-- **new String(chars) AT A CALL, FOR THE WRITER**: a char[] of n known ints, each 0 to 255 -/
theorem backV {p : Program} {l : Launch} {e : Env} {R : Room} {s : State} {args : Array Value} {below : List Frame} {len W : Nat} {Z : State} {a0 : Array Value} {h : Heap} (hZ : Z.Warmed39 s.vm) (hw : ∀ d ∈ words, d.before a0 Z = true) {kI : Nat} (wi : (Jvm.Cond.instantiable ST kI).before a0 Z = true)
    {x b : Addr} {kC : ClassId} {cs bs : List Int32} {d v0 c0 : Value} {z N : Int32} {n n0 : Nat} (hx0 : n0 ≤ x) (hh0 : n0 ≤ h.size) (E : RoadKit.Exa Z h x ST) (V : RoadKit.Fld Z h x ST "value" "[B" v0) (C : RoadKit.Fld Z h x ST "coder" "B" c0) (K : RoadKit.Arv Z h b kC .char N (cs.map Value.int) d) (S : RoadKit.Sta Z h ST "COMPACT_STRINGS" "Z" (.int z)) (hz : ¬ z = 0)
    (hn : cs.length = n) (hN : N = Int32.ofNat n) (l0 : 0 < n) (l2 : n ≤ 4000) (hp : ∀ c ∈ cs, ¬ c < 0 ∧ ¬ (255 : Int32) < c) (hb : bs = cs.map (fun c => c.toInt8.toInt32)) (hfr : 4 ≤ R.frames) (hlo : W + 65 ≤ R.locals) :
    Back l R p e below s args (⟨"java/lang/String", "<init>", "([C)V"⟩ : MethodName) len W (fun P a => a = #[.ref x, .ref b] ∧ P.U.heap = h ∧ P.cells + 1 ≤ R.cells ∧ P.slots + n ≤ R.slots)
      (fun P _ v B => ∃ L, QV Z x N bs h n0 v B.U.heap L ∧ B.locs = P.locs ++ L ∧ B.cells = P.cells + 1 ∧ B.slots = P.slots + n) := by
  subst hn hN hb
  refine Back.mono (backArv hZ hw wi E V C K S hz (n32 (by omega)) l0 (by omega) (fun c hc => (hp c hc).2) hfr hlo) (fun P a hp => hp) (fun P a v B hp hq => ?_)
  obtain ⟨L, ⟨q1, q2, q3, q4, q5, q6, q7, ⟨kb, v1, v2⟩, q9⟩, hl, hc, hs⟩ := hq
  exact ⟨L, ⟨q1, fun y hy => by rw [q2 y hy]; exact hx0, q3, q5, q7, h.size, kb, hh0, Nat.le_refl _, Nat.ne_of_gt E.lt, q6, by rw [List.map_map]; exact v2⟩, hl, hc, hs⟩
end StrChars.Road
namespace StrChars
open Jvm Sem ClassFile Op Lib Jvm.Stand Jvm.Free.XT Jvm.Free.ALB Jvm.Free.JM Jvm.Free
open Jvm.Lib.Cold (StaticIs)
def hi8 (x : Int32) : Int32 := lo8 (x >>> ((8 : Int32) &&& 31))
/-- what StringUTF16.getChar makes of two bytes -/
def pairCh (u v : Int32) : Int32 := (((u &&& 255) <<< ((0 : Int32) &&& 31)) ||| ((v &&& 255) <<< ((8 : Int32) &&& 31))).toUInt32.toUInt16.toUInt32.toInt32
theorem lo8_and (x : Int32) : (lo8 x &&& 255).toBitVec.toNat = x.toBitVec.toNat % 256 := by
  have h : (lo8 x).toBitVec = (x.toBitVec.signExtend 8).signExtend 32 := by rw [lo8, Int8.toBitVec_toInt32, Int32.toBitVec_toInt8]
  rw [Int32.toBitVec_and, BitVec.toNat_and, h]
  have e : ((x.toBitVec.signExtend 8).signExtend 32).toNat % 256 = x.toBitVec.toNat % 256 := by
    rw [BitVec.toNat_signExtend]
    have hlt := x.toBitVec.isLt
    simp only [BitVec.toNat_setWidth, BitVec.toNat_signExtend]
    split <;> split <;> omega
  rw [← e]
  exact Nat.and_two_pow_sub_one_eq_mod _ 8
theorem pair_says {c : Int32} (h0 : ¬ c < 0) (h1 : ¬ 65535 < c) : pairCh (lo8 c) (hi8 c) = c := by
  rw [Int32.lt_iff_toInt_lt] at h0 h1
  have e0 : (0 : Int32).toInt = 0 := rfl
  have e1 : (65535 : Int32).toInt = 65535 := rfl
  have hc : c.toInt = c.toBitVec.toNat := by
    have := c.toBitVec.isLt
    have e : c.toInt = c.toBitVec.toInt := rfl
    rw [e] at h0 h1
    rw [e]
    rw [BitVec.toInt_eq_toNat_cond] at h0 h1 ⊢
    split at h0 <;> split <;> omega
  have hn : c.toBitVec.toNat < 65536 := by omega
  have a1 := lo8_and c
  have a2 : (hi8 c &&& 255).toBitVec.toNat = c.toBitVec.toNat / 256 := by
    rw [hi8, lo8_and]
    have e : ((8 : Int32) &&& 31) = 8 := by decide
    rw [e, Int32.toBitVec_shiftRight]
    have e2 : ((8 : Int32).toBitVec.smod 32) = 8#32 := by decide
    rw [e2, BitVec.sshiftRight_eq', BitVec.toNat_sshiftRight_of_msb_false (by rw [BitVec.msb_eq_false_iff_two_mul_lt]; omega)]
    show c.toBitVec.toNat >>> 8 % 256 = _
    rw [Nat.shiftRight_eq_div_pow]
    omega
  unfold pairCh
  apply Int32.toBitVec_inj.mp
  apply BitVec.eq_of_toNat_eq
  have f0 : ((0 : Int32) &&& 31) = 0 := by decide
  have f8 : ((8 : Int32) &&& 31) = 8 := by decide
  rw [f0, f8]
  have g : (((lo8 c &&& 255) <<< (0 : Int32)) ||| ((hi8 c &&& 255) <<< (8 : Int32))).toBitVec.toNat = c.toBitVec.toNat := by
    rw [Int32.toBitVec_or, Int32.toBitVec_shiftLeft, Int32.toBitVec_shiftLeft]
    have s0 : ((0 : Int32).toBitVec.smod 32) = 0#32 := by decide
    have s8 : ((8 : Int32).toBitVec.smod 32) = 8#32 := by decide
    rw [s0, s8, BitVec.toNat_or]
    simp only [BitVec.shiftLeft_eq', BitVec.toNat_shiftLeft, a1, a2]
    show (c.toBitVec.toNat % 256) <<< 0 % 2 ^ 32 ||| (c.toBitVec.toNat / 256) <<< 8 % 2 ^ 32 = _
    rw [Nat.shiftLeft_zero, Nat.mod_eq_of_lt (show c.toBitVec.toNat % 256 < 2 ^ 32 by omega), Nat.mod_eq_of_lt (show (c.toBitVec.toNat / 256) <<< 8 < 2 ^ 32 by rw [Nat.shiftLeft_eq]; omega), Nat.or_comm, ← Nat.shiftLeft_add_eq_or_of_lt (by omega), Nat.shiftLeft_eq]
    omega
  show BitVec.toNat (((((lo8 c &&& 255) <<< (0 : Int32)) ||| ((hi8 c &&& 255) <<< (8 : Int32))).toBitVec.setWidth 16).setWidth 32) = _
  rw [BitVec.toNat_setWidth, BitVec.toNat_setWidth, g]
  omega
end StrChars
namespace StrChars
open Jvm Sem ClassFile Op Lib Jvm.Stand Jvm.Free.XT Jvm.Free.ALB Jvm.Free.JM Jvm.Free
open Jvm.Lib.Cold (StaticIs)
/-- the array's cell V codes the n chars f 0 .. f (n - 1) by the coder cd, as the JDK does: coder 1 just where some char is above 255 -/
def Cod (cd : Int32) (n : Nat) (f : Nat → Int32) (V : Cell) : Prop := (cd = 0 ∧ V.slots.size = n ∧ ∀ j, j < n → V.slots[j]? = some (.int (lo8 (f j))) ∧ ¬ 255 < f j) ∨ (cd = 1 ∧ V.slots.size = 2 * n ∧ (∀ j, j < n → V.slots[2 * j]? = some (.int (lo8 (f j))) ∧ V.slots[2 * j + 1]? = some (.int (hi8 (f j)))) ∧ ∃ j, j < n ∧ 255 < f j)
/-- **x is a String of the n chars f 0 .. f (n - 1)**, Latin-1 or UTF-16; its array at t has the cell V -/
def Txt (x t : Addr) (V : Cell) (cd : Int32) (n : Nat) (f : Nat → Int32) (U : State) : Prop := Exact "java/lang/String" x U ∧ Has x "java/lang/String" "value" "[B" (.ref t) U ∧ Has x "java/lang/String" "coder" "B" (.int cd) U ∧ XT.Arr .byte t V U ∧ Cod cd n f V ∧ ∀ j, j < n → ¬ f j < 0 ∧ ¬ 65535 < f j
theorem Txt.mv {x t : Addr} {V : Cell} {cd : Int32} {n : Nat} {f : Nat → Int32} {U U' : State} (h : Txt x t V cd n f U) (hal : U.vm.Alike U'.vm) (hh : U'.heap = U.heap) : Txt x t V cd n f U' := ⟨h.1.mv hal hh, h.2.1.mv hal hh, h.2.2.1.mv hal hh, h.2.2.2.1.mv hal hh, h.2.2.2.2⟩
end StrChars
namespace StrChars.Road
open Jvm Sem ClassFile Op Lib Jvm.Stand Jvm.Free Jvm.Free.XT
open Jvm.Lib.Cold (StaticIs)
theorem consq {a : Array Value} {s : State} {c : Jvm.Cond} {L : List Jvm.Cond} (h0 : c.before a s = true) (h : ∀ w ∈ L, w.before a s = true) : ∀ w ∈ c :: L, w.before a s = true := fun w hw => (List.mem_cons.mp hw).elim (fun e => e ▸ h0) (h w)
/-- the bytes of the chars cs, low before high -/
def wideBytes : List Int32 → List Value
  | [] => []
  | c :: cs => .int (lo8 c) :: .int (hi8 c) :: wideBytes cs
theorem wide_lo (d : Value) : ∀ (cs : List Int32) (j : Nat), j < cs.length → (wideBytes cs).getD (2 * j) d = .int (lo8 (cs.getD j 0))
  | [], j, h => absurd h (Nat.not_lt_zero j)
  | c :: cs, 0, _ => rfl
  | c :: cs, j + 1, h => by
    have q := wide_lo d cs j (by simpa using h)
    rw [show 2 * (j + 1) = 2 * j + 1 + 1 from by omega]
    simpa [wideBytes] using q
theorem wide_hi (d : Value) : ∀ (cs : List Int32) (j : Nat), j < cs.length → (wideBytes cs).getD (2 * j + 1) d = .int (hi8 (cs.getD j 0))
  | [], j, h => absurd h (Nat.not_lt_zero j)
  | c :: cs, 0, _ => rfl
  | c :: cs, j + 1, h => by
    have q := wide_hi d cs j (by simpa using h)
    rw [show 2 * (j + 1) + 1 = 2 * j + 1 + 1 + 1 from by omega]
    simpa [wideBytes] using q
theorem low_at (d : Value) (cs : List Int32) (j : Nat) (h : j < cs.length) : (cs.map fun c => Value.int (lo8 c)).getD j d = .int (lo8 (cs.getD j 0)) := by
  simp [List.getD_eq_getElem?_getD, h]
/-- an array of N2 bytes vs codes the chars cs by the coder cd -/
def CodA (cs : List Int32) (cd N2 : Int32) (vs : List Value) : Prop := (cd = 0 ∧ N2 = Int32.ofNat cs.length ∧ vs = (cs.map fun c => Value.int (lo8 c)) ∧ ∀ c ∈ cs, ¬ 255 < c) ∨ (cd = 1 ∧ N2 = Int32.ofNat (2 * cs.length) ∧ vs = wideBytes cs ∧ ∃ c ∈ cs, 255 < c)
theorem CodA.cod {cs : List Int32} {cd N2 : Int32} {vs : List Value} {V : Cell} (h : CodA cs cd N2 vs) (hn : 2 * cs.length < 2 ^ 31) (hs : V.slots.size = N2.toNatClampNeg) (hv : RoadKit.Has V vs (.int 0)) : Cod cd cs.length (fun j => cs.getD j 0) V := by
  rcases h with ⟨rfl, rfl, rfl, h⟩ | ⟨rfl, rfl, rfl, c, hc, hw⟩
  · rw [n32 (by omega)] at hs
    exact Or.inl ⟨rfl, hs, fun j hj => ⟨by rw [hv j (by omega), low_at _ _ _ hj], by
      have e : cs.getD j 0 = cs[j] := by simp [List.getD_eq_getElem?_getD, hj]
      show ¬ 255 < cs.getD j 0
      rw [e]; exact h _ (List.getElem_mem _)⟩⟩
  · rw [n32 (by omega)] at hs
    obtain ⟨j, hj, rfl⟩ := List.getElem_of_mem hc
    exact Or.inr ⟨rfl, hs, fun j hj => ⟨by rw [hv _ (by omega), wide_lo _ _ _ hj], by rw [hv _ (by omega), wide_hi _ _ _ hj]⟩, j, hj, by
      have e : cs.getD j 0 = cs[j] := by simp [List.getD_eq_getElem?_getD, hj]
      show 255 < cs.getD j 0
      rw [e]; exact hw⟩
/-- an object of exactly java/lang/String, its two fields found: as the laws ask it -/
theorem strObj {Z U : State} {a0 : Array Value} {kI : Nat} (wi : (Jvm.Cond.instantiable ST kI).before a0 Z = true) (al : Z.vm.Alike U.vm) {x : Addr} {v0 c0 : Value} (E : RoadKit.Exa Z U.heap x ST) (V : RoadKit.Fld Z U.heap x ST "value" "[B" v0) (C : RoadKit.Fld Z U.heap x ST "coder" "B" c0) :
    ∃ (D : Cell) (fV fC : Field), Blank ST x D U ∧ Found ST "value" "[B" fV U ∧ Found ST "coder" "B" fC U ∧ D.slots[fV.slot]? = some v0 ∧ D.slots[fC.slot]? = some c0 ∧ RoadKit.slotOf Z ST "value" "[B" = fV.slot ∧ RoadKit.slotOf Z ST "coder" "B" = fC.slot := by
  obtain ⟨D, cfV, kV, iV, fV, hD, gV, stV, knV, obV, asV, slV⟩ := V
  obtain ⟨D', cfC, kC, iC, fC, hD', gC, stC, -, -, asC, slC⟩ := C
  cases hD.symm.trans hD'
  obtain ⟨D2, kD, e1, e2, e3, e4, e5⟩ := E
  cases hD.symm.trans e1
  obtain ⟨c2, k2, i1, i2, i3, -⟩ := Cond.instantiable_spec wi
  cases e2.symm.trans i1
  cases e3.symm.trans i2
  obtain ⟨kU, u1, u2⟩ := al.2.2 _ _ e3
  exact ⟨D, fV, fC, ⟨hD, ⟨knV, fun q hq => by rw [hq] at obV; cases obV⟩, by rw [al.findClass]; exact e2, kU, u1, by rw [u2]; exact i3, by rw [u2]; exact e5 i3⟩, ⟨SBG.found_only al ⟨cfV, kV, iV, gV⟩, stV⟩, ⟨SBG.found_only al ⟨cfC, kC, iC, gC⟩, stC⟩, slV, slC, by simp [RoadKit.slotOf, gV], by simp [RoadKit.slotOf, gC]⟩
theorem sta_is {Z U : State} (al : Z.vm.Alike U.vm) {C n d : String} {v : Value} (S : RoadKit.Sta Z U.heap C n d v) : StaticIs U C n d v := by
  obtain ⟨cfS, iS, kS, fS, st, cS, t1, t2, t3, t4, t5, t6, t7⟩ := S
  exact StaticIs.there (s := { Z with heap := U.heap }) ⟨cfS, iS, kS, fS, st, cS, t1, t2, t3, t4, t5, (fun q => by rw [q] at t6; cases t6), t7⟩ al rfl
end StrChars.Road
namespace StrChars
open Jvm Sem ClassFile Op Lib Jvm.Stand Jvm.Free.XT Jvm.Free.ALB Jvm.Free.JM Jvm.Free
open Jvm.Lib.Cold (StaticIs)
/-- what place i of a byte[]'s cell holds -/
def yv (A : Cell) (i : Nat) : Int32 := match A.slots[i]? with | some (.int x) => x | _ => 0
theorem yv_get {a : Addr} {A : Cell} {U : State} (h : XT.Arr .byte a A U) (ht : Typed .byte A) {i : Nat} (hi : i < A.slots.size) : A.slots[i]? = some (.int (yv A i)) := by
  have e := Array.getElem?_eq_getElem hi
  have f := ht i _ e
  unfold yv; rw [e]
  generalize A.slots[i] = v at f
  cases v <;> simp [fits] at f ⊢
/-- the two arrays are equal, place for place -/
def EqC (A B : Cell) : Prop := A.slots.size = B.slots.size ∧ ∀ i, i < A.slots.size → yv A i = yv B i
/-- a boolean that says whether p -/
def Says01 (q : Prop) (r : Option Value) (s u : State) : Prop := ∃ v : Int32, r = some (.int v) ∧ u.heap = s.heap ∧ ((v = 1 ∧ q) ∨ (v = 0 ∧ ¬ q))
theorem Says01.mv {q : Prop} : ∀ r (U U' V V' : State), U'.heap = U.heap → V.vm.Alike V'.vm → V'.heap = V.heap → Says01 q r U V → Says01 q r U' V' :=
  fun r U U' V V' h1 _ h2 ⟨v, a, b, c⟩ => ⟨v, a, by rw [h1, h2]; exact b, c⟩
namespace LEq
def yN : MethodName := ⟨"java/lang/StringLatin1", "equals", "([B[B)Z"⟩
abbrev yB : ByteArray := jdk_43_method_13_code
theorem d0 : decode yB 0 = .ok (.aload_n 0, 1) := by decide +kernel
theorem d1 : decode yB 1 = .ok (.arraylength, 1) := by decide +kernel
theorem d2 : decode yB 2 = .ok (.aload_n 1, 1) := by decide +kernel
theorem d3 : decode yB 3 = .ok (.arraylength, 1) := by decide +kernel
theorem d4 : decode yB 4 = .ok (.if_icmp (.ne) 30, 3) := by decide +kernel
theorem d7 : decode yB 7 = .ok (.iconst 0, 1) := by decide +kernel
theorem d8 : decode yB 8 = .ok (.istore_n 2, 1) := by decide +kernel
theorem d9 : decode yB 9 = .ok (.iload_n 2, 1) := by decide +kernel
theorem d10 : decode yB 10 = .ok (.aload_n 0, 1) := by decide +kernel
theorem d11 : decode yB 11 = .ok (.arraylength, 1) := by decide +kernel
theorem d12 : decode yB 12 = .ok (.if_icmp (.ge) 20, 3) := by decide +kernel
theorem d15 : decode yB 15 = .ok (.aload_n 0, 1) := by decide +kernel
theorem d16 : decode yB 16 = .ok (.iload_n 2, 1) := by decide +kernel
theorem d17 : decode yB 17 = .ok (.baload, 1) := by decide +kernel
theorem d18 : decode yB 18 = .ok (.aload_n 1, 1) := by decide +kernel
theorem d19 : decode yB 19 = .ok (.iload_n 2, 1) := by decide +kernel
theorem d20 : decode yB 20 = .ok (.baload, 1) := by decide +kernel
theorem d21 : decode yB 21 = .ok (.if_icmp (.eq) 5, 3) := by decide +kernel
theorem d24 : decode yB 24 = .ok (.iconst 0, 1) := by decide +kernel
theorem d25 : decode yB 25 = .ok (.ireturn, 1) := by decide +kernel
theorem d26 : decode yB 26 = .ok (.iinc 2 1, 3) := by decide +kernel
theorem d29 : decode yB 29 = .ok (.goto (-20), 3) := by decide +kernel
theorem d32 : decode yB 32 = .ok (.iconst 1, 1) := by decide +kernel
theorem d33 : decode yB 33 = .ok (.ireturn, 1) := by decide +kernel
theorem d34 : decode yB 34 = .ok (.iconst 0, 1) := by decide +kernel
theorem d35 : decode yB 35 = .ok (.ireturn, 1) := by decide +kernel
def site : List Cond := []
def tab : Cond := tabOf yN yB 3 (some .boolean) site
def P (a : Addr) (A : Cell) (b : Addr) (B : Cell) (args : Array Value) (s : State) : Prop := args = #[.ref a, .ref b] ∧ XT.Arr .byte a A s ∧ Typed .byte A ∧ XT.Arr .byte b B s ∧ Typed .byte B
/-- whether two byte[] are equal, place for place -/
theorem law (l : Launch) (a : Addr) (A : Cell) (b : Addr) (B : Cell) : Law l yN 2 2 0 0 yB 3 (some .boolean) site (P a A b B) (Says01 (EqC A B)) [] 0 0 := by
  refine Law.of_walk (plainFor_of_name (by decide +kernel)) (by decide +kernel) (by decide +kernel) (by decide) (fun _ _ h => by rw [h.1]; rfl) (fun _ U U' hal hh h => ⟨h.1, h.2.1.mv hal hh, h.2.2.1, h.2.2.2.1.mv hal hh, h.2.2.2.2⟩) (fun r U U' V V' h1 hal h2 h => Says01.mv r U U' V V' h1 hal h2 h) ?_
  intro p e s m args below meth c s₁ X0 hexec hbytes hml hret hlk hnm hown hh0 W hP
  obtain ⟨rfl, hA, tA, hB, tB⟩ := hP
  have a31 := hA.2.2.2
  have b31 := hB.2.2.2
  have hA0 := hA.mv X0.warmed.alike hh0
  have hB0 := hB.mv X0.warmed.alike hh0
  have c1 : Steps p.tables e below (s₁.setTop (entryFrame m #[.ref a, .ref b] 3)) (s₁.setTop (mkF m 0 #[.val (.ref a), .val (.ref b), .unset] [])) := entry rfl
  have c2 : Steps p.tables e below (s₁.setTop (entryFrame m #[.ref a, .ref b] 3)) (s₁.setTop (mkF m 4 #[.val (.ref a), .val (.ref b), .unset] [.int (Int32.ofNat B.slots.size), .int (Int32.ofNat A.slots.size)])) := c1.trans (by
    refine XS.aloadN X0.here hexec rfl (hb hbytes d0) rfl rfl ?_
    refine X0.alen hexec hA0 rfl rfl (hb hbytes d1) ?_
    refine XS.aloadN X0.here hexec rfl (hb hbytes d2) rfl rfl ?_
    refine X0.alen hexec hB0 rfl rfl (hb hbytes d3) ?_
    exact Steps.refl _)
  by_cases hs : A.slots.size = B.slots.size
  · have c3 : Steps p.tables e below (s₁.setTop (entryFrame m #[.ref a, .ref b] 3)) (s₁.setTop (mkF m 9 #[.val (.ref a), .val (.ref b), .val (.int 0)] [])) := c2.trans (by
      refine XS.icmpNo X0.here hexec rfl (hb hbytes d4) rfl (ii_ne_f (by rw [hs])) ?_
      refine iconstV X0.here hexec rfl 0 (hb hbytes d7) (by decide) ?_
      refine XS.istoreN X0.here hexec rfl (hb hbytes d8) rfl rfl ?_
      exact Steps.refl _)
    have loop : ∀ (r i : Nat), i + r = A.slots.size → (∀ j, j < i → yv A j = yv B j) → Steps p.tables e below (s₁.setTop (entryFrame m #[.ref a, .ref b] 3)) (s₁.setTop (mkF m 9 #[.val (.ref a), .val (.ref b), .val (.int (Int32.ofNat i))] [])) → ∃ (pc : Nat) (Ls : Array Slot) (v : Int32), (pc = 25 ∨ pc = 33) ∧ ((v = 1 ∧ EqC A B) ∨ (v = 0 ∧ ¬ EqC A B)) ∧ Steps p.tables e below (s₁.setTop (entryFrame m #[.ref a, .ref b] 3)) (s₁.setTop (mkF m pc Ls [.int v])) := by
      intro r
      induction r with
      | zero =>
        intro i hi he cl
        exact ⟨33, _, 1, Or.inr rfl, Or.inl ⟨rfl, hs, fun j hj => he j (by omega)⟩, cl.trans (by
          refine XS.iloadN X0.here hexec rfl (hb hbytes d9) rfl ?_
          refine XS.aloadN X0.here hexec rfl (hb hbytes d10) rfl rfl ?_
          refine X0.alen hexec hA0 rfl rfl (hb hbytes d11) ?_
          refine XS.icmpYes X0.here hexec rfl (pc0 := 12) rfl (hb hbytes d12) rfl (ii_ge_t (nlt32 (by omega) (by omega))) (by decide) rfl ?_
          refine iconstV X0.here hexec rfl 1 (hb hbytes d32) (by decide) ?_
          exact Steps.refl _)⟩
      | succ r ih =>
        intro i hi he cl
        have c4 : Steps p.tables e below (s₁.setTop (entryFrame m #[.ref a, .ref b] 3)) (s₁.setTop (mkF m 21 #[.val (.ref a), .val (.ref b), .val (.int (Int32.ofNat i))] [.int (yv B i), .int (yv A i)])) := cl.trans (by
          refine XS.iloadN X0.here hexec rfl (hb hbytes d9) rfl ?_
          refine XS.aloadN X0.here hexec rfl (hb hbytes d10) rfl rfl ?_
          refine X0.alen hexec hA0 rfl rfl (hb hbytes d11) ?_
          refine XS.icmpNo X0.here hexec rfl (hb hbytes d12) rfl (ii_ge_f (lt32 (by omega) (by omega))) ?_
          refine XS.aloadN X0.here hexec rfl (hb hbytes d15) rfl rfl ?_
          refine XS.iloadN X0.here hexec rfl (hb hbytes d16) rfl ?_
          refine X0.aget hexec hA0 rfl (yv_get hA tA (i := i) (by omega)) rfl rfl (hb hbytes d17) ?_
          refine XS.aloadN X0.here hexec rfl (hb hbytes d18) rfl rfl ?_
          refine XS.iloadN X0.here hexec rfl (hb hbytes d19) rfl ?_
          refine X0.aget hexec hB0 rfl (yv_get hB tB (i := i) (by omega)) rfl rfl (hb hbytes d20) ?_
          exact Steps.refl _)
        by_cases hv : yv A i = yv B i
        · have c5 : Steps p.tables e below (s₁.setTop (entryFrame m #[.ref a, .ref b] 3)) (s₁.setTop (mkF m 9 #[.val (.ref a), .val (.ref b), .val (.int (Int32.ofNat i + 1))] [])) := c4.trans (by
            refine XS.icmpYes X0.here hexec rfl (pc0 := 21) rfl (hb hbytes d21) rfl (ii_eq_t hv) (by decide) rfl ?_
            refine iincV X0.here hexec rfl 1 (hb hbytes d26) (by decide) rfl rfl ?_
            refine XS.goto X0.here hexec rfl (pc0 := 29) rfl (hb hbytes d29) (by decide) rfl ?_
            exact Steps.refl _)
          rw [succ32] at c5
          exact ih (i + 1) (by omega) (fun j hj => by
            by_cases e : j = i
            · rw [e]; exact hv
            · exact he j (by omega)) c5
        · exact ⟨25, _, 0, Or.inl rfl, Or.inr ⟨rfl, fun q => hv (q.2 i (by omega))⟩, c4.trans (by
            refine XS.icmpNo X0.here hexec rfl (hb hbytes d21) rfl (ii_eq_f hv) ?_
            refine iconstV X0.here hexec rfl 0 (hb hbytes d24) (by decide) ?_
            exact Steps.refl _)⟩
    obtain ⟨pc, Ls, v, hpc, hv, cz⟩ := loop A.slots.size 0 (by omega) (fun j hj => absurd hj (Nat.not_lt_zero j)) c3
    have nv : narrow .boolean (.int v) = .int v := by rcases hv with ⟨rfl, -⟩ | ⟨rfl, -⟩ <;> rfl
    rcases hpc with rfl | rfl
    · exact ⟨s₁, some (.int v), _, _, _, X0, rfl, rfl, rfl, (fun h => by cases h), ⟨v, rfl, hh0, hv⟩, fun fs hl => cz.trans (X0.ireturnOut hexec hret nv (Or.inr (Or.inl rfl)) (hb hbytes d25) hl)⟩
    · exact ⟨s₁, some (.int v), _, _, _, X0, rfl, rfl, rfl, (fun h => by cases h), ⟨v, rfl, hh0, hv⟩, fun fs hl => cz.trans (X0.ireturnOut hexec hret nv (Or.inr (Or.inl rfl)) (hb hbytes d33) hl)⟩
  · have c3 : Steps p.tables e below (s₁.setTop (entryFrame m #[.ref a, .ref b] 3)) (s₁.setTop (mkF m 35 #[.val (.ref a), .val (.ref b), .unset] [.int 0])) := c2.trans (by
      refine XS.icmpYes X0.here hexec rfl (pc0 := 4) rfl (hb hbytes d4) rfl (ii_ne_t (ne32 a31 b31 hs)) (by decide) rfl ?_
      refine iconstV X0.here hexec rfl 0 (hb hbytes d34) (by decide) ?_
      exact Steps.refl _)
    exact ⟨s₁, some (.int 0), _, _, _, X0, rfl, rfl, rfl, (fun h => by cases h), ⟨0, rfl, hh0, Or.inr ⟨rfl, fun q => hs q.1⟩⟩, fun fs hl => c3.trans (X0.ireturnOut hexec hret rfl (Or.inr (Or.inl rfl)) (hb hbytes d35) hl)⟩
end LEq
theorem Cod.ty {cd : Int32} {n : Nat} {f : Nat → Int32} {V : Cell} (h : Cod cd n f V) : Typed .byte V := fun i v hv => by
  have hi : i < V.slots.size := (Array.getElem?_eq_some_iff.mp hv).1
  rcases h with ⟨-, k1, k2⟩ | ⟨-, k1, k2, -⟩
  · rw [(k2 i (by omega)).1] at hv; cases hv; exact fits_lo8 _
  · rcases Nat.mod_two_eq_zero_or_one i with e | e
    · obtain ⟨j, rfl⟩ : ∃ j, i = 2 * j := ⟨i / 2, by omega⟩
      rw [(k2 j (by omega)).1] at hv; cases hv; exact fits_lo8 _
    · obtain ⟨j, rfl⟩ : ∃ j, i = 2 * j + 1 := ⟨i / 2, by omega⟩
      rw [(k2 j (by omega)).2] at hv; cases hv; exact fits_lo8 _
/-- the same text -/
def SameT (n : Nat) (f : Nat → Int32) (k : Nat) (g : Nat → Int32) : Prop := n = k ∧ ∀ j, j < n → f j = g j
theorem lo8_inj {x y : Int32} (h0 : ¬ x < 0) (h1 : ¬ 255 < x) (k0 : ¬ y < 0) (k1 : ¬ 255 < y) (h : lo8 x = lo8 y) : x = y := by
  rw [← lo8_mask h0 h1, ← lo8_mask k0 k1, h]
/-- arrays coded by one coder are equal just where the texts are -/
theorem Cod.eqv {cd : Int32} {n k : Nat} {f g : Nat → Int32} {V V' : Cell} (h : Cod cd n f V) (h' : Cod cd k g V') (hf : ∀ j, j < n → ¬ f j < 0 ∧ ¬ 65535 < f j) (hg : ∀ j, j < k → ¬ g j < 0 ∧ ¬ 65535 < g j) : EqC V V' ↔ SameT n f k g := by
  have yvv : ∀ {W : Cell} {i : Nat} {x : Int32}, W.slots[i]? = some (.int x) → yv W i = x := fun q => by unfold yv; rw [q]
  rcases h with ⟨rfl, k1, k2⟩ | ⟨rfl, k1, k2, -⟩
  · rcases h' with ⟨-, m1, m2⟩ | ⟨e, -⟩
    · constructor
      · rintro ⟨e1, e2⟩
        refine ⟨by omega, fun j hj => ?_⟩
        have q := e2 j (by omega)
        rw [yvv (k2 j hj).1, yvv (m2 j (by omega)).1] at q
        exact lo8_inj (hf j hj).1 (k2 j hj).2 (hg j (by omega)).1 (m2 j (by omega)).2 q
      · rintro ⟨rfl, e2⟩
        refine ⟨by omega, fun j hj => ?_⟩
        rw [yvv (k2 j (by omega)).1, yvv (m2 j (by omega)).1, e2 j (by omega)]
    · exact absurd e (by decide)
  · rcases h' with ⟨e, -⟩ | ⟨-, m1, m2, -⟩
    · exact absurd e (by decide)
    · constructor
      · rintro ⟨e1, e2⟩
        refine ⟨by omega, fun j hj => ?_⟩
        have q1 := e2 (2 * j) (by omega)
        have q2 := e2 (2 * j + 1) (by omega)
        rw [yvv (k2 j hj).1, yvv (m2 j (by omega)).1] at q1
        rw [yvv (k2 j hj).2, yvv (m2 j (by omega)).2] at q2
        rw [← pair_says (hf j hj).1 (hf j hj).2, ← pair_says (hg j (by omega)).1 (hg j (by omega)).2, q1, q2]
      · rintro ⟨rfl, e2⟩
        refine ⟨by omega, fun i hi => ?_⟩
        rcases Nat.mod_two_eq_zero_or_one i with e | e
        · obtain ⟨j, rfl⟩ : ∃ j, i = 2 * j := ⟨i / 2, by omega⟩
          rw [yvv (k2 j (by omega)).1, yvv (m2 j (by omega)).1, e2 j (by omega)]
        · obtain ⟨j, rfl⟩ : ∃ j, i = 2 * j + 1 := ⟨i / 2, by omega⟩
          rw [yvv (k2 j (by omega)).2, yvv (m2 j (by omega)).2, e2 j (by omega)]
/-- two codings differ: so do the texts -/
theorem Cod.dif {cd cd' : Int32} {n k : Nat} {f g : Nat → Int32} {V V' : Cell} (h : Cod cd n f V) (h' : Cod cd' k g V') (hne : ¬ cd = cd') : ¬ SameT n f k g := by
  rintro ⟨rfl, e⟩
  rcases h with ⟨rfl, -, k2⟩ | ⟨rfl, -, -, j, hj, hw⟩
  · rcases h' with ⟨rfl, -⟩ | ⟨-, -, -, j, hj, hw⟩
    · exact hne rfl
    · exact (k2 j hj).2 (by rw [e j hj]; exact hw)
  · rcases h' with ⟨-, -, m2⟩ | ⟨rfl, -⟩
    · exact (m2 j hj).2 (by rw [← e j hj]; exact hw)
    · exact hne rfl
/-- an object of exactly C is an instance of C -/
theorem cinst {p : Program} {l : Launch} {e : Env} {R : Room} {s : State} {m : MethodId} {args : Array Value} {below : List Frame} {meth : Method} {c : Code} {T : State} {locs : List Loc} {cells slots : Nat} (X : Stand p l e R s m args below meth c T locs cells slots) (hexec : p.tables.exec = Jvm.exec) {own C : String} {index : Nat} (hown : s.vm.findClass own = some m.cls) (hlink : (Cond.classLink own index C).before args s = true) {a : Addr} (hE : Exact C a T)
    {g : JFrame} (hg : g.method = m) {rest : List Value} (hstack : g.stack = .ref a :: rest) (hdg : decode c.code g.pc = .ok (.instanceof index, 3)) :
    ∃ T', Stand p l e R s m args below meth c T' locs cells slots ∧ T'.heap = T.heap ∧ ∀ target, Steps p.tables e below (T'.setTop { g with pc := g.pc + 3, stack := .int 1 :: rest }) target → Steps p.tables e below (T.setTop g) target := by
  obtain ⟨cB, h1, D, h2, h3, h4⟩ := hE
  have h1' : s.vm.findClass C = some cB := by rw [← X.warmed.alike.findClass]; exact h1
  obtain ⟨vm', X', st⟩ := X.instanceofYes hexec hown hlink h2 h4 h1' (by rw [h3]; exact Jvm.Free.SB.assignable_self _ _) hg hstack hdg
  exact ⟨_, X', rfl, st⟩
theorem cself {p : Program} {l : Launch} {e : Env} {R : Room} {s : State} {m : MethodId} {args : Array Value} {below : List Frame} {meth : Method} {c : Code} {T : State} {locs : List Loc} {cells slots : Nat} (X : Stand p l e R s m args below meth c T locs cells slots) (hexec : p.tables.exec = Jvm.exec) {own C : String} {index : Nat} (hown : s.vm.findClass own = some m.cls) (hlink : (Cond.classLink own index C).before args s = true) {a : Addr} (hE : Exact C a T)
    {g : JFrame} (hg : g.method = m) {rest : List Value} (hstack : g.stack = .ref a :: rest) (hdg : decode c.code g.pc = .ok (.checkcast index, 3)) :
    ∃ T', Stand p l e R s m args below meth c T' locs cells slots ∧ T'.heap = T.heap ∧ ∀ target, Steps p.tables e below (T'.setTop { g with pc := g.pc + 3, stack := .ref a :: rest }) target → Steps p.tables e below (T.setTop g) target := by
  obtain ⟨cB, h1, D, h2, h3, h4⟩ := hE
  have h1' : s.vm.findClass C = some cB := by rw [← X.warmed.alike.findClass]; exact h1
  obtain ⟨vm', X', st⟩ := X.checkcastYes hexec hown hlink h2 h4 h1' (by rw [h3]; exact Jvm.Free.SB.assignable_self _ _) hg hstack hdg
  exact ⟨_, X', rfl, fun t h => st t (by rw [← hstack] at h; exact h)⟩
namespace SEq
def yN : MethodName := ⟨"java/lang/String", "equals", "(Ljava/lang/Object;)Z"⟩
abbrev yB : ByteArray := jdk_42_method_66_code
theorem d0 : decode yB 0 = .ok (.aload_n 0, 1) := by decide +kernel
theorem d1 : decode yB 1 = .ok (.aload_n 1, 1) := by decide +kernel
theorem d2 : decode yB 2 = .ok (.if_acmp (.ne) 5, 3) := by decide +kernel
theorem d5 : decode yB 5 = .ok (.iconst 1, 1) := by decide +kernel
theorem d6 : decode yB 6 = .ok (.ireturn, 1) := by decide +kernel
theorem d7 : decode yB 7 = .ok (.aload_n 1, 1) := by decide +kernel
theorem d8 : decode yB 8 = .ok (.instanceof 10, 3) := by decide +kernel
theorem d11 : decode yB 11 = .ok (.ifCond (.eq) 43, 3) := by decide +kernel
theorem d14 : decode yB 14 = .ok (.aload_n 1, 1) := by decide +kernel
theorem d15 : decode yB 15 = .ok (.checkcast 10, 3) := by decide +kernel
theorem d18 : decode yB 18 = .ok (.astore_n 2, 1) := by decide +kernel
theorem d19 : decode yB 19 = .ok (.getstatic 38, 3) := by decide +kernel
theorem d22 : decode yB 22 = .ok (.ifCond (.eq) 14, 3) := by decide +kernel
theorem d25 : decode yB 25 = .ok (.aload_n 0, 1) := by decide +kernel
theorem d26 : decode yB 26 = .ok (.getfield 15, 3) := by decide +kernel
theorem d29 : decode yB 29 = .ok (.aload_n 2, 1) := by decide +kernel
theorem d30 : decode yB 30 = .ok (.getfield 15, 3) := by decide +kernel
theorem d33 : decode yB 33 = .ok (.if_icmp (.ne) 21, 3) := by decide +kernel
theorem d36 : decode yB 36 = .ok (.aload_n 0, 1) := by decide +kernel
theorem d37 : decode yB 37 = .ok (.getfield 9, 3) := by decide +kernel
theorem d40 : decode yB 40 = .ok (.aload_n 2, 1) := by decide +kernel
theorem d41 : decode yB 41 = .ok (.getfield 9, 3) := by decide +kernel
theorem d44 : decode yB 44 = .ok (.invokestatic 541, 3) := by decide +kernel
theorem d47 : decode yB 47 = .ok (.ifCond (.eq) 7, 3) := by decide +kernel
theorem d50 : decode yB 50 = .ok (.iconst 1, 1) := by decide +kernel
theorem d51 : decode yB 51 = .ok (.goto 4, 3) := by decide +kernel
theorem d54 : decode yB 54 = .ok (.iconst 0, 1) := by decide +kernel
theorem d55 : decode yB 55 = .ok (.ireturn, 1) := by decide +kernel
def site : List Cond := [.classLink "java/lang/String" 10 "java/lang/String", .fieldLink "java/lang/String" 38 "java/lang/String" "COMPACT_STRINGS" "Z", .fieldLink "java/lang/String" 15 "java/lang/String" "coder" "B", .fieldLink "java/lang/String" 9 "java/lang/String" "value" "[B", LEq.tab] ++ staticW "java/lang/String" 541 LEq.yN
def tab : Cond := tabOf yN yB 3 (some .boolean) site
def P (x t : Addr) (V : Cell) (cd : Int32) (n : Nat) (f : Nat → Int32) (y t' : Addr) (V' : Cell) (cd' : Int32) (k : Nat) (g : Nat → Int32) (z : Int32) (args : Array Value) (s : State) : Prop := args = #[.ref x, .ref y] ∧ Txt x t V cd n f s ∧ Txt y t' V' cd' k g s ∧ StaticIs s "java/lang/String" "COMPACT_STRINGS" "Z" (.int z) ∧ ¬ z = 0
/-- equals(Object) of two Strings: whether the texts are the same -/
theorem law (l : Launch) (x t : Addr) (V : Cell) (cd : Int32) (n : Nat) (f : Nat → Int32) (y t' : Addr) (V' : Cell) (cd' : Int32) (k : Nat) (g : Nat → Int32) (z : Int32) : Law l yN 2 1 1 14 yB 3 (some .boolean) site (P x t V cd n f y t' V' cd' k g z) (Says01 (SameT n f k g)) [] 0 0 := by
  refine Law.of_walk (plainFor_of_name (by decide +kernel)) (by decide +kernel) (by decide +kernel) (by decide) (fun _ _ h => by rw [h.1]; rfl) (fun _ U U' hal hh h => ⟨h.1, h.2.1.mv hal hh, h.2.2.1.mv hal hh, h.2.2.2.1.there hal hh, h.2.2.2.2⟩) (fun r U U' V V' h1 hal h2 h => Says01.mv r U U' V V' h1 hal h2 h) ?_
  intro p e s m args below meth c s₁ X0 hexec hbytes hml hret hlk hnm hown hh0 W hP
  obtain ⟨rfl, hx, hy, s1, hz⟩ := hP
  have c1 : Steps p.tables e below (s₁.setTop (entryFrame m #[.ref x, .ref y] 3)) (s₁.setTop (mkF m 2 #[.val (.ref x), .val (.ref y), .unset] [.ref y, .ref x])) := Steps.trans (entry rfl) (by
    show Steps p.tables e below (s₁.setTop (mkF m 0 #[.val (.ref x), .val (.ref y), .unset] [])) _
    refine XS.aloadN X0.here hexec rfl (hb hbytes d0) rfl rfl ?_
    refine XS.aloadN X0.here hexec rfl (hb hbytes d1) rfl rfl ?_
    exact Steps.refl _)
  by_cases hxy : x = y
  · have c2 : Steps p.tables e below (s₁.setTop (entryFrame m #[.ref x, .ref y] 3)) (s₁.setTop (mkF m 6 #[.val (.ref x), .val (.ref y), .unset] [.int 1])) := c1.trans (by
      refine acmpNo X0.here hexec rfl (hb hbytes d2) rfl rfl rfl (by simp [acmp, hxy]) ?_
      refine iconstV X0.here hexec rfl 1 (hb hbytes d5) (by decide) ?_
      exact Steps.refl _)
    subst hxy
    have ec : cd = cd' := by
      obtain ⟨D, fd, a1, a2, a3⟩ := hx.2.2.1
      obtain ⟨D', fd', b1, b2, b3⟩ := hy.2.2.1
      cases a1.symm.trans b1
      obtain ⟨q1, q2, q3, q4⟩ := a2.1
      obtain ⟨r1, r2, r3, r4⟩ := b2.1
      cases q4.symm.trans r4
      cases a3.symm.trans b3; rfl
    have et : t = t' := by
      obtain ⟨D, fd, a1, a2, a3⟩ := hx.2.1
      obtain ⟨D', fd', b1, b2, b3⟩ := hy.2.1
      cases a1.symm.trans b1
      obtain ⟨q1, q2, q3, q4⟩ := a2.1
      obtain ⟨r1, r2, r3, r4⟩ := b2.1
      cases q4.symm.trans r4
      cases a3.symm.trans b3; rfl
    subst ec et
    have ev : V = V' := by cases hx.2.2.2.1.1.symm.trans hy.2.2.2.1.1; rfl
    subst ev
    have hs : SameT n f k g := (Cod.eqv hx.2.2.2.2.1 hy.2.2.2.2.1 hx.2.2.2.2.2 hy.2.2.2.2.2).mp ⟨rfl, fun _ _ => rfl⟩
    exact ⟨s₁, some (.int 1), _, _, _, X0, rfl, rfl, rfl, (fun h => by cases h), ⟨1, rfl, hh0, Or.inl ⟨rfl, hs⟩⟩, fun fs hl => c2.trans (X0.ireturnOut hexec hret rfl (Or.inr (Or.inl rfl)) (hb hbytes d6) hl)⟩
  · have c2 : Steps p.tables e below (s₁.setTop (entryFrame m #[.ref x, .ref y] 3)) (s₁.setTop (mkF m 8 #[.val (.ref x), .val (.ref y), .unset] [.ref y])) := c1.trans (by
      refine acmpYes X0.here hexec rfl (pc0 := 2) rfl (hb hbytes d2) rfl rfl rfl (by simp [acmp, hxy]) (by decide) rfl ?_
      refine XS.aloadN X0.here hexec rfl (hb hbytes d7) rfl rfl ?_
      exact Steps.refl _)
    obtain ⟨T3, X3, q3, st3⟩ := cinst X0 hexec hown (wk W (.classLink "java/lang/String" 10 "java/lang/String")) (hy.mv X0.warmed.alike hh0).1 (g := (mkF m 8 #[.val (.ref x), .val (.ref y), .unset] [.ref y])) rfl (rest := []) rfl (hb hbytes d8)
    have hh3 := q3.trans hh0
    have c4 : Steps p.tables e below (s₁.setTop (entryFrame m #[.ref x, .ref y] 3)) (T3.setTop (mkF m 15 #[.val (.ref x), .val (.ref y), .unset] [.ref y])) := (c2.trans (st3 _ (Steps.refl _))).trans (by
      refine XS.ifNo X3.here hexec rfl (hb hbytes d11) rfl (i0_eq_f (by decide)) ?_
      refine XS.aloadN X3.here hexec rfl (hb hbytes d14) rfl rfl ?_
      exact Steps.refl _)
    obtain ⟨T5, X5, q5, st5⟩ := cself X3 hexec hown (wk W (.classLink "java/lang/String" 10 "java/lang/String")) (hy.mv X3.warmed.alike hh3).1 (g := (mkF m 15 #[.val (.ref x), .val (.ref y), .unset] [.ref y])) rfl (rest := []) rfl (hb hbytes d15)
    have hh5 := q5.trans hh3
    have c6 : Steps p.tables e below (s₁.setTop (entryFrame m #[.ref x, .ref y] 3)) (T5.setTop (mkF m 19 #[.val (.ref x), .val (.ref y), .val (.ref y)] [])) := (c4.trans (st5 _ (Steps.refl _))).trans (by
      refine XS.astoreN X5.here hexec rfl (hb hbytes d18) rfl rfl rfl ?_
      exact Steps.refl _)
    obtain ⟨T7, X7, q7, st7⟩ := X5.sget hexec hown (wk W (.fieldLink "java/lang/String" 38 "java/lang/String" "COMPACT_STRINGS" "Z")) s1 (fun _ _ h => by rw [hh5]; exact h) (g := (mkF m 19 #[.val (.ref x), .val (.ref y), .val (.ref y)] [])) rfl (hb hbytes d19)
    have hh7 := q7.trans hh5
    have c8 : Steps p.tables e below (s₁.setTop (entryFrame m #[.ref x, .ref y] 3)) (T7.setTop (mkF m 26 #[.val (.ref x), .val (.ref y), .val (.ref y)] [.ref x])) := (c6.trans (st7 _ (Steps.refl _))).trans (by
      refine XS.ifNo X7.here hexec rfl (hb hbytes d22) rfl (i0_eq_f hz) ?_
      refine XS.aloadN X7.here hexec rfl (hb hbytes d25) rfl rfl ?_
      exact Steps.refl _)
    obtain ⟨T9, X9, q9, st9⟩ := X7.hget hexec hown (wk W (.fieldLink "java/lang/String" 15 "java/lang/String" "coder" "B")) (hx.mv X7.warmed.alike hh7).2.2.1 (g := (mkF m 26 #[.val (.ref x), .val (.ref y), .val (.ref y)] [.ref x])) rfl (rest := []) rfl (hb hbytes d26)
    have hh9 := q9.trans hh7
    have c10 : Steps p.tables e below (s₁.setTop (entryFrame m #[.ref x, .ref y] 3)) (T9.setTop (mkF m 30 #[.val (.ref x), .val (.ref y), .val (.ref y)] [.ref y, .int cd])) := (c8.trans (st9 _ (Steps.refl _))).trans (by
      refine XS.aloadN X9.here hexec rfl (hb hbytes d29) rfl rfl ?_
      exact Steps.refl _)
    obtain ⟨T11, X11, q11, st11⟩ := X9.hget hexec hown (wk W (.fieldLink "java/lang/String" 15 "java/lang/String" "coder" "B")) (hy.mv X9.warmed.alike hh9).2.2.1 (g := (mkF m 30 #[.val (.ref x), .val (.ref y), .val (.ref y)] [.ref y, .int cd])) rfl (rest := [.int cd]) rfl (hb hbytes d30)
    have hh11 := q11.trans hh9
    have c12 : Steps p.tables e below (s₁.setTop (entryFrame m #[.ref x, .ref y] 3)) (T11.setTop (mkF m 33 #[.val (.ref x), .val (.ref y), .val (.ref y)] [.int cd', .int cd])) := c10.trans (st11 _ (Steps.refl _))
    by_cases hcd : cd = cd'
    · subst hcd
      have c13 : Steps p.tables e below (s₁.setTop (entryFrame m #[.ref x, .ref y] 3)) (T11.setTop (mkF m 37 #[.val (.ref x), .val (.ref y), .val (.ref y)] [.ref x])) := c12.trans (by
        refine XS.icmpNo X11.here hexec rfl (hb hbytes d33) rfl (ii_ne_f rfl) ?_
        refine XS.aloadN X11.here hexec rfl (hb hbytes d36) rfl rfl ?_
        exact Steps.refl _)
      obtain ⟨T14, X14, q14, st14⟩ := X11.hget hexec hown (wk W (.fieldLink "java/lang/String" 9 "java/lang/String" "value" "[B")) (hx.mv X11.warmed.alike hh11).2.1 (g := (mkF m 37 #[.val (.ref x), .val (.ref y), .val (.ref y)] [.ref x])) rfl (rest := []) rfl (hb hbytes d37)
      have hh14 := q14.trans hh11
      have c15 : Steps p.tables e below (s₁.setTop (entryFrame m #[.ref x, .ref y] 3)) (T14.setTop (mkF m 41 #[.val (.ref x), .val (.ref y), .val (.ref y)] [.ref y, .ref t])) := (c13.trans (st14 _ (Steps.refl _))).trans (by
        refine XS.aloadN X14.here hexec rfl (hb hbytes d40) rfl rfl ?_
        exact Steps.refl _)
      obtain ⟨T16, X16, q16, st16⟩ := X14.hget hexec hown (wk W (.fieldLink "java/lang/String" 9 "java/lang/String" "value" "[B")) (hy.mv X14.warmed.alike hh14).2.1 (g := (mkF m 41 #[.val (.ref x), .val (.ref y), .val (.ref y)] [.ref y, .ref t])) rfl (rest := [.ref t]) rfl (hb hbytes d41)
      have hh16 := q16.trans hh14
      have c17 : Steps p.tables e below (s₁.setTop (entryFrame m #[.ref x, .ref y] 3)) (T16.setTop (mkF m 44 #[.val (.ref x), .val (.ref y), .val (.ref y)] [.ref t', .ref t])) := c15.trans (st16 _ (Steps.refl _))
      obtain ⟨v18, T18, X18, E18, g18⟩ := X16.callS hexec (LEq.law l t V t' V') hown (wks W (staticW "java/lang/String" 541 LEq.yN)) (wk W LEq.tab) (W := 0) (Nat.le_of_ble_eq_true rfl) (Nat.le_of_ble_eq_true rfl) (Nat.le_refl _) (Nat.le_refl _) (g := (mkF m 44 #[.val (.ref x), .val (.ref y), .val (.ref y)] [.ref t', .ref t])) rfl (by rw [hml]; rfl) c17 (argsL := [.ref t, .ref t']) (rest := []) rfl rfl (by show 2 * 0 + 0 ≤ _; decide) (hb hbytes d44) (⟨rfl, hx.2.2.2.1.mv X16.warmed.alike hh16, hx.2.2.2.2.1.ty, hy.2.2.2.1.mv X16.warmed.alike hh16, hy.2.2.2.2.1.ty⟩)
      obtain ⟨v, rfl, q18, hv⟩ := E18
      have iff := Cod.eqv hx.2.2.2.2.1 hy.2.2.2.2.1 hx.2.2.2.2.2 hy.2.2.2.2.2
      rcases hv with ⟨rfl, he⟩ | ⟨rfl, he⟩
      · have c19 : Steps p.tables e below (s₁.setTop (entryFrame m #[.ref x, .ref y] 3)) (T18.setTop (mkF m 55 #[.val (.ref x), .val (.ref y), .val (.ref y)] [.int 1])) := Steps.trans g18 (by
          refine XS.ifNo X18.here hexec rfl (hb hbytes d47) rfl (i0_eq_f (by decide)) ?_
          refine iconstV X18.here hexec rfl 1 (hb hbytes d50) (by decide) ?_
          refine XS.goto X18.here hexec rfl (pc0 := 51) rfl (hb hbytes d51) (by decide) rfl ?_
          exact Steps.refl _)
        exact ⟨T18, some (.int 1), _, _, _, X18, rfl, rfl, rfl, (fun h => by cases h), ⟨1, rfl, q18.trans hh16, Or.inl ⟨rfl, iff.mp he⟩⟩, fun fs hl => c19.trans (X18.ireturnOut hexec hret rfl (Or.inr (Or.inl rfl)) (hb hbytes d55) hl)⟩
      · have c19 : Steps p.tables e below (s₁.setTop (entryFrame m #[.ref x, .ref y] 3)) (T18.setTop (mkF m 55 #[.val (.ref x), .val (.ref y), .val (.ref y)] [.int 0])) := Steps.trans g18 (by
          refine XS.ifYes X18.here hexec rfl (pc0 := 47) rfl (hb hbytes d47) rfl (i0_eq_t rfl) (by decide) rfl ?_
          refine iconstV X18.here hexec rfl 0 (hb hbytes d54) (by decide) ?_
          exact Steps.refl _)
        exact ⟨T18, some (.int 0), _, _, _, X18, rfl, rfl, rfl, (fun h => by cases h), ⟨0, rfl, q18.trans hh16, Or.inr ⟨rfl, fun q => he (iff.mpr q)⟩⟩, fun fs hl => c19.trans (X18.ireturnOut hexec hret rfl (Or.inr (Or.inl rfl)) (hb hbytes d55) hl)⟩
    · have c13 : Steps p.tables e below (s₁.setTop (entryFrame m #[.ref x, .ref y] 3)) (T11.setTop (mkF m 55 #[.val (.ref x), .val (.ref y), .val (.ref y)] [.int 0])) := c12.trans (by
        refine XS.icmpYes X11.here hexec rfl (pc0 := 33) rfl (hb hbytes d33) rfl (ii_ne_t hcd) (by decide) rfl ?_
        refine iconstV X11.here hexec rfl 0 (hb hbytes d54) (by decide) ?_
        exact Steps.refl _)
      exact ⟨T11, some (.int 0), _, _, _, X11, rfl, rfl, rfl, (fun h => by cases h), ⟨0, rfl, hh11, Or.inr ⟨rfl, Cod.dif hx.2.2.2.2.1 hy.2.2.2.2.1 hcd⟩⟩, fun fs hl => c13.trans (X11.ireturnOut hexec hret rfl (Or.inr (Or.inl rfl)) (hb hbytes d55) hl)⟩
theorem pays {l : Launch} {R : Room} {p : Program} {e : Env} {below : List Frame} {s : State} {sargs : Array Value} {len W : Nat} (x t : Addr) (V : Cell) (cd : Int32) (n : Nat) (f : Nat → Int32) (y t' : Addr) (V' : Cell) (cd' : Int32) (k : Nat) (g : Nat → Int32) (z : Int32) (htab : tab.before sargs s = true) (hfr : 2 ≤ R.frames) (hlo : W + 28 ≤ R.locals) :
    Back l R p e below s sargs yN len W (fun A₁ a₁ => A₁.cells + 0 ≤ R.cells ∧ A₁.slots + 0 ≤ R.slots ∧ P x t V cd n f y t' V' cd' k g z a₁ A₁.U) (fun A₁ _ v₁ B₁ => Says01 (SameT n f k g) v₁ A₁.U B₁.U ∧ B₁.locs = A₁.locs ++ [] ∧ B₁.cells = A₁.cells + 0 ∧ B₁.slots = A₁.slots + 0) :=
  (law l x t V cd n f y t' V' cd' k g z).pays htab hfr (by omega)
end SEq
end StrChars
namespace StrChars.Road
open Jvm Sem ClassFile Op Lib Jvm.Stand Jvm.Free Jvm.Free.XT
open Jvm.Lib.Cold (StaticIs)
/-- the words of String.equals(Object) -/
abbrev wordsEq : List Jvm.Cond := [.code SEq.yN SEq.yB 3 (some .boolean), .initialized ST, .classLink ST 10 ST, .fieldLink ST 38 ST "COMPACT_STRINGS" "Z", .fieldLink ST 15 ST "coder" "B", .fieldLink ST 9 ST "value" "[B", .methodLink ST 541 LEq.yN, .static LEq.yN, .code LEq.yN LEq.yB 3 (some .boolean), .initialized "java/lang/StringLatin1"]
theorem tabEq_of {a : Array Value} {s : State} (h : ∀ w ∈ wordsEq, w.before a s = true) : SEq.tab.before a s = true := by
  have hl : LEq.tab.before a s = true := unparts (wk h (.code LEq.yN LEq.yB 3 (some .boolean))) (wks h (.initialized LEq.yN.cls :: LEq.site))
  have q := consq hl h
  exact unparts (wk q (.code SEq.yN SEq.yB 3 (some .boolean))) (wks q (.initialized SEq.yN.cls :: SEq.site))
theorem movedEq {Z s : State} {a0 args : Array Value} (hZ : Z.Warmed39 s.vm) (hw : ∀ d ∈ wordsEq, d.before a0 Z = true) : ∀ d ∈ wordsEq, d.before args s = true := fun d hd => by
  have t : ∀ d ∈ wordsEq, (d.onTables && d.keepsFace) = true := by decide +kernel
  exact RoadKit.mv hZ (hw d hd) (t d hd)
/-- the road's facts of a String, as the laws ask it -/
theorem txt_of {Z U : State} {a0 : Array Value} {kI : Nat} (wi : (Jvm.Cond.instantiable ST kI).before a0 Z = true) (al : Z.vm.Alike U.vm) {x t : Addr} {kb : ClassId} {cs : List Int32} {cd N2 : Int32} {vs : List Value} (E : RoadKit.Exa Z U.heap x ST) (V : RoadKit.Fld Z U.heap x ST "value" "[B" (.ref t)) (C : RoadKit.Fld Z U.heap x ST "coder" "B" (.int cd)) (K : RoadKit.Arv Z U.heap t kb .byte N2 vs (.int 0)) (hc : CodA cs cd N2 vs) (hb : ∀ c ∈ cs, ¬ c < 0 ∧ ¬ (65535 : Int32) < c) (l2 : cs.length ≤ 4000) :
    ∃ A, Txt x t A cd cs.length (fun j => cs.getD j 0) U := by
  obtain ⟨A, K1, K2, K3, K4, K5, K6⟩ := K
  have hcod := hc.cod (by omega) K3 K5
  obtain ⟨D, fV, fC, hB, F1, F2, g1, g2, -, -⟩ := strObj wi al E V C
  exact ⟨A, ⟨_, hB.2.2.1, D, hB.1, rfl, by cases q : D.vm <;> first | rfl | exact absurd q (hB.2.1.2 _)⟩, Has.of hB F1 g1, Has.of hB F2 g2, ⟨K1.1, State.isArrayOf_alike al K1.2.1, K1.2.2, by rcases hcod with ⟨-, q, -⟩ | ⟨-, q, -⟩ <;> omega⟩, hcod, fun j hj => by
    have e : cs.getD j 0 = cs[j] := by simp [List.getD_eq_getElem?_getD, hj]
    show ¬ cs.getD j 0 < 0 ∧ ¬ 65535 < cs.getD j 0
    rw [e]; exact hb _ (List.getElem_mem _)⟩
theorem same_list (cs ds : List Int32) : SameT cs.length (fun j => cs.getD j 0) ds.length (fun j => ds.getD j 0) ↔ cs = ds := by
  constructor
  · rintro ⟨e, q⟩
    refine List.ext_getElem e fun j h1 h2 => ?_
    have := q j h1
    simpa [List.getD_eq_getElem?_getD, h1, h2] using this
  · rintro rfl
    exact ⟨rfl, fun _ _ => rfl⟩
/-- **equals(Object) OF TWO SUCH STRINGS**: 1 just where the chars are the same -/
theorem eqW {p : Program} {l : Launch} {e : Env} {R : Room} {s : State} {args : Array Value} {below : List Frame} {len W : Nat} {Z : State} {a0 : Array Value} {h : Heap} (hZ : Z.Warmed39 s.vm) (hw : ∀ d ∈ wordsEq, d.before a0 Z = true) {kI : Nat} (wi : (Jvm.Cond.instantiable ST kI).before a0 Z = true)
    {x t : Addr} {kb : ClassId} {cs : List Int32} {cd N2 : Int32} {vs : List Value} (E : RoadKit.Exa Z h x ST) (V : RoadKit.Fld Z h x ST "value" "[B" (.ref t)) (C : RoadKit.Fld Z h x ST "coder" "B" (.int cd)) (K : RoadKit.Arv Z h t kb .byte N2 vs (.int 0)) (hc : CodA cs cd N2 vs) (hb : ∀ c ∈ cs, ¬ c < 0 ∧ ¬ (65535 : Int32) < c) (l2 : cs.length ≤ 4000)
    {y t' : Addr} {kb' : ClassId} {ds : List Int32} {cd' N2' : Int32} {vs' : List Value} (E' : RoadKit.Exa Z h y ST) (V' : RoadKit.Fld Z h y ST "value" "[B" (.ref t')) (C' : RoadKit.Fld Z h y ST "coder" "B" (.int cd')) (K' : RoadKit.Arv Z h t' kb' .byte N2' vs' (.int 0)) (hc' : CodA ds cd' N2' vs') (hb' : ∀ c ∈ ds, ¬ c < 0 ∧ ¬ (65535 : Int32) < c) (l2' : ds.length ≤ 4000)
    {z : Int32} (S : RoadKit.Sta Z h ST "COMPACT_STRINGS" "Z" (.int z)) (hz : ¬ z = 0) (hfr : 2 ≤ R.frames) (hlo : W + 28 ≤ R.locals) :
    Back l R p e below s args (⟨"java/lang/String", "equals", "(Ljava/lang/Object;)Z"⟩ : MethodName) len W (fun P a => a = #[.ref x, .ref y] ∧ P.U.heap = h ∧ P.cells + 0 ≤ R.cells ∧ P.slots + 0 ≤ R.slots)
      (fun P _ v B => ∃ L, (((v = some (.int 1) ∧ cs = ds) ∨ (v = some (.int 0) ∧ ¬ cs = ds)) ∧ L = [] ∧ B.U.heap = h) ∧ B.locs = P.locs ++ L ∧ B.cells = P.cells + 0 ∧ B.slots = P.slots + 0) := by
  intro m meth c P g ig mk a X hg hsize hdg hW hn hp'
  obtain ⟨rfl, rfl, r1, r2⟩ := hp'
  have al : Z.vm.Alike P.U.vm := hZ.alike.trans X.warmed.alike
  obtain ⟨A, hx⟩ := txt_of wi al E V C K hc hb l2
  obtain ⟨A', hy⟩ := txt_of wi al E' V' C' K' hc' hb' l2'
  obtain ⟨v, B, X', ⟨⟨w, hv, hh, hq⟩, hl, hk, hs⟩, st⟩ := SEq.pays x t A cd cs.length (fun j => cs.getD j 0) y t' A' cd' ds.length (fun j => ds.getD j 0) z (tabEq_of (movedEq hZ hw)) hfr hlo m meth c P g ig mk _ X hg hsize hdg hW hn ⟨r1, r2, rfl, hx, hy, sta_is al S, hz⟩
  refine ⟨v, B, X', ⟨[], ⟨?_, rfl, hh⟩, hl, hk, hs⟩, st⟩
  rcases hq with ⟨rfl, q⟩ | ⟨rfl, q⟩
  · exact Or.inl ⟨hv, (same_list cs ds).mp q⟩
  · exact Or.inr ⟨hv, fun e => q ((same_list cs ds).mpr e)⟩
end StrChars.Road
namespace StrChars.Road
open Jvm Sem ClassFile Op Lib Jvm.Stand Jvm.Free Jvm.Free.XT
open Jvm.Lib.Cold (StaticIs)
/-- what backV says of its String, as the contracts of this text ask it: cs's low bytes, coder 0 -/
theorem codOf {cs : List Int32} {n : Nat} (hn : cs.length = n) (hb : ∀ c ∈ cs, ¬ 255 < c) : CodA cs 0 (Int32.ofNat n) ((cs.map lo8).map Value.int) := Or.inl ⟨rfl, by rw [hn], by simp [List.map_map, Function.comp_def], hb⟩
end StrChars.Road
end Jvm.Pilot.@@N@@
namespace Jvm.Pilot.@@N@@
open Jvm Jvm.ClassFile Sem Op Lib Jvm.Free Jvm.Stand Jvm.LawKit Jvm.RoadKit Bundle Jvm.Pilot.@@N@@.Jvm.D
theorem own_m (i : Nat) {d : Jvm.Cond} (h : tables_1[i]? = some d) : d ∈ tables_1 := List.mem_of_getElem? h
theorem own_eq_int {args : Array Value} {s first : State} {o : Option Outcome} {idx : List Nat} {t : Term} {k : Int32} (h : (Cond.eq t (.int k)).value args first o s idx = some true) : t.eval args first o idx s = some (.int k) := by
  obtain ⟨x, y, h1, h2, h3, h4⟩ := cmp_v (r := true) (Or.inl h)
  have e2 : y = .int k := (Option.some.inj h2).symm
  subst e2
  obtain ⟨z, rfl⟩ := h4
  have q := h
  simp only [Cond.value, h1, h2] at q
  have : z = k := by simpa using q
  rw [h1, this]
theorem own_eq_ref {args : Array Value} {s first : State} {o : Option Outcome} {idx : List Nat} {t u : Term} {a : Addr} (hu : u.eval args first o idx s = some (.ref a)) (h : (Cond.eq t u).value args first o s idx = some true) : t.eval args first o idx s = some (.ref a) := by
  obtain ⟨x, y, h1, h2, h3, h4⟩ := cmp_v (r := true) (Or.inl h)
  cases hu.symm.trans h2
  have q := h
  simp only [Cond.value, h1, h2] at q
  cases x <;> simp [Kin, Value.isRef] at h3 h4 q ⊢
  rw [h1, q]
def own_EL : List (String × Nat) := [("com/example/strict_tariff/stricttariff/pricing/ColumnNamedPinLaw", 13), ("com/example/strict_tariff/stricttariff/pricing/ColumnNamedPinLaw", 49), ("com/example/strict_tariff/stricttariff/pricing/ColumnNamedPinLaw", 11), ("com/example/strict_tariff/stricttariff/pricing/ColumnNamedPinLaw", 9), ("com/example/strict_tariff/stricttariff/pricing/ColumnNamedPinLaw", 7)]
theorem own_ew {Z : State} {a0 : Array Value} (hw : ∀ d ∈ tables_1, d.before a0 Z = true) : EW Z a0 own_EL := (EW.cons (hw _ (own_m 113 rfl)) (by decide) (EW.cons (hw _ (own_m 112 rfl)) (by decide) (EW.cons (hw _ (own_m 111 rfl)) (by decide) (EW.cons (hw _ (own_m 114 rfl)) (by decide) (EW.cons (hw _ (own_m 107 rfl)) (by decide) EW.nil)))))
theorem own_ws {Z : State} {a0 : Array Value} (hw : ∀ d ∈ tables_1, d.before a0 Z = true) : ∀ a ∈ Bundle.stringAtoms, a.before a0 Z = true := fun d hd => by
  simp only [Bundle.stringAtoms, List.mem_cons, List.not_mem_nil, or_false] at hd
  rcases hd with rfl | rfl | rfl | rfl | rfl | rfl | rfl
  · exact hw _ (own_m 11 rfl)
  · exact hw _ (own_m 10 rfl)
  · exact hw _ (own_m 27 rfl)
  · exact hw _ (own_m 37 rfl)
  · exact hw _ (own_m 35 rfl)
  · exact hw _ (own_m 108 rfl)
  · exact hw _ (own_m 109 rfl)
theorem own_pd0 : parseMethodDescriptor "([C)V" = some ⟨[(.array .char)], none⟩ := by decide +kernel
theorem own_pd1 : parseMethodDescriptor "(Ljava/lang/Object;)Z" = some ⟨[(.object "java/lang/Object")], some .boolean⟩ := by decide +kernel
def own_same (a b : List Int32) : Int32 := if a = b then 1 else 0
theorem own_same_t {a b : List Int32} (h : a = b) : own_same a b = 1 := if_pos h
theorem own_same_f {a b : List Int32} (h : ¬ a = b) : own_same a b = 0 := if_neg h
theorem own_same_len {a b : List Int32} (h : a.length ≠ b.length) : own_same a b = 0 := own_same_f fun q => h (congrArg List.length q)
theorem own_same_hd {x y : Int32} {a b : List Int32} (h : x ≠ y) : own_same (x :: a) (y :: b) = 0 := own_same_f fun q => h (List.cons.inj q).1
theorem own_lc {c : Int32} {cs : List Int32} (h : ¬ c < 0 ∧ ¬ (255 : Int32) < c) (t : ∀ d ∈ cs, ¬ d < 0 ∧ ¬ (255 : Int32) < d) : ∀ d ∈ c :: cs, ¬ d < 0 ∧ ¬ (255 : Int32) < d := fun d hd => by
  rcases List.mem_cons.mp hd with rfl | hd
  · exact h
  · exact t d hd
theorem own_ln : ∀ d ∈ ([] : List Int32), ¬ d < 0 ∧ ¬ (255 : Int32) < d := fun d hd => by cases hd
theorem own_up {cs : List Int32} (hp : ∀ d ∈ cs, ¬ d < 0 ∧ ¬ (255 : Int32) < d) : ∀ d ∈ cs, ¬ d < 0 ∧ ¬ (65535 : Int32) < d := fun d hd => ⟨(hp d hd).1, fun q => (hp d hd).2 (by simp only [Int32.lt_iff_toInt_lt, Int32.reduceToInt] at *; omega)⟩
section OwnStr
variable {p : Program} {l : Launch} {e : Env} {R : Room} {s : State} {m : MethodId} {args : Array Value} {below : List Frame} {meth : Method} {c : Code} {T : State} {locs : List Loc} {cells slots : Nat} {Z : State} {a0 : Array Value} {h : Heap} {own : String} {index kI W pc : Nat} {Ls : Array Slot} {rest : List Value} {KK : State → Outcome → Prop}
theorem own_subV : ∀ d ∈ StrChars.Road.words, d ∈ tables_1 := by decide +kernel
theorem own_newS (X : Stand p l e R s m args below meth c T locs cells slots) (hx : p.tables.exec = Jvm.exec) (hZ : Z.Warmed39 s.vm) (hown : s.vm.findClass own = some m.cls) (hw : ∀ d ∈ tables_1, d.before a0 Z = true)
    (w1 : (Cond.methodLink own index (⟨"java/lang/String", "<init>", "([C)V"⟩ : MethodName)).before a0 Z = true) (w2 : (Cond.instanceMethod (⟨"java/lang/String", "<init>", "([C)V"⟩ : MethodName)).before a0 Z = true) {bytes : ByteArray} {maxL : Nat} (w4 : (Cond.code (⟨"java/lang/String", "<init>", "([C)V"⟩ : MethodName) bytes maxL none).before a0 Z = true) (wi : (Cond.instantiable "java/lang/String" kI).before a0 Z = true)
    {x b : Addr} {kC : ClassId} {d v0 c0 : Value} {z N : Int32} {n n0 : Nat} (cs : List Int32) (hx0 : n0 ≤ x) (hh0 : n0 ≤ h.size) (E : Exa Z h x "java/lang/String") (V : Fld Z h x "java/lang/String" "value" "[B" v0) (C : Fld Z h x "java/lang/String" "coder" "B" c0) (K : Arv Z h b kC .char N (cs.map Value.int) d) (S : Sta Z h "java/lang/String" "COMPACT_STRINGS" "Z" (.int z)) (hz : ¬ z = 0)
    (hn : cs.length = n) (hN : N = Int32.ofNat n) (l0 : 0 < n) (l2 : n ≤ 4000) (hp : ∀ c ∈ cs, ¬ c < 0 ∧ ¬ (255 : Int32) < c) (hfr : 4 ≤ R.frames) (hlo : W + 65 ≤ R.locals) (hcc : cells + 1 ≤ R.cells) (hss : slots + n ≤ R.slots) (eT : T.heap = h) (hsz : Ls.size = c.maxLocals) (hW : (rest.map fun v => v.category).sum ≤ W) (hd : decode c.code pc = .ok (.invokespecial index, 3))
    (k : ∀ (T' : State) (L : List Loc) (t : Addr) (kb : ClassId), Stand p l e R s m args below meth c T' (locs ++ L) (cells + 1) (slots + n) → Fr n0 L → Keep h T'.heap [x] → Exa Z T'.heap x "java/lang/String" → Fld Z T'.heap x "java/lang/String" "coder" "B" (.int 0) → n0 ≤ t → h.size ≤ t → ¬ t = x → Fld Z T'.heap x "java/lang/String" "value" "[B" (.ref t) → Arv Z T'.heap t kb .byte N ((cs.map StrChars.lo8).map Value.int) (.int 0) → oG p e below KK (T'.setTop (mkF m (pc + 3) Ls rest))) :
    oG p e below KK (T.setTop (mkF m pc Ls (.ref b :: .ref x :: rest))) := by
  obtain ⟨v, _, ⟨T', L', k', n'⟩, -, X', ⟨L, hQ, h1, h2, h3⟩, st⟩ := X.specialBack hx (y := (⟨"java/lang/String", "<init>", "([C)V"⟩ : MethodName)) rfl hown (mvT hZ w1) (mvT hZ w2) (mvT hZ w4) (by decide) (StrChars.Road.backV (W := W) hZ (fun d hd => hw d (own_subV d hd)) wi (cs := cs) (bs := cs.map (fun c => c.toInt8.toInt32)) hx0 hh0 E V C K S hz hn hN l0 l2 hp rfl hfr hlo) (g := mkF m pc Ls (.ref b :: .ref x :: rest)) rfl hsz (Steps.refl _) (a := x) (argsL := [.ref b]) (rest := rest) (lenOf own_pd0 rfl) rfl (by show 2 * 0 + _ ≤ _; simpa using hW) hd (fun _ _ => ⟨rfl, eT, hcc, hss⟩)
  dsimp only [Pt.U, Pt.locs, Pt.cells, Pt.slots] at X' h1 h2 h3 st hQ
  subst h1 h2 h3
  obtain ⟨rfl, q1, q2, q3, q4, t, kb, q5, q6, q7, q8, q9⟩ := hQ
  exact own_via st (k T' L t kb X' q1 q2 q3 q4 q5 q6 q7 q8 q9)
theorem own_subE : ∀ d ∈ StrChars.Road.wordsEq, d ∈ tables_1 := by decide +kernel
theorem own_eqs (X : Stand p l e R s m args below meth c T locs cells slots) (hx : p.tables.exec = Jvm.exec) (hZ : Z.Warmed39 s.vm) (hown : s.vm.findClass own = some m.cls) (hw : ∀ d ∈ tables_1, d.before a0 Z = true)
    (w1 : (Cond.methodLink own index (⟨"java/lang/String", "equals", "(Ljava/lang/Object;)Z"⟩ : MethodName)).before a0 Z = true) (w2 : (Cond.declares (⟨"java/lang/String", "equals", "(Ljava/lang/Object;)Z"⟩ : MethodName)).before a0 Z = true) (w5 : (Cond.selects "java/lang/String" (⟨"java/lang/String", "equals", "(Ljava/lang/Object;)Z"⟩ : MethodName) (⟨"java/lang/String", "equals", "(Ljava/lang/Object;)Z"⟩ : MethodName)).before a0 Z = true) (w6 : (Cond.instanceMethod (⟨"java/lang/String", "equals", "(Ljava/lang/Object;)Z"⟩ : MethodName)).before a0 Z = true) (wi : (Cond.instantiable "java/lang/String" kI).before a0 Z = true)
    {x t : Addr} {kb1 : ClassId} (cs : List Int32) {cd1 N1 : Int32} {vs1 : List Value} (E1 : Exa Z h x "java/lang/String") (V1 : Fld Z h x "java/lang/String" "value" "[B" (.ref t)) (C1 : Fld Z h x "java/lang/String" "coder" "B" (.int cd1)) (K1 : Arv Z h t kb1 .byte N1 vs1 (.int 0)) (hc1 : StrChars.Road.CodA cs cd1 N1 vs1) (hb1 : ∀ c ∈ cs, ¬ c < 0 ∧ ¬ (65535 : Int32) < c) (l1 : cs.length ≤ 4000)
    {y t' : Addr} {kb2 : ClassId} (ds : List Int32) {cd2 N2 : Int32} {vs2 : List Value} (E2 : Exa Z h y "java/lang/String") (V2 : Fld Z h y "java/lang/String" "value" "[B" (.ref t')) (C2 : Fld Z h y "java/lang/String" "coder" "B" (.int cd2)) (K2 : Arv Z h t' kb2 .byte N2 vs2 (.int 0)) (hc2 : StrChars.Road.CodA ds cd2 N2 vs2) (hb2 : ∀ c ∈ ds, ¬ c < 0 ∧ ¬ (65535 : Int32) < c) (l2 : ds.length ≤ 4000)
    {z : Int32} (S : Sta Z h "java/lang/String" "COMPACT_STRINGS" "Z" (.int z)) (hz : ¬ z = 0) (hfr : 2 ≤ R.frames) (hlo : W + 28 ≤ R.locals) (hcc : cells ≤ R.cells) (hss : slots ≤ R.slots) (eT : T.heap = h) (hsz : Ls.size = c.maxLocals) (hW : (rest.map fun v => v.category).sum ≤ W) (hd : decode c.code pc = .ok (.invokevirtual index, 3))
    (k : ∀ (T' : State), Stand p l e R s m args below meth c T' locs cells slots → T'.heap = h → oG p e below KK (T'.setTop (mkF m (pc + 3) Ls (.int (own_same cs ds) :: rest)))) :
    oG p e below KK (T.setTop (mkF m pc Ls (.ref y :: .ref x :: rest))) := by
  obtain ⟨cq, kq, qa, qb, qc⟩ := isOf hZ eT E1
  obtain ⟨v, _, ⟨T', L', k', n'⟩, -, X', ⟨L, hQ, h1, h2, h3⟩, st⟩ := X.virtualBack hx (y := (⟨"java/lang/String", "equals", "(Ljava/lang/Object;)Z"⟩ : MethodName)) (z := (⟨"java/lang/String", "equals", "(Ljava/lang/Object;)Z"⟩ : MethodName)) hown (mvT hZ w1) (mvT hZ w2) (notFace_of_selects (args := #[]) (mvT hZ w5)) (mvT hZ w5) (mvT hZ w6) (by decide) (StrChars.Road.eqW (W := W) hZ (fun d hd => hw d (own_subE d hd)) wi E1 V1 C1 K1 hc1 hb1 l1 E2 V2 C2 K2 hc2 hb2 l2 S hz hfr hlo) qa qc (g := mkF m pc Ls (.ref y :: .ref x :: rest)) rfl hsz (Steps.refl _) (argsL := [.ref y]) (rest := rest) (lenOf own_pd1 rfl) rfl (by show 2 * 0 + _ ≤ _; simpa using hW) hd (fun _ _ => ⟨rfl, eT, hcc, hss⟩)
  dsimp only [Pt.U, Pt.locs, Pt.cells, Pt.slots] at X' h1 h2 h3 st hQ
  obtain ⟨hv, rfl, hh⟩ := hQ
  rw [List.append_nil] at h1
  subst h1 h2 h3
  have e : v = some (.int (own_same cs ds)) := by
    rcases hv with ⟨rfl, q⟩ | ⟨rfl, q⟩
    · rw [own_same_t q]
    · rw [own_same_f q]
  subst e
  exact own_via st (k T' X' hh)
end OwnStr
def own_tx0 : List Int32 := [117, 115, 97, 103, 101, 95, 109, 51]
theorem own_cod0 : StrChars.Road.CodA own_tx0 0 (8 : Int32) [(.int 117), (.int 115), (.int 97), (.int 103), (.int 101), (.int 95), (.int 109), (.int 51)] := Or.inl ⟨rfl, by decide +kernel, by first | rfl | decide +kernel | simp [own_tx0, StrChars.lo8], by decide +kernel⟩
theorem own_hb0 : ∀ c ∈ own_tx0, ¬ c < 0 ∧ ¬ (65535 : Int32) < c := by decide +kernel
def own_tx1 : List Int32 := [99, 104, 97, 114, 103, 101, 95, 121, 101, 110]
theorem own_cod1 : StrChars.Road.CodA own_tx1 0 (10 : Int32) [(.int 99), (.int 104), (.int 97), (.int 114), (.int 103), (.int 101), (.int 95), (.int 121), (.int 101), (.int 110)] := Or.inl ⟨rfl, by decide +kernel, by first | rfl | decide +kernel | simp [own_tx1, StrChars.lo8], by decide +kernel⟩
theorem own_hb1 : ∀ c ∈ own_tx1, ¬ c < 0 ∧ ¬ (65535 : Int32) < c := by decide +kernel
def own_tx2 : List Int32 := [116, 97, 120, 95, 121, 101, 110]
theorem own_cod2 : StrChars.Road.CodA own_tx2 0 (7 : Int32) [(.int 116), (.int 97), (.int 120), (.int 95), (.int 121), (.int 101), (.int 110)] := Or.inl ⟨rfl, by decide +kernel, by first | rfl | decide +kernel | simp [own_tx2, StrChars.lo8], by decide +kernel⟩
theorem own_hb2 : ∀ c ∈ own_tx2, ¬ c < 0 ∧ ¬ (65535 : Int32) < c := by decide +kernel
def own_tx3 : List Int32 := [103, 97, 115, 95, 112, 97, 114, 116, 95, 121, 101, 110]
theorem own_cod3 : StrChars.Road.CodA own_tx3 0 (12 : Int32) [(.int 103), (.int 97), (.int 115), (.int 95), (.int 112), (.int 97), (.int 114), (.int 116), (.int 95), (.int 121), (.int 101), (.int 110)] := Or.inl ⟨rfl, by decide +kernel, by first | rfl | decide +kernel | simp [own_tx3, StrChars.lo8], by decide +kernel⟩
theorem own_hb3 : ∀ c ∈ own_tx3, ¬ c < 0 ∧ ¬ (65535 : Int32) < c := by decide +kernel
def own_pk (p i c l : Int32) : Int32 := if p = i then c else l
theorem own_pk_v (p i c l : Int32) : (own_pk p i c l).toInt = c.toInt ∨ (own_pk p i c l).toInt = l.toInt := by unfold own_pk; split; exact Or.inl rfl; exact Or.inr rfl
theorem own_pk_l {p i c l : Int32} (hc : ¬ c < 0 ∧ ¬ (255 : Int32) < c) (hl : ¬ l < 0 ∧ ¬ (255 : Int32) < l) : ¬ own_pk p i c l < 0 ∧ ¬ (255 : Int32) < own_pk p i c l := by unfold own_pk; split <;> assumption
theorem own_pk_s (i c l : Int32) : own_pk i i c l = c := by unfold own_pk; rw [if_pos rfl]
theorem own_inl {p n : Int32} {k : Nat} (h1 : ¬ p < 0) (h2 : p < n) (hk : n.toNatClampNeg = k) : p.toNatClampNeg < k := by
  subst hk; simp only [Int32.lt_iff_toInt_lt, Int32.reduceToInt, Int32.toNatClampNeg] at *; omega
theorem own_set0 (p c : Int32) (h1 : ¬ p < 0) (h2 : p < 8) : ([.int 117, .int 115, .int 97, .int 103, .int 101, .int 95, .int 109, .int 51] : List Value).set p.toNatClampNeg (.int c) = [.int (own_pk p 0 c 117), .int (own_pk p 1 c 115), .int (own_pk p 2 c 97), .int (own_pk p 3 c 103), .int (own_pk p 4 c 101), .int (own_pk p 5 c 95), .int (own_pk p 6 c 109), .int (own_pk p 7 c 51)] := by
  have q : p = 0 ∨ p = 1 ∨ p = 2 ∨ p = 3 ∨ p = 4 ∨ p = 5 ∨ p = 6 ∨ p = 7 := by simp only [Int32.lt_iff_toInt_lt, ← Int32.toInt_inj, Int32.reduceToInt] at *; omega
  clear h1 h2
  rcases q with rfl | rfl | rfl | rfl | rfl | rfl | rfl | rfl <;> first | rfl | simp [own_pk]
def own_g0 (p : Int32) : Int32 := if p = 0 then 117 else if p = 1 then 115 else if p = 2 then 97 else if p = 3 then 103 else if p = 4 then 101 else if p = 5 then 95 else if p = 6 then 109 else 51
theorem own_get0 (p : Int32) (h1 : ¬ p < 0) (h2 : p < 8) : ([.int 117, .int 115, .int 97, .int 103, .int 101, .int 95, .int 109, .int 51] : List Value).getD p.toNatClampNeg (.int 0) = .int (own_g0 p) := by
  have q : p = 0 ∨ p = 1 ∨ p = 2 ∨ p = 3 ∨ p = 4 ∨ p = 5 ∨ p = 6 ∨ p = 7 := by simp only [Int32.lt_iff_toInt_lt, ← Int32.toInt_inj, Int32.reduceToInt] at *; omega
  clear h1 h2
  rcases q with rfl | rfl | rfl | rfl | rfl | rfl | rfl | rfl <;> first | rfl | decide +kernel | simp [own_g0]
theorem own_finT0 (p c : Int32) (h1 : ¬ p < 0) (h2 : p < 8) (hc : own_g0 p = c) : ¬ own_same own_tx0 [own_pk p 0 c 117, own_pk p 1 c 115, own_pk p 2 c 97, own_pk p 3 c 103, own_pk p 4 c 101, own_pk p 5 c 95, own_pk p 6 c 109, own_pk p 7 c 51] = 0 := by
  have q : p = 0 ∨ p = 1 ∨ p = 2 ∨ p = 3 ∨ p = 4 ∨ p = 5 ∨ p = 6 ∨ p = 7 := by simp only [Int32.lt_iff_toInt_lt, ← Int32.toInt_inj, Int32.reduceToInt] at *; omega
  clear h1 h2
  subst hc
  rcases q with rfl | rfl | rfl | rfl | rfl | rfl | rfl | rfl <;> decide +kernel
theorem own_finF0 (p c : Int32) (h1 : ¬ p < 0) (h2 : p < 8) (hc : ¬ own_g0 p = c) : own_same own_tx0 [own_pk p 0 c 117, own_pk p 1 c 115, own_pk p 2 c 97, own_pk p 3 c 103, own_pk p 4 c 101, own_pk p 5 c 95, own_pk p 6 c 109, own_pk p 7 c 51] = 0 := by
  have q : p = 0 ∨ p = 1 ∨ p = 2 ∨ p = 3 ∨ p = 4 ∨ p = 5 ∨ p = 6 ∨ p = 7 := by simp only [Int32.lt_iff_toInt_lt, ← Int32.toInt_inj, Int32.reduceToInt] at *; omega
  clear h1 h2
  rcases q with rfl | rfl | rfl | rfl | rfl | rfl | rfl | rfl
  · exact own_same_f fun e => hc ((by decide +kernel : own_g0 0 = own_tx0.getD 0 0).trans ((congrArg (fun l : List Int32 => l.getD 0 0) e).trans (own_pk_s 0 c 117)))
  · exact own_same_f fun e => hc ((by decide +kernel : own_g0 1 = own_tx0.getD 1 0).trans ((congrArg (fun l : List Int32 => l.getD 1 0) e).trans (own_pk_s 1 c 115)))
  · exact own_same_f fun e => hc ((by decide +kernel : own_g0 2 = own_tx0.getD 2 0).trans ((congrArg (fun l : List Int32 => l.getD 2 0) e).trans (own_pk_s 2 c 97)))
  · exact own_same_f fun e => hc ((by decide +kernel : own_g0 3 = own_tx0.getD 3 0).trans ((congrArg (fun l : List Int32 => l.getD 3 0) e).trans (own_pk_s 3 c 103)))
  · exact own_same_f fun e => hc ((by decide +kernel : own_g0 4 = own_tx0.getD 4 0).trans ((congrArg (fun l : List Int32 => l.getD 4 0) e).trans (own_pk_s 4 c 101)))
  · exact own_same_f fun e => hc ((by decide +kernel : own_g0 5 = own_tx0.getD 5 0).trans ((congrArg (fun l : List Int32 => l.getD 5 0) e).trans (own_pk_s 5 c 95)))
  · exact own_same_f fun e => hc ((by decide +kernel : own_g0 6 = own_tx0.getD 6 0).trans ((congrArg (fun l : List Int32 => l.getD 6 0) e).trans (own_pk_s 6 c 109)))
  · exact own_same_f fun e => hc ((by decide +kernel : own_g0 7 = own_tx0.getD 7 0).trans ((congrArg (fun l : List Int32 => l.getD 7 0) e).trans (own_pk_s 7 c 51)))
theorem own_set1 (p c : Int32) (h1 : ¬ p < 0) (h2 : p < 10) : ([.int 99, .int 104, .int 97, .int 114, .int 103, .int 101, .int 95, .int 121, .int 101, .int 110] : List Value).set p.toNatClampNeg (.int c) = [.int (own_pk p 0 c 99), .int (own_pk p 1 c 104), .int (own_pk p 2 c 97), .int (own_pk p 3 c 114), .int (own_pk p 4 c 103), .int (own_pk p 5 c 101), .int (own_pk p 6 c 95), .int (own_pk p 7 c 121), .int (own_pk p 8 c 101), .int (own_pk p 9 c 110)] := by
  have q : p = 0 ∨ p = 1 ∨ p = 2 ∨ p = 3 ∨ p = 4 ∨ p = 5 ∨ p = 6 ∨ p = 7 ∨ p = 8 ∨ p = 9 := by simp only [Int32.lt_iff_toInt_lt, ← Int32.toInt_inj, Int32.reduceToInt] at *; omega
  clear h1 h2
  rcases q with rfl | rfl | rfl | rfl | rfl | rfl | rfl | rfl | rfl | rfl <;> first | rfl | simp [own_pk]
def own_g1 (p : Int32) : Int32 := if p = 0 then 99 else if p = 1 then 104 else if p = 2 then 97 else if p = 3 then 114 else if p = 4 then 103 else if p = 5 then 101 else if p = 6 then 95 else if p = 7 then 121 else if p = 8 then 101 else 110
theorem own_get1 (p : Int32) (h1 : ¬ p < 0) (h2 : p < 10) : ([.int 99, .int 104, .int 97, .int 114, .int 103, .int 101, .int 95, .int 121, .int 101, .int 110] : List Value).getD p.toNatClampNeg (.int 0) = .int (own_g1 p) := by
  have q : p = 0 ∨ p = 1 ∨ p = 2 ∨ p = 3 ∨ p = 4 ∨ p = 5 ∨ p = 6 ∨ p = 7 ∨ p = 8 ∨ p = 9 := by simp only [Int32.lt_iff_toInt_lt, ← Int32.toInt_inj, Int32.reduceToInt] at *; omega
  clear h1 h2
  rcases q with rfl | rfl | rfl | rfl | rfl | rfl | rfl | rfl | rfl | rfl <;> first | rfl | decide +kernel | simp [own_g1]
theorem own_finT1 (p c : Int32) (h1 : ¬ p < 0) (h2 : p < 10) (hc : own_g1 p = c) : ¬ own_same own_tx1 [own_pk p 0 c 99, own_pk p 1 c 104, own_pk p 2 c 97, own_pk p 3 c 114, own_pk p 4 c 103, own_pk p 5 c 101, own_pk p 6 c 95, own_pk p 7 c 121, own_pk p 8 c 101, own_pk p 9 c 110] = 0 := by
  have q : p = 0 ∨ p = 1 ∨ p = 2 ∨ p = 3 ∨ p = 4 ∨ p = 5 ∨ p = 6 ∨ p = 7 ∨ p = 8 ∨ p = 9 := by simp only [Int32.lt_iff_toInt_lt, ← Int32.toInt_inj, Int32.reduceToInt] at *; omega
  clear h1 h2
  subst hc
  rcases q with rfl | rfl | rfl | rfl | rfl | rfl | rfl | rfl | rfl | rfl <;> decide +kernel
theorem own_finF1 (p c : Int32) (h1 : ¬ p < 0) (h2 : p < 10) (hc : ¬ own_g1 p = c) : own_same own_tx1 [own_pk p 0 c 99, own_pk p 1 c 104, own_pk p 2 c 97, own_pk p 3 c 114, own_pk p 4 c 103, own_pk p 5 c 101, own_pk p 6 c 95, own_pk p 7 c 121, own_pk p 8 c 101, own_pk p 9 c 110] = 0 := by
  have q : p = 0 ∨ p = 1 ∨ p = 2 ∨ p = 3 ∨ p = 4 ∨ p = 5 ∨ p = 6 ∨ p = 7 ∨ p = 8 ∨ p = 9 := by simp only [Int32.lt_iff_toInt_lt, ← Int32.toInt_inj, Int32.reduceToInt] at *; omega
  clear h1 h2
  rcases q with rfl | rfl | rfl | rfl | rfl | rfl | rfl | rfl | rfl | rfl
  · exact own_same_f fun e => hc ((by decide +kernel : own_g1 0 = own_tx1.getD 0 0).trans ((congrArg (fun l : List Int32 => l.getD 0 0) e).trans (own_pk_s 0 c 99)))
  · exact own_same_f fun e => hc ((by decide +kernel : own_g1 1 = own_tx1.getD 1 0).trans ((congrArg (fun l : List Int32 => l.getD 1 0) e).trans (own_pk_s 1 c 104)))
  · exact own_same_f fun e => hc ((by decide +kernel : own_g1 2 = own_tx1.getD 2 0).trans ((congrArg (fun l : List Int32 => l.getD 2 0) e).trans (own_pk_s 2 c 97)))
  · exact own_same_f fun e => hc ((by decide +kernel : own_g1 3 = own_tx1.getD 3 0).trans ((congrArg (fun l : List Int32 => l.getD 3 0) e).trans (own_pk_s 3 c 114)))
  · exact own_same_f fun e => hc ((by decide +kernel : own_g1 4 = own_tx1.getD 4 0).trans ((congrArg (fun l : List Int32 => l.getD 4 0) e).trans (own_pk_s 4 c 103)))
  · exact own_same_f fun e => hc ((by decide +kernel : own_g1 5 = own_tx1.getD 5 0).trans ((congrArg (fun l : List Int32 => l.getD 5 0) e).trans (own_pk_s 5 c 101)))
  · exact own_same_f fun e => hc ((by decide +kernel : own_g1 6 = own_tx1.getD 6 0).trans ((congrArg (fun l : List Int32 => l.getD 6 0) e).trans (own_pk_s 6 c 95)))
  · exact own_same_f fun e => hc ((by decide +kernel : own_g1 7 = own_tx1.getD 7 0).trans ((congrArg (fun l : List Int32 => l.getD 7 0) e).trans (own_pk_s 7 c 121)))
  · exact own_same_f fun e => hc ((by decide +kernel : own_g1 8 = own_tx1.getD 8 0).trans ((congrArg (fun l : List Int32 => l.getD 8 0) e).trans (own_pk_s 8 c 101)))
  · exact own_same_f fun e => hc ((by decide +kernel : own_g1 9 = own_tx1.getD 9 0).trans ((congrArg (fun l : List Int32 => l.getD 9 0) e).trans (own_pk_s 9 c 110)))
theorem own_set2 (p c : Int32) (h1 : ¬ p < 0) (h2 : p < 7) : ([.int 116, .int 97, .int 120, .int 95, .int 121, .int 101, .int 110] : List Value).set p.toNatClampNeg (.int c) = [.int (own_pk p 0 c 116), .int (own_pk p 1 c 97), .int (own_pk p 2 c 120), .int (own_pk p 3 c 95), .int (own_pk p 4 c 121), .int (own_pk p 5 c 101), .int (own_pk p 6 c 110)] := by
  have q : p = 0 ∨ p = 1 ∨ p = 2 ∨ p = 3 ∨ p = 4 ∨ p = 5 ∨ p = 6 := by simp only [Int32.lt_iff_toInt_lt, ← Int32.toInt_inj, Int32.reduceToInt] at *; omega
  clear h1 h2
  rcases q with rfl | rfl | rfl | rfl | rfl | rfl | rfl <;> first | rfl | simp [own_pk]
def own_g2 (p : Int32) : Int32 := if p = 0 then 116 else if p = 1 then 97 else if p = 2 then 120 else if p = 3 then 95 else if p = 4 then 121 else if p = 5 then 101 else 110
theorem own_get2 (p : Int32) (h1 : ¬ p < 0) (h2 : p < 7) : ([.int 116, .int 97, .int 120, .int 95, .int 121, .int 101, .int 110] : List Value).getD p.toNatClampNeg (.int 0) = .int (own_g2 p) := by
  have q : p = 0 ∨ p = 1 ∨ p = 2 ∨ p = 3 ∨ p = 4 ∨ p = 5 ∨ p = 6 := by simp only [Int32.lt_iff_toInt_lt, ← Int32.toInt_inj, Int32.reduceToInt] at *; omega
  clear h1 h2
  rcases q with rfl | rfl | rfl | rfl | rfl | rfl | rfl <;> first | rfl | decide +kernel | simp [own_g2]
theorem own_finT2 (p c : Int32) (h1 : ¬ p < 0) (h2 : p < 7) (hc : own_g2 p = c) : ¬ own_same own_tx2 [own_pk p 0 c 116, own_pk p 1 c 97, own_pk p 2 c 120, own_pk p 3 c 95, own_pk p 4 c 121, own_pk p 5 c 101, own_pk p 6 c 110] = 0 := by
  have q : p = 0 ∨ p = 1 ∨ p = 2 ∨ p = 3 ∨ p = 4 ∨ p = 5 ∨ p = 6 := by simp only [Int32.lt_iff_toInt_lt, ← Int32.toInt_inj, Int32.reduceToInt] at *; omega
  clear h1 h2
  subst hc
  rcases q with rfl | rfl | rfl | rfl | rfl | rfl | rfl <;> decide +kernel
theorem own_finF2 (p c : Int32) (h1 : ¬ p < 0) (h2 : p < 7) (hc : ¬ own_g2 p = c) : own_same own_tx2 [own_pk p 0 c 116, own_pk p 1 c 97, own_pk p 2 c 120, own_pk p 3 c 95, own_pk p 4 c 121, own_pk p 5 c 101, own_pk p 6 c 110] = 0 := by
  have q : p = 0 ∨ p = 1 ∨ p = 2 ∨ p = 3 ∨ p = 4 ∨ p = 5 ∨ p = 6 := by simp only [Int32.lt_iff_toInt_lt, ← Int32.toInt_inj, Int32.reduceToInt] at *; omega
  clear h1 h2
  rcases q with rfl | rfl | rfl | rfl | rfl | rfl | rfl
  · exact own_same_f fun e => hc ((by decide +kernel : own_g2 0 = own_tx2.getD 0 0).trans ((congrArg (fun l : List Int32 => l.getD 0 0) e).trans (own_pk_s 0 c 116)))
  · exact own_same_f fun e => hc ((by decide +kernel : own_g2 1 = own_tx2.getD 1 0).trans ((congrArg (fun l : List Int32 => l.getD 1 0) e).trans (own_pk_s 1 c 97)))
  · exact own_same_f fun e => hc ((by decide +kernel : own_g2 2 = own_tx2.getD 2 0).trans ((congrArg (fun l : List Int32 => l.getD 2 0) e).trans (own_pk_s 2 c 120)))
  · exact own_same_f fun e => hc ((by decide +kernel : own_g2 3 = own_tx2.getD 3 0).trans ((congrArg (fun l : List Int32 => l.getD 3 0) e).trans (own_pk_s 3 c 95)))
  · exact own_same_f fun e => hc ((by decide +kernel : own_g2 4 = own_tx2.getD 4 0).trans ((congrArg (fun l : List Int32 => l.getD 4 0) e).trans (own_pk_s 4 c 121)))
  · exact own_same_f fun e => hc ((by decide +kernel : own_g2 5 = own_tx2.getD 5 0).trans ((congrArg (fun l : List Int32 => l.getD 5 0) e).trans (own_pk_s 5 c 101)))
  · exact own_same_f fun e => hc ((by decide +kernel : own_g2 6 = own_tx2.getD 6 0).trans ((congrArg (fun l : List Int32 => l.getD 6 0) e).trans (own_pk_s 6 c 110)))
theorem own_set3 (p c : Int32) (h1 : ¬ p < 0) (h2 : p < 12) : ([.int 103, .int 97, .int 115, .int 95, .int 112, .int 97, .int 114, .int 116, .int 95, .int 121, .int 101, .int 110] : List Value).set p.toNatClampNeg (.int c) = [.int (own_pk p 0 c 103), .int (own_pk p 1 c 97), .int (own_pk p 2 c 115), .int (own_pk p 3 c 95), .int (own_pk p 4 c 112), .int (own_pk p 5 c 97), .int (own_pk p 6 c 114), .int (own_pk p 7 c 116), .int (own_pk p 8 c 95), .int (own_pk p 9 c 121), .int (own_pk p 10 c 101), .int (own_pk p 11 c 110)] := by
  have q : p = 0 ∨ p = 1 ∨ p = 2 ∨ p = 3 ∨ p = 4 ∨ p = 5 ∨ p = 6 ∨ p = 7 ∨ p = 8 ∨ p = 9 ∨ p = 10 ∨ p = 11 := by simp only [Int32.lt_iff_toInt_lt, ← Int32.toInt_inj, Int32.reduceToInt] at *; omega
  clear h1 h2
  rcases q with rfl | rfl | rfl | rfl | rfl | rfl | rfl | rfl | rfl | rfl | rfl | rfl <;> first | rfl | simp [own_pk]
def own_g3 (p : Int32) : Int32 := if p = 0 then 103 else if p = 1 then 97 else if p = 2 then 115 else if p = 3 then 95 else if p = 4 then 112 else if p = 5 then 97 else if p = 6 then 114 else if p = 7 then 116 else if p = 8 then 95 else if p = 9 then 121 else if p = 10 then 101 else 110
theorem own_get3 (p : Int32) (h1 : ¬ p < 0) (h2 : p < 12) : ([.int 103, .int 97, .int 115, .int 95, .int 112, .int 97, .int 114, .int 116, .int 95, .int 121, .int 101, .int 110] : List Value).getD p.toNatClampNeg (.int 0) = .int (own_g3 p) := by
  have q : p = 0 ∨ p = 1 ∨ p = 2 ∨ p = 3 ∨ p = 4 ∨ p = 5 ∨ p = 6 ∨ p = 7 ∨ p = 8 ∨ p = 9 ∨ p = 10 ∨ p = 11 := by simp only [Int32.lt_iff_toInt_lt, ← Int32.toInt_inj, Int32.reduceToInt] at *; omega
  clear h1 h2
  rcases q with rfl | rfl | rfl | rfl | rfl | rfl | rfl | rfl | rfl | rfl | rfl | rfl <;> first | rfl | decide +kernel | simp [own_g3]
theorem own_finT3 (p c : Int32) (h1 : ¬ p < 0) (h2 : p < 12) (hc : own_g3 p = c) : ¬ own_same own_tx3 [own_pk p 0 c 103, own_pk p 1 c 97, own_pk p 2 c 115, own_pk p 3 c 95, own_pk p 4 c 112, own_pk p 5 c 97, own_pk p 6 c 114, own_pk p 7 c 116, own_pk p 8 c 95, own_pk p 9 c 121, own_pk p 10 c 101, own_pk p 11 c 110] = 0 := by
  have q : p = 0 ∨ p = 1 ∨ p = 2 ∨ p = 3 ∨ p = 4 ∨ p = 5 ∨ p = 6 ∨ p = 7 ∨ p = 8 ∨ p = 9 ∨ p = 10 ∨ p = 11 := by simp only [Int32.lt_iff_toInt_lt, ← Int32.toInt_inj, Int32.reduceToInt] at *; omega
  clear h1 h2
  subst hc
  rcases q with rfl | rfl | rfl | rfl | rfl | rfl | rfl | rfl | rfl | rfl | rfl | rfl <;> decide +kernel
theorem own_finF3 (p c : Int32) (h1 : ¬ p < 0) (h2 : p < 12) (hc : ¬ own_g3 p = c) : own_same own_tx3 [own_pk p 0 c 103, own_pk p 1 c 97, own_pk p 2 c 115, own_pk p 3 c 95, own_pk p 4 c 112, own_pk p 5 c 97, own_pk p 6 c 114, own_pk p 7 c 116, own_pk p 8 c 95, own_pk p 9 c 121, own_pk p 10 c 101, own_pk p 11 c 110] = 0 := by
  have q : p = 0 ∨ p = 1 ∨ p = 2 ∨ p = 3 ∨ p = 4 ∨ p = 5 ∨ p = 6 ∨ p = 7 ∨ p = 8 ∨ p = 9 ∨ p = 10 ∨ p = 11 := by simp only [Int32.lt_iff_toInt_lt, ← Int32.toInt_inj, Int32.reduceToInt] at *; omega
  clear h1 h2
  rcases q with rfl | rfl | rfl | rfl | rfl | rfl | rfl | rfl | rfl | rfl | rfl | rfl
  · exact own_same_f fun e => hc ((by decide +kernel : own_g3 0 = own_tx3.getD 0 0).trans ((congrArg (fun l : List Int32 => l.getD 0 0) e).trans (own_pk_s 0 c 103)))
  · exact own_same_f fun e => hc ((by decide +kernel : own_g3 1 = own_tx3.getD 1 0).trans ((congrArg (fun l : List Int32 => l.getD 1 0) e).trans (own_pk_s 1 c 97)))
  · exact own_same_f fun e => hc ((by decide +kernel : own_g3 2 = own_tx3.getD 2 0).trans ((congrArg (fun l : List Int32 => l.getD 2 0) e).trans (own_pk_s 2 c 115)))
  · exact own_same_f fun e => hc ((by decide +kernel : own_g3 3 = own_tx3.getD 3 0).trans ((congrArg (fun l : List Int32 => l.getD 3 0) e).trans (own_pk_s 3 c 95)))
  · exact own_same_f fun e => hc ((by decide +kernel : own_g3 4 = own_tx3.getD 4 0).trans ((congrArg (fun l : List Int32 => l.getD 4 0) e).trans (own_pk_s 4 c 112)))
  · exact own_same_f fun e => hc ((by decide +kernel : own_g3 5 = own_tx3.getD 5 0).trans ((congrArg (fun l : List Int32 => l.getD 5 0) e).trans (own_pk_s 5 c 97)))
  · exact own_same_f fun e => hc ((by decide +kernel : own_g3 6 = own_tx3.getD 6 0).trans ((congrArg (fun l : List Int32 => l.getD 6 0) e).trans (own_pk_s 6 c 114)))
  · exact own_same_f fun e => hc ((by decide +kernel : own_g3 7 = own_tx3.getD 7 0).trans ((congrArg (fun l : List Int32 => l.getD 7 0) e).trans (own_pk_s 7 c 116)))
  · exact own_same_f fun e => hc ((by decide +kernel : own_g3 8 = own_tx3.getD 8 0).trans ((congrArg (fun l : List Int32 => l.getD 8 0) e).trans (own_pk_s 8 c 95)))
  · exact own_same_f fun e => hc ((by decide +kernel : own_g3 9 = own_tx3.getD 9 0).trans ((congrArg (fun l : List Int32 => l.getD 9 0) e).trans (own_pk_s 9 c 121)))
  · exact own_same_f fun e => hc ((by decide +kernel : own_g3 10 = own_tx3.getD 10 0).trans ((congrArg (fun l : List Int32 => l.getD 10 0) e).trans (own_pk_s 10 c 101)))
  · exact own_same_f fun e => hc ((by decide +kernel : own_g3 11 = own_tx3.getD 11 0).trans ((congrArg (fun l : List Int32 => l.getD 11 0) e).trans (own_pk_s 11 c 110)))
theorem dc8_0 : decode prog_4_method_7_code 0 = .ok (.invokestatic 51, 3) := by decide +kernel
theorem dc9_0 : decode prog_4_method_1_code 0 = .ok (.getstatic 16, 3) := by decide +kernel
theorem dc9_3 : decode prog_4_method_1_code 3 = .ok (.invokevirtual 20, 3) := by decide +kernel
theorem dc9_6 : decode prog_4_method_1_code 6 = .ok (.checkcast 21, 3) := by decide +kernel
theorem dc9_9 : decode prog_4_method_1_code 9 = .ok (.areturn, 1) := by decide +kernel
theorem own_pn_com_example_strict_tariff_stricttariff_pricing_Column : plainName "com/example/strict_tariff/stricttariff/pricing/Column" = true := by first | (simp [plainName, overriddenIn]; done) | decide +kernel
def Q_values_0 (Z : State) (o1 : Addr) (o2 : Addr) (o3 : Addr) (o4 : Addr) (kc0 : ClassId) (h0 : Heap) (n0 : Nat) (v : Option Value) (h : Heap) (L : List Loc) : Prop := (∃ (b2 : Addr) (kc0 : ClassId), v = some (.ref b2) ∧ Fr n0 L ∧ Keep h0 h [] ∧ n0 ≤ b2 ∧ h0.size ≤ b2 ∧ Exa Z h b2 "[Lcom/example/strict_tariff/stricttariff/pricing/Column;" ∧ Arv Z h b2 kc0 (.object "com/example/strict_tariff/stricttariff/pricing/Column") (4 : Int32) [(.ref o1), (.ref o2), (.ref o3), (.ref o4)] .null)
set_option maxRecDepth 65536 in
set_option maxHeartbeats 40000000 in
theorem rm_values_0 (l : Launch) (Z : State) (a0 : Array Value) (hw : ∀ d ∈ tables_1, d.before a0 Z = true) (ws : List Jvm.Cond) (o0 : Addr) (o1 : Addr) (o2 : Addr) (o3 : Addr) (o4 : Addr) (kc0 : ClassId) (h0 : Heap) (n0 : Nat) (Z0 : n0 ≤ h0.size) (P0 : Sta Z h0 "com/example/strict_tariff/stricttariff/pricing/Column" "$VALUES" "[Lcom/example/strict_tariff/stricttariff/pricing/Column;" (.ref o0)) (P1 : Arv Z h0 o0 kc0 (.object "com/example/strict_tariff/stricttariff/pricing/Column") (4 : Int32) [(.ref o1), (.ref o2), (.ref o3), (.ref o4)] .null) (P2 : Exa Z h0 o0 "[Lcom/example/strict_tariff/stricttariff/pricing/Column;") :
    MetFree l (⟨"com/example/strict_tariff/stricttariff/pricing/Column", "values", "()[Lcom/example/strict_tariff/stricttariff/pricing/Column;"⟩ : MethodName) (head1 (Jvm.Cond.code (⟨"com/example/strict_tariff/stricttariff/pricing/Column", "values", "()[Lcom/example/strict_tariff/stricttariff/pricing/Column;"⟩ : MethodName) prog_4_method_1_code 0 (some (.array (.object "com/example/strict_tariff/stricttariff/pricing/Column"))) :: ws) ({ frames := 1, cells := 1, slots := 4, locals := 14 } : Room)) (fun aA U => aA = #[] ∧ Z.Warmed39 U.vm ∧ U.heap = h0) (fun _ _ _ _ _ => True) (fun _ U o U' => ∃ v L, o = .returned v ∧ Q_values_0 Z o1 o2 o3 o4 kc0 h0 n0 v U'.heap L ∧ FrameEnd U o U' L ({ frames := 1, cells := 1, slots := 4, locals := 14 } : Room).cells ({ frames := 1, cells := 1, slots := 4, locals := 14 } : Room).slots) := by
  refine MetFree.of_bodySF (plainFor_of_name own_pn_com_example_strict_tariff_stricttariff_pricing_Column) hisR ?_
  intro p e s m args below meth c s₁ Bd hml0 hP hK
  obtain ⟨rfl, hZ, hh⟩ := hP
  have hx := Bd.exec
  have hby := Bd.bytes
  have hlk : meth.locks = false := BodyLoose.notSynchronized Bd
  have hml : c.maxLocals = 0 := hml0
  have hown : s.vm.findClass "com/example/strict_tariff/stricttariff/pricing/Column" = some m.cls := findClass_of_methodNamed Bd.named
  have hnm := (name_of_methodNamed Bd.named Bd.method).1
  have X0 : Stand p l e ({ frames := 1, cells := 1, slots := 4, locals := 14 } : Room) s m #[] below meth c s₁ [] 0 0 := Stand.of_body Bd
  have e0 : s₁.heap = h0 := by rw [← hh, Bd.state]; rfl
  have N0 := Fr.nil n0
  have K0 : Keep h0 h0 [] := Keep.refl _ _
  show oG p e below (own_K s (Q_values_0 Z o1 o2 o3 o4 kc0 h0 n0) ({ frames := 1, cells := 1, slots := 4, locals := 14 } : Room).cells ({ frames := 1, cells := 1, slots := 4, locals := 14 } : Room).slots) (s₁.setTop (entryFrame m #[] 0))
  rw [(by first | (simp [entryFrame, mkF, argsToLocals, Value.category]; done) | rfl : entryFrame m #[] 0 = mkF m 0 #[] [])]
  show oG p e below _ (s₁.setTop (mkF m 0 #[] []))
  obtain ⟨T1, X1, e1, st1⟩ := getS2 X0 hx hZ hown (host := "") (Or.inl (hw _ (own_m 44 rfl))) Via.refl e0 P0 (g := (mkF m 0 #[] [])) rfl (hb hby dc9_0)
  refine og st1 ?_
  show oG p e below _ (T1.setTop (mkF m 3 #[] [(.ref o0)]))
  obtain ⟨T2, h2, X2, e2, E2, A2, EA2, st2⟩ := cloneH X1 hx hZ hown (hw _ (own_m 46 rfl)) (hw _ (own_m 47 rfl)) (hw _ (own_m 51 rfl)) (hw _ (own_m 49 rfl)) (hw _ (own_m 50 rfl)) (hw _ (own_m 52 rfl)) e1 P1.arh P2 (g := (mkF m 3 #[] [(.ref o0)])) rfl (by rw [hml]; rfl) rfl (hb hby dc9_3) (by decide) (W := 0) (cap := 4) (by show 2 * 0 + _ ≤ _; exact Nat.le_of_eq rfl) (by decide) (by decide) (by decide) (by decide)
  obtain ⟨b2, g2⟩ : ∃ z, z = h0.size := ⟨_, rfl⟩
  rw [← g2] at A2 EA2 st2
  have ge3 : n0 ≤ b2 := Nat.le_trans Z0 (Nat.le_of_eq g2.symm)
  have sz4 : h0.size ≤ b2 := Nat.le_trans K0.1 (Nat.le_of_eq g2.symm)
  refine og st2 ?_
  have f5 : Arv Z h2 b2 kc0 (.object "com/example/strict_tariff/stricttariff/pricing/Column") (4 : Int32) [(.ref o1), (.ref o2), (.ref o3), (.ref o4)] .null := A2
  show oG p e below _ (T2.setTop (mkF m 6 #[] [(.ref b2)]))
  obtain ⟨T6, X6, e6, st6⟩ := castY X2 hx hZ hown (hw _ (own_m 57 rfl)) e2 (Ins.self EA2) (g := (mkF m 6 #[] [(.ref b2)])) rfl rfl (hb hby dc9_6)
  refine og st6 ?_
  show oG p e below _ (T6.setTop (mkF m 9 #[] [(.ref b2)]))
  have K7 := (K0.ext E2)
  exact own_retR X6 hx hlk Bd.returns rfl rfl (hb hby dc9_9) (by decide) (by decide) (by rw [e6]; exact ⟨b2, kc0, rfl, N0, K7, ge3, sz4, EA2, f5⟩)
theorem own_pd2 : parseMethodDescriptor "()[Lcom/example/strict_tariff/stricttariff/pricing/Column;" = some ⟨[], some (.array (.object "com/example/strict_tariff/stricttariff/pricing/Column"))⟩ := by decide +kernel
theorem dc8_3 : decode prog_4_method_7_code 3 = .ok (.astore_n 1, 1) := by decide +kernel
theorem dc8_4 : decode prog_4_method_7_code 4 = .ok (.aload_n 1, 1) := by decide +kernel
theorem dc8_5 : decode prog_4_method_7_code 5 = .ok (.arraylength, 1) := by decide +kernel
theorem dc8_6 : decode prog_4_method_7_code 6 = .ok (.istore_n 2, 1) := by decide +kernel
theorem dc8_7 : decode prog_4_method_7_code 7 = .ok (.iconst 0, 1) := by decide +kernel
theorem dc8_8 : decode prog_4_method_7_code 8 = .ok (.istore_n 3, 1) := by decide +kernel
theorem dc8_9 : decode prog_4_method_7_code 9 = .ok (.iload_n 3, 1) := by decide +kernel
theorem dc8_10 : decode prog_4_method_7_code 10 = .ok (.iload_n 2, 1) := by decide +kernel
theorem dc8_11 : decode prog_4_method_7_code 11 = .ok (.if_icmp .ge 32, 3) := by decide +kernel
theorem dc8_14 : decode prog_4_method_7_code 14 = .ok (.aload_n 1, 1) := by decide +kernel
theorem dc8_15 : decode prog_4_method_7_code 15 = .ok (.iload_n 3, 1) := by decide +kernel
theorem dc8_16 : decode prog_4_method_7_code 16 = .ok (.aaload, 1) := by decide +kernel
theorem dc8_17 : decode prog_4_method_7_code 17 = .ok (.astore 4, 2) := by decide +kernel
theorem dc8_19 : decode prog_4_method_7_code 19 = .ok (.aload 4, 2) := by decide +kernel
theorem dc8_21 : decode prog_4_method_7_code 21 = .ok (.getfield 35, 3) := by decide +kernel
theorem dc8_24 : decode prog_4_method_7_code 24 = .ok (.aload_n 0, 1) := by decide +kernel
theorem dc8_25 : decode prog_4_method_7_code 25 = .ok (.invokevirtual 55, 3) := by decide +kernel
theorem dc8_28 : decode prog_4_method_7_code 28 = .ok (.ifCond .eq 9, 3) := by decide +kernel
theorem dc8_37 : decode prog_4_method_7_code 37 = .ok (.iinc 3 1, 3) := by decide +kernel
theorem dc8_40 : decode prog_4_method_7_code 40 = .ok (.goto (-31), 3) := by decide +kernel
theorem dc8_43 : decode prog_4_method_7_code 43 = .ok (.invokestatic 67, 3) := by decide +kernel
theorem dc17_0 : decode jdk_32_method_1_code 0 = .ok (.getstatic 1, 3) := by decide +kernel
theorem dc17_3 : decode jdk_32_method_1_code 3 = .ok (.astore_n 0, 1) := by decide +kernel
theorem dc17_4 : decode jdk_32_method_1_code 4 = .ok (.aload_n 0, 1) := by decide +kernel
theorem dc17_5 : decode jdk_32_method_1_code 5 = .ok (.areturn, 1) := by decide +kernel
theorem own_pn_java_util_Optional : plainName "java/util/Optional" = true := by first | (simp [plainName, overriddenIn]; done) | decide +kernel
def Q_empty_1 (Z : State) (o0 : Addr) (h0 : Heap) (n0 : Nat) (v : Option Value) (h : Heap) (L : List Loc) : Prop := v = some (.ref o0) ∧ Fr n0 L ∧ h = h0
set_option maxRecDepth 65536 in
set_option maxHeartbeats 40000000 in
theorem rm_empty_1 (l : Launch) (Z : State) (a0 : Array Value) (hw : ∀ d ∈ tables_1, d.before a0 Z = true) (ws : List Jvm.Cond) (o0 : Addr) (h0 : Heap) (n0 : Nat) (Z0 : n0 ≤ h0.size) (P0 : Sta Z h0 "java/util/Optional" "EMPTY" "Ljava/util/Optional;" (.ref o0)) :
    MetFree l (⟨"java/util/Optional", "empty", "()Ljava/util/Optional;"⟩ : MethodName) (head1 (Jvm.Cond.code (⟨"java/util/Optional", "empty", "()Ljava/util/Optional;"⟩ : MethodName) jdk_32_method_1_code 1 (some (.object "java/util/Optional")) :: ws) ({ frames := 0, cells := 0, slots := 0, locals := 0 } : Room)) (fun aA U => aA = #[] ∧ Z.Warmed39 U.vm ∧ U.heap = h0) (fun _ _ _ _ _ => True) (fun _ U o U' => ∃ v L, o = .returned v ∧ Q_empty_1 Z o0 h0 n0 v U'.heap L ∧ FrameEnd U o U' L ({ frames := 0, cells := 0, slots := 0, locals := 0 } : Room).cells ({ frames := 0, cells := 0, slots := 0, locals := 0 } : Room).slots) := by
  refine MetFree.of_bodySF (plainFor_of_name own_pn_java_util_Optional) hisR ?_
  intro p e s m args below meth c s₁ Bd hml0 hP hK
  obtain ⟨rfl, hZ, hh⟩ := hP
  have hx := Bd.exec
  have hby := Bd.bytes
  have hlk : meth.locks = false := BodyLoose.notSynchronized Bd
  have hml : c.maxLocals = 1 := hml0
  have hown : s.vm.findClass "java/util/Optional" = some m.cls := findClass_of_methodNamed Bd.named
  have hnm := (name_of_methodNamed Bd.named Bd.method).1
  have X0 : Stand p l e ({ frames := 0, cells := 0, slots := 0, locals := 0 } : Room) s m #[] below meth c s₁ [] 0 0 := Stand.of_body Bd
  have e0 : s₁.heap = h0 := by rw [← hh, Bd.state]; rfl
  have N0 := Fr.nil n0
  show oG p e below (own_K s (Q_empty_1 Z o0 h0 n0) ({ frames := 0, cells := 0, slots := 0, locals := 0 } : Room).cells ({ frames := 0, cells := 0, slots := 0, locals := 0 } : Room).slots) (s₁.setTop (entryFrame m #[] 1))
  rw [(by first | (simp [entryFrame, mkF, argsToLocals, Value.category]; done) | rfl : entryFrame m #[] 1 = mkF m 0 #[.unset] [])]
  show oG p e below _ (s₁.setTop (mkF m 0 #[.unset] []))
  obtain ⟨T1, X1, e1, st1⟩ := getS2 X0 hx hZ hown (host := "") (Or.inl (hw _ (own_m 102 rfl))) Via.refl e0 P0 (g := (mkF m 0 #[.unset] [])) rfl (hb hby dc17_0)
  refine og st1 ?_
  show oG p e below _ (T1.setTop (mkF m 3 #[.unset] [(.ref o0)]))
  refine og (fun _ hr => XS.astoreN X1.here hx rfl (hb hby dc17_3) rfl rfl (l' := #[.val (.ref o0)]) rfl (XS.aloadN X1.here hx rfl (hb hby dc17_4) rfl rfl hr)) ?_
  show oG p e below _ (T1.setTop (mkF m 5 #[.val (.ref o0)] [(.ref o0)]))
  exact own_retR X1 hx hlk Bd.returns rfl rfl (hb hby dc17_5) (by decide) (by decide) ⟨rfl, N0, e1⟩
theorem own_pd3 : parseMethodDescriptor "()Ljava/util/Optional;" = some ⟨[], some (.object "java/util/Optional")⟩ := by decide +kernel
theorem dc8_46 : decode prog_4_method_7_code 46 = .ok (.areturn, 1) := by decide +kernel
theorem dc8_31 : decode prog_4_method_7_code 31 = .ok (.aload 4, 2) := by decide +kernel
theorem dc8_33 : decode prog_4_method_7_code 33 = .ok (.invokestatic 61, 3) := by decide +kernel
theorem dc12_0 : decode jdk_32_method_3_code 0 = .ok (.new 2, 3) := by decide +kernel
theorem dc12_3 : decode jdk_32_method_3_code 3 = .ok (.dup, 1) := by decide +kernel
theorem dc12_4 : decode jdk_32_method_3_code 4 = .ok (.aload_n 0, 1) := by decide +kernel
theorem dc12_5 : decode jdk_32_method_3_code 5 = .ok (.invokestatic 17, 3) := by decide +kernel
theorem dc13_0 : decode jdk_31_method_10_code 0 = .ok (.aload_n 0, 1) := by decide +kernel
theorem dc13_1 : decode jdk_31_method_10_code 1 = .ok (.ifnonnull 11, 3) := by decide +kernel
theorem dc13_12 : decode jdk_31_method_10_code 12 = .ok (.aload_n 0, 1) := by decide +kernel
theorem dc13_13 : decode jdk_31_method_10_code 13 = .ok (.areturn, 1) := by decide +kernel
theorem own_pn_java_util_Objects : plainName "java/util/Objects" = true := by first | (simp [plainName, overriddenIn]; done) | decide +kernel
def Q_requireNonNull_2 (Z : State) (o0 : Addr) (h0 : Heap) (n0 : Nat) (v : Option Value) (h : Heap) (L : List Loc) : Prop := v = some (.ref o0) ∧ Fr n0 L ∧ h = h0
set_option maxRecDepth 65536 in
set_option maxHeartbeats 40000000 in
theorem rm_requireNonNull_2 (l : Launch) (Z : State) (a0 : Array Value) (hw : ∀ d ∈ tables_1, d.before a0 Z = true) (ws : List Jvm.Cond) (o0 : Addr) (h0 : Heap) (n0 : Nat) (Z0 : n0 ≤ h0.size) :
    MetFree l (⟨"java/util/Objects", "requireNonNull", "(Ljava/lang/Object;)Ljava/lang/Object;"⟩ : MethodName) (head1 (Jvm.Cond.code (⟨"java/util/Objects", "requireNonNull", "(Ljava/lang/Object;)Ljava/lang/Object;"⟩ : MethodName) jdk_31_method_10_code 1 (some (.object "java/lang/Object")) :: ws) ({ frames := 0, cells := 0, slots := 0, locals := 0 } : Room)) (fun aA U => aA = #[(.ref o0)] ∧ Z.Warmed39 U.vm ∧ U.heap = h0) (fun _ _ _ _ _ => True) (fun _ U o U' => ∃ v L, o = .returned v ∧ Q_requireNonNull_2 Z o0 h0 n0 v U'.heap L ∧ FrameEnd U o U' L ({ frames := 0, cells := 0, slots := 0, locals := 0 } : Room).cells ({ frames := 0, cells := 0, slots := 0, locals := 0 } : Room).slots) := by
  refine MetFree.of_bodySF (plainFor_of_name own_pn_java_util_Objects) hisR ?_
  intro p e s m args below meth c s₁ Bd hml0 hP hK
  obtain ⟨rfl, hZ, hh⟩ := hP
  have hx := Bd.exec
  have hby := Bd.bytes
  have hlk : meth.locks = false := BodyLoose.notSynchronized Bd
  have hml : c.maxLocals = 1 := hml0
  have hown : s.vm.findClass "java/util/Objects" = some m.cls := findClass_of_methodNamed Bd.named
  have hnm := (name_of_methodNamed Bd.named Bd.method).1
  have X0 : Stand p l e ({ frames := 0, cells := 0, slots := 0, locals := 0 } : Room) s m #[(.ref o0)] below meth c s₁ [] 0 0 := Stand.of_body Bd
  have e0 : s₁.heap = h0 := by rw [← hh, Bd.state]; rfl
  have N0 := Fr.nil n0
  show oG p e below (own_K s (Q_requireNonNull_2 Z o0 h0 n0) ({ frames := 0, cells := 0, slots := 0, locals := 0 } : Room).cells ({ frames := 0, cells := 0, slots := 0, locals := 0 } : Room).slots) (s₁.setTop (entryFrame m #[(.ref o0)] 1))
  rw [(by first | (simp [entryFrame, mkF, argsToLocals, Value.category]; done) | rfl : entryFrame m #[(.ref o0)] 1 = mkF m 0 #[.val (.ref o0)] [])]
  show oG p e below _ (s₁.setTop (mkF m 0 #[.val (.ref o0)] []))
  refine og (fun _ hr => XS.aloadN X0.here hx rfl (hb hby dc13_0) rfl rfl hr) ?_
  show oG p e below _ (s₁.setTop (mkF m 1 #[.val (.ref o0)] [(.ref o0)]))
  refine og (fun _ hr => XS.ifnonnullYes X0.here hx rfl (pc0 := 1) (pc' := 12) rfl (hb hby dc13_1) rfl (by decide) (by decide) hr) ?_
  show oG p e below _ (s₁.setTop (mkF m 12 #[.val (.ref o0)] []))
  refine og (fun _ hr => XS.aloadN X0.here hx rfl (hb hby dc13_12) rfl rfl hr) ?_
  show oG p e below _ (s₁.setTop (mkF m 13 #[.val (.ref o0)] [(.ref o0)]))
  exact own_retR X0 hx hlk Bd.returns rfl rfl (hb hby dc13_13) (by decide) (by decide) ⟨rfl, N0, e0⟩
theorem own_pd4 : parseMethodDescriptor "(Ljava/lang/Object;)Ljava/lang/Object;" = some ⟨[(.object "java/lang/Object")], some (.object "java/lang/Object")⟩ := by decide +kernel
theorem dc12_8 : decode jdk_32_method_3_code 8 = .ok (.invokespecial 23, 3) := by decide +kernel
theorem dc14_0 : decode jdk_32_method_2_code 0 = .ok (.aload_n 0, 1) := by decide +kernel
theorem dc14_1 : decode jdk_32_method_2_code 1 = .ok (.invokespecial 7, 3) := by decide +kernel
theorem dc14_4 : decode jdk_32_method_2_code 4 = .ok (.aload_n 0, 1) := by decide +kernel
theorem dc14_5 : decode jdk_32_method_2_code 5 = .ok (.aload_n 1, 1) := by decide +kernel
theorem dc14_6 : decode jdk_32_method_2_code 6 = .ok (.putfield 13, 3) := by decide +kernel
theorem dc14_9 : decode jdk_32_method_2_code 9 = .ok (.return_, 1) := by decide +kernel
def Q_init_3 (Z : State) (o0 : Addr) (o1 : Addr) (h0 : Heap) (n0 : Nat) (v : Option Value) (h : Heap) (L : List Loc) : Prop := (v = none ∧ Fr n0 L ∧ Keep h0 h [o0] ∧ Fld Z h o0 "java/util/Optional" "value" "Ljava/lang/Object;" (.ref o1))
set_option maxRecDepth 65536 in
set_option maxHeartbeats 40000000 in
theorem rm_init_3 (l : Launch) (Z : State) (a0 : Array Value) (hw : ∀ d ∈ tables_1, d.before a0 Z = true) (ws : List Jvm.Cond) (o0 : Addr) (o1 : Addr) (h0 : Heap) (n0 : Nat) (Z0 : n0 ≤ h0.size) (P0 : Exa Z h0 o0 "java/util/Optional") (P1 : Fld Z h0 o0 "java/util/Optional" "value" "Ljava/lang/Object;" .null) (ge0p : n0 ≤ o0) :
    MetFree l (⟨"java/util/Optional", "<init>", "(Ljava/lang/Object;)V"⟩ : MethodName) (head1 (Jvm.Cond.code (⟨"java/util/Optional", "<init>", "(Ljava/lang/Object;)V"⟩ : MethodName) jdk_32_method_2_code 2 none :: ws) ({ frames := 1, cells := 0, slots := 0, locals := 12 } : Room)) (fun aA U => aA = #[(.ref o0), (.ref o1)] ∧ Z.Warmed39 U.vm ∧ U.heap = h0) (fun _ _ _ _ _ => True) (fun _ U o U' => ∃ v L, o = .returned v ∧ Q_init_3 Z o0 o1 h0 n0 v U'.heap L ∧ FrameEnd U o U' L ({ frames := 1, cells := 0, slots := 0, locals := 12 } : Room).cells ({ frames := 1, cells := 0, slots := 0, locals := 12 } : Room).slots) := by
  refine MetFree.of_bodySF (plainFor_of_name own_pn_java_util_Optional) hisR ?_
  intro p e s m args below meth c s₁ Bd hml0 hP hK
  obtain ⟨rfl, hZ, hh⟩ := hP
  have hx := Bd.exec
  have hby := Bd.bytes
  have hlk : meth.locks = false := BodyLoose.notSynchronized Bd
  have hml : c.maxLocals = 2 := hml0
  have hown : s.vm.findClass "java/util/Optional" = some m.cls := findClass_of_methodNamed Bd.named
  have hnm := (name_of_methodNamed Bd.named Bd.method).1
  have X0 : Stand p l e ({ frames := 1, cells := 0, slots := 0, locals := 12 } : Room) s m #[(.ref o0), (.ref o1)] below meth c s₁ [] 0 0 := Stand.of_body Bd
  have e0 : s₁.heap = h0 := by rw [← hh, Bd.state]; rfl
  have N0 := Fr.nil n0
  have K0 : Keep h0 h0 [o0] := Keep.refl _ _
  show oG p e below (own_K s (Q_init_3 Z o0 o1 h0 n0) ({ frames := 1, cells := 0, slots := 0, locals := 12 } : Room).cells ({ frames := 1, cells := 0, slots := 0, locals := 12 } : Room).slots) (s₁.setTop (entryFrame m #[(.ref o0), (.ref o1)] 2))
  rw [(by first | (simp [entryFrame, mkF, argsToLocals, Value.category]; done) | rfl : entryFrame m #[(.ref o0), (.ref o1)] 2 = mkF m 0 #[.val (.ref o0), .val (.ref o1)] [])]
  show oG p e below _ (s₁.setTop (mkF m 0 #[.val (.ref o0), .val (.ref o1)] []))
  refine og (fun _ hr => XS.aloadN X0.here hx rfl (hb hby dc14_0) rfl rfl hr) ?_
  show oG p e below _ (s₁.setTop (mkF m 1 #[.val (.ref o0), .val (.ref o1)] [(.ref o0)]))
  obtain ⟨T1, X1, e1, st1⟩ := initO X0 hx hZ hown (hw _ (own_m 85 rfl)) (hw _ (own_m 20 rfl)) (hw _ (own_m 21 rfl)) e0 (g := (mkF m 1 #[.val (.ref o0), .val (.ref o1)] [(.ref o0)])) rfl (by rw [hml]; rfl) rfl (hb hby dc14_1) (by decide) (W := 0) (by show 2 * 0 + _ ≤ _; exact Nat.le_of_eq rfl) (by decide)
  refine og st1 ?_
  show oG p e below _ (T1.setTop (mkF m 4 #[.val (.ref o0), .val (.ref o1)] []))
  refine og (fun _ hr => XS.aloadN X1.here hx rfl (hb hby dc14_4) rfl rfl (XS.aloadN X1.here hx rfl (hb hby dc14_5) rfl rfl hr)) ?_
  show oG p e below _ (T1.setTop (mkF m 6 #[.val (.ref o0), .val (.ref o1)] [(.ref o1), (.ref o0)]))
  obtain ⟨T2, h2, X2, e2, W2, st2⟩ := putF X1 hx hZ hown (host := "") (Or.inl (hw _ (own_m 86 rfl))) Via.refl e1 P1 P0 (Or.inr ⟨(hw _ (own_m 87 rfl)), rfl, hnm⟩) (hw _ (own_m 76 rfl)) (ty := (.object "java/lang/Object")) (by decide) rfl rfl (g := (mkF m 6 #[.val (.ref o0), .val (.ref o1)] [(.ref o1), (.ref o0)])) rfl rfl (hb hby dc14_6)
  refine og st2 ?_
  have f3 := P1.same W2
  have N4 := Fr.snoc X2 N0 ge0p
  show oG p e below _ (T2.setTop (mkF m 9 #[.val (.ref o0), .val (.ref o1)] []))
  have K5 := (K0.wr W2 (Or.inl (List.mem_of_getElem? (i := 0) rfl)))
  exact own_ret0 X2 hx hlk Bd.returns (hb hby dc14_9) (by decide) (by decide) (by rw [e2]; exact ⟨rfl, N4, K5, f3⟩)
theorem own_pd5 : parseMethodDescriptor "(Ljava/lang/Object;)V" = some ⟨[(.object "java/lang/Object")], none⟩ := by decide +kernel
theorem dc12_11 : decode jdk_32_method_3_code 11 = .ok (.areturn, 1) := by decide +kernel
def Q_of_4 (Z : State) (o0 : Addr) (h0 : Heap) (n0 : Nat) (v : Option Value) (h : Heap) (L : List Loc) : Prop := (∃ (b1 : Addr), v = some (.ref b1) ∧ Fr n0 L ∧ Keep h0 h [] ∧ n0 ≤ b1 ∧ h0.size ≤ b1 ∧ Exa Z h b1 "java/util/Optional" ∧ Fld Z h b1 "java/util/Optional" "value" "Ljava/lang/Object;" (.ref o0))
set_option maxRecDepth 65536 in
set_option maxHeartbeats 40000000 in
theorem rm_of_4 (l : Launch) (Z : State) (a0 : Array Value) (hw : ∀ d ∈ tables_1, d.before a0 Z = true) (ws : List Jvm.Cond) (o0 : Addr) (h0 : Heap) (n0 : Nat) (Z0 : n0 ≤ h0.size) :
    MetFree l (⟨"java/util/Optional", "of", "(Ljava/lang/Object;)Ljava/util/Optional;"⟩ : MethodName) (head1 (Jvm.Cond.code (⟨"java/util/Optional", "of", "(Ljava/lang/Object;)Ljava/util/Optional;"⟩ : MethodName) jdk_32_method_3_code 1 (some (.object "java/util/Optional")) :: ws) ({ frames := 2, cells := 1, slots := 1, locals := 26 } : Room)) (fun aA U => aA = #[(.ref o0)] ∧ Z.Warmed39 U.vm ∧ U.heap = h0) (fun _ _ _ _ _ => True) (fun _ U o U' => ∃ v L, o = .returned v ∧ Q_of_4 Z o0 h0 n0 v U'.heap L ∧ FrameEnd U o U' L ({ frames := 2, cells := 1, slots := 1, locals := 26 } : Room).cells ({ frames := 2, cells := 1, slots := 1, locals := 26 } : Room).slots) := by
  refine MetFree.of_bodySF (plainFor_of_name own_pn_java_util_Optional) hisR ?_
  intro p e s m args below meth c s₁ Bd hml0 hP hK
  obtain ⟨rfl, hZ, hh⟩ := hP
  have hx := Bd.exec
  have hby := Bd.bytes
  have hlk : meth.locks = false := BodyLoose.notSynchronized Bd
  have hml : c.maxLocals = 1 := hml0
  have hown : s.vm.findClass "java/util/Optional" = some m.cls := findClass_of_methodNamed Bd.named
  have hnm := (name_of_methodNamed Bd.named Bd.method).1
  have X0 : Stand p l e ({ frames := 2, cells := 1, slots := 1, locals := 26 } : Room) s m #[(.ref o0)] below meth c s₁ [] 0 0 := Stand.of_body Bd
  have e0 : s₁.heap = h0 := by rw [← hh, Bd.state]; rfl
  have N0 := Fr.nil n0
  have K0 : Keep h0 h0 [] := Keep.refl _ _
  show oG p e below (own_K s (Q_of_4 Z o0 h0 n0) ({ frames := 2, cells := 1, slots := 1, locals := 26 } : Room).cells ({ frames := 2, cells := 1, slots := 1, locals := 26 } : Room).slots) (s₁.setTop (entryFrame m #[(.ref o0)] 1))
  rw [(by first | (simp [entryFrame, mkF, argsToLocals, Value.category]; done) | rfl : entryFrame m #[(.ref o0)] 1 = mkF m 0 #[.val (.ref o0)] [])]
  show oG p e below _ (s₁.setTop (mkF m 0 #[.val (.ref o0)] []))
  obtain ⟨T1, h1, X1, e1, E1, A1, D1, -, st1⟩ := newO X0 hx hZ hown (hw _ (own_m 75 rfl)) (hw _ (own_m 76 rfl)) (hw _ (own_m 73 rfl)) e0 (g := (mkF m 0 #[.val (.ref o0)] [])) rfl (hb hby dc12_0) (by decide) (by decide)
  obtain ⟨b1, g1⟩ : ∃ z, z = h0.size := ⟨_, rfl⟩
  rw [← g1] at A1 D1 st1
  have ge2 : n0 ≤ b1 := Nat.le_trans Z0 (Nat.le_of_eq g1.symm)
  have sz3 : h0.size ≤ b1 := Nat.le_trans K0.1 (Nat.le_of_eq g1.symm)
  refine og st1 ?_
  have f4 : Fld Z h1 b1 "java/util/Optional" "value" "Ljava/lang/Object;" .null := D1 (Or.inr (hw _ (own_m 87 rfl))) (ty := (.object "java/lang/Object")) (by decide)
  show oG p e below _ (T1.setTop (mkF m 3 #[.val (.ref o0)] [(.ref b1)]))
  refine og (fun _ hr => XS.dup X1.here hx rfl (hb hby dc12_3) rfl rfl (XS.aloadN X1.here hx rfl (hb hby dc12_4) rfl rfl hr)) ?_
  show oG p e below _ (T1.setTop (mkF m 5 #[.val (.ref o0)] [(.ref o0), (.ref b1), (.ref b1)]))
  have Z6 := (Nat.le_trans Z0 E1.1)
  refine own_cs X1 hx hZ hown (hw _ (own_m 77 rfl)) (hw _ (own_m 78 rfl)) (hw _ (own_m 79 rfl)) (hw _ (own_m 80 rfl)) (by decide) (rm := { frames := 0, cells := 0, slots := 0, locals := 0 }) (rm_requireNonNull_2 l Z a0 hw [] o0 h1 n0 Z6 ) (by decide) (W := 2) (by decide) (by decide) (by decide) e1 (by rw [hml]; rfl) (argsL := [(.ref o0)]) (lenOf own_pd4 rfl) (rest := [(.ref b1), (.ref b1)]) rfl rfl (Nat.le_of_eq rfl) (hb hby dc12_5) ?_
  intro _ T5 L5 X5 hQ5
  obtain ⟨rfl, N5q, e5⟩ := hQ5
  have N5 := Fr.app N0 N5q
  show oG p e below _ (T5.setTop (mkF m 8 #[.val (.ref o0)] [(.ref o0), (.ref b1), (.ref b1)]))
  refine own_cp X5 hx hZ hown rfl (hw _ (own_m 81 rfl)) (hw _ (own_m 82 rfl)) (hw _ (own_m 73 rfl)) (hw _ (own_m 84 rfl)) (by decide) (rm := { frames := 1, cells := 0, slots := 0, locals := 12 }) (rm_init_3 l Z a0 hw [] b1 o0 h1 n0 Z6 A1 f4 ge2) (by decide) (W := 1) (by decide) (by decide) (by decide) e5 (by rw [hml]; rfl) (argsL := [(.ref o0)]) (lenOf own_pd5 rfl) (rest := [(.ref b1)]) rfl rfl (Nat.le_of_eq rfl) (hb hby dc12_8) ?_
  intro _ T7 L7 X7 hQ7
  obtain ⟨rfl, N7q, K7, f7_0⟩ := hQ7
  have N7 := Fr.app N5 N7q
  show oG p e below _ (T7.setTop (mkF m 11 #[.val (.ref o0)] [(.ref b1)]))
  have f8 := (A1.keep K7)
  have K9 := ((K0.ext E1).trans K7 (allS (Or.inr sz3) all0))
  exact own_retR X7 hx hlk Bd.returns rfl rfl (hb hby dc12_11) (by decide) (by decide) (by exact ⟨b1, rfl, N7, K9, ge2, sz3, f8, f7_0⟩)
theorem own_pd6 : parseMethodDescriptor "(Ljava/lang/Object;)Ljava/util/Optional;" = some ⟨[(.object "java/lang/Object")], some (.object "java/util/Optional")⟩ := by decide +kernel
theorem dc8_36 : decode prog_4_method_7_code 36 = .ok (.areturn, 1) := by decide +kernel
def own_nm (cs_ : List Int32) (r_USAGE : Addr) (r_CHARGE : Addr) (r_TAX : Addr) (r_GAS_PART : Addr) : Value := (if (own_same own_tx0 cs_) = (0 : Int32) then (if (own_same own_tx1 cs_) = (0 : Int32) then (if (own_same own_tx2 cs_) = (0 : Int32) then (if (own_same own_tx3 cs_) = (0 : Int32) then .null else (.ref r_GAS_PART)) else (.ref r_TAX)) else (.ref r_CHARGE)) else (.ref r_USAGE))
def Q_named_s (Z : State) (cs_ : List Int32) (r_USAGE : Addr) (r_CHARGE : Addr) (r_TAX : Addr) (r_GAS_PART : Addr) (h0 : Heap) (n0 : Nat) (v : Option Value) (h : Heap) (L : List Loc) : Prop := (∃ (a : Addr), v = some (.ref a) ∧ Fr n0 L ∧ Keep h0 h [] ∧ Exa Z h a "java/util/Optional" ∧ Fld Z h a "java/util/Optional" "value" "Ljava/lang/Object;" (own_nm cs_ r_USAGE r_CHARGE r_TAX r_GAS_PART))
set_option maxRecDepth 65536 in
set_option maxHeartbeats 40000000 in
theorem rm_named_s (l : Launch) (Z : State) (a0 : Array Value) (hw : ∀ d ∈ tables_1, d.before a0 Z = true) (ws : List Jvm.Cond) (s_ : Addr) (t_ : Addr) (kt_ : ClassId) (nn_ : Int32) (cs_ : List Int32) (vs_ : List Value) (r_USAGE : Addr) (r__VALUES : Addr) (r_CHARGE : Addr) (r_TAX : Addr) (r_GAS_PART : Addr) (r_USAGE_header : Addr) (r_USAGE_header_value : Addr) (r_CHARGE_header : Addr) (r_CHARGE_header_value : Addr) (r_TAX_header : Addr) (r_TAX_header_value : Addr) (r_GAS_PART_header : Addr) (r_GAS_PART_header_value : Addr) (k__VALUES : ClassId) (k_USAGE_header_value : ClassId) (k_CHARGE_header_value : ClassId) (k_TAX_header_value : ClassId) (k_GAS_PART_header_value : ClassId) (i_COMPACT_STRINGS : Int32) (v_SIOOBE_FORMATTER : Value) (r_EMPTY : Addr) (h0 : Heap) (n0 : Nat) (Z0 : n0 ≤ h0.size) (Es_ : Exa Z h0 s_ "java/lang/String") (Cs_ : Fld Z h0 s_ "java/lang/String" "coder" "B" (.int 0)) (Vs_ : Fld Z h0 s_ "java/lang/String" "value" "[B" (.ref t_)) (Ks_ : Arv Z h0 t_ kt_ .byte nn_ vs_ (.int 0)) (hc_ : StrChars.Road.CodA cs_ 0 nn_ vs_) (hbc_ : ∀ c ∈ cs_, ¬ c < 0 ∧ ¬ (65535 : Int32) < c) (hl_ : cs_.length ≤ 4000) (S__VALUES : Sta Z h0 "com/example/strict_tariff/stricttariff/pricing/Column" "$VALUES" "[Lcom/example/strict_tariff/stricttariff/pricing/Column;" (.ref r__VALUES)) (E__VALUES : Exa Z h0 r__VALUES "[Lcom/example/strict_tariff/stricttariff/pricing/Column;") (F_USAGE_header : Fld Z h0 r_USAGE "com/example/strict_tariff/stricttariff/pricing/Column" "header" "Ljava/lang/String;" (.ref r_USAGE_header)) (E_USAGE_header : Exa Z h0 r_USAGE_header "java/lang/String") (F_USAGE_header_coder : Fld Z h0 r_USAGE_header "java/lang/String" "coder" "B" (.int 0)) (F_USAGE_header_value : Fld Z h0 r_USAGE_header "java/lang/String" "value" "[B" (.ref r_USAGE_header_value)) (F_CHARGE_header : Fld Z h0 r_CHARGE "com/example/strict_tariff/stricttariff/pricing/Column" "header" "Ljava/lang/String;" (.ref r_CHARGE_header)) (E_CHARGE_header : Exa Z h0 r_CHARGE_header "java/lang/String") (F_CHARGE_header_coder : Fld Z h0 r_CHARGE_header "java/lang/String" "coder" "B" (.int 0)) (F_CHARGE_header_value : Fld Z h0 r_CHARGE_header "java/lang/String" "value" "[B" (.ref r_CHARGE_header_value)) (F_TAX_header : Fld Z h0 r_TAX "com/example/strict_tariff/stricttariff/pricing/Column" "header" "Ljava/lang/String;" (.ref r_TAX_header)) (E_TAX_header : Exa Z h0 r_TAX_header "java/lang/String") (F_TAX_header_coder : Fld Z h0 r_TAX_header "java/lang/String" "coder" "B" (.int 0)) (F_TAX_header_value : Fld Z h0 r_TAX_header "java/lang/String" "value" "[B" (.ref r_TAX_header_value)) (F_GAS_PART_header : Fld Z h0 r_GAS_PART "com/example/strict_tariff/stricttariff/pricing/Column" "header" "Ljava/lang/String;" (.ref r_GAS_PART_header)) (E_GAS_PART_header : Exa Z h0 r_GAS_PART_header "java/lang/String") (F_GAS_PART_header_coder : Fld Z h0 r_GAS_PART_header "java/lang/String" "coder" "B" (.int 0)) (F_GAS_PART_header_value : Fld Z h0 r_GAS_PART_header "java/lang/String" "value" "[B" (.ref r_GAS_PART_header_value)) (V__VALUES : Arv Z h0 r__VALUES k__VALUES (.object "com/example/strict_tariff/stricttariff/pricing/Column") (4 : Int32) [(.ref r_USAGE), (.ref r_CHARGE), (.ref r_TAX), (.ref r_GAS_PART)] .null) (V_USAGE_header_value : Arv Z h0 r_USAGE_header_value k_USAGE_header_value .byte (8 : Int32) [(.int 117), (.int 115), (.int 97), (.int 103), (.int 101), (.int 95), (.int 109), (.int 51)] (.int 0)) (V_CHARGE_header_value : Arv Z h0 r_CHARGE_header_value k_CHARGE_header_value .byte (10 : Int32) [(.int 99), (.int 104), (.int 97), (.int 114), (.int 103), (.int 101), (.int 95), (.int 121), (.int 101), (.int 110)] (.int 0)) (V_TAX_header_value : Arv Z h0 r_TAX_header_value k_TAX_header_value .byte (7 : Int32) [(.int 116), (.int 97), (.int 120), (.int 95), (.int 121), (.int 101), (.int 110)] (.int 0)) (V_GAS_PART_header_value : Arv Z h0 r_GAS_PART_header_value k_GAS_PART_header_value .byte (12 : Int32) [(.int 103), (.int 97), (.int 115), (.int 95), (.int 112), (.int 97), (.int 114), (.int 116), (.int 95), (.int 121), (.int 101), (.int 110)] (.int 0)) (S_COMPACT_STRINGS : Sta Z h0 "java/lang/String" "COMPACT_STRINGS" "Z" (.int i_COMPACT_STRINGS)) (S_EMPTY : Sta Z h0 "java/util/Optional" "EMPTY" "Ljava/util/Optional;" (.ref r_EMPTY)) (E_EMPTY : Exa Z h0 r_EMPTY "java/util/Optional") (F_EMPTY_value : Fld Z h0 r_EMPTY "java/util/Optional" "value" "Ljava/lang/Object;" .null) (hs_COMPACT_STRINGS : ¬ (i_COMPACT_STRINGS = (0 : Int32))) (hv_SIOOBE_FORMATTER : v_SIOOBE_FORMATTER.isRef = true) :
    MetFree l (⟨"com/example/strict_tariff/stricttariff/pricing/Column", "named", "(Ljava/lang/String;)Ljava/util/Optional;"⟩ : MethodName) (head1 (Jvm.Cond.code (⟨"com/example/strict_tariff/stricttariff/pricing/Column", "named", "(Ljava/lang/String;)Ljava/util/Optional;"⟩ : MethodName) prog_4_method_7_code 5 (some (.object "java/util/Optional")) :: ws) ({ frames := 3, cells := 2, slots := 5, locals := 38 } : Room)) (fun aA U => aA = #[(.ref s_)] ∧ Z.Warmed39 U.vm ∧ U.heap = h0) (fun _ _ _ _ _ => True) (fun _ U o U' => ∃ v L, o = .returned v ∧ Q_named_s Z cs_ r_USAGE r_CHARGE r_TAX r_GAS_PART h0 n0 v U'.heap L ∧ FrameEnd U o U' L ({ frames := 3, cells := 2, slots := 5, locals := 38 } : Room).cells ({ frames := 3, cells := 2, slots := 5, locals := 38 } : Room).slots) := by
  refine MetFree.of_bodySF (plainFor_of_name own_pn_com_example_strict_tariff_stricttariff_pricing_Column) hisR ?_
  intro p e s m args below meth c s₁ Bd hml0 hP hK
  obtain ⟨rfl, hZ, hh⟩ := hP
  have hx := Bd.exec
  have hby := Bd.bytes
  have hlk : meth.locks = false := BodyLoose.notSynchronized Bd
  have hml : c.maxLocals = 5 := hml0
  have hown : s.vm.findClass "com/example/strict_tariff/stricttariff/pricing/Column" = some m.cls := findClass_of_methodNamed Bd.named
  have hnm := (name_of_methodNamed Bd.named Bd.method).1
  have X0 : Stand p l e ({ frames := 3, cells := 2, slots := 5, locals := 38 } : Room) s m #[(.ref s_)] below meth c s₁ [] 0 0 := Stand.of_body Bd
  have e0 : s₁.heap = h0 := by rw [← hh, Bd.state]; rfl
  have N0 := Fr.nil n0
  have K0 : Keep h0 h0 [] := Keep.refl _ _
  show oG p e below (own_K s (Q_named_s Z cs_ r_USAGE r_CHARGE r_TAX r_GAS_PART h0 n0) ({ frames := 3, cells := 2, slots := 5, locals := 38 } : Room).cells ({ frames := 3, cells := 2, slots := 5, locals := 38 } : Room).slots) (s₁.setTop (entryFrame m #[(.ref s_)] 5))
  rw [(by first | (simp [entryFrame, mkF, argsToLocals, Value.category]; done) | rfl : entryFrame m #[(.ref s_)] 5 = mkF m 0 #[.val (.ref s_), .unset, .unset, .unset, .unset] [])]
  show oG p e below _ (s₁.setTop (mkF m 0 #[.val (.ref s_), .unset, .unset, .unset, .unset] []))
  refine own_cs X0 hx hZ hown (hw _ (own_m 41 rfl)) (hw _ (own_m 42 rfl)) (hw _ (own_m 1 rfl)) (hw _ (own_m 43 rfl)) (by decide) (rm := { frames := 1, cells := 1, slots := 4, locals := 14 }) (rm_values_0 l Z a0 hw [] r__VALUES r_USAGE r_CHARGE r_TAX r_GAS_PART k__VALUES h0 n0 Z0 S__VALUES V__VALUES E__VALUES) (by decide) (W := 0) (by decide) (by decide) (by decide) e0 (by rw [hml]; rfl) (argsL := []) (lenOf own_pd2 rfl) (rest := []) rfl rfl (Nat.le_of_eq rfl) (hb hby dc8_0) ?_
  intro _ T1 L1 X1 hQ1
  obtain ⟨b1_0, kb1_0, rfl, N1q, K1, ge1_0, sz1_0, f1_0, f1_1⟩ := hQ1
  have N1 := Fr.app N0 N1q
  have sz2 : h0.size ≤ b1_0 := Nat.le_trans K0.1 sz1_0
  show oG p e below _ (T1.setTop (mkF m 3 #[.val (.ref s_), .unset, .unset, .unset, .unset] [(.ref b1_0)]))
  refine og (fun _ hr => XS.astoreN X1.here hx rfl (hb hby dc8_3) rfl rfl (l' := #[.val (.ref s_), .val (.ref b1_0), .unset, .unset, .unset]) rfl (XS.aloadN X1.here hx rfl (hb hby dc8_4) rfl rfl (own_alen X1 hx hZ rfl f1_1 rfl rfl (hb hby dc8_5) (XS.istoreN X1.here hx rfl (hb hby dc8_6) rfl (l' := #[.val (.ref s_), .val (.ref b1_0), .val (.int 4), .unset, .unset]) rfl (XS.iconst X1.here hx rfl (hb hby dc8_7) (XS.istoreN X1.here hx rfl (hb hby dc8_8) rfl (l' := #[.val (.ref s_), .val (.ref b1_0), .val (.int 4), .val (.int 0), .unset]) rfl (XS.iloadN X1.here hx rfl (hb hby dc8_9) rfl (XS.iloadN X1.here hx rfl (hb hby dc8_10) rfl (XS.icmpNo X1.here hx rfl (hb hby dc8_11) rfl (tlt (by decide)).2.1 (XS.aloadN X1.here hx rfl (hb hby dc8_14) rfl rfl (XS.iloadN X1.here hx rfl (hb hby dc8_15) rfl (own_aaload X1 hx hZ rfl f1_1 (0 : Int32) (.ref r_USAGE) ⟨by decide, by decide⟩ rfl rfl rfl rfl (hb hby dc8_16) (XS.astore X1.here hx rfl (hb hby dc8_17) rfl rfl (l' := #[.val (.ref s_), .val (.ref b1_0), .val (.int 4), .val (.int 0), .val (.ref r_USAGE)]) rfl (XS.aload X1.here hx rfl (hb hby dc8_19) rfl rfl hr)))))))))))))) ?_
  show oG p e below _ (T1.setTop (mkF m 21 #[.val (.ref s_), .val (.ref b1_0), .val (.int 4), .val (.int 0), .val (.ref r_USAGE)] [(.ref r_USAGE)]))
  have f3 := (F_USAGE_header.keep K1 nin0)
  obtain ⟨T4, X4, e4, st4⟩ := getF X1 hx hZ hown (host := "") (Or.inl (hw _ (own_m 59 rfl))) Via.refl rfl f3 (g := (mkF m 21 #[.val (.ref s_), .val (.ref b1_0), .val (.int 4), .val (.int 0), .val (.ref r_USAGE)] [(.ref r_USAGE)])) rfl rfl (hb hby dc8_21)
  refine og st4 ?_
  show oG p e below _ (T4.setTop (mkF m 24 #[.val (.ref s_), .val (.ref b1_0), .val (.int 4), .val (.int 0), .val (.ref r_USAGE)] [(.ref r_USAGE_header)]))
  refine og (fun _ hr => XS.aloadN X4.here hx rfl (hb hby dc8_24) rfl rfl hr) ?_
  show oG p e below _ (T4.setTop (mkF m 25 #[.val (.ref s_), .val (.ref b1_0), .val (.int 4), .val (.int 0), .val (.ref r_USAGE)] [(.ref s_), (.ref r_USAGE_header)]))
  have f6 := (E_USAGE_header.keep K1)
  have f7 := (F_USAGE_header_value.keep K1 nin0)
  have f8 := (F_USAGE_header_coder.keep K1 nin0)
  have f9 := (V_USAGE_header_value.keep K1 nin0)
  have f10 := (Es_.keep K1)
  have f11 := (Vs_.keep K1 nin0)
  have f12 := (Cs_.keep K1 nin0)
  have f13 := (Ks_.keep K1 nin0)
  have f14 := (own_sta_keep S_COMPACT_STRINGS K1 all0)
  refine own_eqs X4 hx hZ hown hw (hw _ (own_m 61 rfl)) (hw _ (own_m 62 rfl)) (hw _ (own_m 64 rfl)) (hw _ (own_m 63 rfl)) (hw _ (own_m 10 rfl)) own_tx0 f6 f7 f8 f9 own_cod0 own_hb0 (by decide) cs_ f10 f11 f12 f13 hc_ hbc_ hl_ f14 hs_COMPACT_STRINGS (by decide) (W := 0) (by decide) (by decide) (by decide) e4 (by rw [hml]; rfl) (Nat.le_of_eq rfl) (hb hby dc8_25) ?_
  intro T5 X5 e5
  show oG p e below _ (T5.setTop (mkF m 28 #[.val (.ref s_), .val (.ref b1_0), .val (.int 4), .val (.int 0), .val (.ref r_USAGE)] [(.int (own_same own_tx0 cs_))]))
  rcases Classical.em ((own_same own_tx0 cs_) = (0 : Int32)) with c15 | c15
  · skip
    refine og (fun _ hr => XS.ifYes X5.here hx rfl (pc0 := 28) (pc' := 37) rfl (hb hby dc8_28) rfl ((if0 _ _).trans (teq c15).1) (by decide) (by decide) hr) ?_
    show oG p e below _ (T5.setTop (mkF m 37 #[.val (.ref s_), .val (.ref b1_0), .val (.int 4), .val (.int 0), .val (.ref r_USAGE)] []))
    refine og (fun _ hr => XS.iinc X5.here hx rfl (hb hby dc8_37) rfl (l' := #[.val (.ref s_), .val (.ref b1_0), .val (.int 4), .val (.int 1), .val (.ref r_USAGE)]) rfl (XS.goto X5.here hx rfl (pc0 := 40) (pc' := 9) rfl (hb hby dc8_40) (by decide) (by decide) (XS.iloadN X5.here hx rfl (hb hby dc8_9) rfl (XS.iloadN X5.here hx rfl (hb hby dc8_10) rfl (XS.icmpNo X5.here hx rfl (hb hby dc8_11) rfl (tlt (by decide)).2.1 (XS.aloadN X5.here hx rfl (hb hby dc8_14) rfl rfl (XS.iloadN X5.here hx rfl (hb hby dc8_15) rfl (own_aaload X5 hx hZ e5 f1_1 (1 : Int32) (.ref r_CHARGE) ⟨by decide, by decide⟩ rfl rfl rfl rfl (hb hby dc8_16) (XS.astore X5.here hx rfl (hb hby dc8_17) rfl rfl (l' := #[.val (.ref s_), .val (.ref b1_0), .val (.int 4), .val (.int 1), .val (.ref r_CHARGE)]) rfl (XS.aload X5.here hx rfl (hb hby dc8_19) rfl rfl hr)))))))))) ?_
    show oG p e below _ (T5.setTop (mkF m 21 #[.val (.ref s_), .val (.ref b1_0), .val (.int 4), .val (.int 1), .val (.ref r_CHARGE)] [(.ref r_CHARGE)]))
    have f16 := (F_CHARGE_header.keep K1 nin0)
    obtain ⟨T17, X17, e17, st17⟩ := getF X5 hx hZ hown (host := "") (Or.inl (hw _ (own_m 59 rfl))) Via.refl e5 f16 (g := (mkF m 21 #[.val (.ref s_), .val (.ref b1_0), .val (.int 4), .val (.int 1), .val (.ref r_CHARGE)] [(.ref r_CHARGE)])) rfl rfl (hb hby dc8_21)
    refine og st17 ?_
    show oG p e below _ (T17.setTop (mkF m 24 #[.val (.ref s_), .val (.ref b1_0), .val (.int 4), .val (.int 1), .val (.ref r_CHARGE)] [(.ref r_CHARGE_header)]))
    refine og (fun _ hr => XS.aloadN X17.here hx rfl (hb hby dc8_24) rfl rfl hr) ?_
    show oG p e below _ (T17.setTop (mkF m 25 #[.val (.ref s_), .val (.ref b1_0), .val (.int 4), .val (.int 1), .val (.ref r_CHARGE)] [(.ref s_), (.ref r_CHARGE_header)]))
    have f19 := (E_CHARGE_header.keep K1)
    have f20 := (F_CHARGE_header_value.keep K1 nin0)
    have f21 := (F_CHARGE_header_coder.keep K1 nin0)
    have f22 := (V_CHARGE_header_value.keep K1 nin0)
    refine own_eqs X17 hx hZ hown hw (hw _ (own_m 61 rfl)) (hw _ (own_m 62 rfl)) (hw _ (own_m 64 rfl)) (hw _ (own_m 63 rfl)) (hw _ (own_m 10 rfl)) own_tx1 f19 f20 f21 f22 own_cod1 own_hb1 (by decide) cs_ f10 f11 f12 f13 hc_ hbc_ hl_ f14 hs_COMPACT_STRINGS (by decide) (W := 0) (by decide) (by decide) (by decide) e17 (by rw [hml]; rfl) (Nat.le_of_eq rfl) (hb hby dc8_25) ?_
    intro T18 X18 e18
    show oG p e below _ (T18.setTop (mkF m 28 #[.val (.ref s_), .val (.ref b1_0), .val (.int 4), .val (.int 1), .val (.ref r_CHARGE)] [(.int (own_same own_tx1 cs_))]))
    rcases Classical.em ((own_same own_tx1 cs_) = (0 : Int32)) with c23 | c23
    · skip
      refine og (fun _ hr => XS.ifYes X18.here hx rfl (pc0 := 28) (pc' := 37) rfl (hb hby dc8_28) rfl ((if0 _ _).trans (teq c23).1) (by decide) (by decide) hr) ?_
      show oG p e below _ (T18.setTop (mkF m 37 #[.val (.ref s_), .val (.ref b1_0), .val (.int 4), .val (.int 1), .val (.ref r_CHARGE)] []))
      refine og (fun _ hr => XS.iinc X18.here hx rfl (hb hby dc8_37) rfl (l' := #[.val (.ref s_), .val (.ref b1_0), .val (.int 4), .val (.int 2), .val (.ref r_CHARGE)]) rfl (XS.goto X18.here hx rfl (pc0 := 40) (pc' := 9) rfl (hb hby dc8_40) (by decide) (by decide) (XS.iloadN X18.here hx rfl (hb hby dc8_9) rfl (XS.iloadN X18.here hx rfl (hb hby dc8_10) rfl (XS.icmpNo X18.here hx rfl (hb hby dc8_11) rfl (tlt (by decide)).2.1 (XS.aloadN X18.here hx rfl (hb hby dc8_14) rfl rfl (XS.iloadN X18.here hx rfl (hb hby dc8_15) rfl (own_aaload X18 hx hZ e18 f1_1 (2 : Int32) (.ref r_TAX) ⟨by decide, by decide⟩ rfl rfl rfl rfl (hb hby dc8_16) (XS.astore X18.here hx rfl (hb hby dc8_17) rfl rfl (l' := #[.val (.ref s_), .val (.ref b1_0), .val (.int 4), .val (.int 2), .val (.ref r_TAX)]) rfl (XS.aload X18.here hx rfl (hb hby dc8_19) rfl rfl hr)))))))))) ?_
      show oG p e below _ (T18.setTop (mkF m 21 #[.val (.ref s_), .val (.ref b1_0), .val (.int 4), .val (.int 2), .val (.ref r_TAX)] [(.ref r_TAX)]))
      have f24 := (F_TAX_header.keep K1 nin0)
      obtain ⟨T25, X25, e25, st25⟩ := getF X18 hx hZ hown (host := "") (Or.inl (hw _ (own_m 59 rfl))) Via.refl e18 f24 (g := (mkF m 21 #[.val (.ref s_), .val (.ref b1_0), .val (.int 4), .val (.int 2), .val (.ref r_TAX)] [(.ref r_TAX)])) rfl rfl (hb hby dc8_21)
      refine og st25 ?_
      show oG p e below _ (T25.setTop (mkF m 24 #[.val (.ref s_), .val (.ref b1_0), .val (.int 4), .val (.int 2), .val (.ref r_TAX)] [(.ref r_TAX_header)]))
      refine og (fun _ hr => XS.aloadN X25.here hx rfl (hb hby dc8_24) rfl rfl hr) ?_
      show oG p e below _ (T25.setTop (mkF m 25 #[.val (.ref s_), .val (.ref b1_0), .val (.int 4), .val (.int 2), .val (.ref r_TAX)] [(.ref s_), (.ref r_TAX_header)]))
      have f27 := (E_TAX_header.keep K1)
      have f28 := (F_TAX_header_value.keep K1 nin0)
      have f29 := (F_TAX_header_coder.keep K1 nin0)
      have f30 := (V_TAX_header_value.keep K1 nin0)
      refine own_eqs X25 hx hZ hown hw (hw _ (own_m 61 rfl)) (hw _ (own_m 62 rfl)) (hw _ (own_m 64 rfl)) (hw _ (own_m 63 rfl)) (hw _ (own_m 10 rfl)) own_tx2 f27 f28 f29 f30 own_cod2 own_hb2 (by decide) cs_ f10 f11 f12 f13 hc_ hbc_ hl_ f14 hs_COMPACT_STRINGS (by decide) (W := 0) (by decide) (by decide) (by decide) e25 (by rw [hml]; rfl) (Nat.le_of_eq rfl) (hb hby dc8_25) ?_
      intro T26 X26 e26
      show oG p e below _ (T26.setTop (mkF m 28 #[.val (.ref s_), .val (.ref b1_0), .val (.int 4), .val (.int 2), .val (.ref r_TAX)] [(.int (own_same own_tx2 cs_))]))
      rcases Classical.em ((own_same own_tx2 cs_) = (0 : Int32)) with c31 | c31
      · skip
        refine og (fun _ hr => XS.ifYes X26.here hx rfl (pc0 := 28) (pc' := 37) rfl (hb hby dc8_28) rfl ((if0 _ _).trans (teq c31).1) (by decide) (by decide) hr) ?_
        show oG p e below _ (T26.setTop (mkF m 37 #[.val (.ref s_), .val (.ref b1_0), .val (.int 4), .val (.int 2), .val (.ref r_TAX)] []))
        refine og (fun _ hr => XS.iinc X26.here hx rfl (hb hby dc8_37) rfl (l' := #[.val (.ref s_), .val (.ref b1_0), .val (.int 4), .val (.int 3), .val (.ref r_TAX)]) rfl (XS.goto X26.here hx rfl (pc0 := 40) (pc' := 9) rfl (hb hby dc8_40) (by decide) (by decide) (XS.iloadN X26.here hx rfl (hb hby dc8_9) rfl (XS.iloadN X26.here hx rfl (hb hby dc8_10) rfl (XS.icmpNo X26.here hx rfl (hb hby dc8_11) rfl (tlt (by decide)).2.1 (XS.aloadN X26.here hx rfl (hb hby dc8_14) rfl rfl (XS.iloadN X26.here hx rfl (hb hby dc8_15) rfl (own_aaload X26 hx hZ e26 f1_1 (3 : Int32) (.ref r_GAS_PART) ⟨by decide, by decide⟩ rfl rfl rfl rfl (hb hby dc8_16) (XS.astore X26.here hx rfl (hb hby dc8_17) rfl rfl (l' := #[.val (.ref s_), .val (.ref b1_0), .val (.int 4), .val (.int 3), .val (.ref r_GAS_PART)]) rfl (XS.aload X26.here hx rfl (hb hby dc8_19) rfl rfl hr)))))))))) ?_
        show oG p e below _ (T26.setTop (mkF m 21 #[.val (.ref s_), .val (.ref b1_0), .val (.int 4), .val (.int 3), .val (.ref r_GAS_PART)] [(.ref r_GAS_PART)]))
        have f32 := (F_GAS_PART_header.keep K1 nin0)
        obtain ⟨T33, X33, e33, st33⟩ := getF X26 hx hZ hown (host := "") (Or.inl (hw _ (own_m 59 rfl))) Via.refl e26 f32 (g := (mkF m 21 #[.val (.ref s_), .val (.ref b1_0), .val (.int 4), .val (.int 3), .val (.ref r_GAS_PART)] [(.ref r_GAS_PART)])) rfl rfl (hb hby dc8_21)
        refine og st33 ?_
        show oG p e below _ (T33.setTop (mkF m 24 #[.val (.ref s_), .val (.ref b1_0), .val (.int 4), .val (.int 3), .val (.ref r_GAS_PART)] [(.ref r_GAS_PART_header)]))
        refine og (fun _ hr => XS.aloadN X33.here hx rfl (hb hby dc8_24) rfl rfl hr) ?_
        show oG p e below _ (T33.setTop (mkF m 25 #[.val (.ref s_), .val (.ref b1_0), .val (.int 4), .val (.int 3), .val (.ref r_GAS_PART)] [(.ref s_), (.ref r_GAS_PART_header)]))
        have f35 := (E_GAS_PART_header.keep K1)
        have f36 := (F_GAS_PART_header_value.keep K1 nin0)
        have f37 := (F_GAS_PART_header_coder.keep K1 nin0)
        have f38 := (V_GAS_PART_header_value.keep K1 nin0)
        refine own_eqs X33 hx hZ hown hw (hw _ (own_m 61 rfl)) (hw _ (own_m 62 rfl)) (hw _ (own_m 64 rfl)) (hw _ (own_m 63 rfl)) (hw _ (own_m 10 rfl)) own_tx3 f35 f36 f37 f38 own_cod3 own_hb3 (by decide) cs_ f10 f11 f12 f13 hc_ hbc_ hl_ f14 hs_COMPACT_STRINGS (by decide) (W := 0) (by decide) (by decide) (by decide) e33 (by rw [hml]; rfl) (Nat.le_of_eq rfl) (hb hby dc8_25) ?_
        intro T34 X34 e34
        show oG p e below _ (T34.setTop (mkF m 28 #[.val (.ref s_), .val (.ref b1_0), .val (.int 4), .val (.int 3), .val (.ref r_GAS_PART)] [(.int (own_same own_tx3 cs_))]))
        rcases Classical.em ((own_same own_tx3 cs_) = (0 : Int32)) with c39 | c39
        · skip
          refine og (fun _ hr => XS.ifYes X34.here hx rfl (pc0 := 28) (pc' := 37) rfl (hb hby dc8_28) rfl ((if0 _ _).trans (teq c39).1) (by decide) (by decide) hr) ?_
          show oG p e below _ (T34.setTop (mkF m 37 #[.val (.ref s_), .val (.ref b1_0), .val (.int 4), .val (.int 3), .val (.ref r_GAS_PART)] []))
          refine og (fun _ hr => XS.iinc X34.here hx rfl (hb hby dc8_37) rfl (l' := #[.val (.ref s_), .val (.ref b1_0), .val (.int 4), .val (.int 4), .val (.ref r_GAS_PART)]) rfl (XS.goto X34.here hx rfl (pc0 := 40) (pc' := 9) rfl (hb hby dc8_40) (by decide) (by decide) (XS.iloadN X34.here hx rfl (hb hby dc8_9) rfl (XS.iloadN X34.here hx rfl (hb hby dc8_10) rfl (XS.icmpYes X34.here hx rfl (pc0 := 11) (pc' := 43) rfl (hb hby dc8_11) rfl (flt (by decide)).2.1 (by decide) (by decide) hr))))) ?_
          show oG p e below _ (T34.setTop (mkF m 43 #[.val (.ref s_), .val (.ref b1_0), .val (.int 4), .val (.int 4), .val (.ref r_GAS_PART)] []))
          have f41 := (own_sta_keep S_EMPTY K1 all0)
          have Z42 := (Nat.le_trans Z0 K1.1)
          refine own_cs X34 hx hZ hown (hw _ (own_m 99 rfl)) (hw _ (own_m 100 rfl)) (hw _ (own_m 73 rfl)) (hw _ (own_m 101 rfl)) (by decide) (rm := { frames := 0, cells := 0, slots := 0, locals := 0 }) (rm_empty_1 l Z a0 hw [] r_EMPTY T1.heap n0 Z42 f41) (by decide) (W := 0) (by decide) (by decide) (by decide) e34 (by rw [hml]; rfl) (argsL := []) (lenOf own_pd3 rfl) (rest := []) rfl rfl (Nat.le_of_eq rfl) (hb hby dc8_43) ?_
          intro _ T40 L40 X40 hQ40
          obtain ⟨rfl, N40q, e40⟩ := hQ40
          have N40 := Fr.app N1 N40q
          show oG p e below _ (T40.setTop (mkF m 46 #[.val (.ref s_), .val (.ref b1_0), .val (.int 4), .val (.int 4), .val (.ref r_GAS_PART)] [(.ref r_EMPTY)]))
          have f44 := (E_EMPTY.keep K1)
          have f45 := (F_EMPTY_value.keep K1 nin0)
          have ev43 : own_nm cs_ r_USAGE r_CHARGE r_TAX r_GAS_PART = .null := by unfold own_nm; rw [if_pos c15, if_pos c23, if_pos c31, if_pos c39]
          have K46 := (K0.trans K1 all0)
          exact own_retR X40 hx hlk Bd.returns rfl rfl (hb hby dc8_46) (by decide) (by decide) (by rw [e40]; exact ⟨r_EMPTY, rfl, N40, K46, f44, (show Fld Z _ r_EMPTY "java/util/Optional" "value" "Ljava/lang/Object;" (own_nm cs_ r_USAGE r_CHARGE r_TAX r_GAS_PART) from ev43 ▸ f45)⟩)
        refine og (fun _ hr => XS.ifNo X34.here hx rfl (hb hby dc8_28) rfl ((if0 _ _).trans (feq c39).1) hr) ?_
        show oG p e below _ (T34.setTop (mkF m 31 #[.val (.ref s_), .val (.ref b1_0), .val (.int 4), .val (.int 3), .val (.ref r_GAS_PART)] []))
        refine og (fun _ hr => XS.aload X34.here hx rfl (hb hby dc8_31) rfl rfl hr) ?_
        show oG p e below _ (T34.setTop (mkF m 33 #[.val (.ref s_), .val (.ref b1_0), .val (.int 4), .val (.int 3), .val (.ref r_GAS_PART)] [(.ref r_GAS_PART)]))
        have Z48 := (Nat.le_trans Z0 K1.1)
        refine own_cs X34 hx hZ hown (hw _ (own_m 71 rfl)) (hw _ (own_m 72 rfl)) (hw _ (own_m 73 rfl)) (hw _ (own_m 74 rfl)) (by decide) (rm := { frames := 2, cells := 1, slots := 1, locals := 26 }) (rm_of_4 l Z a0 hw [] r_GAS_PART T1.heap n0 Z48 ) (by decide) (W := 0) (by decide) (by decide) (by decide) e34 (by rw [hml]; rfl) (argsL := [(.ref r_GAS_PART)]) (lenOf own_pd6 rfl) (rest := []) rfl rfl (Nat.le_of_eq rfl) (hb hby dc8_33) ?_
        intro _ T47 L47 X47 hQ47
        obtain ⟨b47_0, rfl, N47q, K47, ge47_0, sz47_0, f47_0, f47_1⟩ := hQ47
        have N47 := Fr.app N1 N47q
        have K50 := (K0.trans K1 all0)
        have sz49 : h0.size ≤ b47_0 := Nat.le_trans K50.1 sz47_0
        show oG p e below _ (T47.setTop (mkF m 36 #[.val (.ref s_), .val (.ref b1_0), .val (.int 4), .val (.int 3), .val (.ref r_GAS_PART)] [(.ref b47_0)]))
        have ev51 : own_nm cs_ r_USAGE r_CHARGE r_TAX r_GAS_PART = (.ref r_GAS_PART) := by unfold own_nm; rw [if_pos c15, if_pos c23, if_pos c31, if_neg c39]
        have K52 := (K50.trans K47 all0)
        exact own_retR X47 hx hlk Bd.returns rfl rfl (hb hby dc8_36) (by decide) (by decide) (by exact ⟨b47_0, rfl, N47, K52, f47_0, (show Fld Z _ b47_0 "java/util/Optional" "value" "Ljava/lang/Object;" (own_nm cs_ r_USAGE r_CHARGE r_TAX r_GAS_PART) from ev51 ▸ f47_1)⟩)
      refine og (fun _ hr => XS.ifNo X26.here hx rfl (hb hby dc8_28) rfl ((if0 _ _).trans (feq c31).1) hr) ?_
      show oG p e below _ (T26.setTop (mkF m 31 #[.val (.ref s_), .val (.ref b1_0), .val (.int 4), .val (.int 2), .val (.ref r_TAX)] []))
      refine og (fun _ hr => XS.aload X26.here hx rfl (hb hby dc8_31) rfl rfl hr) ?_
      show oG p e below _ (T26.setTop (mkF m 33 #[.val (.ref s_), .val (.ref b1_0), .val (.int 4), .val (.int 2), .val (.ref r_TAX)] [(.ref r_TAX)]))
      have Z54 := (Nat.le_trans Z0 K1.1)
      refine own_cs X26 hx hZ hown (hw _ (own_m 71 rfl)) (hw _ (own_m 72 rfl)) (hw _ (own_m 73 rfl)) (hw _ (own_m 74 rfl)) (by decide) (rm := { frames := 2, cells := 1, slots := 1, locals := 26 }) (rm_of_4 l Z a0 hw [] r_TAX T1.heap n0 Z54 ) (by decide) (W := 0) (by decide) (by decide) (by decide) e26 (by rw [hml]; rfl) (argsL := [(.ref r_TAX)]) (lenOf own_pd6 rfl) (rest := []) rfl rfl (Nat.le_of_eq rfl) (hb hby dc8_33) ?_
      intro _ T53 L53 X53 hQ53
      obtain ⟨b53_0, rfl, N53q, K53, ge53_0, sz53_0, f53_0, f53_1⟩ := hQ53
      have N53 := Fr.app N1 N53q
      have K56 := (K0.trans K1 all0)
      have sz55 : h0.size ≤ b53_0 := Nat.le_trans K56.1 sz53_0
      show oG p e below _ (T53.setTop (mkF m 36 #[.val (.ref s_), .val (.ref b1_0), .val (.int 4), .val (.int 2), .val (.ref r_TAX)] [(.ref b53_0)]))
      have ev57 : own_nm cs_ r_USAGE r_CHARGE r_TAX r_GAS_PART = (.ref r_TAX) := by unfold own_nm; rw [if_pos c15, if_pos c23, if_neg c31]
      have K58 := (K56.trans K53 all0)
      exact own_retR X53 hx hlk Bd.returns rfl rfl (hb hby dc8_36) (by decide) (by decide) (by exact ⟨b53_0, rfl, N53, K58, f53_0, (show Fld Z _ b53_0 "java/util/Optional" "value" "Ljava/lang/Object;" (own_nm cs_ r_USAGE r_CHARGE r_TAX r_GAS_PART) from ev57 ▸ f53_1)⟩)
    refine og (fun _ hr => XS.ifNo X18.here hx rfl (hb hby dc8_28) rfl ((if0 _ _).trans (feq c23).1) hr) ?_
    show oG p e below _ (T18.setTop (mkF m 31 #[.val (.ref s_), .val (.ref b1_0), .val (.int 4), .val (.int 1), .val (.ref r_CHARGE)] []))
    refine og (fun _ hr => XS.aload X18.here hx rfl (hb hby dc8_31) rfl rfl hr) ?_
    show oG p e below _ (T18.setTop (mkF m 33 #[.val (.ref s_), .val (.ref b1_0), .val (.int 4), .val (.int 1), .val (.ref r_CHARGE)] [(.ref r_CHARGE)]))
    have Z60 := (Nat.le_trans Z0 K1.1)
    refine own_cs X18 hx hZ hown (hw _ (own_m 71 rfl)) (hw _ (own_m 72 rfl)) (hw _ (own_m 73 rfl)) (hw _ (own_m 74 rfl)) (by decide) (rm := { frames := 2, cells := 1, slots := 1, locals := 26 }) (rm_of_4 l Z a0 hw [] r_CHARGE T1.heap n0 Z60 ) (by decide) (W := 0) (by decide) (by decide) (by decide) e18 (by rw [hml]; rfl) (argsL := [(.ref r_CHARGE)]) (lenOf own_pd6 rfl) (rest := []) rfl rfl (Nat.le_of_eq rfl) (hb hby dc8_33) ?_
    intro _ T59 L59 X59 hQ59
    obtain ⟨b59_0, rfl, N59q, K59, ge59_0, sz59_0, f59_0, f59_1⟩ := hQ59
    have N59 := Fr.app N1 N59q
    have K62 := (K0.trans K1 all0)
    have sz61 : h0.size ≤ b59_0 := Nat.le_trans K62.1 sz59_0
    show oG p e below _ (T59.setTop (mkF m 36 #[.val (.ref s_), .val (.ref b1_0), .val (.int 4), .val (.int 1), .val (.ref r_CHARGE)] [(.ref b59_0)]))
    have ev63 : own_nm cs_ r_USAGE r_CHARGE r_TAX r_GAS_PART = (.ref r_CHARGE) := by unfold own_nm; rw [if_pos c15, if_neg c23]
    have K64 := (K62.trans K59 all0)
    exact own_retR X59 hx hlk Bd.returns rfl rfl (hb hby dc8_36) (by decide) (by decide) (by exact ⟨b59_0, rfl, N59, K64, f59_0, (show Fld Z _ b59_0 "java/util/Optional" "value" "Ljava/lang/Object;" (own_nm cs_ r_USAGE r_CHARGE r_TAX r_GAS_PART) from ev63 ▸ f59_1)⟩)
  refine og (fun _ hr => XS.ifNo X5.here hx rfl (hb hby dc8_28) rfl ((if0 _ _).trans (feq c15).1) hr) ?_
  show oG p e below _ (T5.setTop (mkF m 31 #[.val (.ref s_), .val (.ref b1_0), .val (.int 4), .val (.int 0), .val (.ref r_USAGE)] []))
  refine og (fun _ hr => XS.aload X5.here hx rfl (hb hby dc8_31) rfl rfl hr) ?_
  show oG p e below _ (T5.setTop (mkF m 33 #[.val (.ref s_), .val (.ref b1_0), .val (.int 4), .val (.int 0), .val (.ref r_USAGE)] [(.ref r_USAGE)]))
  have Z66 := (Nat.le_trans Z0 K1.1)
  refine own_cs X5 hx hZ hown (hw _ (own_m 71 rfl)) (hw _ (own_m 72 rfl)) (hw _ (own_m 73 rfl)) (hw _ (own_m 74 rfl)) (by decide) (rm := { frames := 2, cells := 1, slots := 1, locals := 26 }) (rm_of_4 l Z a0 hw [] r_USAGE T1.heap n0 Z66 ) (by decide) (W := 0) (by decide) (by decide) (by decide) e5 (by rw [hml]; rfl) (argsL := [(.ref r_USAGE)]) (lenOf own_pd6 rfl) (rest := []) rfl rfl (Nat.le_of_eq rfl) (hb hby dc8_33) ?_
  intro _ T65 L65 X65 hQ65
  obtain ⟨b65_0, rfl, N65q, K65, ge65_0, sz65_0, f65_0, f65_1⟩ := hQ65
  have N65 := Fr.app N1 N65q
  have K68 := (K0.trans K1 all0)
  have sz67 : h0.size ≤ b65_0 := Nat.le_trans K68.1 sz65_0
  show oG p e below _ (T65.setTop (mkF m 36 #[.val (.ref s_), .val (.ref b1_0), .val (.int 4), .val (.int 0), .val (.ref r_USAGE)] [(.ref b65_0)]))
  have ev69 : own_nm cs_ r_USAGE r_CHARGE r_TAX r_GAS_PART = (.ref r_USAGE) := by unfold own_nm; rw [if_neg c15]
  have K70 := (K68.trans K65 all0)
  exact own_retR X65 hx hlk Bd.returns rfl rfl (hb hby dc8_36) (by decide) (by decide) (by exact ⟨b65_0, rfl, N65, K70, f65_0, (show Fld Z _ b65_0 "java/util/Optional" "value" "Ljava/lang/Object;" (own_nm cs_ r_USAGE r_CHARGE r_TAX r_GAS_PART) from ev69 ▸ f65_1)⟩)
theorem own_arv {s : State} {args : Array Value} {t : Term} {a : Addr} {c : Cell} {ty : FieldType} {z : Int32} {vs : List Value} {dv : Value} (hf : Fit s) (ev : t.eval args s none [] s = some (.ref a)) (A : Arr s s.heap a c ty) (hl : (Term.length t).eval args s none [] s = some (.int z)) (hz : ¬ z < 0) (hn : z.toNatClampNeg = vs.length) (H : HasL c 0 vs) : Arv s s.heap a c.cls ty z vs dv := by
  have hA := A.fin (Vm.Alike.refl _)
  by_cases hs : c.slots.size < 2 ^ 31
  · rw [len_f ev hA hs] at hl
    exact Arv.start hf A hs (Value.int.inj (Option.some.inj hl)) hz hn H
  · simp [Term.eval, ev, hA, hs] at hl

theorem dc1_0 : decode method_2_code 0 = .ok (.iload_n 0, 1) := by decide +kernel
theorem dc1_1 : decode method_2_code 1 = .ok (.ifCond .ne 50, 3) := by decide +kernel
theorem dc1_51 : decode method_2_code 51 = .ok (.iload_n 0, 1) := by decide +kernel
theorem dc1_52 : decode method_2_code 52 = .ok (.iconst 1, 1) := by decide +kernel
theorem dc1_53 : decode method_2_code 53 = .ok (.if_icmp .ne 62, 3) := by decide +kernel
theorem dc1_115 : decode method_2_code 115 = .ok (.iload_n 0, 1) := by decide +kernel
theorem dc1_116 : decode method_2_code 116 = .ok (.iconst 2, 1) := by decide +kernel
theorem dc1_117 : decode method_2_code 117 = .ok (.if_icmp .ne 44, 3) := by decide +kernel
theorem dc1_161 : decode method_2_code 161 = .ok (.bipush 12, 2) := by decide +kernel
theorem dc1_163 : decode method_2_code 163 = .ok (.newarray .char, 2) := by decide +kernel
theorem dc1_165 : decode method_2_code 165 = .ok (.dup, 1) := by decide +kernel
theorem dc1_166 : decode method_2_code 166 = .ok (.iconst 0, 1) := by decide +kernel
theorem dc1_167 : decode method_2_code 167 = .ok (.bipush 103, 2) := by decide +kernel
theorem dc1_169 : decode method_2_code 169 = .ok (.castore, 1) := by decide +kernel
theorem dc1_170 : decode method_2_code 170 = .ok (.dup, 1) := by decide +kernel
theorem dc1_171 : decode method_2_code 171 = .ok (.iconst 1, 1) := by decide +kernel
theorem dc1_172 : decode method_2_code 172 = .ok (.bipush 97, 2) := by decide +kernel
theorem dc1_174 : decode method_2_code 174 = .ok (.castore, 1) := by decide +kernel
theorem dc1_175 : decode method_2_code 175 = .ok (.dup, 1) := by decide +kernel
theorem dc1_176 : decode method_2_code 176 = .ok (.iconst 2, 1) := by decide +kernel
theorem dc1_177 : decode method_2_code 177 = .ok (.bipush 115, 2) := by decide +kernel
theorem dc1_179 : decode method_2_code 179 = .ok (.castore, 1) := by decide +kernel
theorem dc1_180 : decode method_2_code 180 = .ok (.dup, 1) := by decide +kernel
theorem dc1_181 : decode method_2_code 181 = .ok (.iconst 3, 1) := by decide +kernel
theorem dc1_182 : decode method_2_code 182 = .ok (.bipush 95, 2) := by decide +kernel
theorem dc1_184 : decode method_2_code 184 = .ok (.castore, 1) := by decide +kernel
theorem dc1_185 : decode method_2_code 185 = .ok (.dup, 1) := by decide +kernel
theorem dc1_186 : decode method_2_code 186 = .ok (.iconst 4, 1) := by decide +kernel
theorem dc1_187 : decode method_2_code 187 = .ok (.bipush 112, 2) := by decide +kernel
theorem dc1_189 : decode method_2_code 189 = .ok (.castore, 1) := by decide +kernel
theorem dc1_190 : decode method_2_code 190 = .ok (.dup, 1) := by decide +kernel
theorem dc1_191 : decode method_2_code 191 = .ok (.iconst 5, 1) := by decide +kernel
theorem dc1_192 : decode method_2_code 192 = .ok (.bipush 97, 2) := by decide +kernel
theorem dc1_194 : decode method_2_code 194 = .ok (.castore, 1) := by decide +kernel
theorem dc1_195 : decode method_2_code 195 = .ok (.dup, 1) := by decide +kernel
theorem dc1_196 : decode method_2_code 196 = .ok (.bipush 6, 2) := by decide +kernel
theorem dc1_198 : decode method_2_code 198 = .ok (.bipush 114, 2) := by decide +kernel
theorem dc1_200 : decode method_2_code 200 = .ok (.castore, 1) := by decide +kernel
theorem dc1_201 : decode method_2_code 201 = .ok (.dup, 1) := by decide +kernel
theorem dc1_202 : decode method_2_code 202 = .ok (.bipush 7, 2) := by decide +kernel
theorem dc1_204 : decode method_2_code 204 = .ok (.bipush 116, 2) := by decide +kernel
theorem dc1_206 : decode method_2_code 206 = .ok (.castore, 1) := by decide +kernel
theorem dc1_207 : decode method_2_code 207 = .ok (.dup, 1) := by decide +kernel
theorem dc1_208 : decode method_2_code 208 = .ok (.bipush 8, 2) := by decide +kernel
theorem dc1_210 : decode method_2_code 210 = .ok (.bipush 95, 2) := by decide +kernel
theorem dc1_212 : decode method_2_code 212 = .ok (.castore, 1) := by decide +kernel
theorem dc1_213 : decode method_2_code 213 = .ok (.dup, 1) := by decide +kernel
theorem dc1_214 : decode method_2_code 214 = .ok (.bipush 9, 2) := by decide +kernel
theorem dc1_216 : decode method_2_code 216 = .ok (.bipush 121, 2) := by decide +kernel
theorem dc1_218 : decode method_2_code 218 = .ok (.castore, 1) := by decide +kernel
theorem dc1_219 : decode method_2_code 219 = .ok (.dup, 1) := by decide +kernel
theorem dc1_220 : decode method_2_code 220 = .ok (.bipush 10, 2) := by decide +kernel
theorem dc1_222 : decode method_2_code 222 = .ok (.bipush 101, 2) := by decide +kernel
theorem dc1_224 : decode method_2_code 224 = .ok (.castore, 1) := by decide +kernel
theorem dc1_225 : decode method_2_code 225 = .ok (.dup, 1) := by decide +kernel
theorem dc1_226 : decode method_2_code 226 = .ok (.bipush 11, 2) := by decide +kernel
theorem dc1_228 : decode method_2_code 228 = .ok (.bipush 110, 2) := by decide +kernel
theorem dc1_230 : decode method_2_code 230 = .ok (.castore, 1) := by decide +kernel
theorem dc1_231 : decode method_2_code 231 = .ok (.areturn, 1) := by decide +kernel
theorem own_pn_com_example_strict_tariff_stricttariff_pricing_ColumnNamedPinLaw : plainName "com/example/strict_tariff/stricttariff/pricing/ColumnNamedPinLaw" = true := by first | (simp [plainName, overriddenIn]; done) | decide +kernel
def Q_exact_5 (Z : State) (h0 : Heap) (n0 : Nat) (v : Option Value) (h : Heap) (L : List Loc) : Prop := (∃ (b1 : Addr) (k1 : ClassId), v = some (.ref b1) ∧ Fr n0 L ∧ Keep h0 h [] ∧ n0 ≤ b1 ∧ h0.size ≤ b1 ∧ Exa Z h b1 "[C" ∧ Arv Z h b1 k1 .char (12 : Int32) [(.int 103), (.int 97), (.int 115), (.int 95), (.int 112), (.int 97), (.int 114), (.int 116), (.int 95), (.int 121), (.int 101), (.int 110)] (.int 0))
set_option maxRecDepth 65536 in
set_option maxHeartbeats 40000000 in
theorem rm_exact_5 (l : Launch) (Z : State) (a0 : Array Value) (hw : ∀ d ∈ tables_1, d.before a0 Z = true) (ws : List Jvm.Cond) (h0 : Heap) (n0 : Nat) (Z0 : n0 ≤ h0.size) :
    MetFree l (⟨"com/example/strict_tariff/stricttariff/pricing/ColumnNamedPinLaw", "exact", "(I)[C"⟩ : MethodName) (head1 (Jvm.Cond.code (⟨"com/example/strict_tariff/stricttariff/pricing/ColumnNamedPinLaw", "exact", "(I)[C"⟩ : MethodName) method_2_code 1 (some (.array .char)) :: ws) ({ frames := 0, cells := 1, slots := 12, locals := 0 } : Room)) (fun aA U => aA = #[(.int 3)] ∧ Z.Warmed39 U.vm ∧ U.heap = h0) (fun _ _ _ _ _ => True) (fun _ U o U' => ∃ v L, o = .returned v ∧ Q_exact_5 Z h0 n0 v U'.heap L ∧ FrameEnd U o U' L ({ frames := 0, cells := 1, slots := 12, locals := 0 } : Room).cells ({ frames := 0, cells := 1, slots := 12, locals := 0 } : Room).slots) := by
  refine MetFree.of_bodySF (plainFor_of_name own_pn_com_example_strict_tariff_stricttariff_pricing_ColumnNamedPinLaw) hisR ?_
  intro p e s m args below meth c s₁ Bd hml0 hP hK
  obtain ⟨rfl, hZ, hh⟩ := hP
  have hx := Bd.exec
  have hby := Bd.bytes
  have hlk : meth.locks = false := BodyLoose.notSynchronized Bd
  have hml : c.maxLocals = 1 := hml0
  have hown : s.vm.findClass "com/example/strict_tariff/stricttariff/pricing/ColumnNamedPinLaw" = some m.cls := findClass_of_methodNamed Bd.named
  have hnm := (name_of_methodNamed Bd.named Bd.method).1
  have X0 : Stand p l e ({ frames := 0, cells := 1, slots := 12, locals := 0 } : Room) s m #[(.int 3)] below meth c s₁ [] 0 0 := Stand.of_body Bd
  have e0 : s₁.heap = h0 := by rw [← hh, Bd.state]; rfl
  have N0 := Fr.nil n0
  have K0 : Keep h0 h0 [] := Keep.refl _ _
  show oG p e below (own_K s (Q_exact_5 Z h0 n0) ({ frames := 0, cells := 1, slots := 12, locals := 0 } : Room).cells ({ frames := 0, cells := 1, slots := 12, locals := 0 } : Room).slots) (s₁.setTop (entryFrame m #[(.int 3)] 1))
  rw [(by first | (simp [entryFrame, mkF, argsToLocals, Value.category]; done) | rfl : entryFrame m #[(.int 3)] 1 = mkF m 0 #[.val (.int 3)] [])]
  show oG p e below _ (s₁.setTop (mkF m 0 #[.val (.int 3)] []))
  refine og (fun _ hr => XS.iloadN X0.here hx rfl (hb hby dc1_0) rfl (XS.ifYes X0.here hx rfl (pc0 := 1) (pc' := 51) rfl (hb hby dc1_1) rfl ((if0 _ _).trans (feq (by decide)).2) (by decide) (by decide) (XS.iloadN X0.here hx rfl (hb hby dc1_51) rfl (XS.iconst X0.here hx rfl (hb hby dc1_52) (XS.icmpYes X0.here hx rfl (pc0 := 53) (pc' := 115) rfl (hb hby dc1_53) rfl (feq (by decide)).2 (by decide) (by decide) (XS.iloadN X0.here hx rfl (hb hby dc1_115) rfl (XS.iconst X0.here hx rfl (hb hby dc1_116) (XS.icmpYes X0.here hx rfl (pc0 := 117) (pc' := 161) rfl (hb hby dc1_117) rfl (feq (by decide)).2 (by decide) (by decide) (XS.bipush X0.here hx rfl (hb hby dc1_161) hr))))))))) ?_
  show oG p e below _ (s₁.setTop (mkF m 163 #[.val (.int 3)] [(.int 12)]))
  obtain ⟨T1, h1, k1, X1, e1, E1, A1, EA1, st1⟩ := newPE X0 hx hZ (hw _ (own_m 7 rfl)) e0 (g := (mkF m 163 #[.val (.int 3)] [(.int 12)])) rfl (hb hby dc1_163) rfl (by decide) (cap := 12) (by decide) (by decide) (by decide) (by decide) (ad := "[C") (by decide)
  obtain ⟨b1, g1⟩ : ∃ z, z = h0.size := ⟨_, rfl⟩
  rw [← g1] at A1 EA1 st1
  have ge2 : n0 ≤ b1 := Nat.le_trans Z0 (Nat.le_of_eq g1.symm)
  have sz3 : h0.size ≤ b1 := Nat.le_trans K0.1 (Nat.le_of_eq g1.symm)
  refine og st1 ?_
  have f4 : Arv Z h1 b1 k1 .char (12 : Int32) [(.int 0), (.int 0), (.int 0), (.int 0), (.int 0), (.int 0), (.int 0), (.int 0), (.int 0), (.int 0), (.int 0), (.int 0)] (.int 0) := (Arv.new A1 (by decide)).pad (pad_rep [] (.int 0) 12)
  show oG p e below _ (T1.setTop (mkF m 165 #[.val (.int 3)] [(.ref b1)]))
  refine og (fun _ hr => XS.dup X1.here hx rfl (hb hby dc1_165) rfl rfl (XS.iconst X1.here hx rfl (hb hby dc1_166) (XS.bipush X1.here hx rfl (hb hby dc1_167) hr))) ?_
  show oG p e below _ (T1.setTop (mkF m 169 #[.val (.int 3)] [(.int 103), (.int 0), (.ref b1), (.ref b1)]))
  refine own_stC X1 hx hZ e1 f4 (0 : Int32) (103 : Int32) (103 : Int32) 0 ⟨by decide, by decide⟩ rfl (Nat.le_of_ble_eq_true rfl) rfl [(.int 103), (.int 0), (.int 0), (.int 0), (.int 0), (.int 0), (.int 0), (.int 0), (.int 0), (.int 0), (.int 0), (.int 0)] rfl N0 ge2 (hb hby dc1_169) ?_
  intro T5 h5 L5 X5 e5 W5 N5 f5
  show oG p e below _ (T5.setTop (mkF m 170 #[.val (.int 3)] [(.ref b1)]))
  refine og (fun _ hr => XS.dup X5.here hx rfl (hb hby dc1_170) rfl rfl (XS.iconst X5.here hx rfl (hb hby dc1_171) (XS.bipush X5.here hx rfl (hb hby dc1_172) hr))) ?_
  show oG p e below _ (T5.setTop (mkF m 174 #[.val (.int 3)] [(.int 97), (.int 1), (.ref b1), (.ref b1)]))
  refine own_stC X5 hx hZ e5 f5 (1 : Int32) (97 : Int32) (97 : Int32) 1 ⟨by decide, by decide⟩ rfl (Nat.le_of_ble_eq_true rfl) rfl [(.int 103), (.int 97), (.int 0), (.int 0), (.int 0), (.int 0), (.int 0), (.int 0), (.int 0), (.int 0), (.int 0), (.int 0)] rfl N5 ge2 (hb hby dc1_174) ?_
  intro T6 h6 L6 X6 e6 W6 N6 f6
  show oG p e below _ (T6.setTop (mkF m 175 #[.val (.int 3)] [(.ref b1)]))
  refine og (fun _ hr => XS.dup X6.here hx rfl (hb hby dc1_175) rfl rfl (XS.iconst X6.here hx rfl (hb hby dc1_176) (XS.bipush X6.here hx rfl (hb hby dc1_177) hr))) ?_
  show oG p e below _ (T6.setTop (mkF m 179 #[.val (.int 3)] [(.int 115), (.int 2), (.ref b1), (.ref b1)]))
  refine own_stC X6 hx hZ e6 f6 (2 : Int32) (115 : Int32) (115 : Int32) 2 ⟨by decide, by decide⟩ rfl (Nat.le_of_ble_eq_true rfl) rfl [(.int 103), (.int 97), (.int 115), (.int 0), (.int 0), (.int 0), (.int 0), (.int 0), (.int 0), (.int 0), (.int 0), (.int 0)] rfl N6 ge2 (hb hby dc1_179) ?_
  intro T7 h7 L7 X7 e7 W7 N7 f7
  show oG p e below _ (T7.setTop (mkF m 180 #[.val (.int 3)] [(.ref b1)]))
  refine og (fun _ hr => XS.dup X7.here hx rfl (hb hby dc1_180) rfl rfl (XS.iconst X7.here hx rfl (hb hby dc1_181) (XS.bipush X7.here hx rfl (hb hby dc1_182) hr))) ?_
  show oG p e below _ (T7.setTop (mkF m 184 #[.val (.int 3)] [(.int 95), (.int 3), (.ref b1), (.ref b1)]))
  refine own_stC X7 hx hZ e7 f7 (3 : Int32) (95 : Int32) (95 : Int32) 3 ⟨by decide, by decide⟩ rfl (Nat.le_of_ble_eq_true rfl) rfl [(.int 103), (.int 97), (.int 115), (.int 95), (.int 0), (.int 0), (.int 0), (.int 0), (.int 0), (.int 0), (.int 0), (.int 0)] rfl N7 ge2 (hb hby dc1_184) ?_
  intro T8 h8 L8 X8 e8 W8 N8 f8
  show oG p e below _ (T8.setTop (mkF m 185 #[.val (.int 3)] [(.ref b1)]))
  refine og (fun _ hr => XS.dup X8.here hx rfl (hb hby dc1_185) rfl rfl (XS.iconst X8.here hx rfl (hb hby dc1_186) (XS.bipush X8.here hx rfl (hb hby dc1_187) hr))) ?_
  show oG p e below _ (T8.setTop (mkF m 189 #[.val (.int 3)] [(.int 112), (.int 4), (.ref b1), (.ref b1)]))
  refine own_stC X8 hx hZ e8 f8 (4 : Int32) (112 : Int32) (112 : Int32) 4 ⟨by decide, by decide⟩ rfl (Nat.le_of_ble_eq_true rfl) rfl [(.int 103), (.int 97), (.int 115), (.int 95), (.int 112), (.int 0), (.int 0), (.int 0), (.int 0), (.int 0), (.int 0), (.int 0)] rfl N8 ge2 (hb hby dc1_189) ?_
  intro T9 h9 L9 X9 e9 W9 N9 f9
  show oG p e below _ (T9.setTop (mkF m 190 #[.val (.int 3)] [(.ref b1)]))
  refine og (fun _ hr => XS.dup X9.here hx rfl (hb hby dc1_190) rfl rfl (XS.iconst X9.here hx rfl (hb hby dc1_191) (XS.bipush X9.here hx rfl (hb hby dc1_192) hr))) ?_
  show oG p e below _ (T9.setTop (mkF m 194 #[.val (.int 3)] [(.int 97), (.int 5), (.ref b1), (.ref b1)]))
  refine own_stC X9 hx hZ e9 f9 (5 : Int32) (97 : Int32) (97 : Int32) 5 ⟨by decide, by decide⟩ rfl (Nat.le_of_ble_eq_true rfl) rfl [(.int 103), (.int 97), (.int 115), (.int 95), (.int 112), (.int 97), (.int 0), (.int 0), (.int 0), (.int 0), (.int 0), (.int 0)] rfl N9 ge2 (hb hby dc1_194) ?_
  intro T10 h10 L10 X10 e10 W10 N10 f10
  show oG p e below _ (T10.setTop (mkF m 195 #[.val (.int 3)] [(.ref b1)]))
  refine og (fun _ hr => XS.dup X10.here hx rfl (hb hby dc1_195) rfl rfl (XS.bipush X10.here hx rfl (hb hby dc1_196) (XS.bipush X10.here hx rfl (hb hby dc1_198) hr))) ?_
  show oG p e below _ (T10.setTop (mkF m 200 #[.val (.int 3)] [(.int 114), (.int 6), (.ref b1), (.ref b1)]))
  refine own_stC X10 hx hZ e10 f10 (6 : Int32) (114 : Int32) (114 : Int32) 6 ⟨by decide, by decide⟩ rfl (Nat.le_of_ble_eq_true rfl) rfl [(.int 103), (.int 97), (.int 115), (.int 95), (.int 112), (.int 97), (.int 114), (.int 0), (.int 0), (.int 0), (.int 0), (.int 0)] rfl N10 ge2 (hb hby dc1_200) ?_
  intro T11 h11 L11 X11 e11 W11 N11 f11
  show oG p e below _ (T11.setTop (mkF m 201 #[.val (.int 3)] [(.ref b1)]))
  refine og (fun _ hr => XS.dup X11.here hx rfl (hb hby dc1_201) rfl rfl (XS.bipush X11.here hx rfl (hb hby dc1_202) (XS.bipush X11.here hx rfl (hb hby dc1_204) hr))) ?_
  show oG p e below _ (T11.setTop (mkF m 206 #[.val (.int 3)] [(.int 116), (.int 7), (.ref b1), (.ref b1)]))
  refine own_stC X11 hx hZ e11 f11 (7 : Int32) (116 : Int32) (116 : Int32) 7 ⟨by decide, by decide⟩ rfl (Nat.le_of_ble_eq_true rfl) rfl [(.int 103), (.int 97), (.int 115), (.int 95), (.int 112), (.int 97), (.int 114), (.int 116), (.int 0), (.int 0), (.int 0), (.int 0)] rfl N11 ge2 (hb hby dc1_206) ?_
  intro T12 h12 L12 X12 e12 W12 N12 f12
  show oG p e below _ (T12.setTop (mkF m 207 #[.val (.int 3)] [(.ref b1)]))
  refine og (fun _ hr => XS.dup X12.here hx rfl (hb hby dc1_207) rfl rfl (XS.bipush X12.here hx rfl (hb hby dc1_208) (XS.bipush X12.here hx rfl (hb hby dc1_210) hr))) ?_
  show oG p e below _ (T12.setTop (mkF m 212 #[.val (.int 3)] [(.int 95), (.int 8), (.ref b1), (.ref b1)]))
  refine own_stC X12 hx hZ e12 f12 (8 : Int32) (95 : Int32) (95 : Int32) 8 ⟨by decide, by decide⟩ rfl (Nat.le_of_ble_eq_true rfl) rfl [(.int 103), (.int 97), (.int 115), (.int 95), (.int 112), (.int 97), (.int 114), (.int 116), (.int 95), (.int 0), (.int 0), (.int 0)] rfl N12 ge2 (hb hby dc1_212) ?_
  intro T13 h13 L13 X13 e13 W13 N13 f13
  show oG p e below _ (T13.setTop (mkF m 213 #[.val (.int 3)] [(.ref b1)]))
  refine og (fun _ hr => XS.dup X13.here hx rfl (hb hby dc1_213) rfl rfl (XS.bipush X13.here hx rfl (hb hby dc1_214) (XS.bipush X13.here hx rfl (hb hby dc1_216) hr))) ?_
  show oG p e below _ (T13.setTop (mkF m 218 #[.val (.int 3)] [(.int 121), (.int 9), (.ref b1), (.ref b1)]))
  refine own_stC X13 hx hZ e13 f13 (9 : Int32) (121 : Int32) (121 : Int32) 9 ⟨by decide, by decide⟩ rfl (Nat.le_of_ble_eq_true rfl) rfl [(.int 103), (.int 97), (.int 115), (.int 95), (.int 112), (.int 97), (.int 114), (.int 116), (.int 95), (.int 121), (.int 0), (.int 0)] rfl N13 ge2 (hb hby dc1_218) ?_
  intro T14 h14 L14 X14 e14 W14 N14 f14
  show oG p e below _ (T14.setTop (mkF m 219 #[.val (.int 3)] [(.ref b1)]))
  refine og (fun _ hr => XS.dup X14.here hx rfl (hb hby dc1_219) rfl rfl (XS.bipush X14.here hx rfl (hb hby dc1_220) (XS.bipush X14.here hx rfl (hb hby dc1_222) hr))) ?_
  show oG p e below _ (T14.setTop (mkF m 224 #[.val (.int 3)] [(.int 101), (.int 10), (.ref b1), (.ref b1)]))
  refine own_stC X14 hx hZ e14 f14 (10 : Int32) (101 : Int32) (101 : Int32) 10 ⟨by decide, by decide⟩ rfl (Nat.le_of_ble_eq_true rfl) rfl [(.int 103), (.int 97), (.int 115), (.int 95), (.int 112), (.int 97), (.int 114), (.int 116), (.int 95), (.int 121), (.int 101), (.int 0)] rfl N14 ge2 (hb hby dc1_224) ?_
  intro T15 h15 L15 X15 e15 W15 N15 f15
  show oG p e below _ (T15.setTop (mkF m 225 #[.val (.int 3)] [(.ref b1)]))
  refine og (fun _ hr => XS.dup X15.here hx rfl (hb hby dc1_225) rfl rfl (XS.bipush X15.here hx rfl (hb hby dc1_226) (XS.bipush X15.here hx rfl (hb hby dc1_228) hr))) ?_
  show oG p e below _ (T15.setTop (mkF m 230 #[.val (.int 3)] [(.int 110), (.int 11), (.ref b1), (.ref b1)]))
  refine own_stC X15 hx hZ e15 f15 (11 : Int32) (110 : Int32) (110 : Int32) 11 ⟨by decide, by decide⟩ rfl (Nat.le_of_ble_eq_true rfl) rfl [(.int 103), (.int 97), (.int 115), (.int 95), (.int 112), (.int 97), (.int 114), (.int 116), (.int 95), (.int 121), (.int 101), (.int 110)] rfl N15 ge2 (hb hby dc1_230) ?_
  intro T16 h16 L16 X16 e16 W16 N16 f16
  show oG p e below _ (T16.setTop (mkF m 231 #[.val (.int 3)] [(.ref b1)]))
  have f17 := ((((((((((((EA1.wr W5).wr W6).wr W7).wr W8).wr W9).wr W10).wr W11).wr W12).wr W13).wr W14).wr W15).wr W16)
  have K18 := (((((((((((((K0.ext E1).wr W5 (Or.inr sz3)).wr W6 (Or.inr sz3)).wr W7 (Or.inr sz3)).wr W8 (Or.inr sz3)).wr W9 (Or.inr sz3)).wr W10 (Or.inr sz3)).wr W11 (Or.inr sz3)).wr W12 (Or.inr sz3)).wr W13 (Or.inr sz3)).wr W14 (Or.inr sz3)).wr W15 (Or.inr sz3)).wr W16 (Or.inr sz3))
  exact own_retR X16 hx hlk Bd.returns rfl rfl (hb hby dc1_231) (by decide) (by decide) (by rw [e16]; exact ⟨b1, k1, rfl, N16, K18, ge2, sz3, f17, f16⟩)
theorem own_pd7 : parseMethodDescriptor "(I)[C" = some ⟨[.int], some (.array .char)⟩ := by decide +kernel
theorem own_pd8 : parseMethodDescriptor "(Ljava/lang/String;)Ljava/util/Optional;" = some ⟨[(.object "java/lang/String")], some (.object "java/util/Optional")⟩ := by decide +kernel
theorem dc15_0 : decode jdk_32_method_15_code 0 = .ok (.aload_n 0, 1) := by decide +kernel
theorem dc15_1 : decode jdk_32_method_15_code 1 = .ok (.getfield 13, 3) := by decide +kernel
theorem dc15_4 : decode jdk_32_method_15_code 4 = .ok (.ifnull 10, 3) := by decide +kernel
theorem dc15_7 : decode jdk_32_method_15_code 7 = .ok (.aload_n 0, 1) := by decide +kernel
theorem dc15_8 : decode jdk_32_method_15_code 8 = .ok (.getfield 13, 3) := by decide +kernel
theorem dc15_11 : decode jdk_32_method_15_code 11 = .ok (.goto 4, 3) := by decide +kernel
theorem dc15_15 : decode jdk_32_method_15_code 15 = .ok (.areturn, 1) := by decide +kernel
def Q_orElse_6 (Z : State) (o1 : Addr) (h0 : Heap) (n0 : Nat) (v : Option Value) (h : Heap) (L : List Loc) : Prop := v = some (.ref o1) ∧ Fr n0 L ∧ h = h0
set_option maxRecDepth 65536 in
set_option maxHeartbeats 40000000 in
theorem rm_orElse_6 (l : Launch) (Z : State) (a0 : Array Value) (hw : ∀ d ∈ tables_1, d.before a0 Z = true) (ws : List Jvm.Cond) (o0 : Addr) (o1 : Addr) (h0 : Heap) (n0 : Nat) (Z0 : n0 ≤ h0.size) (P0 : Fld Z h0 o0 "java/util/Optional" "value" "Ljava/lang/Object;" (.ref o1)) :
    MetFree l (⟨"java/util/Optional", "orElse", "(Ljava/lang/Object;)Ljava/lang/Object;"⟩ : MethodName) (head1 (Jvm.Cond.code (⟨"java/util/Optional", "orElse", "(Ljava/lang/Object;)Ljava/lang/Object;"⟩ : MethodName) jdk_32_method_15_code 2 (some (.object "java/lang/Object")) :: ws) ({ frames := 0, cells := 0, slots := 0, locals := 0 } : Room)) (fun aA U => aA = #[(.ref o0), .null] ∧ Z.Warmed39 U.vm ∧ U.heap = h0) (fun _ _ _ _ _ => True) (fun _ U o U' => ∃ v L, o = .returned v ∧ Q_orElse_6 Z o1 h0 n0 v U'.heap L ∧ FrameEnd U o U' L ({ frames := 0, cells := 0, slots := 0, locals := 0 } : Room).cells ({ frames := 0, cells := 0, slots := 0, locals := 0 } : Room).slots) := by
  refine MetFree.of_bodySF (plainFor_of_name own_pn_java_util_Optional) hisR ?_
  intro p e s m args below meth c s₁ Bd hml0 hP hK
  obtain ⟨rfl, hZ, hh⟩ := hP
  have hx := Bd.exec
  have hby := Bd.bytes
  have hlk : meth.locks = false := BodyLoose.notSynchronized Bd
  have hml : c.maxLocals = 2 := hml0
  have hown : s.vm.findClass "java/util/Optional" = some m.cls := findClass_of_methodNamed Bd.named
  have hnm := (name_of_methodNamed Bd.named Bd.method).1
  have X0 : Stand p l e ({ frames := 0, cells := 0, slots := 0, locals := 0 } : Room) s m #[(.ref o0), .null] below meth c s₁ [] 0 0 := Stand.of_body Bd
  have e0 : s₁.heap = h0 := by rw [← hh, Bd.state]; rfl
  have N0 := Fr.nil n0
  show oG p e below (own_K s (Q_orElse_6 Z o1 h0 n0) ({ frames := 0, cells := 0, slots := 0, locals := 0 } : Room).cells ({ frames := 0, cells := 0, slots := 0, locals := 0 } : Room).slots) (s₁.setTop (entryFrame m #[(.ref o0), .null] 2))
  rw [(by first | (simp [entryFrame, mkF, argsToLocals, Value.category]; done) | rfl : entryFrame m #[(.ref o0), .null] 2 = mkF m 0 #[.val (.ref o0), .val .null] [])]
  show oG p e below _ (s₁.setTop (mkF m 0 #[.val (.ref o0), .val .null] []))
  refine og (fun _ hr => XS.aloadN X0.here hx rfl (hb hby dc15_0) rfl rfl hr) ?_
  show oG p e below _ (s₁.setTop (mkF m 1 #[.val (.ref o0), .val .null] [(.ref o0)]))
  obtain ⟨T1, X1, e1, st1⟩ := getF X0 hx hZ hown (host := "") (Or.inl (hw _ (own_m 86 rfl))) Via.refl e0 P0 (g := (mkF m 1 #[.val (.ref o0), .val .null] [(.ref o0)])) rfl rfl (hb hby dc15_1)
  refine og st1 ?_
  show oG p e below _ (T1.setTop (mkF m 4 #[.val (.ref o0), .val .null] [(.ref o1)]))
  refine og (fun _ hr => XS.ifnullNo X1.here hx rfl (hb hby dc15_4) rfl hr) ?_
  show oG p e below _ (T1.setTop (mkF m 7 #[.val (.ref o0), .val .null] []))
  refine og (fun _ hr => XS.aloadN X1.here hx rfl (hb hby dc15_7) rfl rfl hr) ?_
  show oG p e below _ (T1.setTop (mkF m 8 #[.val (.ref o0), .val .null] [(.ref o0)]))
  obtain ⟨T2, X2, e2, st2⟩ := getF X1 hx hZ hown (host := "") (Or.inl (hw _ (own_m 86 rfl))) Via.refl e1 P0 (g := (mkF m 8 #[.val (.ref o0), .val .null] [(.ref o0)])) rfl rfl (hb hby dc15_8)
  refine og st2 ?_
  show oG p e below _ (T2.setTop (mkF m 11 #[.val (.ref o0), .val .null] [(.ref o1)]))
  refine og (fun _ hr => XS.goto X2.here hx rfl (pc0 := 11) (pc' := 15) rfl (hb hby dc15_11) (by decide) (by decide) hr) ?_
  show oG p e below _ (T2.setTop (mkF m 15 #[.val (.ref o0), .val .null] [(.ref o1)]))
  exact own_retR X2 hx hlk Bd.returns rfl rfl (hb hby dc15_15) (by decide) (by decide) ⟨rfl, N0, e2⟩
theorem dc15_14 : decode jdk_32_method_15_code 14 = .ok (.aload_n 1, 1) := by decide +kernel
def Q_orElse_7 (Z : State) (h0 : Heap) (n0 : Nat) (v : Option Value) (h : Heap) (L : List Loc) : Prop := v = some .null ∧ Fr n0 L ∧ h = h0
set_option maxRecDepth 65536 in
set_option maxHeartbeats 40000000 in
theorem rm_orElse_7 (l : Launch) (Z : State) (a0 : Array Value) (hw : ∀ d ∈ tables_1, d.before a0 Z = true) (ws : List Jvm.Cond) (o0 : Addr) (h0 : Heap) (n0 : Nat) (Z0 : n0 ≤ h0.size) (P0 : Fld Z h0 o0 "java/util/Optional" "value" "Ljava/lang/Object;" .null) :
    MetFree l (⟨"java/util/Optional", "orElse", "(Ljava/lang/Object;)Ljava/lang/Object;"⟩ : MethodName) (head1 (Jvm.Cond.code (⟨"java/util/Optional", "orElse", "(Ljava/lang/Object;)Ljava/lang/Object;"⟩ : MethodName) jdk_32_method_15_code 2 (some (.object "java/lang/Object")) :: ws) ({ frames := 0, cells := 0, slots := 0, locals := 0 } : Room)) (fun aA U => aA = #[(.ref o0), .null] ∧ Z.Warmed39 U.vm ∧ U.heap = h0) (fun _ _ _ _ _ => True) (fun _ U o U' => ∃ v L, o = .returned v ∧ Q_orElse_7 Z h0 n0 v U'.heap L ∧ FrameEnd U o U' L ({ frames := 0, cells := 0, slots := 0, locals := 0 } : Room).cells ({ frames := 0, cells := 0, slots := 0, locals := 0 } : Room).slots) := by
  refine MetFree.of_bodySF (plainFor_of_name own_pn_java_util_Optional) hisR ?_
  intro p e s m args below meth c s₁ Bd hml0 hP hK
  obtain ⟨rfl, hZ, hh⟩ := hP
  have hx := Bd.exec
  have hby := Bd.bytes
  have hlk : meth.locks = false := BodyLoose.notSynchronized Bd
  have hml : c.maxLocals = 2 := hml0
  have hown : s.vm.findClass "java/util/Optional" = some m.cls := findClass_of_methodNamed Bd.named
  have hnm := (name_of_methodNamed Bd.named Bd.method).1
  have X0 : Stand p l e ({ frames := 0, cells := 0, slots := 0, locals := 0 } : Room) s m #[(.ref o0), .null] below meth c s₁ [] 0 0 := Stand.of_body Bd
  have e0 : s₁.heap = h0 := by rw [← hh, Bd.state]; rfl
  have N0 := Fr.nil n0
  show oG p e below (own_K s (Q_orElse_7 Z h0 n0) ({ frames := 0, cells := 0, slots := 0, locals := 0 } : Room).cells ({ frames := 0, cells := 0, slots := 0, locals := 0 } : Room).slots) (s₁.setTop (entryFrame m #[(.ref o0), .null] 2))
  rw [(by first | (simp [entryFrame, mkF, argsToLocals, Value.category]; done) | rfl : entryFrame m #[(.ref o0), .null] 2 = mkF m 0 #[.val (.ref o0), .val .null] [])]
  show oG p e below _ (s₁.setTop (mkF m 0 #[.val (.ref o0), .val .null] []))
  refine og (fun _ hr => XS.aloadN X0.here hx rfl (hb hby dc15_0) rfl rfl hr) ?_
  show oG p e below _ (s₁.setTop (mkF m 1 #[.val (.ref o0), .val .null] [(.ref o0)]))
  obtain ⟨T1, X1, e1, st1⟩ := getF X0 hx hZ hown (host := "") (Or.inl (hw _ (own_m 86 rfl))) Via.refl e0 P0 (g := (mkF m 1 #[.val (.ref o0), .val .null] [(.ref o0)])) rfl rfl (hb hby dc15_1)
  refine og st1 ?_
  show oG p e below _ (T1.setTop (mkF m 4 #[.val (.ref o0), .val .null] [.null]))
  refine og (fun _ hr => XS.ifnullYes X1.here hx rfl (pc0 := 4) (pc' := 14) rfl (hb hby dc15_4) rfl (by decide) (by decide) hr) ?_
  show oG p e below _ (T1.setTop (mkF m 14 #[.val (.ref o0), .val .null] []))
  refine og (fun _ hr => XS.aloadN X1.here hx rfl (hb hby dc15_14) rfl rfl hr) ?_
  show oG p e below _ (T1.setTop (mkF m 15 #[.val (.ref o0), .val .null] [.null]))
  exact own_retR X1 hx hlk Bd.returns rfl rfl (hb hby dc15_15) (by decide) (by decide) ⟨rfl, N0, e1⟩
theorem dc16_0 : decode method_3_code 0 = .ok (.iload_n 0, 1) := by decide +kernel
theorem dc16_1 : decode method_3_code 1 = .ok (.ifCond .ne 56, 3) := by decide +kernel
theorem dc16_57 : decode method_3_code 57 = .ok (.iload_n 0, 1) := by decide +kernel
theorem dc16_58 : decode method_3_code 58 = .ok (.iconst 1, 1) := by decide +kernel
theorem dc16_59 : decode method_3_code 59 = .ok (.if_icmp .ne 68, 3) := by decide +kernel
theorem dc16_127 : decode method_3_code 127 = .ok (.iload_n 0, 1) := by decide +kernel
theorem dc16_128 : decode method_3_code 128 = .ok (.iconst 2, 1) := by decide +kernel
theorem dc16_129 : decode method_3_code 129 = .ok (.if_icmp .ne 50, 3) := by decide +kernel
theorem dc16_179 : decode method_3_code 179 = .ok (.bipush 13, 2) := by decide +kernel
theorem dc16_181 : decode method_3_code 181 = .ok (.newarray .char, 2) := by decide +kernel
theorem dc16_183 : decode method_3_code 183 = .ok (.dup, 1) := by decide +kernel
theorem dc16_184 : decode method_3_code 184 = .ok (.iconst 0, 1) := by decide +kernel
theorem dc16_185 : decode method_3_code 185 = .ok (.bipush 103, 2) := by decide +kernel
theorem dc16_187 : decode method_3_code 187 = .ok (.castore, 1) := by decide +kernel
theorem dc16_188 : decode method_3_code 188 = .ok (.dup, 1) := by decide +kernel
theorem dc16_189 : decode method_3_code 189 = .ok (.iconst 1, 1) := by decide +kernel
theorem dc16_190 : decode method_3_code 190 = .ok (.bipush 97, 2) := by decide +kernel
theorem dc16_192 : decode method_3_code 192 = .ok (.castore, 1) := by decide +kernel
theorem dc16_193 : decode method_3_code 193 = .ok (.dup, 1) := by decide +kernel
theorem dc16_194 : decode method_3_code 194 = .ok (.iconst 2, 1) := by decide +kernel
theorem dc16_195 : decode method_3_code 195 = .ok (.bipush 115, 2) := by decide +kernel
theorem dc16_197 : decode method_3_code 197 = .ok (.castore, 1) := by decide +kernel
theorem dc16_198 : decode method_3_code 198 = .ok (.dup, 1) := by decide +kernel
theorem dc16_199 : decode method_3_code 199 = .ok (.iconst 3, 1) := by decide +kernel
theorem dc16_200 : decode method_3_code 200 = .ok (.bipush 95, 2) := by decide +kernel
theorem dc16_202 : decode method_3_code 202 = .ok (.castore, 1) := by decide +kernel
theorem dc16_203 : decode method_3_code 203 = .ok (.dup, 1) := by decide +kernel
theorem dc16_204 : decode method_3_code 204 = .ok (.iconst 4, 1) := by decide +kernel
theorem dc16_205 : decode method_3_code 205 = .ok (.bipush 112, 2) := by decide +kernel
theorem dc16_207 : decode method_3_code 207 = .ok (.castore, 1) := by decide +kernel
theorem dc16_208 : decode method_3_code 208 = .ok (.dup, 1) := by decide +kernel
theorem dc16_209 : decode method_3_code 209 = .ok (.iconst 5, 1) := by decide +kernel
theorem dc16_210 : decode method_3_code 210 = .ok (.bipush 97, 2) := by decide +kernel
theorem dc16_212 : decode method_3_code 212 = .ok (.castore, 1) := by decide +kernel
theorem dc16_213 : decode method_3_code 213 = .ok (.dup, 1) := by decide +kernel
theorem dc16_214 : decode method_3_code 214 = .ok (.bipush 6, 2) := by decide +kernel
theorem dc16_216 : decode method_3_code 216 = .ok (.bipush 114, 2) := by decide +kernel
theorem dc16_218 : decode method_3_code 218 = .ok (.castore, 1) := by decide +kernel
theorem dc16_219 : decode method_3_code 219 = .ok (.dup, 1) := by decide +kernel
theorem dc16_220 : decode method_3_code 220 = .ok (.bipush 7, 2) := by decide +kernel
theorem dc16_222 : decode method_3_code 222 = .ok (.bipush 116, 2) := by decide +kernel
theorem dc16_224 : decode method_3_code 224 = .ok (.castore, 1) := by decide +kernel
theorem dc16_225 : decode method_3_code 225 = .ok (.dup, 1) := by decide +kernel
theorem dc16_226 : decode method_3_code 226 = .ok (.bipush 8, 2) := by decide +kernel
theorem dc16_228 : decode method_3_code 228 = .ok (.bipush 95, 2) := by decide +kernel
theorem dc16_230 : decode method_3_code 230 = .ok (.castore, 1) := by decide +kernel
theorem dc16_231 : decode method_3_code 231 = .ok (.dup, 1) := by decide +kernel
theorem dc16_232 : decode method_3_code 232 = .ok (.bipush 9, 2) := by decide +kernel
theorem dc16_234 : decode method_3_code 234 = .ok (.bipush 121, 2) := by decide +kernel
theorem dc16_236 : decode method_3_code 236 = .ok (.castore, 1) := by decide +kernel
theorem dc16_237 : decode method_3_code 237 = .ok (.dup, 1) := by decide +kernel
theorem dc16_238 : decode method_3_code 238 = .ok (.bipush 10, 2) := by decide +kernel
theorem dc16_240 : decode method_3_code 240 = .ok (.bipush 101, 2) := by decide +kernel
theorem dc16_242 : decode method_3_code 242 = .ok (.castore, 1) := by decide +kernel
theorem dc16_243 : decode method_3_code 243 = .ok (.dup, 1) := by decide +kernel
theorem dc16_244 : decode method_3_code 244 = .ok (.bipush 11, 2) := by decide +kernel
theorem dc16_246 : decode method_3_code 246 = .ok (.bipush 110, 2) := by decide +kernel
theorem dc16_248 : decode method_3_code 248 = .ok (.castore, 1) := by decide +kernel
theorem dc16_249 : decode method_3_code 249 = .ok (.dup, 1) := by decide +kernel
theorem dc16_250 : decode method_3_code 250 = .ok (.bipush 12, 2) := by decide +kernel
theorem dc16_252 : decode method_3_code 252 = .ok (.bipush 32, 2) := by decide +kernel
theorem dc16_254 : decode method_3_code 254 = .ok (.castore, 1) := by decide +kernel
theorem dc16_255 : decode method_3_code 255 = .ok (.areturn, 1) := by decide +kernel
def Q_longer_8 (Z : State) (h0 : Heap) (n0 : Nat) (v : Option Value) (h : Heap) (L : List Loc) : Prop := (∃ (b1 : Addr) (k1 : ClassId), v = some (.ref b1) ∧ Fr n0 L ∧ Keep h0 h [] ∧ n0 ≤ b1 ∧ h0.size ≤ b1 ∧ Exa Z h b1 "[C" ∧ Arv Z h b1 k1 .char (13 : Int32) [(.int 103), (.int 97), (.int 115), (.int 95), (.int 112), (.int 97), (.int 114), (.int 116), (.int 95), (.int 121), (.int 101), (.int 110), (.int 32)] (.int 0))
set_option maxRecDepth 65536 in
set_option maxHeartbeats 40000000 in
theorem rm_longer_8 (l : Launch) (Z : State) (a0 : Array Value) (hw : ∀ d ∈ tables_1, d.before a0 Z = true) (ws : List Jvm.Cond) (h0 : Heap) (n0 : Nat) (Z0 : n0 ≤ h0.size) :
    MetFree l (⟨"com/example/strict_tariff/stricttariff/pricing/ColumnNamedPinLaw", "longer", "(I)[C"⟩ : MethodName) (head1 (Jvm.Cond.code (⟨"com/example/strict_tariff/stricttariff/pricing/ColumnNamedPinLaw", "longer", "(I)[C"⟩ : MethodName) method_3_code 1 (some (.array .char)) :: ws) ({ frames := 0, cells := 1, slots := 13, locals := 0 } : Room)) (fun aA U => aA = #[(.int 3)] ∧ Z.Warmed39 U.vm ∧ U.heap = h0) (fun _ _ _ _ _ => True) (fun _ U o U' => ∃ v L, o = .returned v ∧ Q_longer_8 Z h0 n0 v U'.heap L ∧ FrameEnd U o U' L ({ frames := 0, cells := 1, slots := 13, locals := 0 } : Room).cells ({ frames := 0, cells := 1, slots := 13, locals := 0 } : Room).slots) := by
  refine MetFree.of_bodySF (plainFor_of_name own_pn_com_example_strict_tariff_stricttariff_pricing_ColumnNamedPinLaw) hisR ?_
  intro p e s m args below meth c s₁ Bd hml0 hP hK
  obtain ⟨rfl, hZ, hh⟩ := hP
  have hx := Bd.exec
  have hby := Bd.bytes
  have hlk : meth.locks = false := BodyLoose.notSynchronized Bd
  have hml : c.maxLocals = 1 := hml0
  have hown : s.vm.findClass "com/example/strict_tariff/stricttariff/pricing/ColumnNamedPinLaw" = some m.cls := findClass_of_methodNamed Bd.named
  have hnm := (name_of_methodNamed Bd.named Bd.method).1
  have X0 : Stand p l e ({ frames := 0, cells := 1, slots := 13, locals := 0 } : Room) s m #[(.int 3)] below meth c s₁ [] 0 0 := Stand.of_body Bd
  have e0 : s₁.heap = h0 := by rw [← hh, Bd.state]; rfl
  have N0 := Fr.nil n0
  have K0 : Keep h0 h0 [] := Keep.refl _ _
  show oG p e below (own_K s (Q_longer_8 Z h0 n0) ({ frames := 0, cells := 1, slots := 13, locals := 0 } : Room).cells ({ frames := 0, cells := 1, slots := 13, locals := 0 } : Room).slots) (s₁.setTop (entryFrame m #[(.int 3)] 1))
  rw [(by first | (simp [entryFrame, mkF, argsToLocals, Value.category]; done) | rfl : entryFrame m #[(.int 3)] 1 = mkF m 0 #[.val (.int 3)] [])]
  show oG p e below _ (s₁.setTop (mkF m 0 #[.val (.int 3)] []))
  refine og (fun _ hr => XS.iloadN X0.here hx rfl (hb hby dc16_0) rfl (XS.ifYes X0.here hx rfl (pc0 := 1) (pc' := 57) rfl (hb hby dc16_1) rfl ((if0 _ _).trans (feq (by decide)).2) (by decide) (by decide) (XS.iloadN X0.here hx rfl (hb hby dc16_57) rfl (XS.iconst X0.here hx rfl (hb hby dc16_58) (XS.icmpYes X0.here hx rfl (pc0 := 59) (pc' := 127) rfl (hb hby dc16_59) rfl (feq (by decide)).2 (by decide) (by decide) (XS.iloadN X0.here hx rfl (hb hby dc16_127) rfl (XS.iconst X0.here hx rfl (hb hby dc16_128) (XS.icmpYes X0.here hx rfl (pc0 := 129) (pc' := 179) rfl (hb hby dc16_129) rfl (feq (by decide)).2 (by decide) (by decide) (XS.bipush X0.here hx rfl (hb hby dc16_179) hr))))))))) ?_
  show oG p e below _ (s₁.setTop (mkF m 181 #[.val (.int 3)] [(.int 13)]))
  obtain ⟨T1, h1, k1, X1, e1, E1, A1, EA1, st1⟩ := newPE X0 hx hZ (hw _ (own_m 7 rfl)) e0 (g := (mkF m 181 #[.val (.int 3)] [(.int 13)])) rfl (hb hby dc16_181) rfl (by decide) (cap := 13) (by decide) (by decide) (by decide) (by decide) (ad := "[C") (by decide)
  obtain ⟨b1, g1⟩ : ∃ z, z = h0.size := ⟨_, rfl⟩
  rw [← g1] at A1 EA1 st1
  have ge2 : n0 ≤ b1 := Nat.le_trans Z0 (Nat.le_of_eq g1.symm)
  have sz3 : h0.size ≤ b1 := Nat.le_trans K0.1 (Nat.le_of_eq g1.symm)
  refine og st1 ?_
  have f4 : Arv Z h1 b1 k1 .char (13 : Int32) [(.int 0), (.int 0), (.int 0), (.int 0), (.int 0), (.int 0), (.int 0), (.int 0), (.int 0), (.int 0), (.int 0), (.int 0), (.int 0)] (.int 0) := (Arv.new A1 (by decide)).pad (pad_rep [] (.int 0) 13)
  show oG p e below _ (T1.setTop (mkF m 183 #[.val (.int 3)] [(.ref b1)]))
  refine og (fun _ hr => XS.dup X1.here hx rfl (hb hby dc16_183) rfl rfl (XS.iconst X1.here hx rfl (hb hby dc16_184) (XS.bipush X1.here hx rfl (hb hby dc16_185) hr))) ?_
  show oG p e below _ (T1.setTop (mkF m 187 #[.val (.int 3)] [(.int 103), (.int 0), (.ref b1), (.ref b1)]))
  refine own_stC X1 hx hZ e1 f4 (0 : Int32) (103 : Int32) (103 : Int32) 0 ⟨by decide, by decide⟩ rfl (Nat.le_of_ble_eq_true rfl) rfl [(.int 103), (.int 0), (.int 0), (.int 0), (.int 0), (.int 0), (.int 0), (.int 0), (.int 0), (.int 0), (.int 0), (.int 0), (.int 0)] rfl N0 ge2 (hb hby dc16_187) ?_
  intro T5 h5 L5 X5 e5 W5 N5 f5
  show oG p e below _ (T5.setTop (mkF m 188 #[.val (.int 3)] [(.ref b1)]))
  refine og (fun _ hr => XS.dup X5.here hx rfl (hb hby dc16_188) rfl rfl (XS.iconst X5.here hx rfl (hb hby dc16_189) (XS.bipush X5.here hx rfl (hb hby dc16_190) hr))) ?_
  show oG p e below _ (T5.setTop (mkF m 192 #[.val (.int 3)] [(.int 97), (.int 1), (.ref b1), (.ref b1)]))
  refine own_stC X5 hx hZ e5 f5 (1 : Int32) (97 : Int32) (97 : Int32) 1 ⟨by decide, by decide⟩ rfl (Nat.le_of_ble_eq_true rfl) rfl [(.int 103), (.int 97), (.int 0), (.int 0), (.int 0), (.int 0), (.int 0), (.int 0), (.int 0), (.int 0), (.int 0), (.int 0), (.int 0)] rfl N5 ge2 (hb hby dc16_192) ?_
  intro T6 h6 L6 X6 e6 W6 N6 f6
  show oG p e below _ (T6.setTop (mkF m 193 #[.val (.int 3)] [(.ref b1)]))
  refine og (fun _ hr => XS.dup X6.here hx rfl (hb hby dc16_193) rfl rfl (XS.iconst X6.here hx rfl (hb hby dc16_194) (XS.bipush X6.here hx rfl (hb hby dc16_195) hr))) ?_
  show oG p e below _ (T6.setTop (mkF m 197 #[.val (.int 3)] [(.int 115), (.int 2), (.ref b1), (.ref b1)]))
  refine own_stC X6 hx hZ e6 f6 (2 : Int32) (115 : Int32) (115 : Int32) 2 ⟨by decide, by decide⟩ rfl (Nat.le_of_ble_eq_true rfl) rfl [(.int 103), (.int 97), (.int 115), (.int 0), (.int 0), (.int 0), (.int 0), (.int 0), (.int 0), (.int 0), (.int 0), (.int 0), (.int 0)] rfl N6 ge2 (hb hby dc16_197) ?_
  intro T7 h7 L7 X7 e7 W7 N7 f7
  show oG p e below _ (T7.setTop (mkF m 198 #[.val (.int 3)] [(.ref b1)]))
  refine og (fun _ hr => XS.dup X7.here hx rfl (hb hby dc16_198) rfl rfl (XS.iconst X7.here hx rfl (hb hby dc16_199) (XS.bipush X7.here hx rfl (hb hby dc16_200) hr))) ?_
  show oG p e below _ (T7.setTop (mkF m 202 #[.val (.int 3)] [(.int 95), (.int 3), (.ref b1), (.ref b1)]))
  refine own_stC X7 hx hZ e7 f7 (3 : Int32) (95 : Int32) (95 : Int32) 3 ⟨by decide, by decide⟩ rfl (Nat.le_of_ble_eq_true rfl) rfl [(.int 103), (.int 97), (.int 115), (.int 95), (.int 0), (.int 0), (.int 0), (.int 0), (.int 0), (.int 0), (.int 0), (.int 0), (.int 0)] rfl N7 ge2 (hb hby dc16_202) ?_
  intro T8 h8 L8 X8 e8 W8 N8 f8
  show oG p e below _ (T8.setTop (mkF m 203 #[.val (.int 3)] [(.ref b1)]))
  refine og (fun _ hr => XS.dup X8.here hx rfl (hb hby dc16_203) rfl rfl (XS.iconst X8.here hx rfl (hb hby dc16_204) (XS.bipush X8.here hx rfl (hb hby dc16_205) hr))) ?_
  show oG p e below _ (T8.setTop (mkF m 207 #[.val (.int 3)] [(.int 112), (.int 4), (.ref b1), (.ref b1)]))
  refine own_stC X8 hx hZ e8 f8 (4 : Int32) (112 : Int32) (112 : Int32) 4 ⟨by decide, by decide⟩ rfl (Nat.le_of_ble_eq_true rfl) rfl [(.int 103), (.int 97), (.int 115), (.int 95), (.int 112), (.int 0), (.int 0), (.int 0), (.int 0), (.int 0), (.int 0), (.int 0), (.int 0)] rfl N8 ge2 (hb hby dc16_207) ?_
  intro T9 h9 L9 X9 e9 W9 N9 f9
  show oG p e below _ (T9.setTop (mkF m 208 #[.val (.int 3)] [(.ref b1)]))
  refine og (fun _ hr => XS.dup X9.here hx rfl (hb hby dc16_208) rfl rfl (XS.iconst X9.here hx rfl (hb hby dc16_209) (XS.bipush X9.here hx rfl (hb hby dc16_210) hr))) ?_
  show oG p e below _ (T9.setTop (mkF m 212 #[.val (.int 3)] [(.int 97), (.int 5), (.ref b1), (.ref b1)]))
  refine own_stC X9 hx hZ e9 f9 (5 : Int32) (97 : Int32) (97 : Int32) 5 ⟨by decide, by decide⟩ rfl (Nat.le_of_ble_eq_true rfl) rfl [(.int 103), (.int 97), (.int 115), (.int 95), (.int 112), (.int 97), (.int 0), (.int 0), (.int 0), (.int 0), (.int 0), (.int 0), (.int 0)] rfl N9 ge2 (hb hby dc16_212) ?_
  intro T10 h10 L10 X10 e10 W10 N10 f10
  show oG p e below _ (T10.setTop (mkF m 213 #[.val (.int 3)] [(.ref b1)]))
  refine og (fun _ hr => XS.dup X10.here hx rfl (hb hby dc16_213) rfl rfl (XS.bipush X10.here hx rfl (hb hby dc16_214) (XS.bipush X10.here hx rfl (hb hby dc16_216) hr))) ?_
  show oG p e below _ (T10.setTop (mkF m 218 #[.val (.int 3)] [(.int 114), (.int 6), (.ref b1), (.ref b1)]))
  refine own_stC X10 hx hZ e10 f10 (6 : Int32) (114 : Int32) (114 : Int32) 6 ⟨by decide, by decide⟩ rfl (Nat.le_of_ble_eq_true rfl) rfl [(.int 103), (.int 97), (.int 115), (.int 95), (.int 112), (.int 97), (.int 114), (.int 0), (.int 0), (.int 0), (.int 0), (.int 0), (.int 0)] rfl N10 ge2 (hb hby dc16_218) ?_
  intro T11 h11 L11 X11 e11 W11 N11 f11
  show oG p e below _ (T11.setTop (mkF m 219 #[.val (.int 3)] [(.ref b1)]))
  refine og (fun _ hr => XS.dup X11.here hx rfl (hb hby dc16_219) rfl rfl (XS.bipush X11.here hx rfl (hb hby dc16_220) (XS.bipush X11.here hx rfl (hb hby dc16_222) hr))) ?_
  show oG p e below _ (T11.setTop (mkF m 224 #[.val (.int 3)] [(.int 116), (.int 7), (.ref b1), (.ref b1)]))
  refine own_stC X11 hx hZ e11 f11 (7 : Int32) (116 : Int32) (116 : Int32) 7 ⟨by decide, by decide⟩ rfl (Nat.le_of_ble_eq_true rfl) rfl [(.int 103), (.int 97), (.int 115), (.int 95), (.int 112), (.int 97), (.int 114), (.int 116), (.int 0), (.int 0), (.int 0), (.int 0), (.int 0)] rfl N11 ge2 (hb hby dc16_224) ?_
  intro T12 h12 L12 X12 e12 W12 N12 f12
  show oG p e below _ (T12.setTop (mkF m 225 #[.val (.int 3)] [(.ref b1)]))
  refine og (fun _ hr => XS.dup X12.here hx rfl (hb hby dc16_225) rfl rfl (XS.bipush X12.here hx rfl (hb hby dc16_226) (XS.bipush X12.here hx rfl (hb hby dc16_228) hr))) ?_
  show oG p e below _ (T12.setTop (mkF m 230 #[.val (.int 3)] [(.int 95), (.int 8), (.ref b1), (.ref b1)]))
  refine own_stC X12 hx hZ e12 f12 (8 : Int32) (95 : Int32) (95 : Int32) 8 ⟨by decide, by decide⟩ rfl (Nat.le_of_ble_eq_true rfl) rfl [(.int 103), (.int 97), (.int 115), (.int 95), (.int 112), (.int 97), (.int 114), (.int 116), (.int 95), (.int 0), (.int 0), (.int 0), (.int 0)] rfl N12 ge2 (hb hby dc16_230) ?_
  intro T13 h13 L13 X13 e13 W13 N13 f13
  show oG p e below _ (T13.setTop (mkF m 231 #[.val (.int 3)] [(.ref b1)]))
  refine og (fun _ hr => XS.dup X13.here hx rfl (hb hby dc16_231) rfl rfl (XS.bipush X13.here hx rfl (hb hby dc16_232) (XS.bipush X13.here hx rfl (hb hby dc16_234) hr))) ?_
  show oG p e below _ (T13.setTop (mkF m 236 #[.val (.int 3)] [(.int 121), (.int 9), (.ref b1), (.ref b1)]))
  refine own_stC X13 hx hZ e13 f13 (9 : Int32) (121 : Int32) (121 : Int32) 9 ⟨by decide, by decide⟩ rfl (Nat.le_of_ble_eq_true rfl) rfl [(.int 103), (.int 97), (.int 115), (.int 95), (.int 112), (.int 97), (.int 114), (.int 116), (.int 95), (.int 121), (.int 0), (.int 0), (.int 0)] rfl N13 ge2 (hb hby dc16_236) ?_
  intro T14 h14 L14 X14 e14 W14 N14 f14
  show oG p e below _ (T14.setTop (mkF m 237 #[.val (.int 3)] [(.ref b1)]))
  refine og (fun _ hr => XS.dup X14.here hx rfl (hb hby dc16_237) rfl rfl (XS.bipush X14.here hx rfl (hb hby dc16_238) (XS.bipush X14.here hx rfl (hb hby dc16_240) hr))) ?_
  show oG p e below _ (T14.setTop (mkF m 242 #[.val (.int 3)] [(.int 101), (.int 10), (.ref b1), (.ref b1)]))
  refine own_stC X14 hx hZ e14 f14 (10 : Int32) (101 : Int32) (101 : Int32) 10 ⟨by decide, by decide⟩ rfl (Nat.le_of_ble_eq_true rfl) rfl [(.int 103), (.int 97), (.int 115), (.int 95), (.int 112), (.int 97), (.int 114), (.int 116), (.int 95), (.int 121), (.int 101), (.int 0), (.int 0)] rfl N14 ge2 (hb hby dc16_242) ?_
  intro T15 h15 L15 X15 e15 W15 N15 f15
  show oG p e below _ (T15.setTop (mkF m 243 #[.val (.int 3)] [(.ref b1)]))
  refine og (fun _ hr => XS.dup X15.here hx rfl (hb hby dc16_243) rfl rfl (XS.bipush X15.here hx rfl (hb hby dc16_244) (XS.bipush X15.here hx rfl (hb hby dc16_246) hr))) ?_
  show oG p e below _ (T15.setTop (mkF m 248 #[.val (.int 3)] [(.int 110), (.int 11), (.ref b1), (.ref b1)]))
  refine own_stC X15 hx hZ e15 f15 (11 : Int32) (110 : Int32) (110 : Int32) 11 ⟨by decide, by decide⟩ rfl (Nat.le_of_ble_eq_true rfl) rfl [(.int 103), (.int 97), (.int 115), (.int 95), (.int 112), (.int 97), (.int 114), (.int 116), (.int 95), (.int 121), (.int 101), (.int 110), (.int 0)] rfl N15 ge2 (hb hby dc16_248) ?_
  intro T16 h16 L16 X16 e16 W16 N16 f16
  show oG p e below _ (T16.setTop (mkF m 249 #[.val (.int 3)] [(.ref b1)]))
  refine og (fun _ hr => XS.dup X16.here hx rfl (hb hby dc16_249) rfl rfl (XS.bipush X16.here hx rfl (hb hby dc16_250) (XS.bipush X16.here hx rfl (hb hby dc16_252) hr))) ?_
  show oG p e below _ (T16.setTop (mkF m 254 #[.val (.int 3)] [(.int 32), (.int 12), (.ref b1), (.ref b1)]))
  refine own_stC X16 hx hZ e16 f16 (12 : Int32) (32 : Int32) (32 : Int32) 12 ⟨by decide, by decide⟩ rfl (Nat.le_of_ble_eq_true rfl) rfl [(.int 103), (.int 97), (.int 115), (.int 95), (.int 112), (.int 97), (.int 114), (.int 116), (.int 95), (.int 121), (.int 101), (.int 110), (.int 32)] rfl N16 ge2 (hb hby dc16_254) ?_
  intro T17 h17 L17 X17 e17 W17 N17 f17
  show oG p e below _ (T17.setTop (mkF m 255 #[.val (.int 3)] [(.ref b1)]))
  have f18 := (((((((((((((EA1.wr W5).wr W6).wr W7).wr W8).wr W9).wr W10).wr W11).wr W12).wr W13).wr W14).wr W15).wr W16).wr W17)
  have K19 := ((((((((((((((K0.ext E1).wr W5 (Or.inr sz3)).wr W6 (Or.inr sz3)).wr W7 (Or.inr sz3)).wr W8 (Or.inr sz3)).wr W9 (Or.inr sz3)).wr W10 (Or.inr sz3)).wr W11 (Or.inr sz3)).wr W12 (Or.inr sz3)).wr W13 (Or.inr sz3)).wr W14 (Or.inr sz3)).wr W15 (Or.inr sz3)).wr W16 (Or.inr sz3)).wr W17 (Or.inr sz3))
  exact own_retR X17 hx hlk Bd.returns rfl rfl (hb hby dc16_255) (by decide) (by decide) (by rw [e17]; exact ⟨b1, k1, rfl, N17, K19, ge2, sz3, f18, f17⟩)
theorem dc18_0 : decode method_4_code 0 = .ok (.iload_n 0, 1) := by decide +kernel
theorem dc18_1 : decode method_4_code 1 = .ok (.ifCond .ne 6, 3) := by decide +kernel
theorem dc18_7 : decode method_4_code 7 = .ok (.iload_n 0, 1) := by decide +kernel
theorem dc18_8 : decode method_4_code 8 = .ok (.iconst 1, 1) := by decide +kernel
theorem dc18_9 : decode method_4_code 9 = .ok (.if_icmp .ne 6, 3) := by decide +kernel
theorem dc18_15 : decode method_4_code 15 = .ok (.iload_n 0, 1) := by decide +kernel
theorem dc18_16 : decode method_4_code 16 = .ok (.iconst 2, 1) := by decide +kernel
theorem dc18_17 : decode method_4_code 17 = .ok (.if_icmp .ne 6, 3) := by decide +kernel
theorem dc18_23 : decode method_4_code 23 = .ok (.ldc 13, 2) := by decide +kernel
theorem dc18_25 : decode method_4_code 25 = .ok (.areturn, 1) := by decide +kernel
def Q_shorter_9 (Z : State) (h0 : Heap) (n0 : Nat) (v : Option Value) (h : Heap) (L : List Loc) : Prop := (∃ (a1 : Addr) (b1 : Addr) (k1 : ClassId), v = some (.ref a1) ∧ Fr n0 L ∧ Keep h0 h [] ∧ Exa Z h a1 "java/lang/String" ∧ Fld Z h a1 "java/lang/String" "coder" "B" (.int 0) ∧ Fld Z h a1 "java/lang/String" "value" "[B" (.ref b1) ∧ Arv Z h b1 k1 .byte (11 : Int32) [(.int 103), (.int 97), (.int 115), (.int 95), (.int 112), (.int 97), (.int 114), (.int 116), (.int 95), (.int 121), (.int 101)] (.int 0))
set_option maxRecDepth 65536 in
set_option maxHeartbeats 40000000 in
theorem rm_shorter_9 (l : Launch) (Z : State) (a0 : Array Value) (hw : ∀ d ∈ tables_1, d.before a0 Z = true) (ws : List Jvm.Cond) (h0 : Heap) (n0 : Nat) (Z0 : n0 ≤ h0.size) :
    MetFree l (⟨"com/example/strict_tariff/stricttariff/pricing/ColumnNamedPinLaw", "shorter", "(I)Ljava/lang/String;"⟩ : MethodName) (head1 (Jvm.Cond.code (⟨"com/example/strict_tariff/stricttariff/pricing/ColumnNamedPinLaw", "shorter", "(I)Ljava/lang/String;"⟩ : MethodName) method_4_code 1 (some (.object "java/lang/String")) :: ws) ({ frames := 0, cells := 2, slots := 48, locals := 0 } : Room)) (fun aA U => aA = #[(.int 3)] ∧ Z.Warmed39 U.vm ∧ U.heap = h0 ∧ CHv Z own_EL U.vm h0) (fun _ _ _ _ _ => True) (fun _ U o U' => ∃ v L, o = .returned v ∧ Q_shorter_9 Z h0 n0 v U'.heap L ∧ CHr Z own_EL U.vm U.heap U'.vm U'.heap ∧ ReturnedEndW U o U' L ({ frames := 0, cells := 2, slots := 48, locals := 0 } : Room).cells ({ frames := 0, cells := 2, slots := 48, locals := 0 } : Room).slots) := by
  refine MetFree.of_bodySF (plainFor_of_name own_pn_com_example_strict_tariff_stricttariff_pricing_ColumnNamedPinLaw) hisR ?_
  intro p e s m args below meth c s₁ Bd hml0 hP hK
  obtain ⟨rfl, hZ, hh, hC0⟩ := hP
  have hx := Bd.exec
  have hby := Bd.bytes
  have hlk : meth.locks = false := BodyLoose.notSynchronized Bd
  have hml : c.maxLocals = 1 := hml0
  have hown : s.vm.findClass "com/example/strict_tariff/stricttariff/pricing/ColumnNamedPinLaw" = some m.cls := findClass_of_methodNamed Bd.named
  have hnm := (name_of_methodNamed Bd.named Bd.method).1
  have X0 : Stand p l e ({ frames := 0, cells := 2, slots := 48, locals := 0 } : Room) (s.setVm s.vm) m #[(.int 3)] below meth c s₁ [] 0 0 := Stand.of_body Bd
  have e0 : s₁.heap = h0 := by rw [← hh, Bd.state]; rfl
  have N0 := Fr.nil n0
  have hS : s.Since s.vm 0 := (State.WarmedH.refl s).since 0
  have hk := Nat.zero_le h0.size
  have hEL : EW Z a0 own_EL := own_ew hw
  have A0 : CHr Z own_EL s.vm h0 s.vm h0 := CHr.refl hC0
  have K0 : Keep h0 h0 [] := Keep.refl _ _
  show oG p e below (own_KW Z own_EL s (Q_shorter_9 Z h0 n0) ({ frames := 0, cells := 2, slots := 48, locals := 0 } : Room).cells ({ frames := 0, cells := 2, slots := 48, locals := 0 } : Room).slots) (s₁.setTop (entryFrame m #[(.int 3)] 1))
  rw [(by first | (simp [entryFrame, mkF, argsToLocals, Value.category]; done) | rfl : entryFrame m #[(.int 3)] 1 = mkF m 0 #[.val (.int 3)] [])]
  show oG p e below _ (s₁.setTop (mkF m 0 #[.val (.int 3)] []))
  refine og (fun _ hr => XS.iloadN X0.here hx rfl (hb hby dc18_0) rfl (XS.ifYes X0.here hx rfl (pc0 := 1) (pc' := 7) rfl (hb hby dc18_1) rfl ((if0 _ _).trans (feq (by decide)).2) (by decide) (by decide) (XS.iloadN X0.here hx rfl (hb hby dc18_7) rfl (XS.iconst X0.here hx rfl (hb hby dc18_8) (XS.icmpYes X0.here hx rfl (pc0 := 9) (pc' := 15) rfl (hb hby dc18_9) rfl (feq (by decide)).2 (by decide) (by decide) (XS.iloadN X0.here hx rfl (hb hby dc18_15) rfl (XS.iconst X0.here hx rfl (hb hby dc18_16) (XS.icmpYes X0.here hx rfl (pc0 := 17) (pc' := 23) rfl (hb hby dc18_17) rfl (feq (by decide)).2 (by decide) (by decide) hr)))))))) ?_
  show oG p e below _ (s₁.setTop (mkF m 23 #[.val (.int 3)] []))
  have hZo2 := hZ
  obtain ⟨a1, T1, h1, k11, b1, k1, X1, e1, E1, hS, hk1, hZ, hown, EA1, FC1, FV1, AV1, -, -, Al1, -, ne1, st1⟩ := ldcCH X0 hx hZ hown (hw _ (own_m 113 rfl)) (own_ws hw) e0 hS hk hEL (by simp [own_EL]) A0.1 (vs := [(.int 103), (.int 97), (.int 115), (.int 95), (.int 112), (.int 97), (.int 114), (.int 116), (.int 95), (.int 121), (.int 101)]) (z := (11 : Int32)) ⟨by decide, by decide⟩ (by decide) (by decide) (g := (mkF m 23 #[.val (.int 3)] [])) rfl (hb hby dc18_23) (n := 44) (by decide) (by decide) (by decide) (by decide)
  refine og st1 ?_
  show oG p e below _ (T1.setTop (mkF m 25 #[.val (.int 3)] [(.ref a1)]))
  have K3 := (K0.ext E1)
  have A4 := A0.trans Al1
  exact own_retRW X1 hx hlk Bd.returns hS hk1 hZ hEL hh e1 A4 rfl rfl (hb hby dc18_25) (by decide) (by decide) (by rw [e1]; exact ⟨a1, b1, k1, rfl, N0, K3, EA1, FC1, FV1, AV1⟩)
theorem own_pd9 : parseMethodDescriptor "(I)Ljava/lang/String;" = some ⟨[.int], some (.object "java/lang/String")⟩ := by decide +kernel
def own_tx4 : List Int32 := [103, 97, 115, 95, 112, 97, 114, 116, 95, 121, 101]
theorem own_cod4 : StrChars.Road.CodA own_tx4 0 (11 : Int32) [(.int 103), (.int 97), (.int 115), (.int 95), (.int 112), (.int 97), (.int 114), (.int 116), (.int 95), (.int 121), (.int 101)] := Or.inl ⟨rfl, by decide +kernel, by first | rfl | decide +kernel | simp [own_tx4, StrChars.lo8], by decide +kernel⟩
theorem own_hb4 : ∀ c ∈ own_tx4, ¬ c < 0 ∧ ¬ (65535 : Int32) < c := by decide +kernel
theorem dc10_0 : decode jdk_42_method_66_code 0 = .ok (.aload_n 0, 1) := by decide +kernel
theorem dc10_1 : decode jdk_42_method_66_code 1 = .ok (.aload_n 1, 1) := by decide +kernel
theorem dc10_2 : decode jdk_42_method_66_code 2 = .ok (.if_acmp .ne 5, 3) := by decide +kernel
theorem dc10_7 : decode jdk_42_method_66_code 7 = .ok (.aload_n 1, 1) := by decide +kernel
theorem dc10_8 : decode jdk_42_method_66_code 8 = .ok (.instanceof 10, 3) := by decide +kernel
theorem dc10_11 : decode jdk_42_method_66_code 11 = .ok (.ifCond .eq 43, 3) := by decide +kernel
theorem dc10_54 : decode jdk_42_method_66_code 54 = .ok (.iconst 0, 1) := by decide +kernel
theorem dc10_55 : decode jdk_42_method_66_code 55 = .ok (.ireturn, 1) := by decide +kernel
theorem own_pn_java_lang_String : plainName "java/lang/String" = true := by first | (simp [plainName, overriddenIn]; done) | decide +kernel
def Q_equals_10 (Z : State) (h0 : Heap) (n0 : Nat) (v : Option Value) (h : Heap) (L : List Loc) : Prop := v = some (.int 0) ∧ Fr n0 L ∧ h = h0
set_option maxRecDepth 65536 in
set_option maxHeartbeats 40000000 in
theorem rm_equals_10 (l : Launch) (Z : State) (a0 : Array Value) (hw : ∀ d ∈ tables_1, d.before a0 Z = true) (ws : List Jvm.Cond) (o0 : Addr) (h0 : Heap) (n0 : Nat) (Z0 : n0 ≤ h0.size) :
    MetFree l (⟨"java/lang/String", "equals", "(Ljava/lang/Object;)Z"⟩ : MethodName) (head1 (Jvm.Cond.code (⟨"java/lang/String", "equals", "(Ljava/lang/Object;)Z"⟩ : MethodName) jdk_42_method_66_code 3 (some .boolean) :: ws) ({ frames := 0, cells := 0, slots := 0, locals := 0 } : Room)) (fun aA U => aA = #[(.ref o0), .null] ∧ Z.Warmed39 U.vm ∧ U.heap = h0) (fun _ _ _ _ _ => True) (fun _ U o U' => ∃ v L, o = .returned v ∧ Q_equals_10 Z h0 n0 v U'.heap L ∧ FrameEnd U o U' L ({ frames := 0, cells := 0, slots := 0, locals := 0 } : Room).cells ({ frames := 0, cells := 0, slots := 0, locals := 0 } : Room).slots) := by
  refine MetFree.of_bodySF (plainFor_of_name own_pn_java_lang_String) hisR ?_
  intro p e s m args below meth c s₁ Bd hml0 hP hK
  obtain ⟨rfl, hZ, hh⟩ := hP
  have hx := Bd.exec
  have hby := Bd.bytes
  have hlk : meth.locks = false := BodyLoose.notSynchronized Bd
  have hml : c.maxLocals = 3 := hml0
  have hown : s.vm.findClass "java/lang/String" = some m.cls := findClass_of_methodNamed Bd.named
  have hnm := (name_of_methodNamed Bd.named Bd.method).1
  have X0 : Stand p l e ({ frames := 0, cells := 0, slots := 0, locals := 0 } : Room) s m #[(.ref o0), .null] below meth c s₁ [] 0 0 := Stand.of_body Bd
  have e0 : s₁.heap = h0 := by rw [← hh, Bd.state]; rfl
  have N0 := Fr.nil n0
  show oG p e below (own_K s (Q_equals_10 Z h0 n0) ({ frames := 0, cells := 0, slots := 0, locals := 0 } : Room).cells ({ frames := 0, cells := 0, slots := 0, locals := 0 } : Room).slots) (s₁.setTop (entryFrame m #[(.ref o0), .null] 3))
  rw [(by first | (simp [entryFrame, mkF, argsToLocals, Value.category]; done) | rfl : entryFrame m #[(.ref o0), .null] 3 = mkF m 0 #[.val (.ref o0), .val .null, .unset] [])]
  show oG p e below _ (s₁.setTop (mkF m 0 #[.val (.ref o0), .val .null, .unset] []))
  refine og (fun _ hr => XS.aloadN X0.here hx rfl (hb hby dc10_0) rfl rfl (XS.aloadN X0.here hx rfl (hb hby dc10_1) rfl rfl hr)) ?_
  show oG p e below _ (s₁.setTop (mkF m 2 #[.val (.ref o0), .val .null, .unset] [.null, (.ref o0)]))
  refine og (fun _ hr => Jvm.RoadKit.acmp X0 hx rfl rfl rfl (pc0 := 2) (pc' := 7) (same := false) rfl (hb hby dc10_2) rfl (decide_eq_false nofun) (by decide) (by decide) hr) ?_
  show oG p e below _ (s₁.setTop (mkF m 7 #[.val (.ref o0), .val .null, .unset] []))
  refine og (fun _ hr => XS.aloadN X0.here hx rfl (hb hby dc10_7) rfl rfl hr) ?_
  show oG p e below _ (s₁.setTop (mkF m 8 #[.val (.ref o0), .val .null, .unset] [.null]))
  refine og (X0.instanceofNull hx (g := (mkF m 8 #[.val (.ref o0), .val .null, .unset] [.null])) rfl rfl (hb hby dc10_8)) ?_
  show oG p e below _ (s₁.setTop (mkF m 11 #[.val (.ref o0), .val .null, .unset] [(.int 0)]))
  refine og (fun _ hr => XS.ifYes X0.here hx rfl (pc0 := 11) (pc' := 54) rfl (hb hby dc10_11) rfl ((if0 _ _).trans (teq (by decide)).1) (by decide) (by decide) (XS.iconst X0.here hx rfl (hb hby dc10_54) hr)) ?_
  show oG p e below _ (s₁.setTop (mkF m 55 #[.val (.ref o0), .val .null, .unset] [(.int 0)]))
  exact own_retN X0 hx hlk Bd.returns (t := .boolean) (by simp) (hb hby dc10_55) (by decide) (by decide) ⟨rfl, N0, e0⟩
def Q_named_11 (Z : State) (o9 : Addr) (h0 : Heap) (n0 : Nat) (v : Option Value) (h : Heap) (L : List Loc) : Prop := (v = some (.ref o9) ∧ Fr n0 L ∧ Keep h0 h [])
set_option maxRecDepth 65536 in
set_option maxHeartbeats 40000000 in
theorem rm_named_11 (l : Launch) (Z : State) (a0 : Array Value) (hw : ∀ d ∈ tables_1, d.before a0 Z = true) (ws : List Jvm.Cond) (o0 : Addr) (o1 : Addr) (o2 : Addr) (o3 : Addr) (o4 : Addr) (kc0 : ClassId) (o5 : Addr) (o6 : Addr) (o7 : Addr) (o8 : Addr) (o9 : Addr) (h0 : Heap) (n0 : Nat) (Z0 : n0 ≤ h0.size) (P0 : Sta Z h0 "com/example/strict_tariff/stricttariff/pricing/Column" "$VALUES" "[Lcom/example/strict_tariff/stricttariff/pricing/Column;" (.ref o0)) (P1 : Arv Z h0 o0 kc0 (.object "com/example/strict_tariff/stricttariff/pricing/Column") (4 : Int32) [(.ref o1), (.ref o2), (.ref o3), (.ref o4)] .null) (P2 : Exa Z h0 o0 "[Lcom/example/strict_tariff/stricttariff/pricing/Column;") (P3 : Fld Z h0 o1 "com/example/strict_tariff/stricttariff/pricing/Column" "header" "Ljava/lang/String;" (.ref o5)) (P4 : Exa Z h0 o5 "java/lang/String") (P5 : Fld Z h0 o2 "com/example/strict_tariff/stricttariff/pricing/Column" "header" "Ljava/lang/String;" (.ref o6)) (P6 : Exa Z h0 o6 "java/lang/String") (P7 : Fld Z h0 o3 "com/example/strict_tariff/stricttariff/pricing/Column" "header" "Ljava/lang/String;" (.ref o7)) (P8 : Exa Z h0 o7 "java/lang/String") (P9 : Fld Z h0 o4 "com/example/strict_tariff/stricttariff/pricing/Column" "header" "Ljava/lang/String;" (.ref o8)) (P10 : Exa Z h0 o8 "java/lang/String") (P11 : Sta Z h0 "java/util/Optional" "EMPTY" "Ljava/util/Optional;" (.ref o9)) :
    MetFree l (⟨"com/example/strict_tariff/stricttariff/pricing/Column", "named", "(Ljava/lang/String;)Ljava/util/Optional;"⟩ : MethodName) (head1 (Jvm.Cond.code (⟨"com/example/strict_tariff/stricttariff/pricing/Column", "named", "(Ljava/lang/String;)Ljava/util/Optional;"⟩ : MethodName) prog_4_method_7_code 5 (some (.object "java/util/Optional")) :: ws) ({ frames := 2, cells := 1, slots := 4, locals := 25 } : Room)) (fun aA U => aA = #[.null] ∧ Z.Warmed39 U.vm ∧ U.heap = h0) (fun _ _ _ _ _ => True) (fun _ U o U' => ∃ v L, o = .returned v ∧ Q_named_11 Z o9 h0 n0 v U'.heap L ∧ FrameEnd U o U' L ({ frames := 2, cells := 1, slots := 4, locals := 25 } : Room).cells ({ frames := 2, cells := 1, slots := 4, locals := 25 } : Room).slots) := by
  refine MetFree.of_bodySF (plainFor_of_name own_pn_com_example_strict_tariff_stricttariff_pricing_Column) hisR ?_
  intro p e s m args below meth c s₁ Bd hml0 hP hK
  obtain ⟨rfl, hZ, hh⟩ := hP
  have hx := Bd.exec
  have hby := Bd.bytes
  have hlk : meth.locks = false := BodyLoose.notSynchronized Bd
  have hml : c.maxLocals = 5 := hml0
  have hown : s.vm.findClass "com/example/strict_tariff/stricttariff/pricing/Column" = some m.cls := findClass_of_methodNamed Bd.named
  have hnm := (name_of_methodNamed Bd.named Bd.method).1
  have X0 : Stand p l e ({ frames := 2, cells := 1, slots := 4, locals := 25 } : Room) s m #[.null] below meth c s₁ [] 0 0 := Stand.of_body Bd
  have e0 : s₁.heap = h0 := by rw [← hh, Bd.state]; rfl
  have N0 := Fr.nil n0
  have K0 : Keep h0 h0 [] := Keep.refl _ _
  show oG p e below (own_K s (Q_named_11 Z o9 h0 n0) ({ frames := 2, cells := 1, slots := 4, locals := 25 } : Room).cells ({ frames := 2, cells := 1, slots := 4, locals := 25 } : Room).slots) (s₁.setTop (entryFrame m #[.null] 5))
  rw [(by first | (simp [entryFrame, mkF, argsToLocals, Value.category]; done) | rfl : entryFrame m #[.null] 5 = mkF m 0 #[.val .null, .unset, .unset, .unset, .unset] [])]
  show oG p e below _ (s₁.setTop (mkF m 0 #[.val .null, .unset, .unset, .unset, .unset] []))
  refine own_cs X0 hx hZ hown (hw _ (own_m 41 rfl)) (hw _ (own_m 42 rfl)) (hw _ (own_m 1 rfl)) (hw _ (own_m 43 rfl)) (by decide) (rm := { frames := 1, cells := 1, slots := 4, locals := 14 }) (rm_values_0 l Z a0 hw [] o0 o1 o2 o3 o4 kc0 h0 n0 Z0 P0 P1 P2) (by decide) (W := 0) (by decide) (by decide) (by decide) e0 (by rw [hml]; rfl) (argsL := []) (lenOf own_pd2 rfl) (rest := []) rfl rfl (Nat.le_of_eq rfl) (hb hby dc8_0) ?_
  intro _ T1 L1 X1 hQ1
  obtain ⟨b1_0, kb1_0, rfl, N1q, K1, ge1_0, sz1_0, f1_0, f1_1⟩ := hQ1
  have N1 := Fr.app N0 N1q
  have sz2 : h0.size ≤ b1_0 := Nat.le_trans K0.1 sz1_0
  show oG p e below _ (T1.setTop (mkF m 3 #[.val .null, .unset, .unset, .unset, .unset] [(.ref b1_0)]))
  refine og (fun _ hr => XS.astoreN X1.here hx rfl (hb hby dc8_3) rfl rfl (l' := #[.val .null, .val (.ref b1_0), .unset, .unset, .unset]) rfl (XS.aloadN X1.here hx rfl (hb hby dc8_4) rfl rfl (own_alen X1 hx hZ rfl f1_1 rfl rfl (hb hby dc8_5) (XS.istoreN X1.here hx rfl (hb hby dc8_6) rfl (l' := #[.val .null, .val (.ref b1_0), .val (.int 4), .unset, .unset]) rfl (XS.iconst X1.here hx rfl (hb hby dc8_7) (XS.istoreN X1.here hx rfl (hb hby dc8_8) rfl (l' := #[.val .null, .val (.ref b1_0), .val (.int 4), .val (.int 0), .unset]) rfl (XS.iloadN X1.here hx rfl (hb hby dc8_9) rfl (XS.iloadN X1.here hx rfl (hb hby dc8_10) rfl (XS.icmpNo X1.here hx rfl (hb hby dc8_11) rfl (tlt (by decide)).2.1 (XS.aloadN X1.here hx rfl (hb hby dc8_14) rfl rfl (XS.iloadN X1.here hx rfl (hb hby dc8_15) rfl (own_aaload X1 hx hZ rfl f1_1 (0 : Int32) (.ref o1) ⟨by decide, by decide⟩ rfl rfl rfl rfl (hb hby dc8_16) (XS.astore X1.here hx rfl (hb hby dc8_17) rfl rfl (l' := #[.val .null, .val (.ref b1_0), .val (.int 4), .val (.int 0), .val (.ref o1)]) rfl (XS.aload X1.here hx rfl (hb hby dc8_19) rfl rfl hr)))))))))))))) ?_
  show oG p e below _ (T1.setTop (mkF m 21 #[.val .null, .val (.ref b1_0), .val (.int 4), .val (.int 0), .val (.ref o1)] [(.ref o1)]))
  have f3 := (P3.keep K1 nin0)
  obtain ⟨T4, X4, e4, st4⟩ := getF X1 hx hZ hown (host := "") (Or.inl (hw _ (own_m 59 rfl))) Via.refl rfl f3 (g := (mkF m 21 #[.val .null, .val (.ref b1_0), .val (.int 4), .val (.int 0), .val (.ref o1)] [(.ref o1)])) rfl rfl (hb hby dc8_21)
  refine og st4 ?_
  show oG p e below _ (T4.setTop (mkF m 24 #[.val .null, .val (.ref b1_0), .val (.int 4), .val (.int 0), .val (.ref o1)] [(.ref o5)]))
  refine og (fun _ hr => XS.aloadN X4.here hx rfl (hb hby dc8_24) rfl rfl hr) ?_
  show oG p e below _ (T4.setTop (mkF m 25 #[.val .null, .val (.ref b1_0), .val (.int 4), .val (.int 0), .val (.ref o1)] [.null, (.ref o5)]))
  have Z6 := (Nat.le_trans Z0 K1.1)
  have f7 := (P4.keep K1)
  refine own_cv X4 hx hZ hown (notFace_of_selects (args := #[]) (mvT hZ (hw _ (own_m 64 rfl)))) (hw _ (own_m 61 rfl)) (hw _ (own_m 62 rfl)) (hw _ (own_m 64 rfl)) (hw _ (own_m 63 rfl)) (hw _ (own_m 11 rfl)) (hw _ (own_m 65 rfl)) (by decide) f7 (rm := { frames := 0, cells := 0, slots := 0, locals := 0 }) (rm_equals_10 l Z a0 hw [] o5 T1.heap n0 Z6 ) (by decide) (W := 0) (by decide) (by decide) (by decide) e4 (by rw [hml]; rfl) (argsL := [.null]) (lenOf own_pd1 rfl) (rest := []) rfl rfl (Nat.le_of_eq rfl) (hb hby dc8_25) ?_
  intro _ T5 L5 X5 hQ5
  obtain ⟨rfl, N5q, e5⟩ := hQ5
  have N5 := Fr.app N1 N5q
  show oG p e below _ (T5.setTop (mkF m 28 #[.val .null, .val (.ref b1_0), .val (.int 4), .val (.int 0), .val (.ref o1)] [(.int 0)]))
  refine og (fun _ hr => XS.ifYes X5.here hx rfl (pc0 := 28) (pc' := 37) rfl (hb hby dc8_28) rfl ((if0 _ _).trans (teq (by decide)).1) (by decide) (by decide) (XS.iinc X5.here hx rfl (hb hby dc8_37) rfl (l' := #[.val .null, .val (.ref b1_0), .val (.int 4), .val (.int 1), .val (.ref o1)]) rfl (XS.goto X5.here hx rfl (pc0 := 40) (pc' := 9) rfl (hb hby dc8_40) (by decide) (by decide) (XS.iloadN X5.here hx rfl (hb hby dc8_9) rfl (XS.iloadN X5.here hx rfl (hb hby dc8_10) rfl (XS.icmpNo X5.here hx rfl (hb hby dc8_11) rfl (tlt (by decide)).2.1 (XS.aloadN X5.here hx rfl (hb hby dc8_14) rfl rfl (XS.iloadN X5.here hx rfl (hb hby dc8_15) rfl (own_aaload X5 hx hZ e5 f1_1 (1 : Int32) (.ref o2) ⟨by decide, by decide⟩ rfl rfl rfl rfl (hb hby dc8_16) (XS.astore X5.here hx rfl (hb hby dc8_17) rfl rfl (l' := #[.val .null, .val (.ref b1_0), .val (.int 4), .val (.int 1), .val (.ref o2)]) rfl (XS.aload X5.here hx rfl (hb hby dc8_19) rfl rfl hr))))))))))) ?_
  show oG p e below _ (T5.setTop (mkF m 21 #[.val .null, .val (.ref b1_0), .val (.int 4), .val (.int 1), .val (.ref o2)] [(.ref o2)]))
  have f8 := (P5.keep K1 nin0)
  obtain ⟨T9, X9, e9, st9⟩ := getF X5 hx hZ hown (host := "") (Or.inl (hw _ (own_m 59 rfl))) Via.refl e5 f8 (g := (mkF m 21 #[.val .null, .val (.ref b1_0), .val (.int 4), .val (.int 1), .val (.ref o2)] [(.ref o2)])) rfl rfl (hb hby dc8_21)
  refine og st9 ?_
  show oG p e below _ (T9.setTop (mkF m 24 #[.val .null, .val (.ref b1_0), .val (.int 4), .val (.int 1), .val (.ref o2)] [(.ref o6)]))
  refine og (fun _ hr => XS.aloadN X9.here hx rfl (hb hby dc8_24) rfl rfl hr) ?_
  show oG p e below _ (T9.setTop (mkF m 25 #[.val .null, .val (.ref b1_0), .val (.int 4), .val (.int 1), .val (.ref o2)] [.null, (.ref o6)]))
  have f11 := (P6.keep K1)
  refine own_cv X9 hx hZ hown (notFace_of_selects (args := #[]) (mvT hZ (hw _ (own_m 64 rfl)))) (hw _ (own_m 61 rfl)) (hw _ (own_m 62 rfl)) (hw _ (own_m 64 rfl)) (hw _ (own_m 63 rfl)) (hw _ (own_m 11 rfl)) (hw _ (own_m 65 rfl)) (by decide) f11 (rm := { frames := 0, cells := 0, slots := 0, locals := 0 }) (rm_equals_10 l Z a0 hw [] o6 T1.heap n0 Z6 ) (by decide) (W := 0) (by decide) (by decide) (by decide) e9 (by rw [hml]; rfl) (argsL := [.null]) (lenOf own_pd1 rfl) (rest := []) rfl rfl (Nat.le_of_eq rfl) (hb hby dc8_25) ?_
  intro _ T10 L10 X10 hQ10
  obtain ⟨rfl, N10q, e10⟩ := hQ10
  have N10 := Fr.app N5 N10q
  show oG p e below _ (T10.setTop (mkF m 28 #[.val .null, .val (.ref b1_0), .val (.int 4), .val (.int 1), .val (.ref o2)] [(.int 0)]))
  refine og (fun _ hr => XS.ifYes X10.here hx rfl (pc0 := 28) (pc' := 37) rfl (hb hby dc8_28) rfl ((if0 _ _).trans (teq (by decide)).1) (by decide) (by decide) (XS.iinc X10.here hx rfl (hb hby dc8_37) rfl (l' := #[.val .null, .val (.ref b1_0), .val (.int 4), .val (.int 2), .val (.ref o2)]) rfl (XS.goto X10.here hx rfl (pc0 := 40) (pc' := 9) rfl (hb hby dc8_40) (by decide) (by decide) (XS.iloadN X10.here hx rfl (hb hby dc8_9) rfl (XS.iloadN X10.here hx rfl (hb hby dc8_10) rfl (XS.icmpNo X10.here hx rfl (hb hby dc8_11) rfl (tlt (by decide)).2.1 (XS.aloadN X10.here hx rfl (hb hby dc8_14) rfl rfl (XS.iloadN X10.here hx rfl (hb hby dc8_15) rfl (own_aaload X10 hx hZ e10 f1_1 (2 : Int32) (.ref o3) ⟨by decide, by decide⟩ rfl rfl rfl rfl (hb hby dc8_16) (XS.astore X10.here hx rfl (hb hby dc8_17) rfl rfl (l' := #[.val .null, .val (.ref b1_0), .val (.int 4), .val (.int 2), .val (.ref o3)]) rfl (XS.aload X10.here hx rfl (hb hby dc8_19) rfl rfl hr))))))))))) ?_
  show oG p e below _ (T10.setTop (mkF m 21 #[.val .null, .val (.ref b1_0), .val (.int 4), .val (.int 2), .val (.ref o3)] [(.ref o3)]))
  have f12 := (P7.keep K1 nin0)
  obtain ⟨T13, X13, e13, st13⟩ := getF X10 hx hZ hown (host := "") (Or.inl (hw _ (own_m 59 rfl))) Via.refl e10 f12 (g := (mkF m 21 #[.val .null, .val (.ref b1_0), .val (.int 4), .val (.int 2), .val (.ref o3)] [(.ref o3)])) rfl rfl (hb hby dc8_21)
  refine og st13 ?_
  show oG p e below _ (T13.setTop (mkF m 24 #[.val .null, .val (.ref b1_0), .val (.int 4), .val (.int 2), .val (.ref o3)] [(.ref o7)]))
  refine og (fun _ hr => XS.aloadN X13.here hx rfl (hb hby dc8_24) rfl rfl hr) ?_
  show oG p e below _ (T13.setTop (mkF m 25 #[.val .null, .val (.ref b1_0), .val (.int 4), .val (.int 2), .val (.ref o3)] [.null, (.ref o7)]))
  have f15 := (P8.keep K1)
  refine own_cv X13 hx hZ hown (notFace_of_selects (args := #[]) (mvT hZ (hw _ (own_m 64 rfl)))) (hw _ (own_m 61 rfl)) (hw _ (own_m 62 rfl)) (hw _ (own_m 64 rfl)) (hw _ (own_m 63 rfl)) (hw _ (own_m 11 rfl)) (hw _ (own_m 65 rfl)) (by decide) f15 (rm := { frames := 0, cells := 0, slots := 0, locals := 0 }) (rm_equals_10 l Z a0 hw [] o7 T1.heap n0 Z6 ) (by decide) (W := 0) (by decide) (by decide) (by decide) e13 (by rw [hml]; rfl) (argsL := [.null]) (lenOf own_pd1 rfl) (rest := []) rfl rfl (Nat.le_of_eq rfl) (hb hby dc8_25) ?_
  intro _ T14 L14 X14 hQ14
  obtain ⟨rfl, N14q, e14⟩ := hQ14
  have N14 := Fr.app N10 N14q
  show oG p e below _ (T14.setTop (mkF m 28 #[.val .null, .val (.ref b1_0), .val (.int 4), .val (.int 2), .val (.ref o3)] [(.int 0)]))
  refine og (fun _ hr => XS.ifYes X14.here hx rfl (pc0 := 28) (pc' := 37) rfl (hb hby dc8_28) rfl ((if0 _ _).trans (teq (by decide)).1) (by decide) (by decide) (XS.iinc X14.here hx rfl (hb hby dc8_37) rfl (l' := #[.val .null, .val (.ref b1_0), .val (.int 4), .val (.int 3), .val (.ref o3)]) rfl (XS.goto X14.here hx rfl (pc0 := 40) (pc' := 9) rfl (hb hby dc8_40) (by decide) (by decide) (XS.iloadN X14.here hx rfl (hb hby dc8_9) rfl (XS.iloadN X14.here hx rfl (hb hby dc8_10) rfl (XS.icmpNo X14.here hx rfl (hb hby dc8_11) rfl (tlt (by decide)).2.1 (XS.aloadN X14.here hx rfl (hb hby dc8_14) rfl rfl (XS.iloadN X14.here hx rfl (hb hby dc8_15) rfl (own_aaload X14 hx hZ e14 f1_1 (3 : Int32) (.ref o4) ⟨by decide, by decide⟩ rfl rfl rfl rfl (hb hby dc8_16) (XS.astore X14.here hx rfl (hb hby dc8_17) rfl rfl (l' := #[.val .null, .val (.ref b1_0), .val (.int 4), .val (.int 3), .val (.ref o4)]) rfl (XS.aload X14.here hx rfl (hb hby dc8_19) rfl rfl hr))))))))))) ?_
  show oG p e below _ (T14.setTop (mkF m 21 #[.val .null, .val (.ref b1_0), .val (.int 4), .val (.int 3), .val (.ref o4)] [(.ref o4)]))
  have f16 := (P9.keep K1 nin0)
  obtain ⟨T17, X17, e17, st17⟩ := getF X14 hx hZ hown (host := "") (Or.inl (hw _ (own_m 59 rfl))) Via.refl e14 f16 (g := (mkF m 21 #[.val .null, .val (.ref b1_0), .val (.int 4), .val (.int 3), .val (.ref o4)] [(.ref o4)])) rfl rfl (hb hby dc8_21)
  refine og st17 ?_
  show oG p e below _ (T17.setTop (mkF m 24 #[.val .null, .val (.ref b1_0), .val (.int 4), .val (.int 3), .val (.ref o4)] [(.ref o8)]))
  refine og (fun _ hr => XS.aloadN X17.here hx rfl (hb hby dc8_24) rfl rfl hr) ?_
  show oG p e below _ (T17.setTop (mkF m 25 #[.val .null, .val (.ref b1_0), .val (.int 4), .val (.int 3), .val (.ref o4)] [.null, (.ref o8)]))
  have f19 := (P10.keep K1)
  refine own_cv X17 hx hZ hown (notFace_of_selects (args := #[]) (mvT hZ (hw _ (own_m 64 rfl)))) (hw _ (own_m 61 rfl)) (hw _ (own_m 62 rfl)) (hw _ (own_m 64 rfl)) (hw _ (own_m 63 rfl)) (hw _ (own_m 11 rfl)) (hw _ (own_m 65 rfl)) (by decide) f19 (rm := { frames := 0, cells := 0, slots := 0, locals := 0 }) (rm_equals_10 l Z a0 hw [] o8 T1.heap n0 Z6 ) (by decide) (W := 0) (by decide) (by decide) (by decide) e17 (by rw [hml]; rfl) (argsL := [.null]) (lenOf own_pd1 rfl) (rest := []) rfl rfl (Nat.le_of_eq rfl) (hb hby dc8_25) ?_
  intro _ T18 L18 X18 hQ18
  obtain ⟨rfl, N18q, e18⟩ := hQ18
  have N18 := Fr.app N14 N18q
  show oG p e below _ (T18.setTop (mkF m 28 #[.val .null, .val (.ref b1_0), .val (.int 4), .val (.int 3), .val (.ref o4)] [(.int 0)]))
  refine og (fun _ hr => XS.ifYes X18.here hx rfl (pc0 := 28) (pc' := 37) rfl (hb hby dc8_28) rfl ((if0 _ _).trans (teq (by decide)).1) (by decide) (by decide) (XS.iinc X18.here hx rfl (hb hby dc8_37) rfl (l' := #[.val .null, .val (.ref b1_0), .val (.int 4), .val (.int 4), .val (.ref o4)]) rfl (XS.goto X18.here hx rfl (pc0 := 40) (pc' := 9) rfl (hb hby dc8_40) (by decide) (by decide) (XS.iloadN X18.here hx rfl (hb hby dc8_9) rfl (XS.iloadN X18.here hx rfl (hb hby dc8_10) rfl (XS.icmpYes X18.here hx rfl (pc0 := 11) (pc' := 43) rfl (hb hby dc8_11) rfl (flt (by decide)).2.1 (by decide) (by decide) hr)))))) ?_
  show oG p e below _ (T18.setTop (mkF m 43 #[.val .null, .val (.ref b1_0), .val (.int 4), .val (.int 4), .val (.ref o4)] []))
  have f21 := (own_sta_keep P11 K1 all0)
  refine own_cs X18 hx hZ hown (hw _ (own_m 99 rfl)) (hw _ (own_m 100 rfl)) (hw _ (own_m 73 rfl)) (hw _ (own_m 101 rfl)) (by decide) (rm := { frames := 0, cells := 0, slots := 0, locals := 0 }) (rm_empty_1 l Z a0 hw [] o9 T1.heap n0 Z6 f21) (by decide) (W := 0) (by decide) (by decide) (by decide) e18 (by rw [hml]; rfl) (argsL := []) (lenOf own_pd3 rfl) (rest := []) rfl rfl (Nat.le_of_eq rfl) (hb hby dc8_43) ?_
  intro _ T20 L20 X20 hQ20
  obtain ⟨rfl, N20q, e20⟩ := hQ20
  have N20 := Fr.app N18 N20q
  show oG p e below _ (T20.setTop (mkF m 46 #[.val .null, .val (.ref b1_0), .val (.int 4), .val (.int 4), .val (.ref o4)] [(.ref o9)]))
  have K22 := (K0.trans K1 all0)
  exact own_retR X20 hx hlk Bd.returns rfl rfl (hb hby dc8_46) (by decide) (by decide) (by rw [e20]; exact ⟨rfl, N20, K22⟩)
def own_tx5 : List Int32 := []
theorem own_cod5 : StrChars.Road.CodA own_tx5 0 (0 : Int32) [] := Or.inl ⟨rfl, by decide +kernel, by first | rfl | decide +kernel | simp [own_tx5, StrChars.lo8], by decide +kernel⟩
theorem own_hb5 : ∀ c ∈ own_tx5, ¬ c < 0 ∧ ¬ (65535 : Int32) < c := by decide +kernel
theorem dc1_120 : decode method_2_code 120 = .ok (.bipush 7, 2) := by decide +kernel
theorem dc1_122 : decode method_2_code 122 = .ok (.newarray .char, 2) := by decide +kernel
theorem dc1_124 : decode method_2_code 124 = .ok (.dup, 1) := by decide +kernel
theorem dc1_125 : decode method_2_code 125 = .ok (.iconst 0, 1) := by decide +kernel
theorem dc1_126 : decode method_2_code 126 = .ok (.bipush 116, 2) := by decide +kernel
theorem dc1_128 : decode method_2_code 128 = .ok (.castore, 1) := by decide +kernel
theorem dc1_129 : decode method_2_code 129 = .ok (.dup, 1) := by decide +kernel
theorem dc1_130 : decode method_2_code 130 = .ok (.iconst 1, 1) := by decide +kernel
theorem dc1_131 : decode method_2_code 131 = .ok (.bipush 97, 2) := by decide +kernel
theorem dc1_133 : decode method_2_code 133 = .ok (.castore, 1) := by decide +kernel
theorem dc1_134 : decode method_2_code 134 = .ok (.dup, 1) := by decide +kernel
theorem dc1_135 : decode method_2_code 135 = .ok (.iconst 2, 1) := by decide +kernel
theorem dc1_136 : decode method_2_code 136 = .ok (.bipush 120, 2) := by decide +kernel
theorem dc1_138 : decode method_2_code 138 = .ok (.castore, 1) := by decide +kernel
theorem dc1_139 : decode method_2_code 139 = .ok (.dup, 1) := by decide +kernel
theorem dc1_140 : decode method_2_code 140 = .ok (.iconst 3, 1) := by decide +kernel
theorem dc1_141 : decode method_2_code 141 = .ok (.bipush 95, 2) := by decide +kernel
theorem dc1_143 : decode method_2_code 143 = .ok (.castore, 1) := by decide +kernel
theorem dc1_144 : decode method_2_code 144 = .ok (.dup, 1) := by decide +kernel
theorem dc1_145 : decode method_2_code 145 = .ok (.iconst 4, 1) := by decide +kernel
theorem dc1_146 : decode method_2_code 146 = .ok (.bipush 121, 2) := by decide +kernel
theorem dc1_148 : decode method_2_code 148 = .ok (.castore, 1) := by decide +kernel
theorem dc1_149 : decode method_2_code 149 = .ok (.dup, 1) := by decide +kernel
theorem dc1_150 : decode method_2_code 150 = .ok (.iconst 5, 1) := by decide +kernel
theorem dc1_151 : decode method_2_code 151 = .ok (.bipush 101, 2) := by decide +kernel
theorem dc1_153 : decode method_2_code 153 = .ok (.castore, 1) := by decide +kernel
theorem dc1_154 : decode method_2_code 154 = .ok (.dup, 1) := by decide +kernel
theorem dc1_155 : decode method_2_code 155 = .ok (.bipush 6, 2) := by decide +kernel
theorem dc1_157 : decode method_2_code 157 = .ok (.bipush 110, 2) := by decide +kernel
theorem dc1_159 : decode method_2_code 159 = .ok (.castore, 1) := by decide +kernel
theorem dc1_160 : decode method_2_code 160 = .ok (.areturn, 1) := by decide +kernel
def Q_exact_12 (Z : State) (h0 : Heap) (n0 : Nat) (v : Option Value) (h : Heap) (L : List Loc) : Prop := (∃ (b1 : Addr) (k1 : ClassId), v = some (.ref b1) ∧ Fr n0 L ∧ Keep h0 h [] ∧ n0 ≤ b1 ∧ h0.size ≤ b1 ∧ Exa Z h b1 "[C" ∧ Arv Z h b1 k1 .char (7 : Int32) [(.int 116), (.int 97), (.int 120), (.int 95), (.int 121), (.int 101), (.int 110)] (.int 0))
set_option maxRecDepth 65536 in
set_option maxHeartbeats 40000000 in
theorem rm_exact_12 (l : Launch) (Z : State) (a0 : Array Value) (hw : ∀ d ∈ tables_1, d.before a0 Z = true) (ws : List Jvm.Cond) (h0 : Heap) (n0 : Nat) (Z0 : n0 ≤ h0.size) :
    MetFree l (⟨"com/example/strict_tariff/stricttariff/pricing/ColumnNamedPinLaw", "exact", "(I)[C"⟩ : MethodName) (head1 (Jvm.Cond.code (⟨"com/example/strict_tariff/stricttariff/pricing/ColumnNamedPinLaw", "exact", "(I)[C"⟩ : MethodName) method_2_code 1 (some (.array .char)) :: ws) ({ frames := 0, cells := 1, slots := 7, locals := 0 } : Room)) (fun aA U => aA = #[(.int 2)] ∧ Z.Warmed39 U.vm ∧ U.heap = h0) (fun _ _ _ _ _ => True) (fun _ U o U' => ∃ v L, o = .returned v ∧ Q_exact_12 Z h0 n0 v U'.heap L ∧ FrameEnd U o U' L ({ frames := 0, cells := 1, slots := 7, locals := 0 } : Room).cells ({ frames := 0, cells := 1, slots := 7, locals := 0 } : Room).slots) := by
  refine MetFree.of_bodySF (plainFor_of_name own_pn_com_example_strict_tariff_stricttariff_pricing_ColumnNamedPinLaw) hisR ?_
  intro p e s m args below meth c s₁ Bd hml0 hP hK
  obtain ⟨rfl, hZ, hh⟩ := hP
  have hx := Bd.exec
  have hby := Bd.bytes
  have hlk : meth.locks = false := BodyLoose.notSynchronized Bd
  have hml : c.maxLocals = 1 := hml0
  have hown : s.vm.findClass "com/example/strict_tariff/stricttariff/pricing/ColumnNamedPinLaw" = some m.cls := findClass_of_methodNamed Bd.named
  have hnm := (name_of_methodNamed Bd.named Bd.method).1
  have X0 : Stand p l e ({ frames := 0, cells := 1, slots := 7, locals := 0 } : Room) s m #[(.int 2)] below meth c s₁ [] 0 0 := Stand.of_body Bd
  have e0 : s₁.heap = h0 := by rw [← hh, Bd.state]; rfl
  have N0 := Fr.nil n0
  have K0 : Keep h0 h0 [] := Keep.refl _ _
  show oG p e below (own_K s (Q_exact_12 Z h0 n0) ({ frames := 0, cells := 1, slots := 7, locals := 0 } : Room).cells ({ frames := 0, cells := 1, slots := 7, locals := 0 } : Room).slots) (s₁.setTop (entryFrame m #[(.int 2)] 1))
  rw [(by first | (simp [entryFrame, mkF, argsToLocals, Value.category]; done) | rfl : entryFrame m #[(.int 2)] 1 = mkF m 0 #[.val (.int 2)] [])]
  show oG p e below _ (s₁.setTop (mkF m 0 #[.val (.int 2)] []))
  refine og (fun _ hr => XS.iloadN X0.here hx rfl (hb hby dc1_0) rfl (XS.ifYes X0.here hx rfl (pc0 := 1) (pc' := 51) rfl (hb hby dc1_1) rfl ((if0 _ _).trans (feq (by decide)).2) (by decide) (by decide) (XS.iloadN X0.here hx rfl (hb hby dc1_51) rfl (XS.iconst X0.here hx rfl (hb hby dc1_52) (XS.icmpYes X0.here hx rfl (pc0 := 53) (pc' := 115) rfl (hb hby dc1_53) rfl (feq (by decide)).2 (by decide) (by decide) (XS.iloadN X0.here hx rfl (hb hby dc1_115) rfl (XS.iconst X0.here hx rfl (hb hby dc1_116) (XS.icmpNo X0.here hx rfl (hb hby dc1_117) rfl (teq (by decide)).2 (XS.bipush X0.here hx rfl (hb hby dc1_120) hr))))))))) ?_
  show oG p e below _ (s₁.setTop (mkF m 122 #[.val (.int 2)] [(.int 7)]))
  obtain ⟨T1, h1, k1, X1, e1, E1, A1, EA1, st1⟩ := newPE X0 hx hZ (hw _ (own_m 7 rfl)) e0 (g := (mkF m 122 #[.val (.int 2)] [(.int 7)])) rfl (hb hby dc1_122) rfl (by decide) (cap := 7) (by decide) (by decide) (by decide) (by decide) (ad := "[C") (by decide)
  obtain ⟨b1, g1⟩ : ∃ z, z = h0.size := ⟨_, rfl⟩
  rw [← g1] at A1 EA1 st1
  have ge2 : n0 ≤ b1 := Nat.le_trans Z0 (Nat.le_of_eq g1.symm)
  have sz3 : h0.size ≤ b1 := Nat.le_trans K0.1 (Nat.le_of_eq g1.symm)
  refine og st1 ?_
  have f4 : Arv Z h1 b1 k1 .char (7 : Int32) [(.int 0), (.int 0), (.int 0), (.int 0), (.int 0), (.int 0), (.int 0)] (.int 0) := (Arv.new A1 (by decide)).pad (pad_rep [] (.int 0) 7)
  show oG p e below _ (T1.setTop (mkF m 124 #[.val (.int 2)] [(.ref b1)]))
  refine og (fun _ hr => XS.dup X1.here hx rfl (hb hby dc1_124) rfl rfl (XS.iconst X1.here hx rfl (hb hby dc1_125) (XS.bipush X1.here hx rfl (hb hby dc1_126) hr))) ?_
  show oG p e below _ (T1.setTop (mkF m 128 #[.val (.int 2)] [(.int 116), (.int 0), (.ref b1), (.ref b1)]))
  refine own_stC X1 hx hZ e1 f4 (0 : Int32) (116 : Int32) (116 : Int32) 0 ⟨by decide, by decide⟩ rfl (Nat.le_of_ble_eq_true rfl) rfl [(.int 116), (.int 0), (.int 0), (.int 0), (.int 0), (.int 0), (.int 0)] rfl N0 ge2 (hb hby dc1_128) ?_
  intro T5 h5 L5 X5 e5 W5 N5 f5
  show oG p e below _ (T5.setTop (mkF m 129 #[.val (.int 2)] [(.ref b1)]))
  refine og (fun _ hr => XS.dup X5.here hx rfl (hb hby dc1_129) rfl rfl (XS.iconst X5.here hx rfl (hb hby dc1_130) (XS.bipush X5.here hx rfl (hb hby dc1_131) hr))) ?_
  show oG p e below _ (T5.setTop (mkF m 133 #[.val (.int 2)] [(.int 97), (.int 1), (.ref b1), (.ref b1)]))
  refine own_stC X5 hx hZ e5 f5 (1 : Int32) (97 : Int32) (97 : Int32) 1 ⟨by decide, by decide⟩ rfl (Nat.le_of_ble_eq_true rfl) rfl [(.int 116), (.int 97), (.int 0), (.int 0), (.int 0), (.int 0), (.int 0)] rfl N5 ge2 (hb hby dc1_133) ?_
  intro T6 h6 L6 X6 e6 W6 N6 f6
  show oG p e below _ (T6.setTop (mkF m 134 #[.val (.int 2)] [(.ref b1)]))
  refine og (fun _ hr => XS.dup X6.here hx rfl (hb hby dc1_134) rfl rfl (XS.iconst X6.here hx rfl (hb hby dc1_135) (XS.bipush X6.here hx rfl (hb hby dc1_136) hr))) ?_
  show oG p e below _ (T6.setTop (mkF m 138 #[.val (.int 2)] [(.int 120), (.int 2), (.ref b1), (.ref b1)]))
  refine own_stC X6 hx hZ e6 f6 (2 : Int32) (120 : Int32) (120 : Int32) 2 ⟨by decide, by decide⟩ rfl (Nat.le_of_ble_eq_true rfl) rfl [(.int 116), (.int 97), (.int 120), (.int 0), (.int 0), (.int 0), (.int 0)] rfl N6 ge2 (hb hby dc1_138) ?_
  intro T7 h7 L7 X7 e7 W7 N7 f7
  show oG p e below _ (T7.setTop (mkF m 139 #[.val (.int 2)] [(.ref b1)]))
  refine og (fun _ hr => XS.dup X7.here hx rfl (hb hby dc1_139) rfl rfl (XS.iconst X7.here hx rfl (hb hby dc1_140) (XS.bipush X7.here hx rfl (hb hby dc1_141) hr))) ?_
  show oG p e below _ (T7.setTop (mkF m 143 #[.val (.int 2)] [(.int 95), (.int 3), (.ref b1), (.ref b1)]))
  refine own_stC X7 hx hZ e7 f7 (3 : Int32) (95 : Int32) (95 : Int32) 3 ⟨by decide, by decide⟩ rfl (Nat.le_of_ble_eq_true rfl) rfl [(.int 116), (.int 97), (.int 120), (.int 95), (.int 0), (.int 0), (.int 0)] rfl N7 ge2 (hb hby dc1_143) ?_
  intro T8 h8 L8 X8 e8 W8 N8 f8
  show oG p e below _ (T8.setTop (mkF m 144 #[.val (.int 2)] [(.ref b1)]))
  refine og (fun _ hr => XS.dup X8.here hx rfl (hb hby dc1_144) rfl rfl (XS.iconst X8.here hx rfl (hb hby dc1_145) (XS.bipush X8.here hx rfl (hb hby dc1_146) hr))) ?_
  show oG p e below _ (T8.setTop (mkF m 148 #[.val (.int 2)] [(.int 121), (.int 4), (.ref b1), (.ref b1)]))
  refine own_stC X8 hx hZ e8 f8 (4 : Int32) (121 : Int32) (121 : Int32) 4 ⟨by decide, by decide⟩ rfl (Nat.le_of_ble_eq_true rfl) rfl [(.int 116), (.int 97), (.int 120), (.int 95), (.int 121), (.int 0), (.int 0)] rfl N8 ge2 (hb hby dc1_148) ?_
  intro T9 h9 L9 X9 e9 W9 N9 f9
  show oG p e below _ (T9.setTop (mkF m 149 #[.val (.int 2)] [(.ref b1)]))
  refine og (fun _ hr => XS.dup X9.here hx rfl (hb hby dc1_149) rfl rfl (XS.iconst X9.here hx rfl (hb hby dc1_150) (XS.bipush X9.here hx rfl (hb hby dc1_151) hr))) ?_
  show oG p e below _ (T9.setTop (mkF m 153 #[.val (.int 2)] [(.int 101), (.int 5), (.ref b1), (.ref b1)]))
  refine own_stC X9 hx hZ e9 f9 (5 : Int32) (101 : Int32) (101 : Int32) 5 ⟨by decide, by decide⟩ rfl (Nat.le_of_ble_eq_true rfl) rfl [(.int 116), (.int 97), (.int 120), (.int 95), (.int 121), (.int 101), (.int 0)] rfl N9 ge2 (hb hby dc1_153) ?_
  intro T10 h10 L10 X10 e10 W10 N10 f10
  show oG p e below _ (T10.setTop (mkF m 154 #[.val (.int 2)] [(.ref b1)]))
  refine og (fun _ hr => XS.dup X10.here hx rfl (hb hby dc1_154) rfl rfl (XS.bipush X10.here hx rfl (hb hby dc1_155) (XS.bipush X10.here hx rfl (hb hby dc1_157) hr))) ?_
  show oG p e below _ (T10.setTop (mkF m 159 #[.val (.int 2)] [(.int 110), (.int 6), (.ref b1), (.ref b1)]))
  refine own_stC X10 hx hZ e10 f10 (6 : Int32) (110 : Int32) (110 : Int32) 6 ⟨by decide, by decide⟩ rfl (Nat.le_of_ble_eq_true rfl) rfl [(.int 116), (.int 97), (.int 120), (.int 95), (.int 121), (.int 101), (.int 110)] rfl N10 ge2 (hb hby dc1_159) ?_
  intro T11 h11 L11 X11 e11 W11 N11 f11
  show oG p e below _ (T11.setTop (mkF m 160 #[.val (.int 2)] [(.ref b1)]))
  have f12 := (((((((EA1.wr W5).wr W6).wr W7).wr W8).wr W9).wr W10).wr W11)
  have K13 := ((((((((K0.ext E1).wr W5 (Or.inr sz3)).wr W6 (Or.inr sz3)).wr W7 (Or.inr sz3)).wr W8 (Or.inr sz3)).wr W9 (Or.inr sz3)).wr W10 (Or.inr sz3)).wr W11 (Or.inr sz3))
  exact own_retR X11 hx hlk Bd.returns rfl rfl (hb hby dc1_160) (by decide) (by decide) (by rw [e11]; exact ⟨b1, k1, rfl, N11, K13, ge2, sz3, f12, f11⟩)
theorem dc16_132 : decode method_3_code 132 = .ok (.bipush 8, 2) := by decide +kernel
theorem dc16_134 : decode method_3_code 134 = .ok (.newarray .char, 2) := by decide +kernel
theorem dc16_136 : decode method_3_code 136 = .ok (.dup, 1) := by decide +kernel
theorem dc16_137 : decode method_3_code 137 = .ok (.iconst 0, 1) := by decide +kernel
theorem dc16_138 : decode method_3_code 138 = .ok (.bipush 116, 2) := by decide +kernel
theorem dc16_140 : decode method_3_code 140 = .ok (.castore, 1) := by decide +kernel
theorem dc16_141 : decode method_3_code 141 = .ok (.dup, 1) := by decide +kernel
theorem dc16_142 : decode method_3_code 142 = .ok (.iconst 1, 1) := by decide +kernel
theorem dc16_143 : decode method_3_code 143 = .ok (.bipush 97, 2) := by decide +kernel
theorem dc16_145 : decode method_3_code 145 = .ok (.castore, 1) := by decide +kernel
theorem dc16_146 : decode method_3_code 146 = .ok (.dup, 1) := by decide +kernel
theorem dc16_147 : decode method_3_code 147 = .ok (.iconst 2, 1) := by decide +kernel
theorem dc16_148 : decode method_3_code 148 = .ok (.bipush 120, 2) := by decide +kernel
theorem dc16_150 : decode method_3_code 150 = .ok (.castore, 1) := by decide +kernel
theorem dc16_151 : decode method_3_code 151 = .ok (.dup, 1) := by decide +kernel
theorem dc16_152 : decode method_3_code 152 = .ok (.iconst 3, 1) := by decide +kernel
theorem dc16_153 : decode method_3_code 153 = .ok (.bipush 95, 2) := by decide +kernel
theorem dc16_155 : decode method_3_code 155 = .ok (.castore, 1) := by decide +kernel
theorem dc16_156 : decode method_3_code 156 = .ok (.dup, 1) := by decide +kernel
theorem dc16_157 : decode method_3_code 157 = .ok (.iconst 4, 1) := by decide +kernel
theorem dc16_158 : decode method_3_code 158 = .ok (.bipush 121, 2) := by decide +kernel
theorem dc16_160 : decode method_3_code 160 = .ok (.castore, 1) := by decide +kernel
theorem dc16_161 : decode method_3_code 161 = .ok (.dup, 1) := by decide +kernel
theorem dc16_162 : decode method_3_code 162 = .ok (.iconst 5, 1) := by decide +kernel
theorem dc16_163 : decode method_3_code 163 = .ok (.bipush 101, 2) := by decide +kernel
theorem dc16_165 : decode method_3_code 165 = .ok (.castore, 1) := by decide +kernel
theorem dc16_166 : decode method_3_code 166 = .ok (.dup, 1) := by decide +kernel
theorem dc16_167 : decode method_3_code 167 = .ok (.bipush 6, 2) := by decide +kernel
theorem dc16_169 : decode method_3_code 169 = .ok (.bipush 110, 2) := by decide +kernel
theorem dc16_171 : decode method_3_code 171 = .ok (.castore, 1) := by decide +kernel
theorem dc16_172 : decode method_3_code 172 = .ok (.dup, 1) := by decide +kernel
theorem dc16_173 : decode method_3_code 173 = .ok (.bipush 7, 2) := by decide +kernel
theorem dc16_175 : decode method_3_code 175 = .ok (.bipush 32, 2) := by decide +kernel
theorem dc16_177 : decode method_3_code 177 = .ok (.castore, 1) := by decide +kernel
theorem dc16_178 : decode method_3_code 178 = .ok (.areturn, 1) := by decide +kernel
def Q_longer_13 (Z : State) (h0 : Heap) (n0 : Nat) (v : Option Value) (h : Heap) (L : List Loc) : Prop := (∃ (b1 : Addr) (k1 : ClassId), v = some (.ref b1) ∧ Fr n0 L ∧ Keep h0 h [] ∧ n0 ≤ b1 ∧ h0.size ≤ b1 ∧ Exa Z h b1 "[C" ∧ Arv Z h b1 k1 .char (8 : Int32) [(.int 116), (.int 97), (.int 120), (.int 95), (.int 121), (.int 101), (.int 110), (.int 32)] (.int 0))
set_option maxRecDepth 65536 in
set_option maxHeartbeats 40000000 in
theorem rm_longer_13 (l : Launch) (Z : State) (a0 : Array Value) (hw : ∀ d ∈ tables_1, d.before a0 Z = true) (ws : List Jvm.Cond) (h0 : Heap) (n0 : Nat) (Z0 : n0 ≤ h0.size) :
    MetFree l (⟨"com/example/strict_tariff/stricttariff/pricing/ColumnNamedPinLaw", "longer", "(I)[C"⟩ : MethodName) (head1 (Jvm.Cond.code (⟨"com/example/strict_tariff/stricttariff/pricing/ColumnNamedPinLaw", "longer", "(I)[C"⟩ : MethodName) method_3_code 1 (some (.array .char)) :: ws) ({ frames := 0, cells := 1, slots := 8, locals := 0 } : Room)) (fun aA U => aA = #[(.int 2)] ∧ Z.Warmed39 U.vm ∧ U.heap = h0) (fun _ _ _ _ _ => True) (fun _ U o U' => ∃ v L, o = .returned v ∧ Q_longer_13 Z h0 n0 v U'.heap L ∧ FrameEnd U o U' L ({ frames := 0, cells := 1, slots := 8, locals := 0 } : Room).cells ({ frames := 0, cells := 1, slots := 8, locals := 0 } : Room).slots) := by
  refine MetFree.of_bodySF (plainFor_of_name own_pn_com_example_strict_tariff_stricttariff_pricing_ColumnNamedPinLaw) hisR ?_
  intro p e s m args below meth c s₁ Bd hml0 hP hK
  obtain ⟨rfl, hZ, hh⟩ := hP
  have hx := Bd.exec
  have hby := Bd.bytes
  have hlk : meth.locks = false := BodyLoose.notSynchronized Bd
  have hml : c.maxLocals = 1 := hml0
  have hown : s.vm.findClass "com/example/strict_tariff/stricttariff/pricing/ColumnNamedPinLaw" = some m.cls := findClass_of_methodNamed Bd.named
  have hnm := (name_of_methodNamed Bd.named Bd.method).1
  have X0 : Stand p l e ({ frames := 0, cells := 1, slots := 8, locals := 0 } : Room) s m #[(.int 2)] below meth c s₁ [] 0 0 := Stand.of_body Bd
  have e0 : s₁.heap = h0 := by rw [← hh, Bd.state]; rfl
  have N0 := Fr.nil n0
  have K0 : Keep h0 h0 [] := Keep.refl _ _
  show oG p e below (own_K s (Q_longer_13 Z h0 n0) ({ frames := 0, cells := 1, slots := 8, locals := 0 } : Room).cells ({ frames := 0, cells := 1, slots := 8, locals := 0 } : Room).slots) (s₁.setTop (entryFrame m #[(.int 2)] 1))
  rw [(by first | (simp [entryFrame, mkF, argsToLocals, Value.category]; done) | rfl : entryFrame m #[(.int 2)] 1 = mkF m 0 #[.val (.int 2)] [])]
  show oG p e below _ (s₁.setTop (mkF m 0 #[.val (.int 2)] []))
  refine og (fun _ hr => XS.iloadN X0.here hx rfl (hb hby dc16_0) rfl (XS.ifYes X0.here hx rfl (pc0 := 1) (pc' := 57) rfl (hb hby dc16_1) rfl ((if0 _ _).trans (feq (by decide)).2) (by decide) (by decide) (XS.iloadN X0.here hx rfl (hb hby dc16_57) rfl (XS.iconst X0.here hx rfl (hb hby dc16_58) (XS.icmpYes X0.here hx rfl (pc0 := 59) (pc' := 127) rfl (hb hby dc16_59) rfl (feq (by decide)).2 (by decide) (by decide) (XS.iloadN X0.here hx rfl (hb hby dc16_127) rfl (XS.iconst X0.here hx rfl (hb hby dc16_128) (XS.icmpNo X0.here hx rfl (hb hby dc16_129) rfl (teq (by decide)).2 (XS.bipush X0.here hx rfl (hb hby dc16_132) hr))))))))) ?_
  show oG p e below _ (s₁.setTop (mkF m 134 #[.val (.int 2)] [(.int 8)]))
  obtain ⟨T1, h1, k1, X1, e1, E1, A1, EA1, st1⟩ := newPE X0 hx hZ (hw _ (own_m 7 rfl)) e0 (g := (mkF m 134 #[.val (.int 2)] [(.int 8)])) rfl (hb hby dc16_134) rfl (by decide) (cap := 8) (by decide) (by decide) (by decide) (by decide) (ad := "[C") (by decide)
  obtain ⟨b1, g1⟩ : ∃ z, z = h0.size := ⟨_, rfl⟩
  rw [← g1] at A1 EA1 st1
  have ge2 : n0 ≤ b1 := Nat.le_trans Z0 (Nat.le_of_eq g1.symm)
  have sz3 : h0.size ≤ b1 := Nat.le_trans K0.1 (Nat.le_of_eq g1.symm)
  refine og st1 ?_
  have f4 : Arv Z h1 b1 k1 .char (8 : Int32) [(.int 0), (.int 0), (.int 0), (.int 0), (.int 0), (.int 0), (.int 0), (.int 0)] (.int 0) := (Arv.new A1 (by decide)).pad (pad_rep [] (.int 0) 8)
  show oG p e below _ (T1.setTop (mkF m 136 #[.val (.int 2)] [(.ref b1)]))
  refine og (fun _ hr => XS.dup X1.here hx rfl (hb hby dc16_136) rfl rfl (XS.iconst X1.here hx rfl (hb hby dc16_137) (XS.bipush X1.here hx rfl (hb hby dc16_138) hr))) ?_
  show oG p e below _ (T1.setTop (mkF m 140 #[.val (.int 2)] [(.int 116), (.int 0), (.ref b1), (.ref b1)]))
  refine own_stC X1 hx hZ e1 f4 (0 : Int32) (116 : Int32) (116 : Int32) 0 ⟨by decide, by decide⟩ rfl (Nat.le_of_ble_eq_true rfl) rfl [(.int 116), (.int 0), (.int 0), (.int 0), (.int 0), (.int 0), (.int 0), (.int 0)] rfl N0 ge2 (hb hby dc16_140) ?_
  intro T5 h5 L5 X5 e5 W5 N5 f5
  show oG p e below _ (T5.setTop (mkF m 141 #[.val (.int 2)] [(.ref b1)]))
  refine og (fun _ hr => XS.dup X5.here hx rfl (hb hby dc16_141) rfl rfl (XS.iconst X5.here hx rfl (hb hby dc16_142) (XS.bipush X5.here hx rfl (hb hby dc16_143) hr))) ?_
  show oG p e below _ (T5.setTop (mkF m 145 #[.val (.int 2)] [(.int 97), (.int 1), (.ref b1), (.ref b1)]))
  refine own_stC X5 hx hZ e5 f5 (1 : Int32) (97 : Int32) (97 : Int32) 1 ⟨by decide, by decide⟩ rfl (Nat.le_of_ble_eq_true rfl) rfl [(.int 116), (.int 97), (.int 0), (.int 0), (.int 0), (.int 0), (.int 0), (.int 0)] rfl N5 ge2 (hb hby dc16_145) ?_
  intro T6 h6 L6 X6 e6 W6 N6 f6
  show oG p e below _ (T6.setTop (mkF m 146 #[.val (.int 2)] [(.ref b1)]))
  refine og (fun _ hr => XS.dup X6.here hx rfl (hb hby dc16_146) rfl rfl (XS.iconst X6.here hx rfl (hb hby dc16_147) (XS.bipush X6.here hx rfl (hb hby dc16_148) hr))) ?_
  show oG p e below _ (T6.setTop (mkF m 150 #[.val (.int 2)] [(.int 120), (.int 2), (.ref b1), (.ref b1)]))
  refine own_stC X6 hx hZ e6 f6 (2 : Int32) (120 : Int32) (120 : Int32) 2 ⟨by decide, by decide⟩ rfl (Nat.le_of_ble_eq_true rfl) rfl [(.int 116), (.int 97), (.int 120), (.int 0), (.int 0), (.int 0), (.int 0), (.int 0)] rfl N6 ge2 (hb hby dc16_150) ?_
  intro T7 h7 L7 X7 e7 W7 N7 f7
  show oG p e below _ (T7.setTop (mkF m 151 #[.val (.int 2)] [(.ref b1)]))
  refine og (fun _ hr => XS.dup X7.here hx rfl (hb hby dc16_151) rfl rfl (XS.iconst X7.here hx rfl (hb hby dc16_152) (XS.bipush X7.here hx rfl (hb hby dc16_153) hr))) ?_
  show oG p e below _ (T7.setTop (mkF m 155 #[.val (.int 2)] [(.int 95), (.int 3), (.ref b1), (.ref b1)]))
  refine own_stC X7 hx hZ e7 f7 (3 : Int32) (95 : Int32) (95 : Int32) 3 ⟨by decide, by decide⟩ rfl (Nat.le_of_ble_eq_true rfl) rfl [(.int 116), (.int 97), (.int 120), (.int 95), (.int 0), (.int 0), (.int 0), (.int 0)] rfl N7 ge2 (hb hby dc16_155) ?_
  intro T8 h8 L8 X8 e8 W8 N8 f8
  show oG p e below _ (T8.setTop (mkF m 156 #[.val (.int 2)] [(.ref b1)]))
  refine og (fun _ hr => XS.dup X8.here hx rfl (hb hby dc16_156) rfl rfl (XS.iconst X8.here hx rfl (hb hby dc16_157) (XS.bipush X8.here hx rfl (hb hby dc16_158) hr))) ?_
  show oG p e below _ (T8.setTop (mkF m 160 #[.val (.int 2)] [(.int 121), (.int 4), (.ref b1), (.ref b1)]))
  refine own_stC X8 hx hZ e8 f8 (4 : Int32) (121 : Int32) (121 : Int32) 4 ⟨by decide, by decide⟩ rfl (Nat.le_of_ble_eq_true rfl) rfl [(.int 116), (.int 97), (.int 120), (.int 95), (.int 121), (.int 0), (.int 0), (.int 0)] rfl N8 ge2 (hb hby dc16_160) ?_
  intro T9 h9 L9 X9 e9 W9 N9 f9
  show oG p e below _ (T9.setTop (mkF m 161 #[.val (.int 2)] [(.ref b1)]))
  refine og (fun _ hr => XS.dup X9.here hx rfl (hb hby dc16_161) rfl rfl (XS.iconst X9.here hx rfl (hb hby dc16_162) (XS.bipush X9.here hx rfl (hb hby dc16_163) hr))) ?_
  show oG p e below _ (T9.setTop (mkF m 165 #[.val (.int 2)] [(.int 101), (.int 5), (.ref b1), (.ref b1)]))
  refine own_stC X9 hx hZ e9 f9 (5 : Int32) (101 : Int32) (101 : Int32) 5 ⟨by decide, by decide⟩ rfl (Nat.le_of_ble_eq_true rfl) rfl [(.int 116), (.int 97), (.int 120), (.int 95), (.int 121), (.int 101), (.int 0), (.int 0)] rfl N9 ge2 (hb hby dc16_165) ?_
  intro T10 h10 L10 X10 e10 W10 N10 f10
  show oG p e below _ (T10.setTop (mkF m 166 #[.val (.int 2)] [(.ref b1)]))
  refine og (fun _ hr => XS.dup X10.here hx rfl (hb hby dc16_166) rfl rfl (XS.bipush X10.here hx rfl (hb hby dc16_167) (XS.bipush X10.here hx rfl (hb hby dc16_169) hr))) ?_
  show oG p e below _ (T10.setTop (mkF m 171 #[.val (.int 2)] [(.int 110), (.int 6), (.ref b1), (.ref b1)]))
  refine own_stC X10 hx hZ e10 f10 (6 : Int32) (110 : Int32) (110 : Int32) 6 ⟨by decide, by decide⟩ rfl (Nat.le_of_ble_eq_true rfl) rfl [(.int 116), (.int 97), (.int 120), (.int 95), (.int 121), (.int 101), (.int 110), (.int 0)] rfl N10 ge2 (hb hby dc16_171) ?_
  intro T11 h11 L11 X11 e11 W11 N11 f11
  show oG p e below _ (T11.setTop (mkF m 172 #[.val (.int 2)] [(.ref b1)]))
  refine og (fun _ hr => XS.dup X11.here hx rfl (hb hby dc16_172) rfl rfl (XS.bipush X11.here hx rfl (hb hby dc16_173) (XS.bipush X11.here hx rfl (hb hby dc16_175) hr))) ?_
  show oG p e below _ (T11.setTop (mkF m 177 #[.val (.int 2)] [(.int 32), (.int 7), (.ref b1), (.ref b1)]))
  refine own_stC X11 hx hZ e11 f11 (7 : Int32) (32 : Int32) (32 : Int32) 7 ⟨by decide, by decide⟩ rfl (Nat.le_of_ble_eq_true rfl) rfl [(.int 116), (.int 97), (.int 120), (.int 95), (.int 121), (.int 101), (.int 110), (.int 32)] rfl N11 ge2 (hb hby dc16_177) ?_
  intro T12 h12 L12 X12 e12 W12 N12 f12
  show oG p e below _ (T12.setTop (mkF m 178 #[.val (.int 2)] [(.ref b1)]))
  have f13 := ((((((((EA1.wr W5).wr W6).wr W7).wr W8).wr W9).wr W10).wr W11).wr W12)
  have K14 := (((((((((K0.ext E1).wr W5 (Or.inr sz3)).wr W6 (Or.inr sz3)).wr W7 (Or.inr sz3)).wr W8 (Or.inr sz3)).wr W9 (Or.inr sz3)).wr W10 (Or.inr sz3)).wr W11 (Or.inr sz3)).wr W12 (Or.inr sz3))
  exact own_retR X12 hx hlk Bd.returns rfl rfl (hb hby dc16_178) (by decide) (by decide) (by rw [e12]; exact ⟨b1, k1, rfl, N12, K14, ge2, sz3, f13, f12⟩)
theorem dc18_20 : decode method_4_code 20 = .ok (.ldc 11, 2) := by decide +kernel
theorem dc18_22 : decode method_4_code 22 = .ok (.areturn, 1) := by decide +kernel
def Q_shorter_14 (Z : State) (h0 : Heap) (n0 : Nat) (v : Option Value) (h : Heap) (L : List Loc) : Prop := (∃ (a1 : Addr) (b1 : Addr) (k1 : ClassId), v = some (.ref a1) ∧ Fr n0 L ∧ Keep h0 h [] ∧ Exa Z h a1 "java/lang/String" ∧ Fld Z h a1 "java/lang/String" "coder" "B" (.int 0) ∧ Fld Z h a1 "java/lang/String" "value" "[B" (.ref b1) ∧ Arv Z h b1 k1 .byte (6 : Int32) [(.int 116), (.int 97), (.int 120), (.int 95), (.int 121), (.int 101)] (.int 0))
set_option maxRecDepth 65536 in
set_option maxHeartbeats 40000000 in
theorem rm_shorter_14 (l : Launch) (Z : State) (a0 : Array Value) (hw : ∀ d ∈ tables_1, d.before a0 Z = true) (ws : List Jvm.Cond) (h0 : Heap) (n0 : Nat) (Z0 : n0 ≤ h0.size) :
    MetFree l (⟨"com/example/strict_tariff/stricttariff/pricing/ColumnNamedPinLaw", "shorter", "(I)Ljava/lang/String;"⟩ : MethodName) (head1 (Jvm.Cond.code (⟨"com/example/strict_tariff/stricttariff/pricing/ColumnNamedPinLaw", "shorter", "(I)Ljava/lang/String;"⟩ : MethodName) method_4_code 1 (some (.object "java/lang/String")) :: ws) ({ frames := 0, cells := 2, slots := 28, locals := 0 } : Room)) (fun aA U => aA = #[(.int 2)] ∧ Z.Warmed39 U.vm ∧ U.heap = h0 ∧ CHv Z own_EL U.vm h0) (fun _ _ _ _ _ => True) (fun _ U o U' => ∃ v L, o = .returned v ∧ Q_shorter_14 Z h0 n0 v U'.heap L ∧ CHr Z own_EL U.vm U.heap U'.vm U'.heap ∧ ReturnedEndW U o U' L ({ frames := 0, cells := 2, slots := 28, locals := 0 } : Room).cells ({ frames := 0, cells := 2, slots := 28, locals := 0 } : Room).slots) := by
  refine MetFree.of_bodySF (plainFor_of_name own_pn_com_example_strict_tariff_stricttariff_pricing_ColumnNamedPinLaw) hisR ?_
  intro p e s m args below meth c s₁ Bd hml0 hP hK
  obtain ⟨rfl, hZ, hh, hC0⟩ := hP
  have hx := Bd.exec
  have hby := Bd.bytes
  have hlk : meth.locks = false := BodyLoose.notSynchronized Bd
  have hml : c.maxLocals = 1 := hml0
  have hown : s.vm.findClass "com/example/strict_tariff/stricttariff/pricing/ColumnNamedPinLaw" = some m.cls := findClass_of_methodNamed Bd.named
  have hnm := (name_of_methodNamed Bd.named Bd.method).1
  have X0 : Stand p l e ({ frames := 0, cells := 2, slots := 28, locals := 0 } : Room) (s.setVm s.vm) m #[(.int 2)] below meth c s₁ [] 0 0 := Stand.of_body Bd
  have e0 : s₁.heap = h0 := by rw [← hh, Bd.state]; rfl
  have N0 := Fr.nil n0
  have hS : s.Since s.vm 0 := (State.WarmedH.refl s).since 0
  have hk := Nat.zero_le h0.size
  have hEL : EW Z a0 own_EL := own_ew hw
  have A0 : CHr Z own_EL s.vm h0 s.vm h0 := CHr.refl hC0
  have K0 : Keep h0 h0 [] := Keep.refl _ _
  show oG p e below (own_KW Z own_EL s (Q_shorter_14 Z h0 n0) ({ frames := 0, cells := 2, slots := 28, locals := 0 } : Room).cells ({ frames := 0, cells := 2, slots := 28, locals := 0 } : Room).slots) (s₁.setTop (entryFrame m #[(.int 2)] 1))
  rw [(by first | (simp [entryFrame, mkF, argsToLocals, Value.category]; done) | rfl : entryFrame m #[(.int 2)] 1 = mkF m 0 #[.val (.int 2)] [])]
  show oG p e below _ (s₁.setTop (mkF m 0 #[.val (.int 2)] []))
  refine og (fun _ hr => XS.iloadN X0.here hx rfl (hb hby dc18_0) rfl (XS.ifYes X0.here hx rfl (pc0 := 1) (pc' := 7) rfl (hb hby dc18_1) rfl ((if0 _ _).trans (feq (by decide)).2) (by decide) (by decide) (XS.iloadN X0.here hx rfl (hb hby dc18_7) rfl (XS.iconst X0.here hx rfl (hb hby dc18_8) (XS.icmpYes X0.here hx rfl (pc0 := 9) (pc' := 15) rfl (hb hby dc18_9) rfl (feq (by decide)).2 (by decide) (by decide) (XS.iloadN X0.here hx rfl (hb hby dc18_15) rfl (XS.iconst X0.here hx rfl (hb hby dc18_16) (XS.icmpNo X0.here hx rfl (hb hby dc18_17) rfl (teq (by decide)).2 hr)))))))) ?_
  show oG p e below _ (s₁.setTop (mkF m 20 #[.val (.int 2)] []))
  have hZo2 := hZ
  obtain ⟨a1, T1, h1, k11, b1, k1, X1, e1, E1, hS, hk1, hZ, hown, EA1, FC1, FV1, AV1, -, -, Al1, -, ne1, st1⟩ := ldcCH X0 hx hZ hown (hw _ (own_m 111 rfl)) (own_ws hw) e0 hS hk hEL (by simp [own_EL]) A0.1 (vs := [(.int 116), (.int 97), (.int 120), (.int 95), (.int 121), (.int 101)]) (z := (6 : Int32)) ⟨by decide, by decide⟩ (by decide) (by decide) (g := (mkF m 20 #[.val (.int 2)] [])) rfl (hb hby dc18_20) (n := 24) (by decide) (by decide) (by decide) (by decide)
  refine og st1 ?_
  show oG p e below _ (T1.setTop (mkF m 22 #[.val (.int 2)] [(.ref a1)]))
  have K3 := (K0.ext E1)
  have A4 := A0.trans Al1
  exact own_retRW X1 hx hlk Bd.returns hS hk1 hZ hEL hh e1 A4 rfl rfl (hb hby dc18_22) (by decide) (by decide) (by rw [e1]; exact ⟨a1, b1, k1, rfl, N0, K3, EA1, FC1, FV1, AV1⟩)
def own_tx6 : List Int32 := [116, 97, 120, 95, 121, 101]
theorem own_cod6 : StrChars.Road.CodA own_tx6 0 (6 : Int32) [(.int 116), (.int 97), (.int 120), (.int 95), (.int 121), (.int 101)] := Or.inl ⟨rfl, by decide +kernel, by first | rfl | decide +kernel | simp [own_tx6, StrChars.lo8], by decide +kernel⟩
theorem own_hb6 : ∀ c ∈ own_tx6, ¬ c < 0 ∧ ¬ (65535 : Int32) < c := by decide +kernel
theorem dc1_56 : decode method_2_code 56 = .ok (.bipush 10, 2) := by decide +kernel
theorem dc1_58 : decode method_2_code 58 = .ok (.newarray .char, 2) := by decide +kernel
theorem dc1_60 : decode method_2_code 60 = .ok (.dup, 1) := by decide +kernel
theorem dc1_61 : decode method_2_code 61 = .ok (.iconst 0, 1) := by decide +kernel
theorem dc1_62 : decode method_2_code 62 = .ok (.bipush 99, 2) := by decide +kernel
theorem dc1_64 : decode method_2_code 64 = .ok (.castore, 1) := by decide +kernel
theorem dc1_65 : decode method_2_code 65 = .ok (.dup, 1) := by decide +kernel
theorem dc1_66 : decode method_2_code 66 = .ok (.iconst 1, 1) := by decide +kernel
theorem dc1_67 : decode method_2_code 67 = .ok (.bipush 104, 2) := by decide +kernel
theorem dc1_69 : decode method_2_code 69 = .ok (.castore, 1) := by decide +kernel
theorem dc1_70 : decode method_2_code 70 = .ok (.dup, 1) := by decide +kernel
theorem dc1_71 : decode method_2_code 71 = .ok (.iconst 2, 1) := by decide +kernel
theorem dc1_72 : decode method_2_code 72 = .ok (.bipush 97, 2) := by decide +kernel
theorem dc1_74 : decode method_2_code 74 = .ok (.castore, 1) := by decide +kernel
theorem dc1_75 : decode method_2_code 75 = .ok (.dup, 1) := by decide +kernel
theorem dc1_76 : decode method_2_code 76 = .ok (.iconst 3, 1) := by decide +kernel
theorem dc1_77 : decode method_2_code 77 = .ok (.bipush 114, 2) := by decide +kernel
theorem dc1_79 : decode method_2_code 79 = .ok (.castore, 1) := by decide +kernel
theorem dc1_80 : decode method_2_code 80 = .ok (.dup, 1) := by decide +kernel
theorem dc1_81 : decode method_2_code 81 = .ok (.iconst 4, 1) := by decide +kernel
theorem dc1_82 : decode method_2_code 82 = .ok (.bipush 103, 2) := by decide +kernel
theorem dc1_84 : decode method_2_code 84 = .ok (.castore, 1) := by decide +kernel
theorem dc1_85 : decode method_2_code 85 = .ok (.dup, 1) := by decide +kernel
theorem dc1_86 : decode method_2_code 86 = .ok (.iconst 5, 1) := by decide +kernel
theorem dc1_87 : decode method_2_code 87 = .ok (.bipush 101, 2) := by decide +kernel
theorem dc1_89 : decode method_2_code 89 = .ok (.castore, 1) := by decide +kernel
theorem dc1_90 : decode method_2_code 90 = .ok (.dup, 1) := by decide +kernel
theorem dc1_91 : decode method_2_code 91 = .ok (.bipush 6, 2) := by decide +kernel
theorem dc1_93 : decode method_2_code 93 = .ok (.bipush 95, 2) := by decide +kernel
theorem dc1_95 : decode method_2_code 95 = .ok (.castore, 1) := by decide +kernel
theorem dc1_96 : decode method_2_code 96 = .ok (.dup, 1) := by decide +kernel
theorem dc1_97 : decode method_2_code 97 = .ok (.bipush 7, 2) := by decide +kernel
theorem dc1_99 : decode method_2_code 99 = .ok (.bipush 121, 2) := by decide +kernel
theorem dc1_101 : decode method_2_code 101 = .ok (.castore, 1) := by decide +kernel
theorem dc1_102 : decode method_2_code 102 = .ok (.dup, 1) := by decide +kernel
theorem dc1_103 : decode method_2_code 103 = .ok (.bipush 8, 2) := by decide +kernel
theorem dc1_105 : decode method_2_code 105 = .ok (.bipush 101, 2) := by decide +kernel
theorem dc1_107 : decode method_2_code 107 = .ok (.castore, 1) := by decide +kernel
theorem dc1_108 : decode method_2_code 108 = .ok (.dup, 1) := by decide +kernel
theorem dc1_109 : decode method_2_code 109 = .ok (.bipush 9, 2) := by decide +kernel
theorem dc1_111 : decode method_2_code 111 = .ok (.bipush 110, 2) := by decide +kernel
theorem dc1_113 : decode method_2_code 113 = .ok (.castore, 1) := by decide +kernel
theorem dc1_114 : decode method_2_code 114 = .ok (.areturn, 1) := by decide +kernel
def Q_exact_15 (Z : State) (h0 : Heap) (n0 : Nat) (v : Option Value) (h : Heap) (L : List Loc) : Prop := (∃ (b1 : Addr) (k1 : ClassId), v = some (.ref b1) ∧ Fr n0 L ∧ Keep h0 h [] ∧ n0 ≤ b1 ∧ h0.size ≤ b1 ∧ Exa Z h b1 "[C" ∧ Arv Z h b1 k1 .char (10 : Int32) [(.int 99), (.int 104), (.int 97), (.int 114), (.int 103), (.int 101), (.int 95), (.int 121), (.int 101), (.int 110)] (.int 0))
set_option maxRecDepth 65536 in
set_option maxHeartbeats 40000000 in
theorem rm_exact_15 (l : Launch) (Z : State) (a0 : Array Value) (hw : ∀ d ∈ tables_1, d.before a0 Z = true) (ws : List Jvm.Cond) (h0 : Heap) (n0 : Nat) (Z0 : n0 ≤ h0.size) :
    MetFree l (⟨"com/example/strict_tariff/stricttariff/pricing/ColumnNamedPinLaw", "exact", "(I)[C"⟩ : MethodName) (head1 (Jvm.Cond.code (⟨"com/example/strict_tariff/stricttariff/pricing/ColumnNamedPinLaw", "exact", "(I)[C"⟩ : MethodName) method_2_code 1 (some (.array .char)) :: ws) ({ frames := 0, cells := 1, slots := 10, locals := 0 } : Room)) (fun aA U => aA = #[(.int 1)] ∧ Z.Warmed39 U.vm ∧ U.heap = h0) (fun _ _ _ _ _ => True) (fun _ U o U' => ∃ v L, o = .returned v ∧ Q_exact_15 Z h0 n0 v U'.heap L ∧ FrameEnd U o U' L ({ frames := 0, cells := 1, slots := 10, locals := 0 } : Room).cells ({ frames := 0, cells := 1, slots := 10, locals := 0 } : Room).slots) := by
  refine MetFree.of_bodySF (plainFor_of_name own_pn_com_example_strict_tariff_stricttariff_pricing_ColumnNamedPinLaw) hisR ?_
  intro p e s m args below meth c s₁ Bd hml0 hP hK
  obtain ⟨rfl, hZ, hh⟩ := hP
  have hx := Bd.exec
  have hby := Bd.bytes
  have hlk : meth.locks = false := BodyLoose.notSynchronized Bd
  have hml : c.maxLocals = 1 := hml0
  have hown : s.vm.findClass "com/example/strict_tariff/stricttariff/pricing/ColumnNamedPinLaw" = some m.cls := findClass_of_methodNamed Bd.named
  have hnm := (name_of_methodNamed Bd.named Bd.method).1
  have X0 : Stand p l e ({ frames := 0, cells := 1, slots := 10, locals := 0 } : Room) s m #[(.int 1)] below meth c s₁ [] 0 0 := Stand.of_body Bd
  have e0 : s₁.heap = h0 := by rw [← hh, Bd.state]; rfl
  have N0 := Fr.nil n0
  have K0 : Keep h0 h0 [] := Keep.refl _ _
  show oG p e below (own_K s (Q_exact_15 Z h0 n0) ({ frames := 0, cells := 1, slots := 10, locals := 0 } : Room).cells ({ frames := 0, cells := 1, slots := 10, locals := 0 } : Room).slots) (s₁.setTop (entryFrame m #[(.int 1)] 1))
  rw [(by first | (simp [entryFrame, mkF, argsToLocals, Value.category]; done) | rfl : entryFrame m #[(.int 1)] 1 = mkF m 0 #[.val (.int 1)] [])]
  show oG p e below _ (s₁.setTop (mkF m 0 #[.val (.int 1)] []))
  refine og (fun _ hr => XS.iloadN X0.here hx rfl (hb hby dc1_0) rfl (XS.ifYes X0.here hx rfl (pc0 := 1) (pc' := 51) rfl (hb hby dc1_1) rfl ((if0 _ _).trans (feq (by decide)).2) (by decide) (by decide) (XS.iloadN X0.here hx rfl (hb hby dc1_51) rfl (XS.iconst X0.here hx rfl (hb hby dc1_52) (XS.icmpNo X0.here hx rfl (hb hby dc1_53) rfl (teq (by decide)).2 (XS.bipush X0.here hx rfl (hb hby dc1_56) hr)))))) ?_
  show oG p e below _ (s₁.setTop (mkF m 58 #[.val (.int 1)] [(.int 10)]))
  obtain ⟨T1, h1, k1, X1, e1, E1, A1, EA1, st1⟩ := newPE X0 hx hZ (hw _ (own_m 7 rfl)) e0 (g := (mkF m 58 #[.val (.int 1)] [(.int 10)])) rfl (hb hby dc1_58) rfl (by decide) (cap := 10) (by decide) (by decide) (by decide) (by decide) (ad := "[C") (by decide)
  obtain ⟨b1, g1⟩ : ∃ z, z = h0.size := ⟨_, rfl⟩
  rw [← g1] at A1 EA1 st1
  have ge2 : n0 ≤ b1 := Nat.le_trans Z0 (Nat.le_of_eq g1.symm)
  have sz3 : h0.size ≤ b1 := Nat.le_trans K0.1 (Nat.le_of_eq g1.symm)
  refine og st1 ?_
  have f4 : Arv Z h1 b1 k1 .char (10 : Int32) [(.int 0), (.int 0), (.int 0), (.int 0), (.int 0), (.int 0), (.int 0), (.int 0), (.int 0), (.int 0)] (.int 0) := (Arv.new A1 (by decide)).pad (pad_rep [] (.int 0) 10)
  show oG p e below _ (T1.setTop (mkF m 60 #[.val (.int 1)] [(.ref b1)]))
  refine og (fun _ hr => XS.dup X1.here hx rfl (hb hby dc1_60) rfl rfl (XS.iconst X1.here hx rfl (hb hby dc1_61) (XS.bipush X1.here hx rfl (hb hby dc1_62) hr))) ?_
  show oG p e below _ (T1.setTop (mkF m 64 #[.val (.int 1)] [(.int 99), (.int 0), (.ref b1), (.ref b1)]))
  refine own_stC X1 hx hZ e1 f4 (0 : Int32) (99 : Int32) (99 : Int32) 0 ⟨by decide, by decide⟩ rfl (Nat.le_of_ble_eq_true rfl) rfl [(.int 99), (.int 0), (.int 0), (.int 0), (.int 0), (.int 0), (.int 0), (.int 0), (.int 0), (.int 0)] rfl N0 ge2 (hb hby dc1_64) ?_
  intro T5 h5 L5 X5 e5 W5 N5 f5
  show oG p e below _ (T5.setTop (mkF m 65 #[.val (.int 1)] [(.ref b1)]))
  refine og (fun _ hr => XS.dup X5.here hx rfl (hb hby dc1_65) rfl rfl (XS.iconst X5.here hx rfl (hb hby dc1_66) (XS.bipush X5.here hx rfl (hb hby dc1_67) hr))) ?_
  show oG p e below _ (T5.setTop (mkF m 69 #[.val (.int 1)] [(.int 104), (.int 1), (.ref b1), (.ref b1)]))
  refine own_stC X5 hx hZ e5 f5 (1 : Int32) (104 : Int32) (104 : Int32) 1 ⟨by decide, by decide⟩ rfl (Nat.le_of_ble_eq_true rfl) rfl [(.int 99), (.int 104), (.int 0), (.int 0), (.int 0), (.int 0), (.int 0), (.int 0), (.int 0), (.int 0)] rfl N5 ge2 (hb hby dc1_69) ?_
  intro T6 h6 L6 X6 e6 W6 N6 f6
  show oG p e below _ (T6.setTop (mkF m 70 #[.val (.int 1)] [(.ref b1)]))
  refine og (fun _ hr => XS.dup X6.here hx rfl (hb hby dc1_70) rfl rfl (XS.iconst X6.here hx rfl (hb hby dc1_71) (XS.bipush X6.here hx rfl (hb hby dc1_72) hr))) ?_
  show oG p e below _ (T6.setTop (mkF m 74 #[.val (.int 1)] [(.int 97), (.int 2), (.ref b1), (.ref b1)]))
  refine own_stC X6 hx hZ e6 f6 (2 : Int32) (97 : Int32) (97 : Int32) 2 ⟨by decide, by decide⟩ rfl (Nat.le_of_ble_eq_true rfl) rfl [(.int 99), (.int 104), (.int 97), (.int 0), (.int 0), (.int 0), (.int 0), (.int 0), (.int 0), (.int 0)] rfl N6 ge2 (hb hby dc1_74) ?_
  intro T7 h7 L7 X7 e7 W7 N7 f7
  show oG p e below _ (T7.setTop (mkF m 75 #[.val (.int 1)] [(.ref b1)]))
  refine og (fun _ hr => XS.dup X7.here hx rfl (hb hby dc1_75) rfl rfl (XS.iconst X7.here hx rfl (hb hby dc1_76) (XS.bipush X7.here hx rfl (hb hby dc1_77) hr))) ?_
  show oG p e below _ (T7.setTop (mkF m 79 #[.val (.int 1)] [(.int 114), (.int 3), (.ref b1), (.ref b1)]))
  refine own_stC X7 hx hZ e7 f7 (3 : Int32) (114 : Int32) (114 : Int32) 3 ⟨by decide, by decide⟩ rfl (Nat.le_of_ble_eq_true rfl) rfl [(.int 99), (.int 104), (.int 97), (.int 114), (.int 0), (.int 0), (.int 0), (.int 0), (.int 0), (.int 0)] rfl N7 ge2 (hb hby dc1_79) ?_
  intro T8 h8 L8 X8 e8 W8 N8 f8
  show oG p e below _ (T8.setTop (mkF m 80 #[.val (.int 1)] [(.ref b1)]))
  refine og (fun _ hr => XS.dup X8.here hx rfl (hb hby dc1_80) rfl rfl (XS.iconst X8.here hx rfl (hb hby dc1_81) (XS.bipush X8.here hx rfl (hb hby dc1_82) hr))) ?_
  show oG p e below _ (T8.setTop (mkF m 84 #[.val (.int 1)] [(.int 103), (.int 4), (.ref b1), (.ref b1)]))
  refine own_stC X8 hx hZ e8 f8 (4 : Int32) (103 : Int32) (103 : Int32) 4 ⟨by decide, by decide⟩ rfl (Nat.le_of_ble_eq_true rfl) rfl [(.int 99), (.int 104), (.int 97), (.int 114), (.int 103), (.int 0), (.int 0), (.int 0), (.int 0), (.int 0)] rfl N8 ge2 (hb hby dc1_84) ?_
  intro T9 h9 L9 X9 e9 W9 N9 f9
  show oG p e below _ (T9.setTop (mkF m 85 #[.val (.int 1)] [(.ref b1)]))
  refine og (fun _ hr => XS.dup X9.here hx rfl (hb hby dc1_85) rfl rfl (XS.iconst X9.here hx rfl (hb hby dc1_86) (XS.bipush X9.here hx rfl (hb hby dc1_87) hr))) ?_
  show oG p e below _ (T9.setTop (mkF m 89 #[.val (.int 1)] [(.int 101), (.int 5), (.ref b1), (.ref b1)]))
  refine own_stC X9 hx hZ e9 f9 (5 : Int32) (101 : Int32) (101 : Int32) 5 ⟨by decide, by decide⟩ rfl (Nat.le_of_ble_eq_true rfl) rfl [(.int 99), (.int 104), (.int 97), (.int 114), (.int 103), (.int 101), (.int 0), (.int 0), (.int 0), (.int 0)] rfl N9 ge2 (hb hby dc1_89) ?_
  intro T10 h10 L10 X10 e10 W10 N10 f10
  show oG p e below _ (T10.setTop (mkF m 90 #[.val (.int 1)] [(.ref b1)]))
  refine og (fun _ hr => XS.dup X10.here hx rfl (hb hby dc1_90) rfl rfl (XS.bipush X10.here hx rfl (hb hby dc1_91) (XS.bipush X10.here hx rfl (hb hby dc1_93) hr))) ?_
  show oG p e below _ (T10.setTop (mkF m 95 #[.val (.int 1)] [(.int 95), (.int 6), (.ref b1), (.ref b1)]))
  refine own_stC X10 hx hZ e10 f10 (6 : Int32) (95 : Int32) (95 : Int32) 6 ⟨by decide, by decide⟩ rfl (Nat.le_of_ble_eq_true rfl) rfl [(.int 99), (.int 104), (.int 97), (.int 114), (.int 103), (.int 101), (.int 95), (.int 0), (.int 0), (.int 0)] rfl N10 ge2 (hb hby dc1_95) ?_
  intro T11 h11 L11 X11 e11 W11 N11 f11
  show oG p e below _ (T11.setTop (mkF m 96 #[.val (.int 1)] [(.ref b1)]))
  refine og (fun _ hr => XS.dup X11.here hx rfl (hb hby dc1_96) rfl rfl (XS.bipush X11.here hx rfl (hb hby dc1_97) (XS.bipush X11.here hx rfl (hb hby dc1_99) hr))) ?_
  show oG p e below _ (T11.setTop (mkF m 101 #[.val (.int 1)] [(.int 121), (.int 7), (.ref b1), (.ref b1)]))
  refine own_stC X11 hx hZ e11 f11 (7 : Int32) (121 : Int32) (121 : Int32) 7 ⟨by decide, by decide⟩ rfl (Nat.le_of_ble_eq_true rfl) rfl [(.int 99), (.int 104), (.int 97), (.int 114), (.int 103), (.int 101), (.int 95), (.int 121), (.int 0), (.int 0)] rfl N11 ge2 (hb hby dc1_101) ?_
  intro T12 h12 L12 X12 e12 W12 N12 f12
  show oG p e below _ (T12.setTop (mkF m 102 #[.val (.int 1)] [(.ref b1)]))
  refine og (fun _ hr => XS.dup X12.here hx rfl (hb hby dc1_102) rfl rfl (XS.bipush X12.here hx rfl (hb hby dc1_103) (XS.bipush X12.here hx rfl (hb hby dc1_105) hr))) ?_
  show oG p e below _ (T12.setTop (mkF m 107 #[.val (.int 1)] [(.int 101), (.int 8), (.ref b1), (.ref b1)]))
  refine own_stC X12 hx hZ e12 f12 (8 : Int32) (101 : Int32) (101 : Int32) 8 ⟨by decide, by decide⟩ rfl (Nat.le_of_ble_eq_true rfl) rfl [(.int 99), (.int 104), (.int 97), (.int 114), (.int 103), (.int 101), (.int 95), (.int 121), (.int 101), (.int 0)] rfl N12 ge2 (hb hby dc1_107) ?_
  intro T13 h13 L13 X13 e13 W13 N13 f13
  show oG p e below _ (T13.setTop (mkF m 108 #[.val (.int 1)] [(.ref b1)]))
  refine og (fun _ hr => XS.dup X13.here hx rfl (hb hby dc1_108) rfl rfl (XS.bipush X13.here hx rfl (hb hby dc1_109) (XS.bipush X13.here hx rfl (hb hby dc1_111) hr))) ?_
  show oG p e below _ (T13.setTop (mkF m 113 #[.val (.int 1)] [(.int 110), (.int 9), (.ref b1), (.ref b1)]))
  refine own_stC X13 hx hZ e13 f13 (9 : Int32) (110 : Int32) (110 : Int32) 9 ⟨by decide, by decide⟩ rfl (Nat.le_of_ble_eq_true rfl) rfl [(.int 99), (.int 104), (.int 97), (.int 114), (.int 103), (.int 101), (.int 95), (.int 121), (.int 101), (.int 110)] rfl N13 ge2 (hb hby dc1_113) ?_
  intro T14 h14 L14 X14 e14 W14 N14 f14
  show oG p e below _ (T14.setTop (mkF m 114 #[.val (.int 1)] [(.ref b1)]))
  have f15 := ((((((((((EA1.wr W5).wr W6).wr W7).wr W8).wr W9).wr W10).wr W11).wr W12).wr W13).wr W14)
  have K16 := (((((((((((K0.ext E1).wr W5 (Or.inr sz3)).wr W6 (Or.inr sz3)).wr W7 (Or.inr sz3)).wr W8 (Or.inr sz3)).wr W9 (Or.inr sz3)).wr W10 (Or.inr sz3)).wr W11 (Or.inr sz3)).wr W12 (Or.inr sz3)).wr W13 (Or.inr sz3)).wr W14 (Or.inr sz3))
  exact own_retR X14 hx hlk Bd.returns rfl rfl (hb hby dc1_114) (by decide) (by decide) (by rw [e14]; exact ⟨b1, k1, rfl, N14, K16, ge2, sz3, f15, f14⟩)
theorem dc16_62 : decode method_3_code 62 = .ok (.bipush 11, 2) := by decide +kernel
theorem dc16_64 : decode method_3_code 64 = .ok (.newarray .char, 2) := by decide +kernel
theorem dc16_66 : decode method_3_code 66 = .ok (.dup, 1) := by decide +kernel
theorem dc16_67 : decode method_3_code 67 = .ok (.iconst 0, 1) := by decide +kernel
theorem dc16_68 : decode method_3_code 68 = .ok (.bipush 99, 2) := by decide +kernel
theorem dc16_70 : decode method_3_code 70 = .ok (.castore, 1) := by decide +kernel
theorem dc16_71 : decode method_3_code 71 = .ok (.dup, 1) := by decide +kernel
theorem dc16_72 : decode method_3_code 72 = .ok (.iconst 1, 1) := by decide +kernel
theorem dc16_73 : decode method_3_code 73 = .ok (.bipush 104, 2) := by decide +kernel
theorem dc16_75 : decode method_3_code 75 = .ok (.castore, 1) := by decide +kernel
theorem dc16_76 : decode method_3_code 76 = .ok (.dup, 1) := by decide +kernel
theorem dc16_77 : decode method_3_code 77 = .ok (.iconst 2, 1) := by decide +kernel
theorem dc16_78 : decode method_3_code 78 = .ok (.bipush 97, 2) := by decide +kernel
theorem dc16_80 : decode method_3_code 80 = .ok (.castore, 1) := by decide +kernel
theorem dc16_81 : decode method_3_code 81 = .ok (.dup, 1) := by decide +kernel
theorem dc16_82 : decode method_3_code 82 = .ok (.iconst 3, 1) := by decide +kernel
theorem dc16_83 : decode method_3_code 83 = .ok (.bipush 114, 2) := by decide +kernel
theorem dc16_85 : decode method_3_code 85 = .ok (.castore, 1) := by decide +kernel
theorem dc16_86 : decode method_3_code 86 = .ok (.dup, 1) := by decide +kernel
theorem dc16_87 : decode method_3_code 87 = .ok (.iconst 4, 1) := by decide +kernel
theorem dc16_88 : decode method_3_code 88 = .ok (.bipush 103, 2) := by decide +kernel
theorem dc16_90 : decode method_3_code 90 = .ok (.castore, 1) := by decide +kernel
theorem dc16_91 : decode method_3_code 91 = .ok (.dup, 1) := by decide +kernel
theorem dc16_92 : decode method_3_code 92 = .ok (.iconst 5, 1) := by decide +kernel
theorem dc16_93 : decode method_3_code 93 = .ok (.bipush 101, 2) := by decide +kernel
theorem dc16_95 : decode method_3_code 95 = .ok (.castore, 1) := by decide +kernel
theorem dc16_96 : decode method_3_code 96 = .ok (.dup, 1) := by decide +kernel
theorem dc16_97 : decode method_3_code 97 = .ok (.bipush 6, 2) := by decide +kernel
theorem dc16_99 : decode method_3_code 99 = .ok (.bipush 95, 2) := by decide +kernel
theorem dc16_101 : decode method_3_code 101 = .ok (.castore, 1) := by decide +kernel
theorem dc16_102 : decode method_3_code 102 = .ok (.dup, 1) := by decide +kernel
theorem dc16_103 : decode method_3_code 103 = .ok (.bipush 7, 2) := by decide +kernel
theorem dc16_105 : decode method_3_code 105 = .ok (.bipush 121, 2) := by decide +kernel
theorem dc16_107 : decode method_3_code 107 = .ok (.castore, 1) := by decide +kernel
theorem dc16_108 : decode method_3_code 108 = .ok (.dup, 1) := by decide +kernel
theorem dc16_109 : decode method_3_code 109 = .ok (.bipush 8, 2) := by decide +kernel
theorem dc16_111 : decode method_3_code 111 = .ok (.bipush 101, 2) := by decide +kernel
theorem dc16_113 : decode method_3_code 113 = .ok (.castore, 1) := by decide +kernel
theorem dc16_114 : decode method_3_code 114 = .ok (.dup, 1) := by decide +kernel
theorem dc16_115 : decode method_3_code 115 = .ok (.bipush 9, 2) := by decide +kernel
theorem dc16_117 : decode method_3_code 117 = .ok (.bipush 110, 2) := by decide +kernel
theorem dc16_119 : decode method_3_code 119 = .ok (.castore, 1) := by decide +kernel
theorem dc16_120 : decode method_3_code 120 = .ok (.dup, 1) := by decide +kernel
theorem dc16_121 : decode method_3_code 121 = .ok (.bipush 10, 2) := by decide +kernel
theorem dc16_123 : decode method_3_code 123 = .ok (.bipush 32, 2) := by decide +kernel
theorem dc16_125 : decode method_3_code 125 = .ok (.castore, 1) := by decide +kernel
theorem dc16_126 : decode method_3_code 126 = .ok (.areturn, 1) := by decide +kernel
def Q_longer_16 (Z : State) (h0 : Heap) (n0 : Nat) (v : Option Value) (h : Heap) (L : List Loc) : Prop := (∃ (b1 : Addr) (k1 : ClassId), v = some (.ref b1) ∧ Fr n0 L ∧ Keep h0 h [] ∧ n0 ≤ b1 ∧ h0.size ≤ b1 ∧ Exa Z h b1 "[C" ∧ Arv Z h b1 k1 .char (11 : Int32) [(.int 99), (.int 104), (.int 97), (.int 114), (.int 103), (.int 101), (.int 95), (.int 121), (.int 101), (.int 110), (.int 32)] (.int 0))
set_option maxRecDepth 65536 in
set_option maxHeartbeats 40000000 in
theorem rm_longer_16 (l : Launch) (Z : State) (a0 : Array Value) (hw : ∀ d ∈ tables_1, d.before a0 Z = true) (ws : List Jvm.Cond) (h0 : Heap) (n0 : Nat) (Z0 : n0 ≤ h0.size) :
    MetFree l (⟨"com/example/strict_tariff/stricttariff/pricing/ColumnNamedPinLaw", "longer", "(I)[C"⟩ : MethodName) (head1 (Jvm.Cond.code (⟨"com/example/strict_tariff/stricttariff/pricing/ColumnNamedPinLaw", "longer", "(I)[C"⟩ : MethodName) method_3_code 1 (some (.array .char)) :: ws) ({ frames := 0, cells := 1, slots := 11, locals := 0 } : Room)) (fun aA U => aA = #[(.int 1)] ∧ Z.Warmed39 U.vm ∧ U.heap = h0) (fun _ _ _ _ _ => True) (fun _ U o U' => ∃ v L, o = .returned v ∧ Q_longer_16 Z h0 n0 v U'.heap L ∧ FrameEnd U o U' L ({ frames := 0, cells := 1, slots := 11, locals := 0 } : Room).cells ({ frames := 0, cells := 1, slots := 11, locals := 0 } : Room).slots) := by
  refine MetFree.of_bodySF (plainFor_of_name own_pn_com_example_strict_tariff_stricttariff_pricing_ColumnNamedPinLaw) hisR ?_
  intro p e s m args below meth c s₁ Bd hml0 hP hK
  obtain ⟨rfl, hZ, hh⟩ := hP
  have hx := Bd.exec
  have hby := Bd.bytes
  have hlk : meth.locks = false := BodyLoose.notSynchronized Bd
  have hml : c.maxLocals = 1 := hml0
  have hown : s.vm.findClass "com/example/strict_tariff/stricttariff/pricing/ColumnNamedPinLaw" = some m.cls := findClass_of_methodNamed Bd.named
  have hnm := (name_of_methodNamed Bd.named Bd.method).1
  have X0 : Stand p l e ({ frames := 0, cells := 1, slots := 11, locals := 0 } : Room) s m #[(.int 1)] below meth c s₁ [] 0 0 := Stand.of_body Bd
  have e0 : s₁.heap = h0 := by rw [← hh, Bd.state]; rfl
  have N0 := Fr.nil n0
  have K0 : Keep h0 h0 [] := Keep.refl _ _
  show oG p e below (own_K s (Q_longer_16 Z h0 n0) ({ frames := 0, cells := 1, slots := 11, locals := 0 } : Room).cells ({ frames := 0, cells := 1, slots := 11, locals := 0 } : Room).slots) (s₁.setTop (entryFrame m #[(.int 1)] 1))
  rw [(by first | (simp [entryFrame, mkF, argsToLocals, Value.category]; done) | rfl : entryFrame m #[(.int 1)] 1 = mkF m 0 #[.val (.int 1)] [])]
  show oG p e below _ (s₁.setTop (mkF m 0 #[.val (.int 1)] []))
  refine og (fun _ hr => XS.iloadN X0.here hx rfl (hb hby dc16_0) rfl (XS.ifYes X0.here hx rfl (pc0 := 1) (pc' := 57) rfl (hb hby dc16_1) rfl ((if0 _ _).trans (feq (by decide)).2) (by decide) (by decide) (XS.iloadN X0.here hx rfl (hb hby dc16_57) rfl (XS.iconst X0.here hx rfl (hb hby dc16_58) (XS.icmpNo X0.here hx rfl (hb hby dc16_59) rfl (teq (by decide)).2 (XS.bipush X0.here hx rfl (hb hby dc16_62) hr)))))) ?_
  show oG p e below _ (s₁.setTop (mkF m 64 #[.val (.int 1)] [(.int 11)]))
  obtain ⟨T1, h1, k1, X1, e1, E1, A1, EA1, st1⟩ := newPE X0 hx hZ (hw _ (own_m 7 rfl)) e0 (g := (mkF m 64 #[.val (.int 1)] [(.int 11)])) rfl (hb hby dc16_64) rfl (by decide) (cap := 11) (by decide) (by decide) (by decide) (by decide) (ad := "[C") (by decide)
  obtain ⟨b1, g1⟩ : ∃ z, z = h0.size := ⟨_, rfl⟩
  rw [← g1] at A1 EA1 st1
  have ge2 : n0 ≤ b1 := Nat.le_trans Z0 (Nat.le_of_eq g1.symm)
  have sz3 : h0.size ≤ b1 := Nat.le_trans K0.1 (Nat.le_of_eq g1.symm)
  refine og st1 ?_
  have f4 : Arv Z h1 b1 k1 .char (11 : Int32) [(.int 0), (.int 0), (.int 0), (.int 0), (.int 0), (.int 0), (.int 0), (.int 0), (.int 0), (.int 0), (.int 0)] (.int 0) := (Arv.new A1 (by decide)).pad (pad_rep [] (.int 0) 11)
  show oG p e below _ (T1.setTop (mkF m 66 #[.val (.int 1)] [(.ref b1)]))
  refine og (fun _ hr => XS.dup X1.here hx rfl (hb hby dc16_66) rfl rfl (XS.iconst X1.here hx rfl (hb hby dc16_67) (XS.bipush X1.here hx rfl (hb hby dc16_68) hr))) ?_
  show oG p e below _ (T1.setTop (mkF m 70 #[.val (.int 1)] [(.int 99), (.int 0), (.ref b1), (.ref b1)]))
  refine own_stC X1 hx hZ e1 f4 (0 : Int32) (99 : Int32) (99 : Int32) 0 ⟨by decide, by decide⟩ rfl (Nat.le_of_ble_eq_true rfl) rfl [(.int 99), (.int 0), (.int 0), (.int 0), (.int 0), (.int 0), (.int 0), (.int 0), (.int 0), (.int 0), (.int 0)] rfl N0 ge2 (hb hby dc16_70) ?_
  intro T5 h5 L5 X5 e5 W5 N5 f5
  show oG p e below _ (T5.setTop (mkF m 71 #[.val (.int 1)] [(.ref b1)]))
  refine og (fun _ hr => XS.dup X5.here hx rfl (hb hby dc16_71) rfl rfl (XS.iconst X5.here hx rfl (hb hby dc16_72) (XS.bipush X5.here hx rfl (hb hby dc16_73) hr))) ?_
  show oG p e below _ (T5.setTop (mkF m 75 #[.val (.int 1)] [(.int 104), (.int 1), (.ref b1), (.ref b1)]))
  refine own_stC X5 hx hZ e5 f5 (1 : Int32) (104 : Int32) (104 : Int32) 1 ⟨by decide, by decide⟩ rfl (Nat.le_of_ble_eq_true rfl) rfl [(.int 99), (.int 104), (.int 0), (.int 0), (.int 0), (.int 0), (.int 0), (.int 0), (.int 0), (.int 0), (.int 0)] rfl N5 ge2 (hb hby dc16_75) ?_
  intro T6 h6 L6 X6 e6 W6 N6 f6
  show oG p e below _ (T6.setTop (mkF m 76 #[.val (.int 1)] [(.ref b1)]))
  refine og (fun _ hr => XS.dup X6.here hx rfl (hb hby dc16_76) rfl rfl (XS.iconst X6.here hx rfl (hb hby dc16_77) (XS.bipush X6.here hx rfl (hb hby dc16_78) hr))) ?_
  show oG p e below _ (T6.setTop (mkF m 80 #[.val (.int 1)] [(.int 97), (.int 2), (.ref b1), (.ref b1)]))
  refine own_stC X6 hx hZ e6 f6 (2 : Int32) (97 : Int32) (97 : Int32) 2 ⟨by decide, by decide⟩ rfl (Nat.le_of_ble_eq_true rfl) rfl [(.int 99), (.int 104), (.int 97), (.int 0), (.int 0), (.int 0), (.int 0), (.int 0), (.int 0), (.int 0), (.int 0)] rfl N6 ge2 (hb hby dc16_80) ?_
  intro T7 h7 L7 X7 e7 W7 N7 f7
  show oG p e below _ (T7.setTop (mkF m 81 #[.val (.int 1)] [(.ref b1)]))
  refine og (fun _ hr => XS.dup X7.here hx rfl (hb hby dc16_81) rfl rfl (XS.iconst X7.here hx rfl (hb hby dc16_82) (XS.bipush X7.here hx rfl (hb hby dc16_83) hr))) ?_
  show oG p e below _ (T7.setTop (mkF m 85 #[.val (.int 1)] [(.int 114), (.int 3), (.ref b1), (.ref b1)]))
  refine own_stC X7 hx hZ e7 f7 (3 : Int32) (114 : Int32) (114 : Int32) 3 ⟨by decide, by decide⟩ rfl (Nat.le_of_ble_eq_true rfl) rfl [(.int 99), (.int 104), (.int 97), (.int 114), (.int 0), (.int 0), (.int 0), (.int 0), (.int 0), (.int 0), (.int 0)] rfl N7 ge2 (hb hby dc16_85) ?_
  intro T8 h8 L8 X8 e8 W8 N8 f8
  show oG p e below _ (T8.setTop (mkF m 86 #[.val (.int 1)] [(.ref b1)]))
  refine og (fun _ hr => XS.dup X8.here hx rfl (hb hby dc16_86) rfl rfl (XS.iconst X8.here hx rfl (hb hby dc16_87) (XS.bipush X8.here hx rfl (hb hby dc16_88) hr))) ?_
  show oG p e below _ (T8.setTop (mkF m 90 #[.val (.int 1)] [(.int 103), (.int 4), (.ref b1), (.ref b1)]))
  refine own_stC X8 hx hZ e8 f8 (4 : Int32) (103 : Int32) (103 : Int32) 4 ⟨by decide, by decide⟩ rfl (Nat.le_of_ble_eq_true rfl) rfl [(.int 99), (.int 104), (.int 97), (.int 114), (.int 103), (.int 0), (.int 0), (.int 0), (.int 0), (.int 0), (.int 0)] rfl N8 ge2 (hb hby dc16_90) ?_
  intro T9 h9 L9 X9 e9 W9 N9 f9
  show oG p e below _ (T9.setTop (mkF m 91 #[.val (.int 1)] [(.ref b1)]))
  refine og (fun _ hr => XS.dup X9.here hx rfl (hb hby dc16_91) rfl rfl (XS.iconst X9.here hx rfl (hb hby dc16_92) (XS.bipush X9.here hx rfl (hb hby dc16_93) hr))) ?_
  show oG p e below _ (T9.setTop (mkF m 95 #[.val (.int 1)] [(.int 101), (.int 5), (.ref b1), (.ref b1)]))
  refine own_stC X9 hx hZ e9 f9 (5 : Int32) (101 : Int32) (101 : Int32) 5 ⟨by decide, by decide⟩ rfl (Nat.le_of_ble_eq_true rfl) rfl [(.int 99), (.int 104), (.int 97), (.int 114), (.int 103), (.int 101), (.int 0), (.int 0), (.int 0), (.int 0), (.int 0)] rfl N9 ge2 (hb hby dc16_95) ?_
  intro T10 h10 L10 X10 e10 W10 N10 f10
  show oG p e below _ (T10.setTop (mkF m 96 #[.val (.int 1)] [(.ref b1)]))
  refine og (fun _ hr => XS.dup X10.here hx rfl (hb hby dc16_96) rfl rfl (XS.bipush X10.here hx rfl (hb hby dc16_97) (XS.bipush X10.here hx rfl (hb hby dc16_99) hr))) ?_
  show oG p e below _ (T10.setTop (mkF m 101 #[.val (.int 1)] [(.int 95), (.int 6), (.ref b1), (.ref b1)]))
  refine own_stC X10 hx hZ e10 f10 (6 : Int32) (95 : Int32) (95 : Int32) 6 ⟨by decide, by decide⟩ rfl (Nat.le_of_ble_eq_true rfl) rfl [(.int 99), (.int 104), (.int 97), (.int 114), (.int 103), (.int 101), (.int 95), (.int 0), (.int 0), (.int 0), (.int 0)] rfl N10 ge2 (hb hby dc16_101) ?_
  intro T11 h11 L11 X11 e11 W11 N11 f11
  show oG p e below _ (T11.setTop (mkF m 102 #[.val (.int 1)] [(.ref b1)]))
  refine og (fun _ hr => XS.dup X11.here hx rfl (hb hby dc16_102) rfl rfl (XS.bipush X11.here hx rfl (hb hby dc16_103) (XS.bipush X11.here hx rfl (hb hby dc16_105) hr))) ?_
  show oG p e below _ (T11.setTop (mkF m 107 #[.val (.int 1)] [(.int 121), (.int 7), (.ref b1), (.ref b1)]))
  refine own_stC X11 hx hZ e11 f11 (7 : Int32) (121 : Int32) (121 : Int32) 7 ⟨by decide, by decide⟩ rfl (Nat.le_of_ble_eq_true rfl) rfl [(.int 99), (.int 104), (.int 97), (.int 114), (.int 103), (.int 101), (.int 95), (.int 121), (.int 0), (.int 0), (.int 0)] rfl N11 ge2 (hb hby dc16_107) ?_
  intro T12 h12 L12 X12 e12 W12 N12 f12
  show oG p e below _ (T12.setTop (mkF m 108 #[.val (.int 1)] [(.ref b1)]))
  refine og (fun _ hr => XS.dup X12.here hx rfl (hb hby dc16_108) rfl rfl (XS.bipush X12.here hx rfl (hb hby dc16_109) (XS.bipush X12.here hx rfl (hb hby dc16_111) hr))) ?_
  show oG p e below _ (T12.setTop (mkF m 113 #[.val (.int 1)] [(.int 101), (.int 8), (.ref b1), (.ref b1)]))
  refine own_stC X12 hx hZ e12 f12 (8 : Int32) (101 : Int32) (101 : Int32) 8 ⟨by decide, by decide⟩ rfl (Nat.le_of_ble_eq_true rfl) rfl [(.int 99), (.int 104), (.int 97), (.int 114), (.int 103), (.int 101), (.int 95), (.int 121), (.int 101), (.int 0), (.int 0)] rfl N12 ge2 (hb hby dc16_113) ?_
  intro T13 h13 L13 X13 e13 W13 N13 f13
  show oG p e below _ (T13.setTop (mkF m 114 #[.val (.int 1)] [(.ref b1)]))
  refine og (fun _ hr => XS.dup X13.here hx rfl (hb hby dc16_114) rfl rfl (XS.bipush X13.here hx rfl (hb hby dc16_115) (XS.bipush X13.here hx rfl (hb hby dc16_117) hr))) ?_
  show oG p e below _ (T13.setTop (mkF m 119 #[.val (.int 1)] [(.int 110), (.int 9), (.ref b1), (.ref b1)]))
  refine own_stC X13 hx hZ e13 f13 (9 : Int32) (110 : Int32) (110 : Int32) 9 ⟨by decide, by decide⟩ rfl (Nat.le_of_ble_eq_true rfl) rfl [(.int 99), (.int 104), (.int 97), (.int 114), (.int 103), (.int 101), (.int 95), (.int 121), (.int 101), (.int 110), (.int 0)] rfl N13 ge2 (hb hby dc16_119) ?_
  intro T14 h14 L14 X14 e14 W14 N14 f14
  show oG p e below _ (T14.setTop (mkF m 120 #[.val (.int 1)] [(.ref b1)]))
  refine og (fun _ hr => XS.dup X14.here hx rfl (hb hby dc16_120) rfl rfl (XS.bipush X14.here hx rfl (hb hby dc16_121) (XS.bipush X14.here hx rfl (hb hby dc16_123) hr))) ?_
  show oG p e below _ (T14.setTop (mkF m 125 #[.val (.int 1)] [(.int 32), (.int 10), (.ref b1), (.ref b1)]))
  refine own_stC X14 hx hZ e14 f14 (10 : Int32) (32 : Int32) (32 : Int32) 10 ⟨by decide, by decide⟩ rfl (Nat.le_of_ble_eq_true rfl) rfl [(.int 99), (.int 104), (.int 97), (.int 114), (.int 103), (.int 101), (.int 95), (.int 121), (.int 101), (.int 110), (.int 32)] rfl N14 ge2 (hb hby dc16_125) ?_
  intro T15 h15 L15 X15 e15 W15 N15 f15
  show oG p e below _ (T15.setTop (mkF m 126 #[.val (.int 1)] [(.ref b1)]))
  have f16 := (((((((((((EA1.wr W5).wr W6).wr W7).wr W8).wr W9).wr W10).wr W11).wr W12).wr W13).wr W14).wr W15)
  have K17 := ((((((((((((K0.ext E1).wr W5 (Or.inr sz3)).wr W6 (Or.inr sz3)).wr W7 (Or.inr sz3)).wr W8 (Or.inr sz3)).wr W9 (Or.inr sz3)).wr W10 (Or.inr sz3)).wr W11 (Or.inr sz3)).wr W12 (Or.inr sz3)).wr W13 (Or.inr sz3)).wr W14 (Or.inr sz3)).wr W15 (Or.inr sz3))
  exact own_retR X15 hx hlk Bd.returns rfl rfl (hb hby dc16_126) (by decide) (by decide) (by rw [e15]; exact ⟨b1, k1, rfl, N15, K17, ge2, sz3, f16, f15⟩)
theorem dc18_12 : decode method_4_code 12 = .ok (.ldc 9, 2) := by decide +kernel
theorem dc18_14 : decode method_4_code 14 = .ok (.areturn, 1) := by decide +kernel
def Q_shorter_17 (Z : State) (h0 : Heap) (n0 : Nat) (v : Option Value) (h : Heap) (L : List Loc) : Prop := (∃ (a1 : Addr) (b1 : Addr) (k1 : ClassId), v = some (.ref a1) ∧ Fr n0 L ∧ Keep h0 h [] ∧ Exa Z h a1 "java/lang/String" ∧ Fld Z h a1 "java/lang/String" "coder" "B" (.int 0) ∧ Fld Z h a1 "java/lang/String" "value" "[B" (.ref b1) ∧ Arv Z h b1 k1 .byte (9 : Int32) [(.int 99), (.int 104), (.int 97), (.int 114), (.int 103), (.int 101), (.int 95), (.int 121), (.int 101)] (.int 0))
set_option maxRecDepth 65536 in
set_option maxHeartbeats 40000000 in
theorem rm_shorter_17 (l : Launch) (Z : State) (a0 : Array Value) (hw : ∀ d ∈ tables_1, d.before a0 Z = true) (ws : List Jvm.Cond) (h0 : Heap) (n0 : Nat) (Z0 : n0 ≤ h0.size) :
    MetFree l (⟨"com/example/strict_tariff/stricttariff/pricing/ColumnNamedPinLaw", "shorter", "(I)Ljava/lang/String;"⟩ : MethodName) (head1 (Jvm.Cond.code (⟨"com/example/strict_tariff/stricttariff/pricing/ColumnNamedPinLaw", "shorter", "(I)Ljava/lang/String;"⟩ : MethodName) method_4_code 1 (some (.object "java/lang/String")) :: ws) ({ frames := 0, cells := 2, slots := 40, locals := 0 } : Room)) (fun aA U => aA = #[(.int 1)] ∧ Z.Warmed39 U.vm ∧ U.heap = h0 ∧ CHv Z own_EL U.vm h0) (fun _ _ _ _ _ => True) (fun _ U o U' => ∃ v L, o = .returned v ∧ Q_shorter_17 Z h0 n0 v U'.heap L ∧ CHr Z own_EL U.vm U.heap U'.vm U'.heap ∧ ReturnedEndW U o U' L ({ frames := 0, cells := 2, slots := 40, locals := 0 } : Room).cells ({ frames := 0, cells := 2, slots := 40, locals := 0 } : Room).slots) := by
  refine MetFree.of_bodySF (plainFor_of_name own_pn_com_example_strict_tariff_stricttariff_pricing_ColumnNamedPinLaw) hisR ?_
  intro p e s m args below meth c s₁ Bd hml0 hP hK
  obtain ⟨rfl, hZ, hh, hC0⟩ := hP
  have hx := Bd.exec
  have hby := Bd.bytes
  have hlk : meth.locks = false := BodyLoose.notSynchronized Bd
  have hml : c.maxLocals = 1 := hml0
  have hown : s.vm.findClass "com/example/strict_tariff/stricttariff/pricing/ColumnNamedPinLaw" = some m.cls := findClass_of_methodNamed Bd.named
  have hnm := (name_of_methodNamed Bd.named Bd.method).1
  have X0 : Stand p l e ({ frames := 0, cells := 2, slots := 40, locals := 0 } : Room) (s.setVm s.vm) m #[(.int 1)] below meth c s₁ [] 0 0 := Stand.of_body Bd
  have e0 : s₁.heap = h0 := by rw [← hh, Bd.state]; rfl
  have N0 := Fr.nil n0
  have hS : s.Since s.vm 0 := (State.WarmedH.refl s).since 0
  have hk := Nat.zero_le h0.size
  have hEL : EW Z a0 own_EL := own_ew hw
  have A0 : CHr Z own_EL s.vm h0 s.vm h0 := CHr.refl hC0
  have K0 : Keep h0 h0 [] := Keep.refl _ _
  show oG p e below (own_KW Z own_EL s (Q_shorter_17 Z h0 n0) ({ frames := 0, cells := 2, slots := 40, locals := 0 } : Room).cells ({ frames := 0, cells := 2, slots := 40, locals := 0 } : Room).slots) (s₁.setTop (entryFrame m #[(.int 1)] 1))
  rw [(by first | (simp [entryFrame, mkF, argsToLocals, Value.category]; done) | rfl : entryFrame m #[(.int 1)] 1 = mkF m 0 #[.val (.int 1)] [])]
  show oG p e below _ (s₁.setTop (mkF m 0 #[.val (.int 1)] []))
  refine og (fun _ hr => XS.iloadN X0.here hx rfl (hb hby dc18_0) rfl (XS.ifYes X0.here hx rfl (pc0 := 1) (pc' := 7) rfl (hb hby dc18_1) rfl ((if0 _ _).trans (feq (by decide)).2) (by decide) (by decide) (XS.iloadN X0.here hx rfl (hb hby dc18_7) rfl (XS.iconst X0.here hx rfl (hb hby dc18_8) (XS.icmpNo X0.here hx rfl (hb hby dc18_9) rfl (teq (by decide)).2 hr))))) ?_
  show oG p e below _ (s₁.setTop (mkF m 12 #[.val (.int 1)] []))
  have hZo2 := hZ
  obtain ⟨a1, T1, h1, k11, b1, k1, X1, e1, E1, hS, hk1, hZ, hown, EA1, FC1, FV1, AV1, -, -, Al1, -, ne1, st1⟩ := ldcCH X0 hx hZ hown (hw _ (own_m 114 rfl)) (own_ws hw) e0 hS hk hEL (by simp [own_EL]) A0.1 (vs := [(.int 99), (.int 104), (.int 97), (.int 114), (.int 103), (.int 101), (.int 95), (.int 121), (.int 101)]) (z := (9 : Int32)) ⟨by decide, by decide⟩ (by decide) (by decide) (g := (mkF m 12 #[.val (.int 1)] [])) rfl (hb hby dc18_12) (n := 36) (by decide) (by decide) (by decide) (by decide)
  refine og st1 ?_
  show oG p e below _ (T1.setTop (mkF m 14 #[.val (.int 1)] [(.ref a1)]))
  have K3 := (K0.ext E1)
  have A4 := A0.trans Al1
  exact own_retRW X1 hx hlk Bd.returns hS hk1 hZ hEL hh e1 A4 rfl rfl (hb hby dc18_14) (by decide) (by decide) (by rw [e1]; exact ⟨a1, b1, k1, rfl, N0, K3, EA1, FC1, FV1, AV1⟩)
def own_tx7 : List Int32 := [99, 104, 97, 114, 103, 101, 95, 121, 101]
theorem own_cod7 : StrChars.Road.CodA own_tx7 0 (9 : Int32) [(.int 99), (.int 104), (.int 97), (.int 114), (.int 103), (.int 101), (.int 95), (.int 121), (.int 101)] := Or.inl ⟨rfl, by decide +kernel, by first | rfl | decide +kernel | simp [own_tx7, StrChars.lo8], by decide +kernel⟩
theorem own_hb7 : ∀ c ∈ own_tx7, ¬ c < 0 ∧ ¬ (65535 : Int32) < c := by decide +kernel
theorem dc1_4 : decode method_2_code 4 = .ok (.bipush 8, 2) := by decide +kernel
theorem dc1_6 : decode method_2_code 6 = .ok (.newarray .char, 2) := by decide +kernel
theorem dc1_8 : decode method_2_code 8 = .ok (.dup, 1) := by decide +kernel
theorem dc1_9 : decode method_2_code 9 = .ok (.iconst 0, 1) := by decide +kernel
theorem dc1_10 : decode method_2_code 10 = .ok (.bipush 117, 2) := by decide +kernel
theorem dc1_12 : decode method_2_code 12 = .ok (.castore, 1) := by decide +kernel
theorem dc1_13 : decode method_2_code 13 = .ok (.dup, 1) := by decide +kernel
theorem dc1_14 : decode method_2_code 14 = .ok (.iconst 1, 1) := by decide +kernel
theorem dc1_15 : decode method_2_code 15 = .ok (.bipush 115, 2) := by decide +kernel
theorem dc1_17 : decode method_2_code 17 = .ok (.castore, 1) := by decide +kernel
theorem dc1_18 : decode method_2_code 18 = .ok (.dup, 1) := by decide +kernel
theorem dc1_19 : decode method_2_code 19 = .ok (.iconst 2, 1) := by decide +kernel
theorem dc1_20 : decode method_2_code 20 = .ok (.bipush 97, 2) := by decide +kernel
theorem dc1_22 : decode method_2_code 22 = .ok (.castore, 1) := by decide +kernel
theorem dc1_23 : decode method_2_code 23 = .ok (.dup, 1) := by decide +kernel
theorem dc1_24 : decode method_2_code 24 = .ok (.iconst 3, 1) := by decide +kernel
theorem dc1_25 : decode method_2_code 25 = .ok (.bipush 103, 2) := by decide +kernel
theorem dc1_27 : decode method_2_code 27 = .ok (.castore, 1) := by decide +kernel
theorem dc1_28 : decode method_2_code 28 = .ok (.dup, 1) := by decide +kernel
theorem dc1_29 : decode method_2_code 29 = .ok (.iconst 4, 1) := by decide +kernel
theorem dc1_30 : decode method_2_code 30 = .ok (.bipush 101, 2) := by decide +kernel
theorem dc1_32 : decode method_2_code 32 = .ok (.castore, 1) := by decide +kernel
theorem dc1_33 : decode method_2_code 33 = .ok (.dup, 1) := by decide +kernel
theorem dc1_34 : decode method_2_code 34 = .ok (.iconst 5, 1) := by decide +kernel
theorem dc1_35 : decode method_2_code 35 = .ok (.bipush 95, 2) := by decide +kernel
theorem dc1_37 : decode method_2_code 37 = .ok (.castore, 1) := by decide +kernel
theorem dc1_38 : decode method_2_code 38 = .ok (.dup, 1) := by decide +kernel
theorem dc1_39 : decode method_2_code 39 = .ok (.bipush 6, 2) := by decide +kernel
theorem dc1_41 : decode method_2_code 41 = .ok (.bipush 109, 2) := by decide +kernel
theorem dc1_43 : decode method_2_code 43 = .ok (.castore, 1) := by decide +kernel
theorem dc1_44 : decode method_2_code 44 = .ok (.dup, 1) := by decide +kernel
theorem dc1_45 : decode method_2_code 45 = .ok (.bipush 7, 2) := by decide +kernel
theorem dc1_47 : decode method_2_code 47 = .ok (.bipush 51, 2) := by decide +kernel
theorem dc1_49 : decode method_2_code 49 = .ok (.castore, 1) := by decide +kernel
theorem dc1_50 : decode method_2_code 50 = .ok (.areturn, 1) := by decide +kernel
def Q_exact_18 (Z : State) (h0 : Heap) (n0 : Nat) (v : Option Value) (h : Heap) (L : List Loc) : Prop := (∃ (b1 : Addr) (k1 : ClassId), v = some (.ref b1) ∧ Fr n0 L ∧ Keep h0 h [] ∧ n0 ≤ b1 ∧ h0.size ≤ b1 ∧ Exa Z h b1 "[C" ∧ Arv Z h b1 k1 .char (8 : Int32) [(.int 117), (.int 115), (.int 97), (.int 103), (.int 101), (.int 95), (.int 109), (.int 51)] (.int 0))
set_option maxRecDepth 65536 in
set_option maxHeartbeats 40000000 in
theorem rm_exact_18 (l : Launch) (Z : State) (a0 : Array Value) (hw : ∀ d ∈ tables_1, d.before a0 Z = true) (ws : List Jvm.Cond) (h0 : Heap) (n0 : Nat) (Z0 : n0 ≤ h0.size) :
    MetFree l (⟨"com/example/strict_tariff/stricttariff/pricing/ColumnNamedPinLaw", "exact", "(I)[C"⟩ : MethodName) (head1 (Jvm.Cond.code (⟨"com/example/strict_tariff/stricttariff/pricing/ColumnNamedPinLaw", "exact", "(I)[C"⟩ : MethodName) method_2_code 1 (some (.array .char)) :: ws) ({ frames := 0, cells := 1, slots := 8, locals := 0 } : Room)) (fun aA U => aA = #[(.int 0)] ∧ Z.Warmed39 U.vm ∧ U.heap = h0) (fun _ _ _ _ _ => True) (fun _ U o U' => ∃ v L, o = .returned v ∧ Q_exact_18 Z h0 n0 v U'.heap L ∧ FrameEnd U o U' L ({ frames := 0, cells := 1, slots := 8, locals := 0 } : Room).cells ({ frames := 0, cells := 1, slots := 8, locals := 0 } : Room).slots) := by
  refine MetFree.of_bodySF (plainFor_of_name own_pn_com_example_strict_tariff_stricttariff_pricing_ColumnNamedPinLaw) hisR ?_
  intro p e s m args below meth c s₁ Bd hml0 hP hK
  obtain ⟨rfl, hZ, hh⟩ := hP
  have hx := Bd.exec
  have hby := Bd.bytes
  have hlk : meth.locks = false := BodyLoose.notSynchronized Bd
  have hml : c.maxLocals = 1 := hml0
  have hown : s.vm.findClass "com/example/strict_tariff/stricttariff/pricing/ColumnNamedPinLaw" = some m.cls := findClass_of_methodNamed Bd.named
  have hnm := (name_of_methodNamed Bd.named Bd.method).1
  have X0 : Stand p l e ({ frames := 0, cells := 1, slots := 8, locals := 0 } : Room) s m #[(.int 0)] below meth c s₁ [] 0 0 := Stand.of_body Bd
  have e0 : s₁.heap = h0 := by rw [← hh, Bd.state]; rfl
  have N0 := Fr.nil n0
  have K0 : Keep h0 h0 [] := Keep.refl _ _
  show oG p e below (own_K s (Q_exact_18 Z h0 n0) ({ frames := 0, cells := 1, slots := 8, locals := 0 } : Room).cells ({ frames := 0, cells := 1, slots := 8, locals := 0 } : Room).slots) (s₁.setTop (entryFrame m #[(.int 0)] 1))
  rw [(by first | (simp [entryFrame, mkF, argsToLocals, Value.category]; done) | rfl : entryFrame m #[(.int 0)] 1 = mkF m 0 #[.val (.int 0)] [])]
  show oG p e below _ (s₁.setTop (mkF m 0 #[.val (.int 0)] []))
  refine og (fun _ hr => XS.iloadN X0.here hx rfl (hb hby dc1_0) rfl (XS.ifNo X0.here hx rfl (hb hby dc1_1) rfl ((if0 _ _).trans (teq (by decide)).2) (XS.bipush X0.here hx rfl (hb hby dc1_4) hr))) ?_
  show oG p e below _ (s₁.setTop (mkF m 6 #[.val (.int 0)] [(.int 8)]))
  obtain ⟨T1, h1, k1, X1, e1, E1, A1, EA1, st1⟩ := newPE X0 hx hZ (hw _ (own_m 7 rfl)) e0 (g := (mkF m 6 #[.val (.int 0)] [(.int 8)])) rfl (hb hby dc1_6) rfl (by decide) (cap := 8) (by decide) (by decide) (by decide) (by decide) (ad := "[C") (by decide)
  obtain ⟨b1, g1⟩ : ∃ z, z = h0.size := ⟨_, rfl⟩
  rw [← g1] at A1 EA1 st1
  have ge2 : n0 ≤ b1 := Nat.le_trans Z0 (Nat.le_of_eq g1.symm)
  have sz3 : h0.size ≤ b1 := Nat.le_trans K0.1 (Nat.le_of_eq g1.symm)
  refine og st1 ?_
  have f4 : Arv Z h1 b1 k1 .char (8 : Int32) [(.int 0), (.int 0), (.int 0), (.int 0), (.int 0), (.int 0), (.int 0), (.int 0)] (.int 0) := (Arv.new A1 (by decide)).pad (pad_rep [] (.int 0) 8)
  show oG p e below _ (T1.setTop (mkF m 8 #[.val (.int 0)] [(.ref b1)]))
  refine og (fun _ hr => XS.dup X1.here hx rfl (hb hby dc1_8) rfl rfl (XS.iconst X1.here hx rfl (hb hby dc1_9) (XS.bipush X1.here hx rfl (hb hby dc1_10) hr))) ?_
  show oG p e below _ (T1.setTop (mkF m 12 #[.val (.int 0)] [(.int 117), (.int 0), (.ref b1), (.ref b1)]))
  refine own_stC X1 hx hZ e1 f4 (0 : Int32) (117 : Int32) (117 : Int32) 0 ⟨by decide, by decide⟩ rfl (Nat.le_of_ble_eq_true rfl) rfl [(.int 117), (.int 0), (.int 0), (.int 0), (.int 0), (.int 0), (.int 0), (.int 0)] rfl N0 ge2 (hb hby dc1_12) ?_
  intro T5 h5 L5 X5 e5 W5 N5 f5
  show oG p e below _ (T5.setTop (mkF m 13 #[.val (.int 0)] [(.ref b1)]))
  refine og (fun _ hr => XS.dup X5.here hx rfl (hb hby dc1_13) rfl rfl (XS.iconst X5.here hx rfl (hb hby dc1_14) (XS.bipush X5.here hx rfl (hb hby dc1_15) hr))) ?_
  show oG p e below _ (T5.setTop (mkF m 17 #[.val (.int 0)] [(.int 115), (.int 1), (.ref b1), (.ref b1)]))
  refine own_stC X5 hx hZ e5 f5 (1 : Int32) (115 : Int32) (115 : Int32) 1 ⟨by decide, by decide⟩ rfl (Nat.le_of_ble_eq_true rfl) rfl [(.int 117), (.int 115), (.int 0), (.int 0), (.int 0), (.int 0), (.int 0), (.int 0)] rfl N5 ge2 (hb hby dc1_17) ?_
  intro T6 h6 L6 X6 e6 W6 N6 f6
  show oG p e below _ (T6.setTop (mkF m 18 #[.val (.int 0)] [(.ref b1)]))
  refine og (fun _ hr => XS.dup X6.here hx rfl (hb hby dc1_18) rfl rfl (XS.iconst X6.here hx rfl (hb hby dc1_19) (XS.bipush X6.here hx rfl (hb hby dc1_20) hr))) ?_
  show oG p e below _ (T6.setTop (mkF m 22 #[.val (.int 0)] [(.int 97), (.int 2), (.ref b1), (.ref b1)]))
  refine own_stC X6 hx hZ e6 f6 (2 : Int32) (97 : Int32) (97 : Int32) 2 ⟨by decide, by decide⟩ rfl (Nat.le_of_ble_eq_true rfl) rfl [(.int 117), (.int 115), (.int 97), (.int 0), (.int 0), (.int 0), (.int 0), (.int 0)] rfl N6 ge2 (hb hby dc1_22) ?_
  intro T7 h7 L7 X7 e7 W7 N7 f7
  show oG p e below _ (T7.setTop (mkF m 23 #[.val (.int 0)] [(.ref b1)]))
  refine og (fun _ hr => XS.dup X7.here hx rfl (hb hby dc1_23) rfl rfl (XS.iconst X7.here hx rfl (hb hby dc1_24) (XS.bipush X7.here hx rfl (hb hby dc1_25) hr))) ?_
  show oG p e below _ (T7.setTop (mkF m 27 #[.val (.int 0)] [(.int 103), (.int 3), (.ref b1), (.ref b1)]))
  refine own_stC X7 hx hZ e7 f7 (3 : Int32) (103 : Int32) (103 : Int32) 3 ⟨by decide, by decide⟩ rfl (Nat.le_of_ble_eq_true rfl) rfl [(.int 117), (.int 115), (.int 97), (.int 103), (.int 0), (.int 0), (.int 0), (.int 0)] rfl N7 ge2 (hb hby dc1_27) ?_
  intro T8 h8 L8 X8 e8 W8 N8 f8
  show oG p e below _ (T8.setTop (mkF m 28 #[.val (.int 0)] [(.ref b1)]))
  refine og (fun _ hr => XS.dup X8.here hx rfl (hb hby dc1_28) rfl rfl (XS.iconst X8.here hx rfl (hb hby dc1_29) (XS.bipush X8.here hx rfl (hb hby dc1_30) hr))) ?_
  show oG p e below _ (T8.setTop (mkF m 32 #[.val (.int 0)] [(.int 101), (.int 4), (.ref b1), (.ref b1)]))
  refine own_stC X8 hx hZ e8 f8 (4 : Int32) (101 : Int32) (101 : Int32) 4 ⟨by decide, by decide⟩ rfl (Nat.le_of_ble_eq_true rfl) rfl [(.int 117), (.int 115), (.int 97), (.int 103), (.int 101), (.int 0), (.int 0), (.int 0)] rfl N8 ge2 (hb hby dc1_32) ?_
  intro T9 h9 L9 X9 e9 W9 N9 f9
  show oG p e below _ (T9.setTop (mkF m 33 #[.val (.int 0)] [(.ref b1)]))
  refine og (fun _ hr => XS.dup X9.here hx rfl (hb hby dc1_33) rfl rfl (XS.iconst X9.here hx rfl (hb hby dc1_34) (XS.bipush X9.here hx rfl (hb hby dc1_35) hr))) ?_
  show oG p e below _ (T9.setTop (mkF m 37 #[.val (.int 0)] [(.int 95), (.int 5), (.ref b1), (.ref b1)]))
  refine own_stC X9 hx hZ e9 f9 (5 : Int32) (95 : Int32) (95 : Int32) 5 ⟨by decide, by decide⟩ rfl (Nat.le_of_ble_eq_true rfl) rfl [(.int 117), (.int 115), (.int 97), (.int 103), (.int 101), (.int 95), (.int 0), (.int 0)] rfl N9 ge2 (hb hby dc1_37) ?_
  intro T10 h10 L10 X10 e10 W10 N10 f10
  show oG p e below _ (T10.setTop (mkF m 38 #[.val (.int 0)] [(.ref b1)]))
  refine og (fun _ hr => XS.dup X10.here hx rfl (hb hby dc1_38) rfl rfl (XS.bipush X10.here hx rfl (hb hby dc1_39) (XS.bipush X10.here hx rfl (hb hby dc1_41) hr))) ?_
  show oG p e below _ (T10.setTop (mkF m 43 #[.val (.int 0)] [(.int 109), (.int 6), (.ref b1), (.ref b1)]))
  refine own_stC X10 hx hZ e10 f10 (6 : Int32) (109 : Int32) (109 : Int32) 6 ⟨by decide, by decide⟩ rfl (Nat.le_of_ble_eq_true rfl) rfl [(.int 117), (.int 115), (.int 97), (.int 103), (.int 101), (.int 95), (.int 109), (.int 0)] rfl N10 ge2 (hb hby dc1_43) ?_
  intro T11 h11 L11 X11 e11 W11 N11 f11
  show oG p e below _ (T11.setTop (mkF m 44 #[.val (.int 0)] [(.ref b1)]))
  refine og (fun _ hr => XS.dup X11.here hx rfl (hb hby dc1_44) rfl rfl (XS.bipush X11.here hx rfl (hb hby dc1_45) (XS.bipush X11.here hx rfl (hb hby dc1_47) hr))) ?_
  show oG p e below _ (T11.setTop (mkF m 49 #[.val (.int 0)] [(.int 51), (.int 7), (.ref b1), (.ref b1)]))
  refine own_stC X11 hx hZ e11 f11 (7 : Int32) (51 : Int32) (51 : Int32) 7 ⟨by decide, by decide⟩ rfl (Nat.le_of_ble_eq_true rfl) rfl [(.int 117), (.int 115), (.int 97), (.int 103), (.int 101), (.int 95), (.int 109), (.int 51)] rfl N11 ge2 (hb hby dc1_49) ?_
  intro T12 h12 L12 X12 e12 W12 N12 f12
  show oG p e below _ (T12.setTop (mkF m 50 #[.val (.int 0)] [(.ref b1)]))
  have f13 := ((((((((EA1.wr W5).wr W6).wr W7).wr W8).wr W9).wr W10).wr W11).wr W12)
  have K14 := (((((((((K0.ext E1).wr W5 (Or.inr sz3)).wr W6 (Or.inr sz3)).wr W7 (Or.inr sz3)).wr W8 (Or.inr sz3)).wr W9 (Or.inr sz3)).wr W10 (Or.inr sz3)).wr W11 (Or.inr sz3)).wr W12 (Or.inr sz3))
  exact own_retR X12 hx hlk Bd.returns rfl rfl (hb hby dc1_50) (by decide) (by decide) (by rw [e12]; exact ⟨b1, k1, rfl, N12, K14, ge2, sz3, f13, f12⟩)
theorem dc16_4 : decode method_3_code 4 = .ok (.bipush 9, 2) := by decide +kernel
theorem dc16_6 : decode method_3_code 6 = .ok (.newarray .char, 2) := by decide +kernel
theorem dc16_8 : decode method_3_code 8 = .ok (.dup, 1) := by decide +kernel
theorem dc16_9 : decode method_3_code 9 = .ok (.iconst 0, 1) := by decide +kernel
theorem dc16_10 : decode method_3_code 10 = .ok (.bipush 117, 2) := by decide +kernel
theorem dc16_12 : decode method_3_code 12 = .ok (.castore, 1) := by decide +kernel
theorem dc16_13 : decode method_3_code 13 = .ok (.dup, 1) := by decide +kernel
theorem dc16_14 : decode method_3_code 14 = .ok (.iconst 1, 1) := by decide +kernel
theorem dc16_15 : decode method_3_code 15 = .ok (.bipush 115, 2) := by decide +kernel
theorem dc16_17 : decode method_3_code 17 = .ok (.castore, 1) := by decide +kernel
theorem dc16_18 : decode method_3_code 18 = .ok (.dup, 1) := by decide +kernel
theorem dc16_19 : decode method_3_code 19 = .ok (.iconst 2, 1) := by decide +kernel
theorem dc16_20 : decode method_3_code 20 = .ok (.bipush 97, 2) := by decide +kernel
theorem dc16_22 : decode method_3_code 22 = .ok (.castore, 1) := by decide +kernel
theorem dc16_23 : decode method_3_code 23 = .ok (.dup, 1) := by decide +kernel
theorem dc16_24 : decode method_3_code 24 = .ok (.iconst 3, 1) := by decide +kernel
theorem dc16_25 : decode method_3_code 25 = .ok (.bipush 103, 2) := by decide +kernel
theorem dc16_27 : decode method_3_code 27 = .ok (.castore, 1) := by decide +kernel
theorem dc16_28 : decode method_3_code 28 = .ok (.dup, 1) := by decide +kernel
theorem dc16_29 : decode method_3_code 29 = .ok (.iconst 4, 1) := by decide +kernel
theorem dc16_30 : decode method_3_code 30 = .ok (.bipush 101, 2) := by decide +kernel
theorem dc16_32 : decode method_3_code 32 = .ok (.castore, 1) := by decide +kernel
theorem dc16_33 : decode method_3_code 33 = .ok (.dup, 1) := by decide +kernel
theorem dc16_34 : decode method_3_code 34 = .ok (.iconst 5, 1) := by decide +kernel
theorem dc16_35 : decode method_3_code 35 = .ok (.bipush 95, 2) := by decide +kernel
theorem dc16_37 : decode method_3_code 37 = .ok (.castore, 1) := by decide +kernel
theorem dc16_38 : decode method_3_code 38 = .ok (.dup, 1) := by decide +kernel
theorem dc16_39 : decode method_3_code 39 = .ok (.bipush 6, 2) := by decide +kernel
theorem dc16_41 : decode method_3_code 41 = .ok (.bipush 109, 2) := by decide +kernel
theorem dc16_43 : decode method_3_code 43 = .ok (.castore, 1) := by decide +kernel
theorem dc16_44 : decode method_3_code 44 = .ok (.dup, 1) := by decide +kernel
theorem dc16_45 : decode method_3_code 45 = .ok (.bipush 7, 2) := by decide +kernel
theorem dc16_47 : decode method_3_code 47 = .ok (.bipush 51, 2) := by decide +kernel
theorem dc16_49 : decode method_3_code 49 = .ok (.castore, 1) := by decide +kernel
theorem dc16_50 : decode method_3_code 50 = .ok (.dup, 1) := by decide +kernel
theorem dc16_51 : decode method_3_code 51 = .ok (.bipush 8, 2) := by decide +kernel
theorem dc16_53 : decode method_3_code 53 = .ok (.bipush 32, 2) := by decide +kernel
theorem dc16_55 : decode method_3_code 55 = .ok (.castore, 1) := by decide +kernel
theorem dc16_56 : decode method_3_code 56 = .ok (.areturn, 1) := by decide +kernel
def Q_longer_19 (Z : State) (h0 : Heap) (n0 : Nat) (v : Option Value) (h : Heap) (L : List Loc) : Prop := (∃ (b1 : Addr) (k1 : ClassId), v = some (.ref b1) ∧ Fr n0 L ∧ Keep h0 h [] ∧ n0 ≤ b1 ∧ h0.size ≤ b1 ∧ Exa Z h b1 "[C" ∧ Arv Z h b1 k1 .char (9 : Int32) [(.int 117), (.int 115), (.int 97), (.int 103), (.int 101), (.int 95), (.int 109), (.int 51), (.int 32)] (.int 0))
set_option maxRecDepth 65536 in
set_option maxHeartbeats 40000000 in
theorem rm_longer_19 (l : Launch) (Z : State) (a0 : Array Value) (hw : ∀ d ∈ tables_1, d.before a0 Z = true) (ws : List Jvm.Cond) (h0 : Heap) (n0 : Nat) (Z0 : n0 ≤ h0.size) :
    MetFree l (⟨"com/example/strict_tariff/stricttariff/pricing/ColumnNamedPinLaw", "longer", "(I)[C"⟩ : MethodName) (head1 (Jvm.Cond.code (⟨"com/example/strict_tariff/stricttariff/pricing/ColumnNamedPinLaw", "longer", "(I)[C"⟩ : MethodName) method_3_code 1 (some (.array .char)) :: ws) ({ frames := 0, cells := 1, slots := 9, locals := 0 } : Room)) (fun aA U => aA = #[(.int 0)] ∧ Z.Warmed39 U.vm ∧ U.heap = h0) (fun _ _ _ _ _ => True) (fun _ U o U' => ∃ v L, o = .returned v ∧ Q_longer_19 Z h0 n0 v U'.heap L ∧ FrameEnd U o U' L ({ frames := 0, cells := 1, slots := 9, locals := 0 } : Room).cells ({ frames := 0, cells := 1, slots := 9, locals := 0 } : Room).slots) := by
  refine MetFree.of_bodySF (plainFor_of_name own_pn_com_example_strict_tariff_stricttariff_pricing_ColumnNamedPinLaw) hisR ?_
  intro p e s m args below meth c s₁ Bd hml0 hP hK
  obtain ⟨rfl, hZ, hh⟩ := hP
  have hx := Bd.exec
  have hby := Bd.bytes
  have hlk : meth.locks = false := BodyLoose.notSynchronized Bd
  have hml : c.maxLocals = 1 := hml0
  have hown : s.vm.findClass "com/example/strict_tariff/stricttariff/pricing/ColumnNamedPinLaw" = some m.cls := findClass_of_methodNamed Bd.named
  have hnm := (name_of_methodNamed Bd.named Bd.method).1
  have X0 : Stand p l e ({ frames := 0, cells := 1, slots := 9, locals := 0 } : Room) s m #[(.int 0)] below meth c s₁ [] 0 0 := Stand.of_body Bd
  have e0 : s₁.heap = h0 := by rw [← hh, Bd.state]; rfl
  have N0 := Fr.nil n0
  have K0 : Keep h0 h0 [] := Keep.refl _ _
  show oG p e below (own_K s (Q_longer_19 Z h0 n0) ({ frames := 0, cells := 1, slots := 9, locals := 0 } : Room).cells ({ frames := 0, cells := 1, slots := 9, locals := 0 } : Room).slots) (s₁.setTop (entryFrame m #[(.int 0)] 1))
  rw [(by first | (simp [entryFrame, mkF, argsToLocals, Value.category]; done) | rfl : entryFrame m #[(.int 0)] 1 = mkF m 0 #[.val (.int 0)] [])]
  show oG p e below _ (s₁.setTop (mkF m 0 #[.val (.int 0)] []))
  refine og (fun _ hr => XS.iloadN X0.here hx rfl (hb hby dc16_0) rfl (XS.ifNo X0.here hx rfl (hb hby dc16_1) rfl ((if0 _ _).trans (teq (by decide)).2) (XS.bipush X0.here hx rfl (hb hby dc16_4) hr))) ?_
  show oG p e below _ (s₁.setTop (mkF m 6 #[.val (.int 0)] [(.int 9)]))
  obtain ⟨T1, h1, k1, X1, e1, E1, A1, EA1, st1⟩ := newPE X0 hx hZ (hw _ (own_m 7 rfl)) e0 (g := (mkF m 6 #[.val (.int 0)] [(.int 9)])) rfl (hb hby dc16_6) rfl (by decide) (cap := 9) (by decide) (by decide) (by decide) (by decide) (ad := "[C") (by decide)
  obtain ⟨b1, g1⟩ : ∃ z, z = h0.size := ⟨_, rfl⟩
  rw [← g1] at A1 EA1 st1
  have ge2 : n0 ≤ b1 := Nat.le_trans Z0 (Nat.le_of_eq g1.symm)
  have sz3 : h0.size ≤ b1 := Nat.le_trans K0.1 (Nat.le_of_eq g1.symm)
  refine og st1 ?_
  have f4 : Arv Z h1 b1 k1 .char (9 : Int32) [(.int 0), (.int 0), (.int 0), (.int 0), (.int 0), (.int 0), (.int 0), (.int 0), (.int 0)] (.int 0) := (Arv.new A1 (by decide)).pad (pad_rep [] (.int 0) 9)
  show oG p e below _ (T1.setTop (mkF m 8 #[.val (.int 0)] [(.ref b1)]))
  refine og (fun _ hr => XS.dup X1.here hx rfl (hb hby dc16_8) rfl rfl (XS.iconst X1.here hx rfl (hb hby dc16_9) (XS.bipush X1.here hx rfl (hb hby dc16_10) hr))) ?_
  show oG p e below _ (T1.setTop (mkF m 12 #[.val (.int 0)] [(.int 117), (.int 0), (.ref b1), (.ref b1)]))
  refine own_stC X1 hx hZ e1 f4 (0 : Int32) (117 : Int32) (117 : Int32) 0 ⟨by decide, by decide⟩ rfl (Nat.le_of_ble_eq_true rfl) rfl [(.int 117), (.int 0), (.int 0), (.int 0), (.int 0), (.int 0), (.int 0), (.int 0), (.int 0)] rfl N0 ge2 (hb hby dc16_12) ?_
  intro T5 h5 L5 X5 e5 W5 N5 f5
  show oG p e below _ (T5.setTop (mkF m 13 #[.val (.int 0)] [(.ref b1)]))
  refine og (fun _ hr => XS.dup X5.here hx rfl (hb hby dc16_13) rfl rfl (XS.iconst X5.here hx rfl (hb hby dc16_14) (XS.bipush X5.here hx rfl (hb hby dc16_15) hr))) ?_
  show oG p e below _ (T5.setTop (mkF m 17 #[.val (.int 0)] [(.int 115), (.int 1), (.ref b1), (.ref b1)]))
  refine own_stC X5 hx hZ e5 f5 (1 : Int32) (115 : Int32) (115 : Int32) 1 ⟨by decide, by decide⟩ rfl (Nat.le_of_ble_eq_true rfl) rfl [(.int 117), (.int 115), (.int 0), (.int 0), (.int 0), (.int 0), (.int 0), (.int 0), (.int 0)] rfl N5 ge2 (hb hby dc16_17) ?_
  intro T6 h6 L6 X6 e6 W6 N6 f6
  show oG p e below _ (T6.setTop (mkF m 18 #[.val (.int 0)] [(.ref b1)]))
  refine og (fun _ hr => XS.dup X6.here hx rfl (hb hby dc16_18) rfl rfl (XS.iconst X6.here hx rfl (hb hby dc16_19) (XS.bipush X6.here hx rfl (hb hby dc16_20) hr))) ?_
  show oG p e below _ (T6.setTop (mkF m 22 #[.val (.int 0)] [(.int 97), (.int 2), (.ref b1), (.ref b1)]))
  refine own_stC X6 hx hZ e6 f6 (2 : Int32) (97 : Int32) (97 : Int32) 2 ⟨by decide, by decide⟩ rfl (Nat.le_of_ble_eq_true rfl) rfl [(.int 117), (.int 115), (.int 97), (.int 0), (.int 0), (.int 0), (.int 0), (.int 0), (.int 0)] rfl N6 ge2 (hb hby dc16_22) ?_
  intro T7 h7 L7 X7 e7 W7 N7 f7
  show oG p e below _ (T7.setTop (mkF m 23 #[.val (.int 0)] [(.ref b1)]))
  refine og (fun _ hr => XS.dup X7.here hx rfl (hb hby dc16_23) rfl rfl (XS.iconst X7.here hx rfl (hb hby dc16_24) (XS.bipush X7.here hx rfl (hb hby dc16_25) hr))) ?_
  show oG p e below _ (T7.setTop (mkF m 27 #[.val (.int 0)] [(.int 103), (.int 3), (.ref b1), (.ref b1)]))
  refine own_stC X7 hx hZ e7 f7 (3 : Int32) (103 : Int32) (103 : Int32) 3 ⟨by decide, by decide⟩ rfl (Nat.le_of_ble_eq_true rfl) rfl [(.int 117), (.int 115), (.int 97), (.int 103), (.int 0), (.int 0), (.int 0), (.int 0), (.int 0)] rfl N7 ge2 (hb hby dc16_27) ?_
  intro T8 h8 L8 X8 e8 W8 N8 f8
  show oG p e below _ (T8.setTop (mkF m 28 #[.val (.int 0)] [(.ref b1)]))
  refine og (fun _ hr => XS.dup X8.here hx rfl (hb hby dc16_28) rfl rfl (XS.iconst X8.here hx rfl (hb hby dc16_29) (XS.bipush X8.here hx rfl (hb hby dc16_30) hr))) ?_
  show oG p e below _ (T8.setTop (mkF m 32 #[.val (.int 0)] [(.int 101), (.int 4), (.ref b1), (.ref b1)]))
  refine own_stC X8 hx hZ e8 f8 (4 : Int32) (101 : Int32) (101 : Int32) 4 ⟨by decide, by decide⟩ rfl (Nat.le_of_ble_eq_true rfl) rfl [(.int 117), (.int 115), (.int 97), (.int 103), (.int 101), (.int 0), (.int 0), (.int 0), (.int 0)] rfl N8 ge2 (hb hby dc16_32) ?_
  intro T9 h9 L9 X9 e9 W9 N9 f9
  show oG p e below _ (T9.setTop (mkF m 33 #[.val (.int 0)] [(.ref b1)]))
  refine og (fun _ hr => XS.dup X9.here hx rfl (hb hby dc16_33) rfl rfl (XS.iconst X9.here hx rfl (hb hby dc16_34) (XS.bipush X9.here hx rfl (hb hby dc16_35) hr))) ?_
  show oG p e below _ (T9.setTop (mkF m 37 #[.val (.int 0)] [(.int 95), (.int 5), (.ref b1), (.ref b1)]))
  refine own_stC X9 hx hZ e9 f9 (5 : Int32) (95 : Int32) (95 : Int32) 5 ⟨by decide, by decide⟩ rfl (Nat.le_of_ble_eq_true rfl) rfl [(.int 117), (.int 115), (.int 97), (.int 103), (.int 101), (.int 95), (.int 0), (.int 0), (.int 0)] rfl N9 ge2 (hb hby dc16_37) ?_
  intro T10 h10 L10 X10 e10 W10 N10 f10
  show oG p e below _ (T10.setTop (mkF m 38 #[.val (.int 0)] [(.ref b1)]))
  refine og (fun _ hr => XS.dup X10.here hx rfl (hb hby dc16_38) rfl rfl (XS.bipush X10.here hx rfl (hb hby dc16_39) (XS.bipush X10.here hx rfl (hb hby dc16_41) hr))) ?_
  show oG p e below _ (T10.setTop (mkF m 43 #[.val (.int 0)] [(.int 109), (.int 6), (.ref b1), (.ref b1)]))
  refine own_stC X10 hx hZ e10 f10 (6 : Int32) (109 : Int32) (109 : Int32) 6 ⟨by decide, by decide⟩ rfl (Nat.le_of_ble_eq_true rfl) rfl [(.int 117), (.int 115), (.int 97), (.int 103), (.int 101), (.int 95), (.int 109), (.int 0), (.int 0)] rfl N10 ge2 (hb hby dc16_43) ?_
  intro T11 h11 L11 X11 e11 W11 N11 f11
  show oG p e below _ (T11.setTop (mkF m 44 #[.val (.int 0)] [(.ref b1)]))
  refine og (fun _ hr => XS.dup X11.here hx rfl (hb hby dc16_44) rfl rfl (XS.bipush X11.here hx rfl (hb hby dc16_45) (XS.bipush X11.here hx rfl (hb hby dc16_47) hr))) ?_
  show oG p e below _ (T11.setTop (mkF m 49 #[.val (.int 0)] [(.int 51), (.int 7), (.ref b1), (.ref b1)]))
  refine own_stC X11 hx hZ e11 f11 (7 : Int32) (51 : Int32) (51 : Int32) 7 ⟨by decide, by decide⟩ rfl (Nat.le_of_ble_eq_true rfl) rfl [(.int 117), (.int 115), (.int 97), (.int 103), (.int 101), (.int 95), (.int 109), (.int 51), (.int 0)] rfl N11 ge2 (hb hby dc16_49) ?_
  intro T12 h12 L12 X12 e12 W12 N12 f12
  show oG p e below _ (T12.setTop (mkF m 50 #[.val (.int 0)] [(.ref b1)]))
  refine og (fun _ hr => XS.dup X12.here hx rfl (hb hby dc16_50) rfl rfl (XS.bipush X12.here hx rfl (hb hby dc16_51) (XS.bipush X12.here hx rfl (hb hby dc16_53) hr))) ?_
  show oG p e below _ (T12.setTop (mkF m 55 #[.val (.int 0)] [(.int 32), (.int 8), (.ref b1), (.ref b1)]))
  refine own_stC X12 hx hZ e12 f12 (8 : Int32) (32 : Int32) (32 : Int32) 8 ⟨by decide, by decide⟩ rfl (Nat.le_of_ble_eq_true rfl) rfl [(.int 117), (.int 115), (.int 97), (.int 103), (.int 101), (.int 95), (.int 109), (.int 51), (.int 32)] rfl N12 ge2 (hb hby dc16_55) ?_
  intro T13 h13 L13 X13 e13 W13 N13 f13
  show oG p e below _ (T13.setTop (mkF m 56 #[.val (.int 0)] [(.ref b1)]))
  have f14 := (((((((((EA1.wr W5).wr W6).wr W7).wr W8).wr W9).wr W10).wr W11).wr W12).wr W13)
  have K15 := ((((((((((K0.ext E1).wr W5 (Or.inr sz3)).wr W6 (Or.inr sz3)).wr W7 (Or.inr sz3)).wr W8 (Or.inr sz3)).wr W9 (Or.inr sz3)).wr W10 (Or.inr sz3)).wr W11 (Or.inr sz3)).wr W12 (Or.inr sz3)).wr W13 (Or.inr sz3))
  exact own_retR X13 hx hlk Bd.returns rfl rfl (hb hby dc16_56) (by decide) (by decide) (by rw [e13]; exact ⟨b1, k1, rfl, N13, K15, ge2, sz3, f14, f13⟩)
theorem dc18_4 : decode method_4_code 4 = .ok (.ldc 7, 2) := by decide +kernel
theorem dc18_6 : decode method_4_code 6 = .ok (.areturn, 1) := by decide +kernel
def Q_shorter_20 (Z : State) (h0 : Heap) (n0 : Nat) (v : Option Value) (h : Heap) (L : List Loc) : Prop := (∃ (a1 : Addr) (b1 : Addr) (k1 : ClassId), v = some (.ref a1) ∧ Fr n0 L ∧ Keep h0 h [] ∧ Exa Z h a1 "java/lang/String" ∧ Fld Z h a1 "java/lang/String" "coder" "B" (.int 0) ∧ Fld Z h a1 "java/lang/String" "value" "[B" (.ref b1) ∧ Arv Z h b1 k1 .byte (7 : Int32) [(.int 117), (.int 115), (.int 97), (.int 103), (.int 101), (.int 95), (.int 109)] (.int 0))
set_option maxRecDepth 65536 in
set_option maxHeartbeats 40000000 in
theorem rm_shorter_20 (l : Launch) (Z : State) (a0 : Array Value) (hw : ∀ d ∈ tables_1, d.before a0 Z = true) (ws : List Jvm.Cond) (h0 : Heap) (n0 : Nat) (Z0 : n0 ≤ h0.size) :
    MetFree l (⟨"com/example/strict_tariff/stricttariff/pricing/ColumnNamedPinLaw", "shorter", "(I)Ljava/lang/String;"⟩ : MethodName) (head1 (Jvm.Cond.code (⟨"com/example/strict_tariff/stricttariff/pricing/ColumnNamedPinLaw", "shorter", "(I)Ljava/lang/String;"⟩ : MethodName) method_4_code 1 (some (.object "java/lang/String")) :: ws) ({ frames := 0, cells := 2, slots := 32, locals := 0 } : Room)) (fun aA U => aA = #[(.int 0)] ∧ Z.Warmed39 U.vm ∧ U.heap = h0 ∧ CHv Z own_EL U.vm h0) (fun _ _ _ _ _ => True) (fun _ U o U' => ∃ v L, o = .returned v ∧ Q_shorter_20 Z h0 n0 v U'.heap L ∧ CHr Z own_EL U.vm U.heap U'.vm U'.heap ∧ ReturnedEndW U o U' L ({ frames := 0, cells := 2, slots := 32, locals := 0 } : Room).cells ({ frames := 0, cells := 2, slots := 32, locals := 0 } : Room).slots) := by
  refine MetFree.of_bodySF (plainFor_of_name own_pn_com_example_strict_tariff_stricttariff_pricing_ColumnNamedPinLaw) hisR ?_
  intro p e s m args below meth c s₁ Bd hml0 hP hK
  obtain ⟨rfl, hZ, hh, hC0⟩ := hP
  have hx := Bd.exec
  have hby := Bd.bytes
  have hlk : meth.locks = false := BodyLoose.notSynchronized Bd
  have hml : c.maxLocals = 1 := hml0
  have hown : s.vm.findClass "com/example/strict_tariff/stricttariff/pricing/ColumnNamedPinLaw" = some m.cls := findClass_of_methodNamed Bd.named
  have hnm := (name_of_methodNamed Bd.named Bd.method).1
  have X0 : Stand p l e ({ frames := 0, cells := 2, slots := 32, locals := 0 } : Room) (s.setVm s.vm) m #[(.int 0)] below meth c s₁ [] 0 0 := Stand.of_body Bd
  have e0 : s₁.heap = h0 := by rw [← hh, Bd.state]; rfl
  have N0 := Fr.nil n0
  have hS : s.Since s.vm 0 := (State.WarmedH.refl s).since 0
  have hk := Nat.zero_le h0.size
  have hEL : EW Z a0 own_EL := own_ew hw
  have A0 : CHr Z own_EL s.vm h0 s.vm h0 := CHr.refl hC0
  have K0 : Keep h0 h0 [] := Keep.refl _ _
  show oG p e below (own_KW Z own_EL s (Q_shorter_20 Z h0 n0) ({ frames := 0, cells := 2, slots := 32, locals := 0 } : Room).cells ({ frames := 0, cells := 2, slots := 32, locals := 0 } : Room).slots) (s₁.setTop (entryFrame m #[(.int 0)] 1))
  rw [(by first | (simp [entryFrame, mkF, argsToLocals, Value.category]; done) | rfl : entryFrame m #[(.int 0)] 1 = mkF m 0 #[.val (.int 0)] [])]
  show oG p e below _ (s₁.setTop (mkF m 0 #[.val (.int 0)] []))
  refine og (fun _ hr => XS.iloadN X0.here hx rfl (hb hby dc18_0) rfl (XS.ifNo X0.here hx rfl (hb hby dc18_1) rfl ((if0 _ _).trans (teq (by decide)).2) hr)) ?_
  show oG p e below _ (s₁.setTop (mkF m 4 #[.val (.int 0)] []))
  have hZo2 := hZ
  obtain ⟨a1, T1, h1, k11, b1, k1, X1, e1, E1, hS, hk1, hZ, hown, EA1, FC1, FV1, AV1, -, -, Al1, -, ne1, st1⟩ := ldcCH X0 hx hZ hown (hw _ (own_m 107 rfl)) (own_ws hw) e0 hS hk hEL (by simp [own_EL]) A0.1 (vs := [(.int 117), (.int 115), (.int 97), (.int 103), (.int 101), (.int 95), (.int 109)]) (z := (7 : Int32)) ⟨by decide, by decide⟩ (by decide) (by decide) (g := (mkF m 4 #[.val (.int 0)] [])) rfl (hb hby dc18_4) (n := 28) (by decide) (by decide) (by decide) (by decide)
  refine og st1 ?_
  show oG p e below _ (T1.setTop (mkF m 6 #[.val (.int 0)] [(.ref a1)]))
  have K3 := (K0.ext E1)
  have A4 := A0.trans Al1
  exact own_retRW X1 hx hlk Bd.returns hS hk1 hZ hEL hh e1 A4 rfl rfl (hb hby dc18_6) (by decide) (by decide) (by rw [e1]; exact ⟨a1, b1, k1, rfl, N0, K3, EA1, FC1, FV1, AV1⟩)
def own_tx8 : List Int32 := [117, 115, 97, 103, 101, 95, 109]
theorem own_cod8 : StrChars.Road.CodA own_tx8 0 (7 : Int32) [(.int 117), (.int 115), (.int 97), (.int 103), (.int 101), (.int 95), (.int 109)] := Or.inl ⟨rfl, by decide +kernel, by first | rfl | decide +kernel | simp [own_tx8, StrChars.lo8], by decide +kernel⟩
theorem own_hb8 : ∀ c ∈ own_tx8, ¬ c < 0 ∧ ¬ (65535 : Int32) < c := by decide +kernel
def Q_law (Z : State) (h0 : Heap) (n0 : Nat) (v : Option Value) (h : Heap) (L : List Loc) : Prop := v = some (.int 1) ∧ Fr n0 L
set_option maxRecDepth 65536 in
set_option maxHeartbeats 40000000 in
theorem rm_law (l : Launch) (Z : State) (a0 : Array Value) (hw : ∀ d ∈ tables_1, d.before a0 Z = true) (ws : List Jvm.Cond) (x0 : Int32) (x1 : Int32) (x2 : Int32) (r_USAGE : Addr) (r__VALUES : Addr) (r_CHARGE : Addr) (r_TAX : Addr) (r_GAS_PART : Addr) (r_USAGE_header : Addr) (r_USAGE_header_value : Addr) (r_CHARGE_header : Addr) (r_CHARGE_header_value : Addr) (r_TAX_header : Addr) (r_TAX_header_value : Addr) (r_GAS_PART_header : Addr) (r_GAS_PART_header_value : Addr) (k__VALUES : ClassId) (k_USAGE_header_value : ClassId) (k_CHARGE_header_value : ClassId) (k_TAX_header_value : ClassId) (k_GAS_PART_header_value : ClassId) (i_COMPACT_STRINGS : Int32) (v_SIOOBE_FORMATTER : Value) (r_EMPTY : Addr) (h0 : Heap) (n0 : Nat) (Z0 : n0 ≤ h0.size) (S_USAGE : Sta Z h0 "com/example/strict_tariff/stricttariff/pricing/Column" "USAGE" "Lcom/example/strict_tariff/stricttariff/pricing/Column;" (.ref r_USAGE)) (E_USAGE : Exa Z h0 r_USAGE "com/example/strict_tariff/stricttariff/pricing/Column") (S__VALUES : Sta Z h0 "com/example/strict_tariff/stricttariff/pricing/Column" "$VALUES" "[Lcom/example/strict_tariff/stricttariff/pricing/Column;" (.ref r__VALUES)) (E__VALUES : Exa Z h0 r__VALUES "[Lcom/example/strict_tariff/stricttariff/pricing/Column;") (S_CHARGE : Sta Z h0 "com/example/strict_tariff/stricttariff/pricing/Column" "CHARGE" "Lcom/example/strict_tariff/stricttariff/pricing/Column;" (.ref r_CHARGE)) (E_CHARGE : Exa Z h0 r_CHARGE "com/example/strict_tariff/stricttariff/pricing/Column") (S_TAX : Sta Z h0 "com/example/strict_tariff/stricttariff/pricing/Column" "TAX" "Lcom/example/strict_tariff/stricttariff/pricing/Column;" (.ref r_TAX)) (E_TAX : Exa Z h0 r_TAX "com/example/strict_tariff/stricttariff/pricing/Column") (S_GAS_PART : Sta Z h0 "com/example/strict_tariff/stricttariff/pricing/Column" "GAS_PART" "Lcom/example/strict_tariff/stricttariff/pricing/Column;" (.ref r_GAS_PART)) (E_GAS_PART : Exa Z h0 r_GAS_PART "com/example/strict_tariff/stricttariff/pricing/Column") (F_USAGE_header : Fld Z h0 r_USAGE "com/example/strict_tariff/stricttariff/pricing/Column" "header" "Ljava/lang/String;" (.ref r_USAGE_header)) (E_USAGE_header : Exa Z h0 r_USAGE_header "java/lang/String") (F_USAGE_header_coder : Fld Z h0 r_USAGE_header "java/lang/String" "coder" "B" (.int 0)) (F_USAGE_header_value : Fld Z h0 r_USAGE_header "java/lang/String" "value" "[B" (.ref r_USAGE_header_value)) (F_CHARGE_header : Fld Z h0 r_CHARGE "com/example/strict_tariff/stricttariff/pricing/Column" "header" "Ljava/lang/String;" (.ref r_CHARGE_header)) (E_CHARGE_header : Exa Z h0 r_CHARGE_header "java/lang/String") (F_CHARGE_header_coder : Fld Z h0 r_CHARGE_header "java/lang/String" "coder" "B" (.int 0)) (F_CHARGE_header_value : Fld Z h0 r_CHARGE_header "java/lang/String" "value" "[B" (.ref r_CHARGE_header_value)) (F_TAX_header : Fld Z h0 r_TAX "com/example/strict_tariff/stricttariff/pricing/Column" "header" "Ljava/lang/String;" (.ref r_TAX_header)) (E_TAX_header : Exa Z h0 r_TAX_header "java/lang/String") (F_TAX_header_coder : Fld Z h0 r_TAX_header "java/lang/String" "coder" "B" (.int 0)) (F_TAX_header_value : Fld Z h0 r_TAX_header "java/lang/String" "value" "[B" (.ref r_TAX_header_value)) (F_GAS_PART_header : Fld Z h0 r_GAS_PART "com/example/strict_tariff/stricttariff/pricing/Column" "header" "Ljava/lang/String;" (.ref r_GAS_PART_header)) (E_GAS_PART_header : Exa Z h0 r_GAS_PART_header "java/lang/String") (F_GAS_PART_header_coder : Fld Z h0 r_GAS_PART_header "java/lang/String" "coder" "B" (.int 0)) (F_GAS_PART_header_value : Fld Z h0 r_GAS_PART_header "java/lang/String" "value" "[B" (.ref r_GAS_PART_header_value)) (V__VALUES : Arv Z h0 r__VALUES k__VALUES (.object "com/example/strict_tariff/stricttariff/pricing/Column") (4 : Int32) [(.ref r_USAGE), (.ref r_CHARGE), (.ref r_TAX), (.ref r_GAS_PART)] .null) (V_USAGE_header_value : Arv Z h0 r_USAGE_header_value k_USAGE_header_value .byte (8 : Int32) [(.int 117), (.int 115), (.int 97), (.int 103), (.int 101), (.int 95), (.int 109), (.int 51)] (.int 0)) (V_CHARGE_header_value : Arv Z h0 r_CHARGE_header_value k_CHARGE_header_value .byte (10 : Int32) [(.int 99), (.int 104), (.int 97), (.int 114), (.int 103), (.int 101), (.int 95), (.int 121), (.int 101), (.int 110)] (.int 0)) (V_TAX_header_value : Arv Z h0 r_TAX_header_value k_TAX_header_value .byte (7 : Int32) [(.int 116), (.int 97), (.int 120), (.int 95), (.int 121), (.int 101), (.int 110)] (.int 0)) (V_GAS_PART_header_value : Arv Z h0 r_GAS_PART_header_value k_GAS_PART_header_value .byte (12 : Int32) [(.int 103), (.int 97), (.int 115), (.int 95), (.int 112), (.int 97), (.int 114), (.int 116), (.int 95), (.int 121), (.int 101), (.int 110)] (.int 0)) (S_COMPACT_STRINGS : Sta Z h0 "java/lang/String" "COMPACT_STRINGS" "Z" (.int i_COMPACT_STRINGS)) (S_SIOOBE_FORMATTER : Sta Z h0 "jdk/internal/util/Preconditions" "SIOOBE_FORMATTER" "Ljava/util/function/BiFunction;" v_SIOOBE_FORMATTER) (S_EMPTY : Sta Z h0 "java/util/Optional" "EMPTY" "Ljava/util/Optional;" (.ref r_EMPTY)) (E_EMPTY : Exa Z h0 r_EMPTY "java/util/Optional") (F_EMPTY_value : Fld Z h0 r_EMPTY "java/util/Optional" "value" "Ljava/lang/Object;" .null) (hs_COMPACT_STRINGS : ¬ (i_COMPACT_STRINGS = (0 : Int32))) (hv_SIOOBE_FORMATTER : v_SIOOBE_FORMATTER.isRef = true) :
    MetFree l x (head1 (Jvm.Cond.code x code maxLocals ret :: ws) room_1) (fun aA U => aA = #[(.int x0), (.int x1), (.int x2)] ∧ Z.Warmed39 U.vm ∧ U.heap = h0 ∧ CHv Z own_EL U.vm h0) (fun _ _ _ _ _ => True) (fun _ U o U' => ∃ v L, o = .returned v ∧ Q_law Z h0 n0 v U'.heap L ∧ CHr Z own_EL U.vm U.heap U'.vm U'.heap ∧ ReturnedEndW U o U' L room_1.cells room_1.slots) := by
  refine MetFree.of_bodySF (plainFor_of_name own_pn_com_example_strict_tariff_stricttariff_pricing_ColumnNamedPinLaw) hisR ?_
  intro p e s m args below meth c s₁ Bd hml0 hP hK
  obtain ⟨rfl, hZ, hh, hC0⟩ := hP
  have hx := Bd.exec
  have hby := Bd.bytes
  have hlk : meth.locks = false := BodyLoose.notSynchronized Bd
  have hml : c.maxLocals = 13 := hml0
  have hown : s.vm.findClass "com/example/strict_tariff/stricttariff/pricing/ColumnNamedPinLaw" = some m.cls := findClass_of_methodNamed Bd.named
  have hnm := (name_of_methodNamed Bd.named Bd.method).1
  have X0 : Stand p l e room_1 (s.setVm s.vm) m #[(.int x0), (.int x1), (.int x2)] below meth c s₁ [] 0 0 := Stand.of_body Bd
  have e0 : s₁.heap = h0 := by rw [← hh, Bd.state]; rfl
  have N0 := Fr.nil n0
  have hS : s.Since s.vm 0 := (State.WarmedH.refl s).since 0
  have hk := Nat.zero_le h0.size
  have hEL : EW Z a0 own_EL := own_ew hw
  have A0 : CHr Z own_EL s.vm h0 s.vm h0 := CHr.refl hC0
  have K0 : Keep h0 h0 [] := Keep.refl _ _
  show oG p e below (own_KW Z own_EL s (Q_law Z h0 n0) room_1.cells room_1.slots) (s₁.setTop (entryFrame m #[(.int x0), (.int x1), (.int x2)] maxLocals))
  rw [(by first | (simp [entryFrame, mkF, argsToLocals, Value.category, maxLocals]; done) | rfl : entryFrame m #[(.int x0), (.int x1), (.int x2)] maxLocals = mkF m 0 #[.val (.int x0), .val (.int x1), .val (.int x2), .unset, .unset, .unset, .unset, .unset, .unset, .unset, .unset, .unset, .unset] [])]
  show oG p e below _ (s₁.setTop (mkF m 0 #[.val (.int x0), .val (.int x1), .val (.int x2), .unset, .unset, .unset, .unset, .unset, .unset, .unset, .unset, .unset, .unset] []))
  refine og (fun _ hr => XS.iloadN X0.here hx rfl (hb hby at_0) rfl (XS.iconst X0.here hx rfl (hb hby at_1) (XS.iand X0.here hx rfl (hb hby at_2) rfl (XS.istoreN X0.here hx rfl (hb hby at_3) rfl (l' := #[.val (.int x0), .val (.int x1), .val (.int x2), .val (.int (x0 &&& (3 : Int32))), .unset, .unset, .unset, .unset, .unset, .unset, .unset, .unset, .unset]) rfl hr)))) ?_
  show oG p e below _ (s₁.setTop (mkF m 4 #[.val (.int x0), .val (.int x1), .val (.int x2), .val (.int (x0 &&& (3 : Int32))), .unset, .unset, .unset, .unset, .unset, .unset, .unset, .unset, .unset] []))
  generalize hk_ : (x0 &&& (3 : Int32)) = k_
  refine og (fun _ hr => XS.iloadN X0.here hx rfl (hb hby at_4) rfl (XS.iconst X0.here hx rfl (hb hby at_5) (XS.iushr X0.here hx rfl (hb hby at_6) rfl (XS.iconst X0.here hx rfl (hb hby at_7) (XS.iand X0.here hx rfl (hb hby at_8) rfl (XS.istore X0.here hx rfl (hb hby at_9) rfl (l' := #[.val (.int x0), .val (.int x1), .val (.int x2), .val (.int k_), .val (.int (((x0.toUInt32 >>> ((2 : Int32) &&& 31).toUInt32).toInt32) &&& (3 : Int32))), .unset, .unset, .unset, .unset, .unset, .unset, .unset, .unset]) rfl hr)))))) ?_
  show oG p e below _ (s₁.setTop (mkF m 11 #[.val (.int x0), .val (.int x1), .val (.int x2), .val (.int k_), .val (.int (((x0.toUInt32 >>> ((2 : Int32) &&& 31).toUInt32).toInt32) &&& (3 : Int32))), .unset, .unset, .unset, .unset, .unset, .unset, .unset, .unset] []))
  generalize hsh_ : (((x0.toUInt32 >>> ((2 : Int32) &&& 31).toUInt32).toInt32) &&& (3 : Int32)) = sh_
  refine og (fun _ hr => XS.iloadN X0.here hx rfl (hb hby at_11) rfl (XS.sipush X0.here hx rfl (hb hby at_12) (XS.iand X0.here hx rfl (hb hby at_15) rfl (XS.i2c X0.here hx rfl (hb hby at_16) rfl (XS.istore X0.here hx rfl (hb hby at_17) rfl (l' := #[.val (.int x0), .val (.int x1), .val (.int x2), .val (.int k_), .val (.int sh_), .val (.int ((x2 &&& (255 : Int32)).toUInt32.toUInt16.toUInt32.toInt32)), .unset, .unset, .unset, .unset, .unset, .unset, .unset]) rfl hr))))) ?_
  show oG p e below _ (s₁.setTop (mkF m 19 #[.val (.int x0), .val (.int x1), .val (.int x2), .val (.int k_), .val (.int sh_), .val (.int ((x2 &&& (255 : Int32)).toUInt32.toUInt16.toUInt32.toInt32)), .unset, .unset, .unset, .unset, .unset, .unset, .unset] []))
  generalize hc_ : ((x2 &&& (255 : Int32)).toUInt32.toUInt16.toUInt32.toInt32) = c_
  refine og (fun _ hr => XS.iloadN X0.here hx rfl (hb hby at_19) rfl (XS.sipush X0.here hx rfl (hb hby at_20) (XS.iand X0.here hx rfl (hb hby at_23) rfl hr))) ?_
  show oG p e below _ (s₁.setTop (mkF m 24 #[.val (.int x0), .val (.int x1), .val (.int x2), .val (.int k_), .val (.int sh_), .val (.int c_), .unset, .unset, .unset, .unset, .unset, .unset, .unset] [(.int (x2 &&& (256 : Int32)))]))
  have j1 : ∀ (mu_ : Int32), (True) → oG p e below (own_KW Z own_EL s (Q_law Z h0 n0) room_1.cells room_1.slots) (s₁.setTop (mkF m 34 #[.val (.int x0), .val (.int x1), .val (.int x2), .val (.int k_), .val (.int sh_), .val (.int c_), .val (.int mu_), .unset, .unset, .unset, .unset, .unset, .unset] [])) := by
    intro mu_ hj1
    show oG p e below _ (s₁.setTop (mkF m 34 #[.val (.int x0), .val (.int x1), .val (.int x2), .val (.int k_), .val (.int sh_), .val (.int c_), .val (.int mu_), .unset, .unset, .unset, .unset, .unset, .unset] []))
    rcases Classical.em (k_ = (3 : Int32)) with c2 | c2
    · rw [c2]
      show oG p e below _ (s₁.setTop (mkF m 34 #[.val (.int x0), .val (.int x1), .val (.int x2), .val (.int 3), .val (.int sh_), .val (.int c_), .val (.int mu_), .unset, .unset, .unset, .unset, .unset, .unset] []))
      refine og (fun _ hr => XS.iloadN X0.here hx rfl (hb hby at_34) rfl (XS.ifYes X0.here hx rfl (pc0 := 35) (pc' := 46) rfl (hb hby at_35) rfl ((if0 _ _).trans (feq (by decide)).2) (by decide) (by decide) (XS.iloadN X0.here hx rfl (hb hby at_46) rfl (XS.iconst X0.here hx rfl (hb hby at_47) (XS.icmpYes X0.here hx rfl (pc0 := 48) (pc' := 59) rfl (hb hby at_48) rfl (feq (by decide)).2 (by decide) (by decide) (XS.iloadN X0.here hx rfl (hb hby at_59) rfl (XS.iconst X0.here hx rfl (hb hby at_60) (XS.icmpYes X0.here hx rfl (pc0 := 61) (pc' := 72) rfl (hb hby at_61) rfl (feq (by decide)).2 (by decide) (by decide) hr)))))))) ?_
      show oG p e below _ (s₁.setTop (mkF m 72 #[.val (.int x0), .val (.int x1), .val (.int x2), .val (.int 3), .val (.int sh_), .val (.int c_), .val (.int mu_), .unset, .unset, .unset, .unset, .unset, .unset] []))
      obtain ⟨T3, X3, e3, st3⟩ := getS2 X0 hx hZ hown (host := "") (Or.inl (hw _ (own_m 103 rfl))) Via.refl e0 S_GAS_PART (g := (mkF m 72 #[.val (.int x0), .val (.int x1), .val (.int x2), .val (.int 3), .val (.int sh_), .val (.int c_), .val (.int mu_), .unset, .unset, .unset, .unset, .unset, .unset] [])) rfl (hb hby at_72)
      refine og st3 ?_
      show oG p e below _ (T3.setTop (mkF m 75 #[.val (.int x0), .val (.int x1), .val (.int x2), .val (.int 3), .val (.int sh_), .val (.int c_), .val (.int mu_), .unset, .unset, .unset, .unset, .unset, .unset] [(.ref r_GAS_PART)]))
      refine og (fun _ hr => XS.astore X3.here hx rfl (hb hby at_75) rfl rfl (l' := #[.val (.int x0), .val (.int x1), .val (.int x2), .val (.int 3), .val (.int sh_), .val (.int c_), .val (.int mu_), .val (.ref r_GAS_PART), .unset, .unset, .unset, .unset, .unset]) rfl (XS.iload X3.here hx rfl (hb hby at_77) rfl hr)) ?_
      show oG p e below _ (T3.setTop (mkF m 79 #[.val (.int x0), .val (.int x1), .val (.int x2), .val (.int 3), .val (.int sh_), .val (.int c_), .val (.int mu_), .val (.ref r_GAS_PART), .unset, .unset, .unset, .unset, .unset] [(.int sh_)]))
      rcases Classical.em (sh_ = (0 : Int32)) with c4 | c4
      · skip
        refine og (fun _ hr => XS.ifNo X3.here hx rfl (hb hby at_79) rfl ((if0 _ _).trans (teq c4).2) hr) ?_
        show oG p e below _ (T3.setTop (mkF m 82 #[.val (.int x0), .val (.int x1), .val (.int x2), .val (.int 3), .val (.int sh_), .val (.int c_), .val (.int mu_), .val (.ref r_GAS_PART), .unset, .unset, .unset, .unset, .unset] []))
        refine og (fun _ hr => XS.iloadN X3.here hx rfl (hb hby at_82) rfl hr) ?_
        show oG p e below _ (T3.setTop (mkF m 83 #[.val (.int x0), .val (.int x1), .val (.int x2), .val (.int 3), .val (.int sh_), .val (.int c_), .val (.int mu_), .val (.ref r_GAS_PART), .unset, .unset, .unset, .unset, .unset] [(.int 3)]))
        refine own_cs X3 hx hZ hown (hw _ (own_m 3 rfl)) (hw _ (own_m 4 rfl)) (hw _ (own_m 5 rfl)) (hw _ (own_m 6 rfl)) (by decide) (rm := { frames := 0, cells := 1, slots := 12, locals := 0 }) (rm_exact_5 l Z a0 hw []  h0 n0 Z0 ) (by decide) (W := 0) (by decide) (by decide) (by decide) e3 (by rw [hml]; rfl) (argsL := [(.int 3)]) (lenOf own_pd7 rfl) (rest := []) rfl rfl (Nat.le_of_eq rfl) (hb hby at_83) ?_
        intro _ T5 L5 X5 hQ5
        obtain ⟨b5_0, kb5_0, rfl, N5q, K5, ge5_0, sz5_0, f5_0, f5_1⟩ := hQ5
        have N5 := Fr.app N0 N5q
        have sz6 : h0.size ≤ b5_0 := Nat.le_trans K0.1 sz5_0
        show oG p e below _ (T5.setTop (mkF m 86 #[.val (.int x0), .val (.int x1), .val (.int x2), .val (.int 3), .val (.int sh_), .val (.int c_), .val (.int mu_), .val (.ref r_GAS_PART), .unset, .unset, .unset, .unset, .unset] [(.ref b5_0)]))
        refine og (fun _ hr => XS.astore X5.here hx rfl (hb hby at_86) rfl rfl (l' := #[.val (.int x0), .val (.int x1), .val (.int x2), .val (.int 3), .val (.int sh_), .val (.int c_), .val (.int mu_), .val (.ref r_GAS_PART), .unset, .unset, .val (.ref b5_0), .unset, .unset]) rfl (XS.iloadN X5.here hx rfl (hb hby at_88) rfl hr)) ?_
        show oG p e below _ (T5.setTop (mkF m 89 #[.val (.int x0), .val (.int x1), .val (.int x2), .val (.int 3), .val (.int sh_), .val (.int c_), .val (.int mu_), .val (.ref r_GAS_PART), .unset, .unset, .val (.ref b5_0), .unset, .unset] [(.int x1)]))
        refine og (X5.ldcInt hx hown (mvT hZ (hw _ (own_m 8 rfl))) rfl (hb hby at_89)) ?_
        show oG p e below _ (T5.setTop (mkF m 91 #[.val (.int x0), .val (.int x1), .val (.int x2), .val (.int 3), .val (.int sh_), .val (.int c_), .val (.int mu_), .val (.ref r_GAS_PART), .unset, .unset, .val (.ref b5_0), .unset, .unset] [(.int 2147483647), (.int x1)]))
        refine og (fun _ hr => XS.iand X5.here hx rfl (hb hby at_91) rfl (XS.aload X5.here hx rfl (hb hby at_92) rfl rfl (own_alen X5 hx hZ rfl f5_1 rfl rfl (hb hby at_94) hr))) ?_
        show oG p e below _ (T5.setTop (mkF m 95 #[.val (.int x0), .val (.int x1), .val (.int x2), .val (.int 3), .val (.int sh_), .val (.int c_), .val (.int mu_), .val (.ref r_GAS_PART), .unset, .unset, .val (.ref b5_0), .unset, .unset] [(.int 12), (.int (x1 &&& (2147483647 : Int32)))]))
        have nz7 : (12 : Int32) ≠ (0 : Int32) := by decide
        refine og (fun _ hr => iremM X5 hx rfl (hb hby at_95) rfl nz7 hr) ?_
        show oG p e below _ (T5.setTop (mkF m 96 #[.val (.int x0), .val (.int x1), .val (.int x2), .val (.int 3), .val (.int sh_), .val (.int c_), .val (.int mu_), .val (.ref r_GAS_PART), .unset, .unset, .val (.ref b5_0), .unset, .unset] [(.int ((x1 &&& (2147483647 : Int32)) % (12 : Int32)))]))
        refine og (fun _ hr => XS.istore X5.here hx rfl (hb hby at_96) rfl (l' := #[.val (.int x0), .val (.int x1), .val (.int x2), .val (.int 3), .val (.int sh_), .val (.int c_), .val (.int mu_), .val (.ref r_GAS_PART), .unset, .unset, .val (.ref b5_0), .val (.int ((x1 &&& (2147483647 : Int32)) % (12 : Int32))), .unset]) rfl hr) ?_
        show oG p e below _ (T5.setTop (mkF m 98 #[.val (.int x0), .val (.int x1), .val (.int x2), .val (.int 3), .val (.int sh_), .val (.int c_), .val (.int mu_), .val (.ref r_GAS_PART), .unset, .unset, .val (.ref b5_0), .val (.int ((x1 &&& (2147483647 : Int32)) % (12 : Int32))), .unset] []))
        generalize hp_ : ((x1 &&& (2147483647 : Int32)) % (12 : Int32)) = p_
        refine og (fun _ hr => XS.iconst X5.here hx rfl (hb hby at_98) (XS.istore X5.here hx rfl (hb hby at_99) rfl (l' := #[.val (.int x0), .val (.int x1), .val (.int x2), .val (.int 3), .val (.int sh_), .val (.int c_), .val (.int mu_), .val (.ref r_GAS_PART), .unset, .unset, .val (.ref b5_0), .val (.int p_), .val (.int 1)]) rfl (XS.iload X5.here hx rfl (hb hby at_101) rfl hr))) ?_
        show oG p e below _ (T5.setTop (mkF m 103 #[.val (.int x0), .val (.int x1), .val (.int x2), .val (.int 3), .val (.int sh_), .val (.int c_), .val (.int mu_), .val (.ref r_GAS_PART), .unset, .unset, .val (.ref b5_0), .val (.int p_), .val (.int 1)] [(.int mu_)]))
        rcases Classical.em (mu_ = (0 : Int32)) with c8 | c8
        · skip
          refine og (fun _ hr => XS.ifYes X5.here hx rfl (pc0 := 103) (pc' := 130) rfl (hb hby at_103) rfl ((if0 _ _).trans (teq c8).1) (by decide) (by decide) hr) ?_
          show oG p e below _ (T5.setTop (mkF m 130 #[.val (.int x0), .val (.int x1), .val (.int x2), .val (.int 3), .val (.int sh_), .val (.int c_), .val (.int mu_), .val (.ref r_GAS_PART), .unset, .unset, .val (.ref b5_0), .val (.int p_), .val (.int 1)] []))
          obtain ⟨T9, h9, X9, e9, E9, A9, D9, -, st9⟩ := newO X5 hx hZ hown (hw _ (own_m 9 rfl)) (hw _ (own_m 10 rfl)) (hw _ (own_m 11 rfl)) rfl (g := (mkF m 130 #[.val (.int x0), .val (.int x1), .val (.int x2), .val (.int 3), .val (.int sh_), .val (.int c_), .val (.int mu_), .val (.ref r_GAS_PART), .unset, .unset, .val (.ref b5_0), .val (.int p_), .val (.int 1)] [])) rfl (hb hby at_130) (by decide) (by decide)
          obtain ⟨b9, g9⟩ : ∃ z, z = T5.heap.size := ⟨_, rfl⟩
          rw [← g9] at A9 D9 st9
          have Z10 := (Nat.le_trans Z0 K5.1)
          have ge11 : n0 ≤ b9 := Nat.le_trans Z10 (Nat.le_of_eq g9.symm)
          have K12 := (K0.trans K5 all0)
          have sz13 : h0.size ≤ b9 := Nat.le_trans K12.1 (Nat.le_of_eq g9.symm)
          refine og st9 ?_
          have f14 : Fld Z h9 b9 "java/lang/String" "coder" "B" (.int 0) := D9 (Or.inr (hw _ (own_m 35 rfl))) (ty := .byte) (by decide)
          have f15 : Fld Z h9 b9 "java/lang/String" "value" "[B" .null := D9 (Or.inr (hw _ (own_m 37 rfl))) (ty := (.array .byte)) (by decide)
          show oG p e below _ (T9.setTop (mkF m 133 #[.val (.int x0), .val (.int x1), .val (.int x2), .val (.int 3), .val (.int sh_), .val (.int c_), .val (.int mu_), .val (.ref r_GAS_PART), .unset, .unset, .val (.ref b5_0), .val (.int p_), .val (.int 1)] [(.ref b9)]))
          refine og (fun _ hr => XS.dup X9.here hx rfl (hb hby at_133) rfl rfl (XS.aload X9.here hx rfl (hb hby at_134) rfl rfl hr)) ?_
          show oG p e below _ (T9.setTop (mkF m 136 #[.val (.int x0), .val (.int x1), .val (.int x2), .val (.int 3), .val (.int sh_), .val (.int c_), .val (.int mu_), .val (.ref r_GAS_PART), .unset, .unset, .val (.ref b5_0), .val (.int p_), .val (.int 1)] [(.ref b5_0), (.ref b9), (.ref b9)]))
          have hp16 : ∀ c ∈ ([103, 97, 115, 95, 112, 97, 114, 116, 95, 121, 101, 110] : List Int32), ¬ c < 0 ∧ ¬ (255 : Int32) < c := (own_lc (by decide) (own_lc (by decide) (own_lc (by decide) (own_lc (by decide) (own_lc (by decide) (own_lc (by decide) (own_lc (by decide) (own_lc (by decide) (own_lc (by decide) (own_lc (by decide) (own_lc (by decide) (own_lc (by decide) own_ln))))))))))))
          have f17 := (f5_1.ext E9)
          have f18 := ((own_sta_keep S_COMPACT_STRINGS K5 all0).ext E9)
          have Z19 := (Nat.le_trans Z10 E9.1)
          refine own_newS X9 hx hZ hown hw (hw _ (own_m 12 rfl)) (hw _ (own_m 13 rfl)) (hw _ (own_m 14 rfl)) (hw _ (own_m 10 rfl)) [103, 97, 115, 95, 112, 97, 114, 116, 95, 121, 101, 110] ge11 Z19 A9 f15 f14 f17 f18 hs_COMPACT_STRINGS (n := 12) rfl rfl (by decide) (by decide) hp16 (by decide) (W := 1) (by decide) (by decide) (by decide) e9 (by rw [hml]; rfl) (Nat.le_of_eq rfl) (hb hby at_136) ?_
          intro T16 L16 b16_0 kb16_0 X16 N16q K16 f16_0 f16_1 ge16_0 sz16_0 ne16_0 f16_2 f16_3
          have N16 := Fr.app N5 N16q
          have K21 := (K12.ext E9)
          have sz20 : h0.size ≤ b16_0 := Nat.le_trans K21.1 sz16_0
          show oG p e below _ (T16.setTop (mkF m 139 #[.val (.int x0), .val (.int x1), .val (.int x2), .val (.int 3), .val (.int sh_), .val (.int c_), .val (.int mu_), .val (.ref r_GAS_PART), .unset, .unset, .val (.ref b5_0), .val (.int p_), .val (.int 1)] [(.ref b9)]))
          refine og (fun _ hr => XS.astore X16.here hx rfl (hb hby at_139) rfl rfl (l' := #[.val (.int x0), .val (.int x1), .val (.int x2), .val (.int 3), .val (.int sh_), .val (.int c_), .val (.int mu_), .val (.ref r_GAS_PART), .val (.ref b9), .unset, .val (.ref b5_0), .val (.int p_), .val (.int 1)]) rfl (XS.iload X16.here hx rfl (hb hby at_141) rfl (XS.ifNo X16.here hx rfl (hb hby at_143) rfl ((if0 _ _).trans (feq (by decide)).1) (XS.aload X16.here hx rfl (hb hby at_146) rfl rfl (XS.goto X16.here hx rfl (pc0 := 148) (pc' := 152) rfl (hb hby at_148) (by decide) (by decide) (XS.astore X16.here hx rfl (hb hby at_152) rfl rfl (l' := #[.val (.int x0), .val (.int x1), .val (.int x2), .val (.int 3), .val (.int sh_), .val (.int c_), .val (.int mu_), .val (.ref r_GAS_PART), .val (.ref b9), .val (.ref r_GAS_PART), .val (.ref b5_0), .val (.int p_), .val (.int 1)]) rfl (XS.goto X16.here hx rfl (pc0 := 154) (pc' := 231) rfl (hb hby at_154) (by decide) (by decide) (XS.aload X16.here hx rfl (hb hby at_231) rfl rfl hr)))))))) ?_
          show oG p e below _ (T16.setTop (mkF m 233 #[.val (.int x0), .val (.int x1), .val (.int x2), .val (.int 3), .val (.int sh_), .val (.int c_), .val (.int mu_), .val (.ref r_GAS_PART), .val (.ref b9), .val (.ref r_GAS_PART), .val (.ref b5_0), .val (.int p_), .val (.int 1)] [(.ref b9)]))
          have K23 := (K21.trans K16 (allS (Or.inr sz13) all0))
          have f24 := (own_sta_keep S__VALUES K23 all0)
          have f25 := (E__VALUES.keep K23)
          have f26 := (F_USAGE_header.keep K23 nin0)
          have f27 := (E_USAGE_header.keep K23)
          have f28 := (F_USAGE_header_coder.keep K23 nin0)
          have f29 := (F_USAGE_header_value.keep K23 nin0)
          have f30 := (F_CHARGE_header.keep K23 nin0)
          have f31 := (E_CHARGE_header.keep K23)
          have f32 := (F_CHARGE_header_coder.keep K23 nin0)
          have f33 := (F_CHARGE_header_value.keep K23 nin0)
          have f34 := (F_TAX_header.keep K23 nin0)
          have f35 := (E_TAX_header.keep K23)
          have f36 := (F_TAX_header_coder.keep K23 nin0)
          have f37 := (F_TAX_header_value.keep K23 nin0)
          have f38 := (F_GAS_PART_header.keep K23 nin0)
          have f39 := (E_GAS_PART_header.keep K23)
          have f40 := (F_GAS_PART_header_coder.keep K23 nin0)
          have f41 := (F_GAS_PART_header_value.keep K23 nin0)
          have f42 := (V__VALUES.keep K23 nin0)
          have f43 := (V_USAGE_header_value.keep K23 nin0)
          have f44 := (V_CHARGE_header_value.keep K23 nin0)
          have f45 := (V_TAX_header_value.keep K23 nin0)
          have f46 := (V_GAS_PART_header_value.keep K23 nin0)
          have f47 := (own_sta_keep f18 K16 (allS (own_ns_exa A9) all0))
          have f48 := (own_sta_keep S_EMPTY K23 all0)
          have f49 := (E_EMPTY.keep K23)
          have f50 := (F_EMPTY_value.keep K23 nin0)
          have Z51 := (Nat.le_trans Z19 K16.1)
          refine own_cs X16 hx hZ hown (hw _ (own_m 38 rfl)) (hw _ (own_m 39 rfl)) (hw _ (own_m 1 rfl)) (hw _ (own_m 40 rfl)) (by decide) (rm := { frames := 3, cells := 2, slots := 5, locals := 38 }) (rm_named_s l Z a0 hw [] b9 b16_0 kb16_0 (12 : Int32) [103, 97, 115, 95, 112, 97, 114, 116, 95, 121, 101, 110] ((List.map StrChars.lo8 [103, 97, 115, 95, 112, 97, 114, 116, 95, 121, 101, 110]).map Value.int) r_USAGE r__VALUES r_CHARGE r_TAX r_GAS_PART r_USAGE_header r_USAGE_header_value r_CHARGE_header r_CHARGE_header_value r_TAX_header r_TAX_header_value r_GAS_PART_header r_GAS_PART_header_value k__VALUES k_USAGE_header_value k_CHARGE_header_value k_TAX_header_value k_GAS_PART_header_value i_COMPACT_STRINGS v_SIOOBE_FORMATTER r_EMPTY T16.heap n0 Z51 f16_0 f16_1 f16_2 f16_3 (StrChars.Road.codOf (cs := [103, 97, 115, 95, 112, 97, 114, 116, 95, 121, 101, 110]) (n := 12) rfl (fun c hc => (hp16 c hc).2)) (own_up hp16) (Nat.le_of_ble_eq_true rfl) f24 f25 f26 f27 f28 f29 f30 f31 f32 f33 f34 f35 f36 f37 f38 f39 f40 f41 f42 f43 f44 f45 f46 f47 f48 f49 f50 hs_COMPACT_STRINGS hv_SIOOBE_FORMATTER) (by decide) (W := 0) (by decide) (by decide) (by decide) rfl (by rw [hml]; rfl) (argsL := [(.ref b9)]) (lenOf own_pd8 rfl) (rest := []) rfl rfl (Nat.le_of_eq rfl) (hb hby at_233) ?_
          intro _ T22 L22 X22 hQ22
          have c52 : (own_same own_tx0 [103, 97, 115, 95, 112, 97, 114, 116, 95, 121, 101, 110]) = (0 : Int32) := by decide +kernel
          have c53 : (own_same own_tx1 [103, 97, 115, 95, 112, 97, 114, 116, 95, 121, 101, 110]) = (0 : Int32) := by decide +kernel
          have c54 : (own_same own_tx2 [103, 97, 115, 95, 112, 97, 114, 116, 95, 121, 101, 110]) = (0 : Int32) := by decide +kernel
          have c55 : ¬ ((own_same own_tx3 [103, 97, 115, 95, 112, 97, 114, 116, 95, 121, 101, 110]) = (0 : Int32)) := by decide +kernel
          have ev56 : (own_nm [103, 97, 115, 95, 112, 97, 114, 116, 95, 121, 101, 110] r_USAGE r_CHARGE r_TAX r_GAS_PART) = (.ref r_GAS_PART) := by unfold own_nm; rw [if_pos c52, if_pos c53, if_pos c54, if_neg c55]
          unfold Q_named_s at hQ22; rw [ev56] at hQ22
          obtain ⟨b22_0, rfl, N22q, K22, f22_0, f22_1⟩ := hQ22
          have N22 := Fr.app N16 N22q
          show oG p e below _ (T22.setTop (mkF m 236 #[.val (.int x0), .val (.int x1), .val (.int x2), .val (.int 3), .val (.int sh_), .val (.int c_), .val (.int mu_), .val (.ref r_GAS_PART), .val (.ref b9), .val (.ref r_GAS_PART), .val (.ref b5_0), .val (.int p_), .val (.int 1)] [(.ref b22_0)]))
          refine og (fun _ hr => XS.aconstNull X22.here hx rfl (hb hby at_236) hr) ?_
          show oG p e below _ (T22.setTop (mkF m 237 #[.val (.int x0), .val (.int x1), .val (.int x2), .val (.int 3), .val (.int sh_), .val (.int c_), .val (.int mu_), .val (.ref r_GAS_PART), .val (.ref b9), .val (.ref r_GAS_PART), .val (.ref b5_0), .val (.int p_), .val (.int 1)] [.null, (.ref b22_0)]))
          have Z58 := (Nat.le_trans Z51 K22.1)
          refine own_cv X22 hx hZ hown (notFace_of_selects (args := #[]) (mvT hZ (hw _ (own_m 91 rfl)))) (hw _ (own_m 88 rfl)) (hw _ (own_m 89 rfl)) (hw _ (own_m 91 rfl)) (hw _ (own_m 90 rfl)) (hw _ (own_m 73 rfl)) (hw _ (own_m 92 rfl)) (by decide) f22_0 (rm := { frames := 0, cells := 0, slots := 0, locals := 0 }) (rm_orElse_6 l Z a0 hw [] b22_0 r_GAS_PART T22.heap n0 Z58 f22_1) (by decide) (W := 0) (by decide) (by decide) (by decide) rfl (by rw [hml]; rfl) (argsL := [.null]) (lenOf own_pd4 rfl) (rest := []) rfl rfl (Nat.le_of_eq rfl) (hb hby at_237) ?_
          intro _ T57 L57 X57 hQ57
          obtain ⟨rfl, N57q, e57⟩ := hQ57
          have N57 := Fr.app N22 N57q
          show oG p e below _ (T57.setTop (mkF m 240 #[.val (.int x0), .val (.int x1), .val (.int x2), .val (.int 3), .val (.int sh_), .val (.int c_), .val (.int mu_), .val (.ref r_GAS_PART), .val (.ref b9), .val (.ref r_GAS_PART), .val (.ref b5_0), .val (.int p_), .val (.int 1)] [(.ref r_GAS_PART)]))
          have K59 := (K23.trans K22 all0)
          have f60 := (E_GAS_PART.keep K59)
          obtain ⟨T61, X61, e61, st61⟩ := castY X57 hx hZ hown (hw _ (own_m 93 rfl)) e57 (Ins.self f60) (g := (mkF m 240 #[.val (.int x0), .val (.int x1), .val (.int x2), .val (.int 3), .val (.int sh_), .val (.int c_), .val (.int mu_), .val (.ref r_GAS_PART), .val (.ref b9), .val (.ref r_GAS_PART), .val (.ref b5_0), .val (.int p_), .val (.int 1)] [(.ref r_GAS_PART)])) rfl rfl (hb hby at_240)
          refine og st61 ?_
          show oG p e below _ (T61.setTop (mkF m 243 #[.val (.int x0), .val (.int x1), .val (.int x2), .val (.int 3), .val (.int sh_), .val (.int c_), .val (.int mu_), .val (.ref r_GAS_PART), .val (.ref b9), .val (.ref r_GAS_PART), .val (.ref b5_0), .val (.int p_), .val (.int 1)] [(.ref r_GAS_PART)]))
          refine og (fun _ hr => XS.astore X61.here hx rfl (hb hby at_243) rfl rfl (l' := #[.val (.int x0), .val (.int x1), .val (.int x2), .val (.int 3), .val (.int sh_), .val (.int c_), .val (.int mu_), .val (.ref r_GAS_PART), .val (.ref b9), .val (.ref r_GAS_PART), .val (.ref r_GAS_PART), .val (.int p_), .val (.int 1)]) rfl (XS.aload X61.here hx rfl (hb hby at_245) rfl rfl (XS.aload X61.here hx rfl (hb hby at_247) rfl rfl hr))) ?_
          show oG p e below _ (T61.setTop (mkF m 249 #[.val (.int x0), .val (.int x1), .val (.int x2), .val (.int 3), .val (.int sh_), .val (.int c_), .val (.int mu_), .val (.ref r_GAS_PART), .val (.ref b9), .val (.ref r_GAS_PART), .val (.ref r_GAS_PART), .val (.int p_), .val (.int 1)] [(.ref r_GAS_PART), (.ref r_GAS_PART)]))
          refine og (fun _ hr => Jvm.RoadKit.acmp X61 hx rfl rfl rfl (pc0 := 249) (pc' := 252) (same := true) rfl (hb hby at_249) rfl (decide_eq_true rfl) (by decide) (by decide) hr) ?_
          show oG p e below _ (T61.setTop (mkF m 252 #[.val (.int x0), .val (.int x1), .val (.int x2), .val (.int 3), .val (.int sh_), .val (.int c_), .val (.int mu_), .val (.ref r_GAS_PART), .val (.ref b9), .val (.ref r_GAS_PART), .val (.ref r_GAS_PART), .val (.int p_), .val (.int 1)] []))
          refine og (fun _ hr => XS.iconst X61.here hx rfl (hb hby at_252) (XS.goto X61.here hx rfl (pc0 := 253) (pc' := 257) rfl (hb hby at_253) (by decide) (by decide) hr)) ?_
          show oG p e below _ (T61.setTop (mkF m 257 #[.val (.int x0), .val (.int x1), .val (.int x2), .val (.int 3), .val (.int sh_), .val (.int c_), .val (.int mu_), .val (.ref r_GAS_PART), .val (.ref b9), .val (.ref r_GAS_PART), .val (.ref r_GAS_PART), .val (.int p_), .val (.int 1)] [(.int 1)]))
          have hk62 := (Nat.le_trans (Nat.le_trans (Nat.le_trans (Nat.le_trans hk K5.1) E9.1) K16.1) K22.1)
          have A63 := A0.trans (CHr.keep K5 sf0 A0.1)
          have A64 := A63.trans (CHr.ext E9 A63.1)
          have sf66 := (Safe.ext E9 A63.1 (Safe.new (Nat.le_of_eq g9.symm)))
          have A65 := A64.trans (CHr.keep K16 (sfS sf66 sf0) A64.1)
          have A67 := A65.trans (CHr.keep K22 sf0 A65.1)
          exact own_retNW X61 hx hlk Bd.returns hS hk62 hZ hEL hh e61 A67 (t := .boolean) (by simp) (hb hby at_257) (by decide) (by decide) ⟨rfl, N57⟩
        refine og (fun _ hr => XS.ifNo X5.here hx rfl (hb hby at_103) rfl ((if0 _ _).trans (feq c8).1) hr) ?_
        show oG p e below _ (T5.setTop (mkF m 106 #[.val (.int x0), .val (.int x1), .val (.int x2), .val (.int 3), .val (.int sh_), .val (.int c_), .val (.int mu_), .val (.ref r_GAS_PART), .unset, .unset, .val (.ref b5_0), .val (.int p_), .val (.int 1)] []))
        have c68 : ¬ (p_ < (0 : Int32)) := by
          have q0 := rng32 x1
          have q1 := c_mask x1 (2147483647 : Int32) 31 (by decide) (by decide)
          have q2 := c_irem (x1 &&& (2147483647 : Int32)) (12 : Int32) 12 (by decide)
          have q3 := congrArg Int32.toInt hp_
          simp only [true_implies, Int32.lt_iff_toInt_lt, ← Int32.toInt_inj, Int32.reduceToInt, Int64.lt_iff_toInt_lt, ← Int64.toInt_inj, Int64.reduceToInt] at q0 q1 q2 q3 ⊢
          omega
        have c69 : p_ < (12 : Int32) := by
          have q0 := rng32 x1
          have q1 := c_mask x1 (2147483647 : Int32) 31 (by decide) (by decide)
          have q2 := c_irem (x1 &&& (2147483647 : Int32)) (12 : Int32) 12 (by decide)
          have q3 := congrArg Int32.toInt hp_
          have p0 := c68
          simp only [true_implies, Int32.lt_iff_toInt_lt, ← Int32.toInt_inj, Int32.reduceToInt, Int64.lt_iff_toInt_lt, ← Int64.toInt_inj, Int64.reduceToInt] at q0 q1 q2 q3 p0 ⊢
          omega
        refine og (fun _ hr => XS.aload X5.here hx rfl (hb hby at_106) rfl rfl (XS.iload X5.here hx rfl (hb hby at_108) rfl (own_caload X5 hx hZ rfl f5_1 p_ (.int (own_g3 p_)) ⟨c68, c69⟩ (own_get3 p_ c68 c69) rfl rfl (hb hby at_110) (XS.iload X5.here hx rfl (hb hby at_111) rfl hr)))) ?_
        show oG p e below _ (T5.setTop (mkF m 113 #[.val (.int x0), .val (.int x1), .val (.int x2), .val (.int 3), .val (.int sh_), .val (.int c_), .val (.int mu_), .val (.ref r_GAS_PART), .unset, .unset, .val (.ref b5_0), .val (.int p_), .val (.int 1)] [(.int c_), (.int (own_g3 p_))]))
        rcases Classical.em ((own_g3 p_) = c_) with c70 | c70
        · skip
          refine og (fun _ hr => XS.icmpNo X5.here hx rfl (hb hby at_113) rfl (teq c70).2 hr) ?_
          show oG p e below _ (T5.setTop (mkF m 116 #[.val (.int x0), .val (.int x1), .val (.int x2), .val (.int 3), .val (.int sh_), .val (.int c_), .val (.int mu_), .val (.ref r_GAS_PART), .unset, .unset, .val (.ref b5_0), .val (.int p_), .val (.int 1)] []))
          refine og (fun _ hr => XS.iconst X5.here hx rfl (hb hby at_116) (XS.goto X5.here hx rfl (pc0 := 117) (pc' := 121) rfl (hb hby at_117) (by decide) (by decide) (XS.istore X5.here hx rfl (hb hby at_121) rfl (l' := #[.val (.int x0), .val (.int x1), .val (.int x2), .val (.int 3), .val (.int sh_), .val (.int c_), .val (.int mu_), .val (.ref r_GAS_PART), .unset, .unset, .val (.ref b5_0), .val (.int p_), .val (.int 1)]) rfl (XS.aload X5.here hx rfl (hb hby at_123) rfl rfl (XS.iload X5.here hx rfl (hb hby at_125) rfl (XS.iload X5.here hx rfl (hb hby at_127) rfl hr)))))) ?_
          show oG p e below _ (T5.setTop (mkF m 129 #[.val (.int x0), .val (.int x1), .val (.int x2), .val (.int 3), .val (.int sh_), .val (.int c_), .val (.int mu_), .val (.ref r_GAS_PART), .unset, .unset, .val (.ref b5_0), .val (.int p_), .val (.int 1)] [(.int c_), (.int p_), (.ref b5_0)]))
          have c72 : (nar .char c_) = c_ := by
            have q0 := rng32 x1
            have q1 := c_mask x1 (2147483647 : Int32) 31 (by decide) (by decide)
            have q2 := c_irem (x1 &&& (2147483647 : Int32)) (12 : Int32) 12 (by decide)
            have q3 := congrArg Int32.toInt hp_
            have q4 := rng32 (own_g3 p_)
            have q5 := rng32 x2
            have q6 := c_mask x2 (255 : Int32) 8 (by decide) (by decide)
            have q7 := c_i2c (x2 &&& (255 : Int32))
            have q8 := congrArg Int32.toInt hc_
            have q9 := (show ((nar .char c_).toInt - c_.toInt) % 65536 = 0 ∧ 0 ≤ (nar .char c_).toInt ∧ (nar .char c_).toInt < 65536 from c_i2c c_)
            have p0 := c70
            have p1 := c68
            have p2 := c69
            simp only [true_implies, Int32.lt_iff_toInt_lt, ← Int32.toInt_inj, Int32.reduceToInt, Int64.lt_iff_toInt_lt, ← Int64.toInt_inj, Int64.reduceToInt] at q0 q1 q2 q3 q4 q5 q6 q7 q8 q9 p0 p1 p2 ⊢
            omega
          refine own_stC X5 hx hZ rfl f5_1 p_ c_ c_ (p_).toNatClampNeg ⟨c68, c69⟩ rfl (own_inl c68 c69 rfl) c72 ([(.int 103), (.int 97), (.int 115), (.int 95), (.int 112), (.int 97), (.int 114), (.int 116), (.int 95), (.int 121), (.int 101), (.int 110)].set (p_).toNatClampNeg (.int c_)) rfl N5 ge5_0 (hb hby at_129) ?_
          intro T71 h71 L71 X71 e71 W71 N71 f71
          show oG p e below _ (T71.setTop (mkF m 130 #[.val (.int x0), .val (.int x1), .val (.int x2), .val (.int 3), .val (.int sh_), .val (.int c_), .val (.int mu_), .val (.ref r_GAS_PART), .unset, .unset, .val (.ref b5_0), .val (.int p_), .val (.int 1)] []))
          have f73 : Arv Z h71 b5_0 kb5_0 .char (12 : Int32) [(.int (own_pk p_ (0 : Int32) c_ (103 : Int32))), (.int (own_pk p_ (1 : Int32) c_ (97 : Int32))), (.int (own_pk p_ (2 : Int32) c_ (115 : Int32))), (.int (own_pk p_ (3 : Int32) c_ (95 : Int32))), (.int (own_pk p_ (4 : Int32) c_ (112 : Int32))), (.int (own_pk p_ (5 : Int32) c_ (97 : Int32))), (.int (own_pk p_ (6 : Int32) c_ (114 : Int32))), (.int (own_pk p_ (7 : Int32) c_ (116 : Int32))), (.int (own_pk p_ (8 : Int32) c_ (95 : Int32))), (.int (own_pk p_ (9 : Int32) c_ (121 : Int32))), (.int (own_pk p_ (10 : Int32) c_ (101 : Int32))), (.int (own_pk p_ (11 : Int32) c_ (110 : Int32)))] (.int 0) := own_set3 p_ c_ c68 c69 ▸ (show Arv Z h71 b5_0 kb5_0 .char (12 : Int32) (([.int 103, .int 97, .int 115, .int 95, .int 112, .int 97, .int 114, .int 116, .int 95, .int 121, .int 101, .int 110] : List Value).set p_.toNatClampNeg (.int c_)) (.int 0) from f71)
          obtain ⟨T74, h74, X74, e74, E74, A74, D74, -, st74⟩ := newO X71 hx hZ hown (hw _ (own_m 9 rfl)) (hw _ (own_m 10 rfl)) (hw _ (own_m 11 rfl)) e71 (g := (mkF m 130 #[.val (.int x0), .val (.int x1), .val (.int x2), .val (.int 3), .val (.int sh_), .val (.int c_), .val (.int mu_), .val (.ref r_GAS_PART), .unset, .unset, .val (.ref b5_0), .val (.int p_), .val (.int 1)] [])) rfl (hb hby at_130) (by decide) (by decide)
          obtain ⟨b74, g74⟩ : ∃ z, z = h71.size := ⟨_, rfl⟩
          rw [← g74] at A74 D74 st74
          have Z75 := (Nat.le_trans (Nat.le_trans Z0 K5.1) (Nat.le_of_eq W71.size.symm))
          have ge76 : n0 ≤ b74 := Nat.le_trans Z75 (Nat.le_of_eq g74.symm)
          have K77 := ((K0.trans K5 all0).wr W71 (Or.inr sz6))
          have sz78 : h0.size ≤ b74 := Nat.le_trans K77.1 (Nat.le_of_eq g74.symm)
          refine og st74 ?_
          have f79 : Fld Z h74 b74 "java/lang/String" "coder" "B" (.int 0) := D74 (Or.inr (hw _ (own_m 35 rfl))) (ty := .byte) (by decide)
          have f80 : Fld Z h74 b74 "java/lang/String" "value" "[B" .null := D74 (Or.inr (hw _ (own_m 37 rfl))) (ty := (.array .byte)) (by decide)
          show oG p e below _ (T74.setTop (mkF m 133 #[.val (.int x0), .val (.int x1), .val (.int x2), .val (.int 3), .val (.int sh_), .val (.int c_), .val (.int mu_), .val (.ref r_GAS_PART), .unset, .unset, .val (.ref b5_0), .val (.int p_), .val (.int 1)] [(.ref b74)]))
          refine og (fun _ hr => XS.dup X74.here hx rfl (hb hby at_133) rfl rfl (XS.aload X74.here hx rfl (hb hby at_134) rfl rfl hr)) ?_
          show oG p e below _ (T74.setTop (mkF m 136 #[.val (.int x0), .val (.int x1), .val (.int x2), .val (.int 3), .val (.int sh_), .val (.int c_), .val (.int mu_), .val (.ref r_GAS_PART), .unset, .unset, .val (.ref b5_0), .val (.int p_), .val (.int 1)] [(.ref b5_0), (.ref b74), (.ref b74)]))
          have c82 : ¬ (c_ < (0 : Int32)) := by
            have q0 := rng32 x1
            have q1 := c_mask x1 (2147483647 : Int32) 31 (by decide) (by decide)
            have q2 := c_irem (x1 &&& (2147483647 : Int32)) (12 : Int32) 12 (by decide)
            have q3 := congrArg Int32.toInt hp_
            have q4 := rng32 (own_g3 p_)
            have q5 := rng32 x2
            have q6 := c_mask x2 (255 : Int32) 8 (by decide) (by decide)
            have q7 := c_i2c (x2 &&& (255 : Int32))
            have q8 := congrArg Int32.toInt hc_
            have q9 := (show ((nar .char c_).toInt - c_.toInt) % 65536 = 0 ∧ 0 ≤ (nar .char c_).toInt ∧ (nar .char c_).toInt < 65536 from c_i2c c_)
            have p0 := c70
            have p1 := c72
            have p2 := c68
            have p3 := c69
            simp only [true_implies, Int32.lt_iff_toInt_lt, ← Int32.toInt_inj, Int32.reduceToInt, Int64.lt_iff_toInt_lt, ← Int64.toInt_inj, Int64.reduceToInt] at q0 q1 q2 q3 q4 q5 q6 q7 q8 q9 p0 p1 p2 p3 ⊢
            omega
          have c83 : ¬ ((255 : Int32) < c_) := by
            have q0 := rng32 x1
            have q1 := c_mask x1 (2147483647 : Int32) 31 (by decide) (by decide)
            have q2 := c_irem (x1 &&& (2147483647 : Int32)) (12 : Int32) 12 (by decide)
            have q3 := congrArg Int32.toInt hp_
            have q4 := rng32 (own_g3 p_)
            have q5 := rng32 x2
            have q6 := c_mask x2 (255 : Int32) 8 (by decide) (by decide)
            have q7 := c_i2c (x2 &&& (255 : Int32))
            have q8 := congrArg Int32.toInt hc_
            have q9 := (show ((nar .char c_).toInt - c_.toInt) % 65536 = 0 ∧ 0 ≤ (nar .char c_).toInt ∧ (nar .char c_).toInt < 65536 from c_i2c c_)
            have p0 := c70
            have p1 := c72
            have p2 := c82
            have p3 := c68
            have p4 := c69
            simp only [true_implies, Int32.lt_iff_toInt_lt, ← Int32.toInt_inj, Int32.reduceToInt, Int64.lt_iff_toInt_lt, ← Int64.toInt_inj, Int64.reduceToInt] at q0 q1 q2 q3 q4 q5 q6 q7 q8 q9 p0 p1 p2 p3 p4 ⊢
            omega
          have hp81 : ∀ c ∈ ([(own_pk p_ (0 : Int32) c_ (103 : Int32)), (own_pk p_ (1 : Int32) c_ (97 : Int32)), (own_pk p_ (2 : Int32) c_ (115 : Int32)), (own_pk p_ (3 : Int32) c_ (95 : Int32)), (own_pk p_ (4 : Int32) c_ (112 : Int32)), (own_pk p_ (5 : Int32) c_ (97 : Int32)), (own_pk p_ (6 : Int32) c_ (114 : Int32)), (own_pk p_ (7 : Int32) c_ (116 : Int32)), (own_pk p_ (8 : Int32) c_ (95 : Int32)), (own_pk p_ (9 : Int32) c_ (121 : Int32)), (own_pk p_ (10 : Int32) c_ (101 : Int32)), (own_pk p_ (11 : Int32) c_ (110 : Int32))] : List Int32), ¬ c < 0 ∧ ¬ (255 : Int32) < c := (own_lc (own_pk_l ⟨c82, c83⟩ (by decide)) (own_lc (own_pk_l ⟨c82, c83⟩ (by decide)) (own_lc (own_pk_l ⟨c82, c83⟩ (by decide)) (own_lc (own_pk_l ⟨c82, c83⟩ (by decide)) (own_lc (own_pk_l ⟨c82, c83⟩ (by decide)) (own_lc (own_pk_l ⟨c82, c83⟩ (by decide)) (own_lc (own_pk_l ⟨c82, c83⟩ (by decide)) (own_lc (own_pk_l ⟨c82, c83⟩ (by decide)) (own_lc (own_pk_l ⟨c82, c83⟩ (by decide)) (own_lc (own_pk_l ⟨c82, c83⟩ (by decide)) (own_lc (own_pk_l ⟨c82, c83⟩ (by decide)) (own_lc (own_pk_l ⟨c82, c83⟩ (by decide)) own_ln))))))))))))
          have f84 := (f73.ext E74)
          have K85 := (K77.ext E74)
          have f86 := (own_sta_keep S_COMPACT_STRINGS K85 all0)
          have Z87 := (Nat.le_trans Z75 E74.1)
          refine own_newS X74 hx hZ hown hw (hw _ (own_m 12 rfl)) (hw _ (own_m 13 rfl)) (hw _ (own_m 14 rfl)) (hw _ (own_m 10 rfl)) [(own_pk p_ (0 : Int32) c_ (103 : Int32)), (own_pk p_ (1 : Int32) c_ (97 : Int32)), (own_pk p_ (2 : Int32) c_ (115 : Int32)), (own_pk p_ (3 : Int32) c_ (95 : Int32)), (own_pk p_ (4 : Int32) c_ (112 : Int32)), (own_pk p_ (5 : Int32) c_ (97 : Int32)), (own_pk p_ (6 : Int32) c_ (114 : Int32)), (own_pk p_ (7 : Int32) c_ (116 : Int32)), (own_pk p_ (8 : Int32) c_ (95 : Int32)), (own_pk p_ (9 : Int32) c_ (121 : Int32)), (own_pk p_ (10 : Int32) c_ (101 : Int32)), (own_pk p_ (11 : Int32) c_ (110 : Int32))] ge76 Z87 A74 f80 f79 f84 f86 hs_COMPACT_STRINGS (n := 12) rfl rfl (by decide) (by decide) hp81 (by decide) (W := 1) (by decide) (by decide) (by decide) e74 (by rw [hml]; rfl) (Nat.le_of_eq rfl) (hb hby at_136) ?_
          intro T81 L81 b81_0 kb81_0 X81 N81q K81 f81_0 f81_1 ge81_0 sz81_0 ne81_0 f81_2 f81_3
          have N81 := Fr.app N71 N81q
          have sz88 : h0.size ≤ b81_0 := Nat.le_trans K85.1 sz81_0
          show oG p e below _ (T81.setTop (mkF m 139 #[.val (.int x0), .val (.int x1), .val (.int x2), .val (.int 3), .val (.int sh_), .val (.int c_), .val (.int mu_), .val (.ref r_GAS_PART), .unset, .unset, .val (.ref b5_0), .val (.int p_), .val (.int 1)] [(.ref b74)]))
          refine og (fun _ hr => XS.astore X81.here hx rfl (hb hby at_139) rfl rfl (l' := #[.val (.int x0), .val (.int x1), .val (.int x2), .val (.int 3), .val (.int sh_), .val (.int c_), .val (.int mu_), .val (.ref r_GAS_PART), .val (.ref b74), .unset, .val (.ref b5_0), .val (.int p_), .val (.int 1)]) rfl (XS.iload X81.here hx rfl (hb hby at_141) rfl (XS.ifNo X81.here hx rfl (hb hby at_143) rfl ((if0 _ _).trans (feq (by decide)).1) (XS.aload X81.here hx rfl (hb hby at_146) rfl rfl (XS.goto X81.here hx rfl (pc0 := 148) (pc' := 152) rfl (hb hby at_148) (by decide) (by decide) (XS.astore X81.here hx rfl (hb hby at_152) rfl rfl (l' := #[.val (.int x0), .val (.int x1), .val (.int x2), .val (.int 3), .val (.int sh_), .val (.int c_), .val (.int mu_), .val (.ref r_GAS_PART), .val (.ref b74), .val (.ref r_GAS_PART), .val (.ref b5_0), .val (.int p_), .val (.int 1)]) rfl (XS.goto X81.here hx rfl (pc0 := 154) (pc' := 231) rfl (hb hby at_154) (by decide) (by decide) (XS.aload X81.here hx rfl (hb hby at_231) rfl rfl hr)))))))) ?_
          show oG p e below _ (T81.setTop (mkF m 233 #[.val (.int x0), .val (.int x1), .val (.int x2), .val (.int 3), .val (.int sh_), .val (.int c_), .val (.int mu_), .val (.ref r_GAS_PART), .val (.ref b74), .val (.ref r_GAS_PART), .val (.ref b5_0), .val (.int p_), .val (.int 1)] [(.ref b74)]))
          have K90 := (K85.trans K81 (allS (Or.inr sz78) all0))
          have f91 := (own_sta_keep S__VALUES K90 all0)
          have f92 := (E__VALUES.keep K90)
          have f93 := (F_USAGE_header.keep K90 nin0)
          have f94 := (E_USAGE_header.keep K90)
          have f95 := (F_USAGE_header_coder.keep K90 nin0)
          have f96 := (F_USAGE_header_value.keep K90 nin0)
          have f97 := (F_CHARGE_header.keep K90 nin0)
          have f98 := (E_CHARGE_header.keep K90)
          have f99 := (F_CHARGE_header_coder.keep K90 nin0)
          have f100 := (F_CHARGE_header_value.keep K90 nin0)
          have f101 := (F_TAX_header.keep K90 nin0)
          have f102 := (E_TAX_header.keep K90)
          have f103 := (F_TAX_header_coder.keep K90 nin0)
          have f104 := (F_TAX_header_value.keep K90 nin0)
          have f105 := (F_GAS_PART_header.keep K90 nin0)
          have f106 := (E_GAS_PART_header.keep K90)
          have f107 := (F_GAS_PART_header_coder.keep K90 nin0)
          have f108 := (F_GAS_PART_header_value.keep K90 nin0)
          have f109 := (V__VALUES.keep K90 nin0)
          have f110 := (V_USAGE_header_value.keep K90 nin0)
          have f111 := (V_CHARGE_header_value.keep K90 nin0)
          have f112 := (V_TAX_header_value.keep K90 nin0)
          have f113 := (V_GAS_PART_header_value.keep K90 nin0)
          have f114 := (own_sta_keep f86 K81 (allS (own_ns_exa A74) all0))
          have f115 := (own_sta_keep S_EMPTY K90 all0)
          have f116 := (E_EMPTY.keep K90)
          have f117 := (F_EMPTY_value.keep K90 nin0)
          have Z118 := (Nat.le_trans Z87 K81.1)
          refine own_cs X81 hx hZ hown (hw _ (own_m 38 rfl)) (hw _ (own_m 39 rfl)) (hw _ (own_m 1 rfl)) (hw _ (own_m 40 rfl)) (by decide) (rm := { frames := 3, cells := 2, slots := 5, locals := 38 }) (rm_named_s l Z a0 hw [] b74 b81_0 kb81_0 (12 : Int32) [(own_pk p_ (0 : Int32) c_ (103 : Int32)), (own_pk p_ (1 : Int32) c_ (97 : Int32)), (own_pk p_ (2 : Int32) c_ (115 : Int32)), (own_pk p_ (3 : Int32) c_ (95 : Int32)), (own_pk p_ (4 : Int32) c_ (112 : Int32)), (own_pk p_ (5 : Int32) c_ (97 : Int32)), (own_pk p_ (6 : Int32) c_ (114 : Int32)), (own_pk p_ (7 : Int32) c_ (116 : Int32)), (own_pk p_ (8 : Int32) c_ (95 : Int32)), (own_pk p_ (9 : Int32) c_ (121 : Int32)), (own_pk p_ (10 : Int32) c_ (101 : Int32)), (own_pk p_ (11 : Int32) c_ (110 : Int32))] ((List.map StrChars.lo8 [(own_pk p_ (0 : Int32) c_ (103 : Int32)), (own_pk p_ (1 : Int32) c_ (97 : Int32)), (own_pk p_ (2 : Int32) c_ (115 : Int32)), (own_pk p_ (3 : Int32) c_ (95 : Int32)), (own_pk p_ (4 : Int32) c_ (112 : Int32)), (own_pk p_ (5 : Int32) c_ (97 : Int32)), (own_pk p_ (6 : Int32) c_ (114 : Int32)), (own_pk p_ (7 : Int32) c_ (116 : Int32)), (own_pk p_ (8 : Int32) c_ (95 : Int32)), (own_pk p_ (9 : Int32) c_ (121 : Int32)), (own_pk p_ (10 : Int32) c_ (101 : Int32)), (own_pk p_ (11 : Int32) c_ (110 : Int32))]).map Value.int) r_USAGE r__VALUES r_CHARGE r_TAX r_GAS_PART r_USAGE_header r_USAGE_header_value r_CHARGE_header r_CHARGE_header_value r_TAX_header r_TAX_header_value r_GAS_PART_header r_GAS_PART_header_value k__VALUES k_USAGE_header_value k_CHARGE_header_value k_TAX_header_value k_GAS_PART_header_value i_COMPACT_STRINGS v_SIOOBE_FORMATTER r_EMPTY T81.heap n0 Z118 f81_0 f81_1 f81_2 f81_3 (StrChars.Road.codOf (cs := [(own_pk p_ (0 : Int32) c_ (103 : Int32)), (own_pk p_ (1 : Int32) c_ (97 : Int32)), (own_pk p_ (2 : Int32) c_ (115 : Int32)), (own_pk p_ (3 : Int32) c_ (95 : Int32)), (own_pk p_ (4 : Int32) c_ (112 : Int32)), (own_pk p_ (5 : Int32) c_ (97 : Int32)), (own_pk p_ (6 : Int32) c_ (114 : Int32)), (own_pk p_ (7 : Int32) c_ (116 : Int32)), (own_pk p_ (8 : Int32) c_ (95 : Int32)), (own_pk p_ (9 : Int32) c_ (121 : Int32)), (own_pk p_ (10 : Int32) c_ (101 : Int32)), (own_pk p_ (11 : Int32) c_ (110 : Int32))]) (n := 12) rfl (fun c hc => (hp81 c hc).2)) (own_up hp81) (Nat.le_of_ble_eq_true rfl) f91 f92 f93 f94 f95 f96 f97 f98 f99 f100 f101 f102 f103 f104 f105 f106 f107 f108 f109 f110 f111 f112 f113 f114 f115 f116 f117 hs_COMPACT_STRINGS hv_SIOOBE_FORMATTER) (by decide) (W := 0) (by decide) (by decide) (by decide) rfl (by rw [hml]; rfl) (argsL := [(.ref b74)]) (lenOf own_pd8 rfl) (rest := []) rfl rfl (Nat.le_of_eq rfl) (hb hby at_233) ?_
          intro _ T89 L89 X89 hQ89
          have c119 : (own_same own_tx0 [(own_pk p_ (0 : Int32) c_ (103 : Int32)), (own_pk p_ (1 : Int32) c_ (97 : Int32)), (own_pk p_ (2 : Int32) c_ (115 : Int32)), (own_pk p_ (3 : Int32) c_ (95 : Int32)), (own_pk p_ (4 : Int32) c_ (112 : Int32)), (own_pk p_ (5 : Int32) c_ (97 : Int32)), (own_pk p_ (6 : Int32) c_ (114 : Int32)), (own_pk p_ (7 : Int32) c_ (116 : Int32)), (own_pk p_ (8 : Int32) c_ (95 : Int32)), (own_pk p_ (9 : Int32) c_ (121 : Int32)), (own_pk p_ (10 : Int32) c_ (101 : Int32)), (own_pk p_ (11 : Int32) c_ (110 : Int32))]) = (0 : Int32) := own_same_len (show (8 : Nat) ≠ 12 from by decide)
          have c120 : (own_same own_tx1 [(own_pk p_ (0 : Int32) c_ (103 : Int32)), (own_pk p_ (1 : Int32) c_ (97 : Int32)), (own_pk p_ (2 : Int32) c_ (115 : Int32)), (own_pk p_ (3 : Int32) c_ (95 : Int32)), (own_pk p_ (4 : Int32) c_ (112 : Int32)), (own_pk p_ (5 : Int32) c_ (97 : Int32)), (own_pk p_ (6 : Int32) c_ (114 : Int32)), (own_pk p_ (7 : Int32) c_ (116 : Int32)), (own_pk p_ (8 : Int32) c_ (95 : Int32)), (own_pk p_ (9 : Int32) c_ (121 : Int32)), (own_pk p_ (10 : Int32) c_ (101 : Int32)), (own_pk p_ (11 : Int32) c_ (110 : Int32))]) = (0 : Int32) := own_same_len (show (10 : Nat) ≠ 12 from by decide)
          have c121 : (own_same own_tx2 [(own_pk p_ (0 : Int32) c_ (103 : Int32)), (own_pk p_ (1 : Int32) c_ (97 : Int32)), (own_pk p_ (2 : Int32) c_ (115 : Int32)), (own_pk p_ (3 : Int32) c_ (95 : Int32)), (own_pk p_ (4 : Int32) c_ (112 : Int32)), (own_pk p_ (5 : Int32) c_ (97 : Int32)), (own_pk p_ (6 : Int32) c_ (114 : Int32)), (own_pk p_ (7 : Int32) c_ (116 : Int32)), (own_pk p_ (8 : Int32) c_ (95 : Int32)), (own_pk p_ (9 : Int32) c_ (121 : Int32)), (own_pk p_ (10 : Int32) c_ (101 : Int32)), (own_pk p_ (11 : Int32) c_ (110 : Int32))]) = (0 : Int32) := own_same_len (show (7 : Nat) ≠ 12 from by decide)
          have c122 : ¬ ((own_same own_tx3 [(own_pk p_ (0 : Int32) c_ (103 : Int32)), (own_pk p_ (1 : Int32) c_ (97 : Int32)), (own_pk p_ (2 : Int32) c_ (115 : Int32)), (own_pk p_ (3 : Int32) c_ (95 : Int32)), (own_pk p_ (4 : Int32) c_ (112 : Int32)), (own_pk p_ (5 : Int32) c_ (97 : Int32)), (own_pk p_ (6 : Int32) c_ (114 : Int32)), (own_pk p_ (7 : Int32) c_ (116 : Int32)), (own_pk p_ (8 : Int32) c_ (95 : Int32)), (own_pk p_ (9 : Int32) c_ (121 : Int32)), (own_pk p_ (10 : Int32) c_ (101 : Int32)), (own_pk p_ (11 : Int32) c_ (110 : Int32))]) = (0 : Int32)) := own_finT3 p_ c_ c68 c69 c70
          have ev123 : (own_nm [(own_pk p_ (0 : Int32) c_ (103 : Int32)), (own_pk p_ (1 : Int32) c_ (97 : Int32)), (own_pk p_ (2 : Int32) c_ (115 : Int32)), (own_pk p_ (3 : Int32) c_ (95 : Int32)), (own_pk p_ (4 : Int32) c_ (112 : Int32)), (own_pk p_ (5 : Int32) c_ (97 : Int32)), (own_pk p_ (6 : Int32) c_ (114 : Int32)), (own_pk p_ (7 : Int32) c_ (116 : Int32)), (own_pk p_ (8 : Int32) c_ (95 : Int32)), (own_pk p_ (9 : Int32) c_ (121 : Int32)), (own_pk p_ (10 : Int32) c_ (101 : Int32)), (own_pk p_ (11 : Int32) c_ (110 : Int32))] r_USAGE r_CHARGE r_TAX r_GAS_PART) = (.ref r_GAS_PART) := by unfold own_nm; rw [if_pos c119, if_pos c120, if_pos c121, if_neg c122]
          unfold Q_named_s at hQ89; rw [ev123] at hQ89
          obtain ⟨b89_0, rfl, N89q, K89, f89_0, f89_1⟩ := hQ89
          have N89 := Fr.app N81 N89q
          show oG p e below _ (T89.setTop (mkF m 236 #[.val (.int x0), .val (.int x1), .val (.int x2), .val (.int 3), .val (.int sh_), .val (.int c_), .val (.int mu_), .val (.ref r_GAS_PART), .val (.ref b74), .val (.ref r_GAS_PART), .val (.ref b5_0), .val (.int p_), .val (.int 1)] [(.ref b89_0)]))
          refine og (fun _ hr => XS.aconstNull X89.here hx rfl (hb hby at_236) hr) ?_
          show oG p e below _ (T89.setTop (mkF m 237 #[.val (.int x0), .val (.int x1), .val (.int x2), .val (.int 3), .val (.int sh_), .val (.int c_), .val (.int mu_), .val (.ref r_GAS_PART), .val (.ref b74), .val (.ref r_GAS_PART), .val (.ref b5_0), .val (.int p_), .val (.int 1)] [.null, (.ref b89_0)]))
          have Z125 := (Nat.le_trans Z118 K89.1)
          refine own_cv X89 hx hZ hown (notFace_of_selects (args := #[]) (mvT hZ (hw _ (own_m 91 rfl)))) (hw _ (own_m 88 rfl)) (hw _ (own_m 89 rfl)) (hw _ (own_m 91 rfl)) (hw _ (own_m 90 rfl)) (hw _ (own_m 73 rfl)) (hw _ (own_m 92 rfl)) (by decide) f89_0 (rm := { frames := 0, cells := 0, slots := 0, locals := 0 }) (rm_orElse_6 l Z a0 hw [] b89_0 r_GAS_PART T89.heap n0 Z125 f89_1) (by decide) (W := 0) (by decide) (by decide) (by decide) rfl (by rw [hml]; rfl) (argsL := [.null]) (lenOf own_pd4 rfl) (rest := []) rfl rfl (Nat.le_of_eq rfl) (hb hby at_237) ?_
          intro _ T124 L124 X124 hQ124
          obtain ⟨rfl, N124q, e124⟩ := hQ124
          have N124 := Fr.app N89 N124q
          show oG p e below _ (T124.setTop (mkF m 240 #[.val (.int x0), .val (.int x1), .val (.int x2), .val (.int 3), .val (.int sh_), .val (.int c_), .val (.int mu_), .val (.ref r_GAS_PART), .val (.ref b74), .val (.ref r_GAS_PART), .val (.ref b5_0), .val (.int p_), .val (.int 1)] [(.ref r_GAS_PART)]))
          have K126 := (K90.trans K89 all0)
          have f127 := (E_GAS_PART.keep K126)
          obtain ⟨T128, X128, e128, st128⟩ := castY X124 hx hZ hown (hw _ (own_m 93 rfl)) e124 (Ins.self f127) (g := (mkF m 240 #[.val (.int x0), .val (.int x1), .val (.int x2), .val (.int 3), .val (.int sh_), .val (.int c_), .val (.int mu_), .val (.ref r_GAS_PART), .val (.ref b74), .val (.ref r_GAS_PART), .val (.ref b5_0), .val (.int p_), .val (.int 1)] [(.ref r_GAS_PART)])) rfl rfl (hb hby at_240)
          refine og st128 ?_
          show oG p e below _ (T128.setTop (mkF m 243 #[.val (.int x0), .val (.int x1), .val (.int x2), .val (.int 3), .val (.int sh_), .val (.int c_), .val (.int mu_), .val (.ref r_GAS_PART), .val (.ref b74), .val (.ref r_GAS_PART), .val (.ref b5_0), .val (.int p_), .val (.int 1)] [(.ref r_GAS_PART)]))
          refine og (fun _ hr => XS.astore X128.here hx rfl (hb hby at_243) rfl rfl (l' := #[.val (.int x0), .val (.int x1), .val (.int x2), .val (.int 3), .val (.int sh_), .val (.int c_), .val (.int mu_), .val (.ref r_GAS_PART), .val (.ref b74), .val (.ref r_GAS_PART), .val (.ref r_GAS_PART), .val (.int p_), .val (.int 1)]) rfl (XS.aload X128.here hx rfl (hb hby at_245) rfl rfl (XS.aload X128.here hx rfl (hb hby at_247) rfl rfl hr))) ?_
          show oG p e below _ (T128.setTop (mkF m 249 #[.val (.int x0), .val (.int x1), .val (.int x2), .val (.int 3), .val (.int sh_), .val (.int c_), .val (.int mu_), .val (.ref r_GAS_PART), .val (.ref b74), .val (.ref r_GAS_PART), .val (.ref r_GAS_PART), .val (.int p_), .val (.int 1)] [(.ref r_GAS_PART), (.ref r_GAS_PART)]))
          refine og (fun _ hr => Jvm.RoadKit.acmp X128 hx rfl rfl rfl (pc0 := 249) (pc' := 252) (same := true) rfl (hb hby at_249) rfl (decide_eq_true rfl) (by decide) (by decide) hr) ?_
          show oG p e below _ (T128.setTop (mkF m 252 #[.val (.int x0), .val (.int x1), .val (.int x2), .val (.int 3), .val (.int sh_), .val (.int c_), .val (.int mu_), .val (.ref r_GAS_PART), .val (.ref b74), .val (.ref r_GAS_PART), .val (.ref r_GAS_PART), .val (.int p_), .val (.int 1)] []))
          refine og (fun _ hr => XS.iconst X128.here hx rfl (hb hby at_252) (XS.goto X128.here hx rfl (pc0 := 253) (pc' := 257) rfl (hb hby at_253) (by decide) (by decide) hr)) ?_
          show oG p e below _ (T128.setTop (mkF m 257 #[.val (.int x0), .val (.int x1), .val (.int x2), .val (.int 3), .val (.int sh_), .val (.int c_), .val (.int mu_), .val (.ref r_GAS_PART), .val (.ref b74), .val (.ref r_GAS_PART), .val (.ref r_GAS_PART), .val (.int p_), .val (.int 1)] [(.int 1)]))
          have hk129 := (Nat.le_trans (Nat.le_trans (Nat.le_trans (Nat.le_trans (Nat.le_trans hk K5.1) (Nat.le_of_eq W71.size.symm)) E74.1) K81.1) K89.1)
          have A130 := A0.trans (CHr.keep K5 sf0 A0.1)
          have sf132 := (Safe.keep K5 sf0 A0.1 (Safe.new sz5_0))
          have A131 := A130.trans (CHr.wr W71 sf132 A130.1)
          have A133 := A131.trans (CHr.ext E74 A131.1)
          have sf135 := (Safe.ext E74 A131.1 (Safe.new (Nat.le_of_eq g74.symm)))
          have A134 := A133.trans (CHr.keep K81 (sfS sf135 sf0) A133.1)
          have A136 := A134.trans (CHr.keep K89 sf0 A134.1)
          exact own_retNW X128 hx hlk Bd.returns hS hk129 hZ hEL hh e128 A136 (t := .boolean) (by simp) (hb hby at_257) (by decide) (by decide) ⟨rfl, N124⟩
        refine og (fun _ hr => XS.icmpYes X5.here hx rfl (pc0 := 113) (pc' := 120) rfl (hb hby at_113) rfl (feq c70).2 (by decide) (by decide) hr) ?_
        show oG p e below _ (T5.setTop (mkF m 120 #[.val (.int x0), .val (.int x1), .val (.int x2), .val (.int 3), .val (.int sh_), .val (.int c_), .val (.int mu_), .val (.ref r_GAS_PART), .unset, .unset, .val (.ref b5_0), .val (.int p_), .val (.int 1)] []))
        refine og (fun _ hr => XS.iconst X5.here hx rfl (hb hby at_120) (XS.istore X5.here hx rfl (hb hby at_121) rfl (l' := #[.val (.int x0), .val (.int x1), .val (.int x2), .val (.int 3), .val (.int sh_), .val (.int c_), .val (.int mu_), .val (.ref r_GAS_PART), .unset, .unset, .val (.ref b5_0), .val (.int p_), .val (.int 0)]) rfl (XS.aload X5.here hx rfl (hb hby at_123) rfl rfl (XS.iload X5.here hx rfl (hb hby at_125) rfl (XS.iload X5.here hx rfl (hb hby at_127) rfl hr))))) ?_
        show oG p e below _ (T5.setTop (mkF m 129 #[.val (.int x0), .val (.int x1), .val (.int x2), .val (.int 3), .val (.int sh_), .val (.int c_), .val (.int mu_), .val (.ref r_GAS_PART), .unset, .unset, .val (.ref b5_0), .val (.int p_), .val (.int 0)] [(.int c_), (.int p_), (.ref b5_0)]))
        have c138 : (nar .char c_) = c_ := by
          have q0 := rng32 x1
          have q1 := c_mask x1 (2147483647 : Int32) 31 (by decide) (by decide)
          have q2 := c_irem (x1 &&& (2147483647 : Int32)) (12 : Int32) 12 (by decide)
          have q3 := congrArg Int32.toInt hp_
          have q4 := rng32 (own_g3 p_)
          have q5 := rng32 x2
          have q6 := c_mask x2 (255 : Int32) 8 (by decide) (by decide)
          have q7 := c_i2c (x2 &&& (255 : Int32))
          have q8 := congrArg Int32.toInt hc_
          have q9 := (show ((nar .char c_).toInt - c_.toInt) % 65536 = 0 ∧ 0 ≤ (nar .char c_).toInt ∧ (nar .char c_).toInt < 65536 from c_i2c c_)
          have p0 := c70
          have p1 := c68
          have p2 := c69
          simp only [true_implies, Int32.lt_iff_toInt_lt, ← Int32.toInt_inj, Int32.reduceToInt, Int64.lt_iff_toInt_lt, ← Int64.toInt_inj, Int64.reduceToInt] at q0 q1 q2 q3 q4 q5 q6 q7 q8 q9 p0 p1 p2 ⊢
          omega
        refine own_stC X5 hx hZ rfl f5_1 p_ c_ c_ (p_).toNatClampNeg ⟨c68, c69⟩ rfl (own_inl c68 c69 rfl) c138 ([(.int 103), (.int 97), (.int 115), (.int 95), (.int 112), (.int 97), (.int 114), (.int 116), (.int 95), (.int 121), (.int 101), (.int 110)].set (p_).toNatClampNeg (.int c_)) rfl N5 ge5_0 (hb hby at_129) ?_
        intro T137 h137 L137 X137 e137 W137 N137 f137
        show oG p e below _ (T137.setTop (mkF m 130 #[.val (.int x0), .val (.int x1), .val (.int x2), .val (.int 3), .val (.int sh_), .val (.int c_), .val (.int mu_), .val (.ref r_GAS_PART), .unset, .unset, .val (.ref b5_0), .val (.int p_), .val (.int 0)] []))
        have f139 : Arv Z h137 b5_0 kb5_0 .char (12 : Int32) [(.int (own_pk p_ (0 : Int32) c_ (103 : Int32))), (.int (own_pk p_ (1 : Int32) c_ (97 : Int32))), (.int (own_pk p_ (2 : Int32) c_ (115 : Int32))), (.int (own_pk p_ (3 : Int32) c_ (95 : Int32))), (.int (own_pk p_ (4 : Int32) c_ (112 : Int32))), (.int (own_pk p_ (5 : Int32) c_ (97 : Int32))), (.int (own_pk p_ (6 : Int32) c_ (114 : Int32))), (.int (own_pk p_ (7 : Int32) c_ (116 : Int32))), (.int (own_pk p_ (8 : Int32) c_ (95 : Int32))), (.int (own_pk p_ (9 : Int32) c_ (121 : Int32))), (.int (own_pk p_ (10 : Int32) c_ (101 : Int32))), (.int (own_pk p_ (11 : Int32) c_ (110 : Int32)))] (.int 0) := own_set3 p_ c_ c68 c69 ▸ (show Arv Z h137 b5_0 kb5_0 .char (12 : Int32) (([.int 103, .int 97, .int 115, .int 95, .int 112, .int 97, .int 114, .int 116, .int 95, .int 121, .int 101, .int 110] : List Value).set p_.toNatClampNeg (.int c_)) (.int 0) from f137)
        obtain ⟨T140, h140, X140, e140, E140, A140, D140, -, st140⟩ := newO X137 hx hZ hown (hw _ (own_m 9 rfl)) (hw _ (own_m 10 rfl)) (hw _ (own_m 11 rfl)) e137 (g := (mkF m 130 #[.val (.int x0), .val (.int x1), .val (.int x2), .val (.int 3), .val (.int sh_), .val (.int c_), .val (.int mu_), .val (.ref r_GAS_PART), .unset, .unset, .val (.ref b5_0), .val (.int p_), .val (.int 0)] [])) rfl (hb hby at_130) (by decide) (by decide)
        obtain ⟨b140, g140⟩ : ∃ z, z = h137.size := ⟨_, rfl⟩
        rw [← g140] at A140 D140 st140
        have Z141 := (Nat.le_trans (Nat.le_trans Z0 K5.1) (Nat.le_of_eq W137.size.symm))
        have ge142 : n0 ≤ b140 := Nat.le_trans Z141 (Nat.le_of_eq g140.symm)
        have K143 := ((K0.trans K5 all0).wr W137 (Or.inr sz6))
        have sz144 : h0.size ≤ b140 := Nat.le_trans K143.1 (Nat.le_of_eq g140.symm)
        refine og st140 ?_
        have f145 : Fld Z h140 b140 "java/lang/String" "coder" "B" (.int 0) := D140 (Or.inr (hw _ (own_m 35 rfl))) (ty := .byte) (by decide)
        have f146 : Fld Z h140 b140 "java/lang/String" "value" "[B" .null := D140 (Or.inr (hw _ (own_m 37 rfl))) (ty := (.array .byte)) (by decide)
        show oG p e below _ (T140.setTop (mkF m 133 #[.val (.int x0), .val (.int x1), .val (.int x2), .val (.int 3), .val (.int sh_), .val (.int c_), .val (.int mu_), .val (.ref r_GAS_PART), .unset, .unset, .val (.ref b5_0), .val (.int p_), .val (.int 0)] [(.ref b140)]))
        refine og (fun _ hr => XS.dup X140.here hx rfl (hb hby at_133) rfl rfl (XS.aload X140.here hx rfl (hb hby at_134) rfl rfl hr)) ?_
        show oG p e below _ (T140.setTop (mkF m 136 #[.val (.int x0), .val (.int x1), .val (.int x2), .val (.int 3), .val (.int sh_), .val (.int c_), .val (.int mu_), .val (.ref r_GAS_PART), .unset, .unset, .val (.ref b5_0), .val (.int p_), .val (.int 0)] [(.ref b5_0), (.ref b140), (.ref b140)]))
        have c148 : ¬ (c_ < (0 : Int32)) := by
          have q0 := rng32 x1
          have q1 := c_mask x1 (2147483647 : Int32) 31 (by decide) (by decide)
          have q2 := c_irem (x1 &&& (2147483647 : Int32)) (12 : Int32) 12 (by decide)
          have q3 := congrArg Int32.toInt hp_
          have q4 := rng32 (own_g3 p_)
          have q5 := rng32 x2
          have q6 := c_mask x2 (255 : Int32) 8 (by decide) (by decide)
          have q7 := c_i2c (x2 &&& (255 : Int32))
          have q8 := congrArg Int32.toInt hc_
          have q9 := (show ((nar .char c_).toInt - c_.toInt) % 65536 = 0 ∧ 0 ≤ (nar .char c_).toInt ∧ (nar .char c_).toInt < 65536 from c_i2c c_)
          have p0 := c70
          have p1 := c138
          have p2 := c68
          have p3 := c69
          simp only [true_implies, Int32.lt_iff_toInt_lt, ← Int32.toInt_inj, Int32.reduceToInt, Int64.lt_iff_toInt_lt, ← Int64.toInt_inj, Int64.reduceToInt] at q0 q1 q2 q3 q4 q5 q6 q7 q8 q9 p0 p1 p2 p3 ⊢
          omega
        have c149 : ¬ ((255 : Int32) < c_) := by
          have q0 := rng32 x1
          have q1 := c_mask x1 (2147483647 : Int32) 31 (by decide) (by decide)
          have q2 := c_irem (x1 &&& (2147483647 : Int32)) (12 : Int32) 12 (by decide)
          have q3 := congrArg Int32.toInt hp_
          have q4 := rng32 (own_g3 p_)
          have q5 := rng32 x2
          have q6 := c_mask x2 (255 : Int32) 8 (by decide) (by decide)
          have q7 := c_i2c (x2 &&& (255 : Int32))
          have q8 := congrArg Int32.toInt hc_
          have q9 := (show ((nar .char c_).toInt - c_.toInt) % 65536 = 0 ∧ 0 ≤ (nar .char c_).toInt ∧ (nar .char c_).toInt < 65536 from c_i2c c_)
          have p0 := c70
          have p1 := c138
          have p2 := c148
          have p3 := c68
          have p4 := c69
          simp only [true_implies, Int32.lt_iff_toInt_lt, ← Int32.toInt_inj, Int32.reduceToInt, Int64.lt_iff_toInt_lt, ← Int64.toInt_inj, Int64.reduceToInt] at q0 q1 q2 q3 q4 q5 q6 q7 q8 q9 p0 p1 p2 p3 p4 ⊢
          omega
        have hp147 : ∀ c ∈ ([(own_pk p_ (0 : Int32) c_ (103 : Int32)), (own_pk p_ (1 : Int32) c_ (97 : Int32)), (own_pk p_ (2 : Int32) c_ (115 : Int32)), (own_pk p_ (3 : Int32) c_ (95 : Int32)), (own_pk p_ (4 : Int32) c_ (112 : Int32)), (own_pk p_ (5 : Int32) c_ (97 : Int32)), (own_pk p_ (6 : Int32) c_ (114 : Int32)), (own_pk p_ (7 : Int32) c_ (116 : Int32)), (own_pk p_ (8 : Int32) c_ (95 : Int32)), (own_pk p_ (9 : Int32) c_ (121 : Int32)), (own_pk p_ (10 : Int32) c_ (101 : Int32)), (own_pk p_ (11 : Int32) c_ (110 : Int32))] : List Int32), ¬ c < 0 ∧ ¬ (255 : Int32) < c := (own_lc (own_pk_l ⟨c148, c149⟩ (by decide)) (own_lc (own_pk_l ⟨c148, c149⟩ (by decide)) (own_lc (own_pk_l ⟨c148, c149⟩ (by decide)) (own_lc (own_pk_l ⟨c148, c149⟩ (by decide)) (own_lc (own_pk_l ⟨c148, c149⟩ (by decide)) (own_lc (own_pk_l ⟨c148, c149⟩ (by decide)) (own_lc (own_pk_l ⟨c148, c149⟩ (by decide)) (own_lc (own_pk_l ⟨c148, c149⟩ (by decide)) (own_lc (own_pk_l ⟨c148, c149⟩ (by decide)) (own_lc (own_pk_l ⟨c148, c149⟩ (by decide)) (own_lc (own_pk_l ⟨c148, c149⟩ (by decide)) (own_lc (own_pk_l ⟨c148, c149⟩ (by decide)) own_ln))))))))))))
        have f150 := (f139.ext E140)
        have K151 := (K143.ext E140)
        have f152 := (own_sta_keep S_COMPACT_STRINGS K151 all0)
        have Z153 := (Nat.le_trans Z141 E140.1)
        refine own_newS X140 hx hZ hown hw (hw _ (own_m 12 rfl)) (hw _ (own_m 13 rfl)) (hw _ (own_m 14 rfl)) (hw _ (own_m 10 rfl)) [(own_pk p_ (0 : Int32) c_ (103 : Int32)), (own_pk p_ (1 : Int32) c_ (97 : Int32)), (own_pk p_ (2 : Int32) c_ (115 : Int32)), (own_pk p_ (3 : Int32) c_ (95 : Int32)), (own_pk p_ (4 : Int32) c_ (112 : Int32)), (own_pk p_ (5 : Int32) c_ (97 : Int32)), (own_pk p_ (6 : Int32) c_ (114 : Int32)), (own_pk p_ (7 : Int32) c_ (116 : Int32)), (own_pk p_ (8 : Int32) c_ (95 : Int32)), (own_pk p_ (9 : Int32) c_ (121 : Int32)), (own_pk p_ (10 : Int32) c_ (101 : Int32)), (own_pk p_ (11 : Int32) c_ (110 : Int32))] ge142 Z153 A140 f146 f145 f150 f152 hs_COMPACT_STRINGS (n := 12) rfl rfl (by decide) (by decide) hp147 (by decide) (W := 1) (by decide) (by decide) (by decide) e140 (by rw [hml]; rfl) (Nat.le_of_eq rfl) (hb hby at_136) ?_
        intro T147 L147 b147_0 kb147_0 X147 N147q K147 f147_0 f147_1 ge147_0 sz147_0 ne147_0 f147_2 f147_3
        have N147 := Fr.app N137 N147q
        have sz154 : h0.size ≤ b147_0 := Nat.le_trans K151.1 sz147_0
        show oG p e below _ (T147.setTop (mkF m 139 #[.val (.int x0), .val (.int x1), .val (.int x2), .val (.int 3), .val (.int sh_), .val (.int c_), .val (.int mu_), .val (.ref r_GAS_PART), .unset, .unset, .val (.ref b5_0), .val (.int p_), .val (.int 0)] [(.ref b140)]))
        refine og (fun _ hr => XS.astore X147.here hx rfl (hb hby at_139) rfl rfl (l' := #[.val (.int x0), .val (.int x1), .val (.int x2), .val (.int 3), .val (.int sh_), .val (.int c_), .val (.int mu_), .val (.ref r_GAS_PART), .val (.ref b140), .unset, .val (.ref b5_0), .val (.int p_), .val (.int 0)]) rfl (XS.iload X147.here hx rfl (hb hby at_141) rfl (XS.ifYes X147.here hx rfl (pc0 := 143) (pc' := 151) rfl (hb hby at_143) rfl ((if0 _ _).trans (teq (by decide)).1) (by decide) (by decide) (XS.aconstNull X147.here hx rfl (hb hby at_151) (XS.astore X147.here hx rfl (hb hby at_152) rfl rfl (l' := #[.val (.int x0), .val (.int x1), .val (.int x2), .val (.int 3), .val (.int sh_), .val (.int c_), .val (.int mu_), .val (.ref r_GAS_PART), .val (.ref b140), .val .null, .val (.ref b5_0), .val (.int p_), .val (.int 0)]) rfl (XS.goto X147.here hx rfl (pc0 := 154) (pc' := 231) rfl (hb hby at_154) (by decide) (by decide) (XS.aload X147.here hx rfl (hb hby at_231) rfl rfl hr))))))) ?_
        show oG p e below _ (T147.setTop (mkF m 233 #[.val (.int x0), .val (.int x1), .val (.int x2), .val (.int 3), .val (.int sh_), .val (.int c_), .val (.int mu_), .val (.ref r_GAS_PART), .val (.ref b140), .val .null, .val (.ref b5_0), .val (.int p_), .val (.int 0)] [(.ref b140)]))
        have K156 := (K151.trans K147 (allS (Or.inr sz144) all0))
        have f157 := (own_sta_keep S__VALUES K156 all0)
        have f158 := (E__VALUES.keep K156)
        have f159 := (F_USAGE_header.keep K156 nin0)
        have f160 := (E_USAGE_header.keep K156)
        have f161 := (F_USAGE_header_coder.keep K156 nin0)
        have f162 := (F_USAGE_header_value.keep K156 nin0)
        have f163 := (F_CHARGE_header.keep K156 nin0)
        have f164 := (E_CHARGE_header.keep K156)
        have f165 := (F_CHARGE_header_coder.keep K156 nin0)
        have f166 := (F_CHARGE_header_value.keep K156 nin0)
        have f167 := (F_TAX_header.keep K156 nin0)
        have f168 := (E_TAX_header.keep K156)
        have f169 := (F_TAX_header_coder.keep K156 nin0)
        have f170 := (F_TAX_header_value.keep K156 nin0)
        have f171 := (F_GAS_PART_header.keep K156 nin0)
        have f172 := (E_GAS_PART_header.keep K156)
        have f173 := (F_GAS_PART_header_coder.keep K156 nin0)
        have f174 := (F_GAS_PART_header_value.keep K156 nin0)
        have f175 := (V__VALUES.keep K156 nin0)
        have f176 := (V_USAGE_header_value.keep K156 nin0)
        have f177 := (V_CHARGE_header_value.keep K156 nin0)
        have f178 := (V_TAX_header_value.keep K156 nin0)
        have f179 := (V_GAS_PART_header_value.keep K156 nin0)
        have f180 := (own_sta_keep f152 K147 (allS (own_ns_exa A140) all0))
        have f181 := (own_sta_keep S_EMPTY K156 all0)
        have f182 := (E_EMPTY.keep K156)
        have f183 := (F_EMPTY_value.keep K156 nin0)
        have Z184 := (Nat.le_trans Z153 K147.1)
        refine own_cs X147 hx hZ hown (hw _ (own_m 38 rfl)) (hw _ (own_m 39 rfl)) (hw _ (own_m 1 rfl)) (hw _ (own_m 40 rfl)) (by decide) (rm := { frames := 3, cells := 2, slots := 5, locals := 38 }) (rm_named_s l Z a0 hw [] b140 b147_0 kb147_0 (12 : Int32) [(own_pk p_ (0 : Int32) c_ (103 : Int32)), (own_pk p_ (1 : Int32) c_ (97 : Int32)), (own_pk p_ (2 : Int32) c_ (115 : Int32)), (own_pk p_ (3 : Int32) c_ (95 : Int32)), (own_pk p_ (4 : Int32) c_ (112 : Int32)), (own_pk p_ (5 : Int32) c_ (97 : Int32)), (own_pk p_ (6 : Int32) c_ (114 : Int32)), (own_pk p_ (7 : Int32) c_ (116 : Int32)), (own_pk p_ (8 : Int32) c_ (95 : Int32)), (own_pk p_ (9 : Int32) c_ (121 : Int32)), (own_pk p_ (10 : Int32) c_ (101 : Int32)), (own_pk p_ (11 : Int32) c_ (110 : Int32))] ((List.map StrChars.lo8 [(own_pk p_ (0 : Int32) c_ (103 : Int32)), (own_pk p_ (1 : Int32) c_ (97 : Int32)), (own_pk p_ (2 : Int32) c_ (115 : Int32)), (own_pk p_ (3 : Int32) c_ (95 : Int32)), (own_pk p_ (4 : Int32) c_ (112 : Int32)), (own_pk p_ (5 : Int32) c_ (97 : Int32)), (own_pk p_ (6 : Int32) c_ (114 : Int32)), (own_pk p_ (7 : Int32) c_ (116 : Int32)), (own_pk p_ (8 : Int32) c_ (95 : Int32)), (own_pk p_ (9 : Int32) c_ (121 : Int32)), (own_pk p_ (10 : Int32) c_ (101 : Int32)), (own_pk p_ (11 : Int32) c_ (110 : Int32))]).map Value.int) r_USAGE r__VALUES r_CHARGE r_TAX r_GAS_PART r_USAGE_header r_USAGE_header_value r_CHARGE_header r_CHARGE_header_value r_TAX_header r_TAX_header_value r_GAS_PART_header r_GAS_PART_header_value k__VALUES k_USAGE_header_value k_CHARGE_header_value k_TAX_header_value k_GAS_PART_header_value i_COMPACT_STRINGS v_SIOOBE_FORMATTER r_EMPTY T147.heap n0 Z184 f147_0 f147_1 f147_2 f147_3 (StrChars.Road.codOf (cs := [(own_pk p_ (0 : Int32) c_ (103 : Int32)), (own_pk p_ (1 : Int32) c_ (97 : Int32)), (own_pk p_ (2 : Int32) c_ (115 : Int32)), (own_pk p_ (3 : Int32) c_ (95 : Int32)), (own_pk p_ (4 : Int32) c_ (112 : Int32)), (own_pk p_ (5 : Int32) c_ (97 : Int32)), (own_pk p_ (6 : Int32) c_ (114 : Int32)), (own_pk p_ (7 : Int32) c_ (116 : Int32)), (own_pk p_ (8 : Int32) c_ (95 : Int32)), (own_pk p_ (9 : Int32) c_ (121 : Int32)), (own_pk p_ (10 : Int32) c_ (101 : Int32)), (own_pk p_ (11 : Int32) c_ (110 : Int32))]) (n := 12) rfl (fun c hc => (hp147 c hc).2)) (own_up hp147) (Nat.le_of_ble_eq_true rfl) f157 f158 f159 f160 f161 f162 f163 f164 f165 f166 f167 f168 f169 f170 f171 f172 f173 f174 f175 f176 f177 f178 f179 f180 f181 f182 f183 hs_COMPACT_STRINGS hv_SIOOBE_FORMATTER) (by decide) (W := 0) (by decide) (by decide) (by decide) rfl (by rw [hml]; rfl) (argsL := [(.ref b140)]) (lenOf own_pd8 rfl) (rest := []) rfl rfl (Nat.le_of_eq rfl) (hb hby at_233) ?_
        intro _ T155 L155 X155 hQ155
        have c185 : (own_same own_tx0 [(own_pk p_ (0 : Int32) c_ (103 : Int32)), (own_pk p_ (1 : Int32) c_ (97 : Int32)), (own_pk p_ (2 : Int32) c_ (115 : Int32)), (own_pk p_ (3 : Int32) c_ (95 : Int32)), (own_pk p_ (4 : Int32) c_ (112 : Int32)), (own_pk p_ (5 : Int32) c_ (97 : Int32)), (own_pk p_ (6 : Int32) c_ (114 : Int32)), (own_pk p_ (7 : Int32) c_ (116 : Int32)), (own_pk p_ (8 : Int32) c_ (95 : Int32)), (own_pk p_ (9 : Int32) c_ (121 : Int32)), (own_pk p_ (10 : Int32) c_ (101 : Int32)), (own_pk p_ (11 : Int32) c_ (110 : Int32))]) = (0 : Int32) := own_same_len (show (8 : Nat) ≠ 12 from by decide)
        have c186 : (own_same own_tx1 [(own_pk p_ (0 : Int32) c_ (103 : Int32)), (own_pk p_ (1 : Int32) c_ (97 : Int32)), (own_pk p_ (2 : Int32) c_ (115 : Int32)), (own_pk p_ (3 : Int32) c_ (95 : Int32)), (own_pk p_ (4 : Int32) c_ (112 : Int32)), (own_pk p_ (5 : Int32) c_ (97 : Int32)), (own_pk p_ (6 : Int32) c_ (114 : Int32)), (own_pk p_ (7 : Int32) c_ (116 : Int32)), (own_pk p_ (8 : Int32) c_ (95 : Int32)), (own_pk p_ (9 : Int32) c_ (121 : Int32)), (own_pk p_ (10 : Int32) c_ (101 : Int32)), (own_pk p_ (11 : Int32) c_ (110 : Int32))]) = (0 : Int32) := own_same_len (show (10 : Nat) ≠ 12 from by decide)
        have c187 : (own_same own_tx2 [(own_pk p_ (0 : Int32) c_ (103 : Int32)), (own_pk p_ (1 : Int32) c_ (97 : Int32)), (own_pk p_ (2 : Int32) c_ (115 : Int32)), (own_pk p_ (3 : Int32) c_ (95 : Int32)), (own_pk p_ (4 : Int32) c_ (112 : Int32)), (own_pk p_ (5 : Int32) c_ (97 : Int32)), (own_pk p_ (6 : Int32) c_ (114 : Int32)), (own_pk p_ (7 : Int32) c_ (116 : Int32)), (own_pk p_ (8 : Int32) c_ (95 : Int32)), (own_pk p_ (9 : Int32) c_ (121 : Int32)), (own_pk p_ (10 : Int32) c_ (101 : Int32)), (own_pk p_ (11 : Int32) c_ (110 : Int32))]) = (0 : Int32) := own_same_len (show (7 : Nat) ≠ 12 from by decide)
        have c188 : (own_same own_tx3 [(own_pk p_ (0 : Int32) c_ (103 : Int32)), (own_pk p_ (1 : Int32) c_ (97 : Int32)), (own_pk p_ (2 : Int32) c_ (115 : Int32)), (own_pk p_ (3 : Int32) c_ (95 : Int32)), (own_pk p_ (4 : Int32) c_ (112 : Int32)), (own_pk p_ (5 : Int32) c_ (97 : Int32)), (own_pk p_ (6 : Int32) c_ (114 : Int32)), (own_pk p_ (7 : Int32) c_ (116 : Int32)), (own_pk p_ (8 : Int32) c_ (95 : Int32)), (own_pk p_ (9 : Int32) c_ (121 : Int32)), (own_pk p_ (10 : Int32) c_ (101 : Int32)), (own_pk p_ (11 : Int32) c_ (110 : Int32))]) = (0 : Int32) := own_finF3 p_ c_ c68 c69 c70
        have ev189 : (own_nm [(own_pk p_ (0 : Int32) c_ (103 : Int32)), (own_pk p_ (1 : Int32) c_ (97 : Int32)), (own_pk p_ (2 : Int32) c_ (115 : Int32)), (own_pk p_ (3 : Int32) c_ (95 : Int32)), (own_pk p_ (4 : Int32) c_ (112 : Int32)), (own_pk p_ (5 : Int32) c_ (97 : Int32)), (own_pk p_ (6 : Int32) c_ (114 : Int32)), (own_pk p_ (7 : Int32) c_ (116 : Int32)), (own_pk p_ (8 : Int32) c_ (95 : Int32)), (own_pk p_ (9 : Int32) c_ (121 : Int32)), (own_pk p_ (10 : Int32) c_ (101 : Int32)), (own_pk p_ (11 : Int32) c_ (110 : Int32))] r_USAGE r_CHARGE r_TAX r_GAS_PART) = .null := by unfold own_nm; rw [if_pos c185, if_pos c186, if_pos c187, if_pos c188]
        unfold Q_named_s at hQ155; rw [ev189] at hQ155
        obtain ⟨b155_0, rfl, N155q, K155, f155_0, f155_1⟩ := hQ155
        have N155 := Fr.app N147 N155q
        show oG p e below _ (T155.setTop (mkF m 236 #[.val (.int x0), .val (.int x1), .val (.int x2), .val (.int 3), .val (.int sh_), .val (.int c_), .val (.int mu_), .val (.ref r_GAS_PART), .val (.ref b140), .val .null, .val (.ref b5_0), .val (.int p_), .val (.int 0)] [(.ref b155_0)]))
        refine og (fun _ hr => XS.aconstNull X155.here hx rfl (hb hby at_236) hr) ?_
        show oG p e below _ (T155.setTop (mkF m 237 #[.val (.int x0), .val (.int x1), .val (.int x2), .val (.int 3), .val (.int sh_), .val (.int c_), .val (.int mu_), .val (.ref r_GAS_PART), .val (.ref b140), .val .null, .val (.ref b5_0), .val (.int p_), .val (.int 0)] [.null, (.ref b155_0)]))
        have Z191 := (Nat.le_trans Z184 K155.1)
        refine own_cv X155 hx hZ hown (notFace_of_selects (args := #[]) (mvT hZ (hw _ (own_m 91 rfl)))) (hw _ (own_m 88 rfl)) (hw _ (own_m 89 rfl)) (hw _ (own_m 91 rfl)) (hw _ (own_m 90 rfl)) (hw _ (own_m 73 rfl)) (hw _ (own_m 92 rfl)) (by decide) f155_0 (rm := { frames := 0, cells := 0, slots := 0, locals := 0 }) (rm_orElse_7 l Z a0 hw [] b155_0 T155.heap n0 Z191 f155_1) (by decide) (W := 0) (by decide) (by decide) (by decide) rfl (by rw [hml]; rfl) (argsL := [.null]) (lenOf own_pd4 rfl) (rest := []) rfl rfl (Nat.le_of_eq rfl) (hb hby at_237) ?_
        intro _ T190 L190 X190 hQ190
        obtain ⟨rfl, N190q, e190⟩ := hQ190
        have N190 := Fr.app N155 N190q
        show oG p e below _ (T190.setTop (mkF m 240 #[.val (.int x0), .val (.int x1), .val (.int x2), .val (.int 3), .val (.int sh_), .val (.int c_), .val (.int mu_), .val (.ref r_GAS_PART), .val (.ref b140), .val .null, .val (.ref b5_0), .val (.int p_), .val (.int 0)] [.null]))
        refine og (X190.checkcastNull hx (g := (mkF m 240 #[.val (.int x0), .val (.int x1), .val (.int x2), .val (.int 3), .val (.int sh_), .val (.int c_), .val (.int mu_), .val (.ref r_GAS_PART), .val (.ref b140), .val .null, .val (.ref b5_0), .val (.int p_), .val (.int 0)] [.null])) rfl rfl (hb hby at_240)) ?_
        show oG p e below _ (T190.setTop (mkF m 243 #[.val (.int x0), .val (.int x1), .val (.int x2), .val (.int 3), .val (.int sh_), .val (.int c_), .val (.int mu_), .val (.ref r_GAS_PART), .val (.ref b140), .val .null, .val (.ref b5_0), .val (.int p_), .val (.int 0)] [.null]))
        refine og (fun _ hr => XS.astore X190.here hx rfl (hb hby at_243) rfl rfl (l' := #[.val (.int x0), .val (.int x1), .val (.int x2), .val (.int 3), .val (.int sh_), .val (.int c_), .val (.int mu_), .val (.ref r_GAS_PART), .val (.ref b140), .val .null, .val .null, .val (.int p_), .val (.int 0)]) rfl (XS.aload X190.here hx rfl (hb hby at_245) rfl rfl (XS.aload X190.here hx rfl (hb hby at_247) rfl rfl hr))) ?_
        show oG p e below _ (T190.setTop (mkF m 249 #[.val (.int x0), .val (.int x1), .val (.int x2), .val (.int 3), .val (.int sh_), .val (.int c_), .val (.int mu_), .val (.ref r_GAS_PART), .val (.ref b140), .val .null, .val .null, .val (.int p_), .val (.int 0)] [.null, .null]))
        refine og (fun _ hr => Jvm.RoadKit.acmp X190 hx rfl rfl rfl (pc0 := 249) (pc' := 252) (same := true) rfl (hb hby at_249) rfl (decide_eq_true rfl) (by decide) (by decide) hr) ?_
        show oG p e below _ (T190.setTop (mkF m 252 #[.val (.int x0), .val (.int x1), .val (.int x2), .val (.int 3), .val (.int sh_), .val (.int c_), .val (.int mu_), .val (.ref r_GAS_PART), .val (.ref b140), .val .null, .val .null, .val (.int p_), .val (.int 0)] []))
        refine og (fun _ hr => XS.iconst X190.here hx rfl (hb hby at_252) (XS.goto X190.here hx rfl (pc0 := 253) (pc' := 257) rfl (hb hby at_253) (by decide) (by decide) hr)) ?_
        show oG p e below _ (T190.setTop (mkF m 257 #[.val (.int x0), .val (.int x1), .val (.int x2), .val (.int 3), .val (.int sh_), .val (.int c_), .val (.int mu_), .val (.ref r_GAS_PART), .val (.ref b140), .val .null, .val .null, .val (.int p_), .val (.int 0)] [(.int 1)]))
        have hk192 := (Nat.le_trans (Nat.le_trans (Nat.le_trans (Nat.le_trans (Nat.le_trans hk K5.1) (Nat.le_of_eq W137.size.symm)) E140.1) K147.1) K155.1)
        have A193 := A0.trans (CHr.keep K5 sf0 A0.1)
        have sf195 := (Safe.keep K5 sf0 A0.1 (Safe.new sz5_0))
        have A194 := A193.trans (CHr.wr W137 sf195 A193.1)
        have A196 := A194.trans (CHr.ext E140 A194.1)
        have sf198 := (Safe.ext E140 A194.1 (Safe.new (Nat.le_of_eq g140.symm)))
        have A197 := A196.trans (CHr.keep K147 (sfS sf198 sf0) A196.1)
        have A199 := A197.trans (CHr.keep K155 sf0 A197.1)
        exact own_retNW X190 hx hlk Bd.returns hS hk192 hZ hEL hh e190 A199 (t := .boolean) (by simp) (hb hby at_257) (by decide) (by decide) ⟨rfl, N190⟩
      refine og (fun _ hr => XS.ifYes X3.here hx rfl (pc0 := 79) (pc' := 157) rfl (hb hby at_79) rfl ((if0 _ _).trans (feq c4).2) (by decide) (by decide) hr) ?_
      show oG p e below _ (T3.setTop (mkF m 157 #[.val (.int x0), .val (.int x1), .val (.int x2), .val (.int 3), .val (.int sh_), .val (.int c_), .val (.int mu_), .val (.ref r_GAS_PART), .unset, .unset, .unset, .unset, .unset] []))
      refine og (fun _ hr => XS.iload X3.here hx rfl (hb hby at_157) rfl (XS.iconst X3.here hx rfl (hb hby at_159) hr)) ?_
      show oG p e below _ (T3.setTop (mkF m 160 #[.val (.int x0), .val (.int x1), .val (.int x2), .val (.int 3), .val (.int sh_), .val (.int c_), .val (.int mu_), .val (.ref r_GAS_PART), .unset, .unset, .unset, .unset, .unset] [(.int 1), (.int sh_)]))
      rcases Classical.em (sh_ = (1 : Int32)) with c200 | c200
      · skip
        refine og (fun _ hr => XS.icmpNo X3.here hx rfl (hb hby at_160) rfl (teq c200).2 hr) ?_
        show oG p e below _ (T3.setTop (mkF m 163 #[.val (.int x0), .val (.int x1), .val (.int x2), .val (.int 3), .val (.int sh_), .val (.int c_), .val (.int mu_), .val (.ref r_GAS_PART), .unset, .unset, .unset, .unset, .unset] []))
        refine og (fun _ hr => XS.iloadN X3.here hx rfl (hb hby at_163) rfl hr) ?_
        show oG p e below _ (T3.setTop (mkF m 164 #[.val (.int x0), .val (.int x1), .val (.int x2), .val (.int 3), .val (.int sh_), .val (.int c_), .val (.int mu_), .val (.ref r_GAS_PART), .unset, .unset, .unset, .unset, .unset] [(.int 3)]))
        refine own_cs X3 hx hZ hown (hw _ (own_m 96 rfl)) (hw _ (own_m 97 rfl)) (hw _ (own_m 5 rfl)) (hw _ (own_m 98 rfl)) (by decide) (rm := { frames := 0, cells := 1, slots := 13, locals := 0 }) (rm_longer_8 l Z a0 hw []  h0 n0 Z0 ) (by decide) (W := 0) (by decide) (by decide) (by decide) e3 (by rw [hml]; rfl) (argsL := [(.int 3)]) (lenOf own_pd7 rfl) (rest := []) rfl rfl (Nat.le_of_eq rfl) (hb hby at_164) ?_
        intro _ T201 L201 X201 hQ201
        obtain ⟨b201_0, kb201_0, rfl, N201q, K201, ge201_0, sz201_0, f201_0, f201_1⟩ := hQ201
        have N201 := Fr.app N0 N201q
        have sz202 : h0.size ≤ b201_0 := Nat.le_trans K0.1 sz201_0
        show oG p e below _ (T201.setTop (mkF m 167 #[.val (.int x0), .val (.int x1), .val (.int x2), .val (.int 3), .val (.int sh_), .val (.int c_), .val (.int mu_), .val (.ref r_GAS_PART), .unset, .unset, .unset, .unset, .unset] [(.ref b201_0)]))
        refine og (fun _ hr => XS.astore X201.here hx rfl (hb hby at_167) rfl rfl (l' := #[.val (.int x0), .val (.int x1), .val (.int x2), .val (.int 3), .val (.int sh_), .val (.int c_), .val (.int mu_), .val (.ref r_GAS_PART), .unset, .unset, .val (.ref b201_0), .unset, .unset]) rfl (XS.aload X201.here hx rfl (hb hby at_169) rfl rfl (XS.aload X201.here hx rfl (hb hby at_171) rfl rfl (own_alen X201 hx hZ rfl f201_1 rfl rfl (hb hby at_173) (XS.iconst X201.here hx rfl (hb hby at_174) (XS.isub X201.here hx rfl (hb hby at_175) rfl (XS.iload X201.here hx rfl (hb hby at_176) rfl hr))))))) ?_
        show oG p e below _ (T201.setTop (mkF m 178 #[.val (.int x0), .val (.int x1), .val (.int x2), .val (.int 3), .val (.int sh_), .val (.int c_), .val (.int mu_), .val (.ref r_GAS_PART), .unset, .unset, .val (.ref b201_0), .unset, .unset] [(.int c_), (.int 12), (.ref b201_0)]))
        have c204 : (nar .char c_) = c_ := by
          have q0 := rng32 x2
          have q1 := c_mask x2 (255 : Int32) 8 (by decide) (by decide)
          have q2 := c_i2c (x2 &&& (255 : Int32))
          have q3 := congrArg Int32.toInt hc_
          have q4 := (show ((nar .char c_).toInt - c_.toInt) % 65536 = 0 ∧ 0 ≤ (nar .char c_).toInt ∧ (nar .char c_).toInt < 65536 from c_i2c c_)
          simp only [true_implies, Int32.lt_iff_toInt_lt, ← Int32.toInt_inj, Int32.reduceToInt, Int64.lt_iff_toInt_lt, ← Int64.toInt_inj, Int64.reduceToInt] at q0 q1 q2 q3 q4 ⊢
          omega
        refine own_stC X201 hx hZ rfl f201_1 (12 : Int32) c_ c_ 12 ⟨by decide, by decide⟩ rfl (Nat.le_of_ble_eq_true rfl) c204 [(.int 103), (.int 97), (.int 115), (.int 95), (.int 112), (.int 97), (.int 114), (.int 116), (.int 95), (.int 121), (.int 101), (.int 110), (.int c_)] rfl N201 ge201_0 (hb hby at_178) ?_
        intro T203 h203 L203 X203 e203 W203 N203 f203
        show oG p e below _ (T203.setTop (mkF m 179 #[.val (.int x0), .val (.int x1), .val (.int x2), .val (.int 3), .val (.int sh_), .val (.int c_), .val (.int mu_), .val (.ref r_GAS_PART), .unset, .unset, .val (.ref b201_0), .unset, .unset] []))
        obtain ⟨T205, h205, X205, e205, E205, A205, D205, -, st205⟩ := newO X203 hx hZ hown (hw _ (own_m 9 rfl)) (hw _ (own_m 10 rfl)) (hw _ (own_m 11 rfl)) e203 (g := (mkF m 179 #[.val (.int x0), .val (.int x1), .val (.int x2), .val (.int 3), .val (.int sh_), .val (.int c_), .val (.int mu_), .val (.ref r_GAS_PART), .unset, .unset, .val (.ref b201_0), .unset, .unset] [])) rfl (hb hby at_179) (by decide) (by decide)
        obtain ⟨b205, g205⟩ : ∃ z, z = h203.size := ⟨_, rfl⟩
        rw [← g205] at A205 D205 st205
        have Z206 := (Nat.le_trans (Nat.le_trans Z0 K201.1) (Nat.le_of_eq W203.size.symm))
        have ge207 : n0 ≤ b205 := Nat.le_trans Z206 (Nat.le_of_eq g205.symm)
        have K208 := ((K0.trans K201 all0).wr W203 (Or.inr sz202))
        have sz209 : h0.size ≤ b205 := Nat.le_trans K208.1 (Nat.le_of_eq g205.symm)
        refine og st205 ?_
        have f210 : Fld Z h205 b205 "java/lang/String" "coder" "B" (.int 0) := D205 (Or.inr (hw _ (own_m 35 rfl))) (ty := .byte) (by decide)
        have f211 : Fld Z h205 b205 "java/lang/String" "value" "[B" .null := D205 (Or.inr (hw _ (own_m 37 rfl))) (ty := (.array .byte)) (by decide)
        show oG p e below _ (T205.setTop (mkF m 182 #[.val (.int x0), .val (.int x1), .val (.int x2), .val (.int 3), .val (.int sh_), .val (.int c_), .val (.int mu_), .val (.ref r_GAS_PART), .unset, .unset, .val (.ref b201_0), .unset, .unset] [(.ref b205)]))
        refine og (fun _ hr => XS.dup X205.here hx rfl (hb hby at_182) rfl rfl (XS.aload X205.here hx rfl (hb hby at_183) rfl rfl hr)) ?_
        show oG p e below _ (T205.setTop (mkF m 185 #[.val (.int x0), .val (.int x1), .val (.int x2), .val (.int 3), .val (.int sh_), .val (.int c_), .val (.int mu_), .val (.ref r_GAS_PART), .unset, .unset, .val (.ref b201_0), .unset, .unset] [(.ref b201_0), (.ref b205), (.ref b205)]))
        have c213 : ¬ (c_ < (0 : Int32)) := by
          have q0 := rng32 x2
          have q1 := c_mask x2 (255 : Int32) 8 (by decide) (by decide)
          have q2 := c_i2c (x2 &&& (255 : Int32))
          have q3 := congrArg Int32.toInt hc_
          have q4 := (show ((nar .char c_).toInt - c_.toInt) % 65536 = 0 ∧ 0 ≤ (nar .char c_).toInt ∧ (nar .char c_).toInt < 65536 from c_i2c c_)
          have p0 := c204
          simp only [true_implies, Int32.lt_iff_toInt_lt, ← Int32.toInt_inj, Int32.reduceToInt, Int64.lt_iff_toInt_lt, ← Int64.toInt_inj, Int64.reduceToInt] at q0 q1 q2 q3 q4 p0 ⊢
          omega
        have c214 : ¬ ((255 : Int32) < c_) := by
          have q0 := rng32 x2
          have q1 := c_mask x2 (255 : Int32) 8 (by decide) (by decide)
          have q2 := c_i2c (x2 &&& (255 : Int32))
          have q3 := congrArg Int32.toInt hc_
          have q4 := (show ((nar .char c_).toInt - c_.toInt) % 65536 = 0 ∧ 0 ≤ (nar .char c_).toInt ∧ (nar .char c_).toInt < 65536 from c_i2c c_)
          have p0 := c204
          have p1 := c213
          simp only [true_implies, Int32.lt_iff_toInt_lt, ← Int32.toInt_inj, Int32.reduceToInt, Int64.lt_iff_toInt_lt, ← Int64.toInt_inj, Int64.reduceToInt] at q0 q1 q2 q3 q4 p0 p1 ⊢
          omega
        have hp212 : ∀ c ∈ ([103, 97, 115, 95, 112, 97, 114, 116, 95, 121, 101, 110, c_] : List Int32), ¬ c < 0 ∧ ¬ (255 : Int32) < c := (own_lc (by decide) (own_lc (by decide) (own_lc (by decide) (own_lc (by decide) (own_lc (by decide) (own_lc (by decide) (own_lc (by decide) (own_lc (by decide) (own_lc (by decide) (own_lc (by decide) (own_lc (by decide) (own_lc (by decide) (own_lc ⟨c213, c214⟩ own_ln)))))))))))))
        have f215 := (f203.ext E205)
        have K216 := (K208.ext E205)
        have f217 := (own_sta_keep S_COMPACT_STRINGS K216 all0)
        have Z218 := (Nat.le_trans Z206 E205.1)
        refine own_newS X205 hx hZ hown hw (hw _ (own_m 12 rfl)) (hw _ (own_m 13 rfl)) (hw _ (own_m 14 rfl)) (hw _ (own_m 10 rfl)) [103, 97, 115, 95, 112, 97, 114, 116, 95, 121, 101, 110, c_] ge207 Z218 A205 f211 f210 f215 f217 hs_COMPACT_STRINGS (n := 13) rfl rfl (by decide) (by decide) hp212 (by decide) (W := 1) (by decide) (by decide) (by decide) e205 (by rw [hml]; rfl) (Nat.le_of_eq rfl) (hb hby at_185) ?_
        intro T212 L212 b212_0 kb212_0 X212 N212q K212 f212_0 f212_1 ge212_0 sz212_0 ne212_0 f212_2 f212_3
        have N212 := Fr.app N203 N212q
        have sz219 : h0.size ≤ b212_0 := Nat.le_trans K216.1 sz212_0
        show oG p e below _ (T212.setTop (mkF m 188 #[.val (.int x0), .val (.int x1), .val (.int x2), .val (.int 3), .val (.int sh_), .val (.int c_), .val (.int mu_), .val (.ref r_GAS_PART), .unset, .unset, .val (.ref b201_0), .unset, .unset] [(.ref b205)]))
        refine og (fun _ hr => XS.astore X212.here hx rfl (hb hby at_188) rfl rfl (l' := #[.val (.int x0), .val (.int x1), .val (.int x2), .val (.int 3), .val (.int sh_), .val (.int c_), .val (.int mu_), .val (.ref r_GAS_PART), .val (.ref b205), .unset, .val (.ref b201_0), .unset, .unset]) rfl (XS.aconstNull X212.here hx rfl (hb hby at_190) (XS.astore X212.here hx rfl (hb hby at_191) rfl rfl (l' := #[.val (.int x0), .val (.int x1), .val (.int x2), .val (.int 3), .val (.int sh_), .val (.int c_), .val (.int mu_), .val (.ref r_GAS_PART), .val (.ref b205), .val .null, .val (.ref b201_0), .unset, .unset]) rfl (XS.goto X212.here hx rfl (pc0 := 193) (pc' := 231) rfl (hb hby at_193) (by decide) (by decide) (XS.aload X212.here hx rfl (hb hby at_231) rfl rfl hr))))) ?_
        show oG p e below _ (T212.setTop (mkF m 233 #[.val (.int x0), .val (.int x1), .val (.int x2), .val (.int 3), .val (.int sh_), .val (.int c_), .val (.int mu_), .val (.ref r_GAS_PART), .val (.ref b205), .val .null, .val (.ref b201_0), .unset, .unset] [(.ref b205)]))
        have K221 := (K216.trans K212 (allS (Or.inr sz209) all0))
        have f222 := (own_sta_keep S__VALUES K221 all0)
        have f223 := (E__VALUES.keep K221)
        have f224 := (F_USAGE_header.keep K221 nin0)
        have f225 := (E_USAGE_header.keep K221)
        have f226 := (F_USAGE_header_coder.keep K221 nin0)
        have f227 := (F_USAGE_header_value.keep K221 nin0)
        have f228 := (F_CHARGE_header.keep K221 nin0)
        have f229 := (E_CHARGE_header.keep K221)
        have f230 := (F_CHARGE_header_coder.keep K221 nin0)
        have f231 := (F_CHARGE_header_value.keep K221 nin0)
        have f232 := (F_TAX_header.keep K221 nin0)
        have f233 := (E_TAX_header.keep K221)
        have f234 := (F_TAX_header_coder.keep K221 nin0)
        have f235 := (F_TAX_header_value.keep K221 nin0)
        have f236 := (F_GAS_PART_header.keep K221 nin0)
        have f237 := (E_GAS_PART_header.keep K221)
        have f238 := (F_GAS_PART_header_coder.keep K221 nin0)
        have f239 := (F_GAS_PART_header_value.keep K221 nin0)
        have f240 := (V__VALUES.keep K221 nin0)
        have f241 := (V_USAGE_header_value.keep K221 nin0)
        have f242 := (V_CHARGE_header_value.keep K221 nin0)
        have f243 := (V_TAX_header_value.keep K221 nin0)
        have f244 := (V_GAS_PART_header_value.keep K221 nin0)
        have f245 := (own_sta_keep f217 K212 (allS (own_ns_exa A205) all0))
        have f246 := (own_sta_keep S_EMPTY K221 all0)
        have f247 := (E_EMPTY.keep K221)
        have f248 := (F_EMPTY_value.keep K221 nin0)
        have Z249 := (Nat.le_trans Z218 K212.1)
        refine own_cs X212 hx hZ hown (hw _ (own_m 38 rfl)) (hw _ (own_m 39 rfl)) (hw _ (own_m 1 rfl)) (hw _ (own_m 40 rfl)) (by decide) (rm := { frames := 3, cells := 2, slots := 5, locals := 38 }) (rm_named_s l Z a0 hw [] b205 b212_0 kb212_0 (13 : Int32) [103, 97, 115, 95, 112, 97, 114, 116, 95, 121, 101, 110, c_] ((List.map StrChars.lo8 [103, 97, 115, 95, 112, 97, 114, 116, 95, 121, 101, 110, c_]).map Value.int) r_USAGE r__VALUES r_CHARGE r_TAX r_GAS_PART r_USAGE_header r_USAGE_header_value r_CHARGE_header r_CHARGE_header_value r_TAX_header r_TAX_header_value r_GAS_PART_header r_GAS_PART_header_value k__VALUES k_USAGE_header_value k_CHARGE_header_value k_TAX_header_value k_GAS_PART_header_value i_COMPACT_STRINGS v_SIOOBE_FORMATTER r_EMPTY T212.heap n0 Z249 f212_0 f212_1 f212_2 f212_3 (StrChars.Road.codOf (cs := [103, 97, 115, 95, 112, 97, 114, 116, 95, 121, 101, 110, c_]) (n := 13) rfl (fun c hc => (hp212 c hc).2)) (own_up hp212) (Nat.le_of_ble_eq_true rfl) f222 f223 f224 f225 f226 f227 f228 f229 f230 f231 f232 f233 f234 f235 f236 f237 f238 f239 f240 f241 f242 f243 f244 f245 f246 f247 f248 hs_COMPACT_STRINGS hv_SIOOBE_FORMATTER) (by decide) (W := 0) (by decide) (by decide) (by decide) rfl (by rw [hml]; rfl) (argsL := [(.ref b205)]) (lenOf own_pd8 rfl) (rest := []) rfl rfl (Nat.le_of_eq rfl) (hb hby at_233) ?_
        intro _ T220 L220 X220 hQ220
        have c250 : (own_same own_tx0 [103, 97, 115, 95, 112, 97, 114, 116, 95, 121, 101, 110, c_]) = (0 : Int32) := own_same_len (show (8 : Nat) ≠ 13 from by decide)
        have c251 : (own_same own_tx1 [103, 97, 115, 95, 112, 97, 114, 116, 95, 121, 101, 110, c_]) = (0 : Int32) := own_same_len (show (10 : Nat) ≠ 13 from by decide)
        have c252 : (own_same own_tx2 [103, 97, 115, 95, 112, 97, 114, 116, 95, 121, 101, 110, c_]) = (0 : Int32) := own_same_len (show (7 : Nat) ≠ 13 from by decide)
        have c253 : (own_same own_tx3 [103, 97, 115, 95, 112, 97, 114, 116, 95, 121, 101, 110, c_]) = (0 : Int32) := own_same_len (show (12 : Nat) ≠ 13 from by decide)
        have ev254 : (own_nm [103, 97, 115, 95, 112, 97, 114, 116, 95, 121, 101, 110, c_] r_USAGE r_CHARGE r_TAX r_GAS_PART) = .null := by unfold own_nm; rw [if_pos c250, if_pos c251, if_pos c252, if_pos c253]
        unfold Q_named_s at hQ220; rw [ev254] at hQ220
        obtain ⟨b220_0, rfl, N220q, K220, f220_0, f220_1⟩ := hQ220
        have N220 := Fr.app N212 N220q
        show oG p e below _ (T220.setTop (mkF m 236 #[.val (.int x0), .val (.int x1), .val (.int x2), .val (.int 3), .val (.int sh_), .val (.int c_), .val (.int mu_), .val (.ref r_GAS_PART), .val (.ref b205), .val .null, .val (.ref b201_0), .unset, .unset] [(.ref b220_0)]))
        refine og (fun _ hr => XS.aconstNull X220.here hx rfl (hb hby at_236) hr) ?_
        show oG p e below _ (T220.setTop (mkF m 237 #[.val (.int x0), .val (.int x1), .val (.int x2), .val (.int 3), .val (.int sh_), .val (.int c_), .val (.int mu_), .val (.ref r_GAS_PART), .val (.ref b205), .val .null, .val (.ref b201_0), .unset, .unset] [.null, (.ref b220_0)]))
        have Z256 := (Nat.le_trans Z249 K220.1)
        refine own_cv X220 hx hZ hown (notFace_of_selects (args := #[]) (mvT hZ (hw _ (own_m 91 rfl)))) (hw _ (own_m 88 rfl)) (hw _ (own_m 89 rfl)) (hw _ (own_m 91 rfl)) (hw _ (own_m 90 rfl)) (hw _ (own_m 73 rfl)) (hw _ (own_m 92 rfl)) (by decide) f220_0 (rm := { frames := 0, cells := 0, slots := 0, locals := 0 }) (rm_orElse_7 l Z a0 hw [] b220_0 T220.heap n0 Z256 f220_1) (by decide) (W := 0) (by decide) (by decide) (by decide) rfl (by rw [hml]; rfl) (argsL := [.null]) (lenOf own_pd4 rfl) (rest := []) rfl rfl (Nat.le_of_eq rfl) (hb hby at_237) ?_
        intro _ T255 L255 X255 hQ255
        obtain ⟨rfl, N255q, e255⟩ := hQ255
        have N255 := Fr.app N220 N255q
        show oG p e below _ (T255.setTop (mkF m 240 #[.val (.int x0), .val (.int x1), .val (.int x2), .val (.int 3), .val (.int sh_), .val (.int c_), .val (.int mu_), .val (.ref r_GAS_PART), .val (.ref b205), .val .null, .val (.ref b201_0), .unset, .unset] [.null]))
        refine og (X255.checkcastNull hx (g := (mkF m 240 #[.val (.int x0), .val (.int x1), .val (.int x2), .val (.int 3), .val (.int sh_), .val (.int c_), .val (.int mu_), .val (.ref r_GAS_PART), .val (.ref b205), .val .null, .val (.ref b201_0), .unset, .unset] [.null])) rfl rfl (hb hby at_240)) ?_
        show oG p e below _ (T255.setTop (mkF m 243 #[.val (.int x0), .val (.int x1), .val (.int x2), .val (.int 3), .val (.int sh_), .val (.int c_), .val (.int mu_), .val (.ref r_GAS_PART), .val (.ref b205), .val .null, .val (.ref b201_0), .unset, .unset] [.null]))
        refine og (fun _ hr => XS.astore X255.here hx rfl (hb hby at_243) rfl rfl (l' := #[.val (.int x0), .val (.int x1), .val (.int x2), .val (.int 3), .val (.int sh_), .val (.int c_), .val (.int mu_), .val (.ref r_GAS_PART), .val (.ref b205), .val .null, .val .null, .unset, .unset]) rfl (XS.aload X255.here hx rfl (hb hby at_245) rfl rfl (XS.aload X255.here hx rfl (hb hby at_247) rfl rfl hr))) ?_
        show oG p e below _ (T255.setTop (mkF m 249 #[.val (.int x0), .val (.int x1), .val (.int x2), .val (.int 3), .val (.int sh_), .val (.int c_), .val (.int mu_), .val (.ref r_GAS_PART), .val (.ref b205), .val .null, .val .null, .unset, .unset] [.null, .null]))
        refine og (fun _ hr => Jvm.RoadKit.acmp X255 hx rfl rfl rfl (pc0 := 249) (pc' := 252) (same := true) rfl (hb hby at_249) rfl (decide_eq_true rfl) (by decide) (by decide) hr) ?_
        show oG p e below _ (T255.setTop (mkF m 252 #[.val (.int x0), .val (.int x1), .val (.int x2), .val (.int 3), .val (.int sh_), .val (.int c_), .val (.int mu_), .val (.ref r_GAS_PART), .val (.ref b205), .val .null, .val .null, .unset, .unset] []))
        refine og (fun _ hr => XS.iconst X255.here hx rfl (hb hby at_252) (XS.goto X255.here hx rfl (pc0 := 253) (pc' := 257) rfl (hb hby at_253) (by decide) (by decide) hr)) ?_
        show oG p e below _ (T255.setTop (mkF m 257 #[.val (.int x0), .val (.int x1), .val (.int x2), .val (.int 3), .val (.int sh_), .val (.int c_), .val (.int mu_), .val (.ref r_GAS_PART), .val (.ref b205), .val .null, .val .null, .unset, .unset] [(.int 1)]))
        have hk257 := (Nat.le_trans (Nat.le_trans (Nat.le_trans (Nat.le_trans (Nat.le_trans hk K201.1) (Nat.le_of_eq W203.size.symm)) E205.1) K212.1) K220.1)
        have A258 := A0.trans (CHr.keep K201 sf0 A0.1)
        have sf260 := (Safe.keep K201 sf0 A0.1 (Safe.new sz201_0))
        have A259 := A258.trans (CHr.wr W203 sf260 A258.1)
        have A261 := A259.trans (CHr.ext E205 A259.1)
        have sf263 := (Safe.ext E205 A259.1 (Safe.new (Nat.le_of_eq g205.symm)))
        have A262 := A261.trans (CHr.keep K212 (sfS sf263 sf0) A261.1)
        have A264 := A262.trans (CHr.keep K220 sf0 A262.1)
        exact own_retNW X255 hx hlk Bd.returns hS hk257 hZ hEL hh e255 A264 (t := .boolean) (by simp) (hb hby at_257) (by decide) (by decide) ⟨rfl, N255⟩
      refine og (fun _ hr => XS.icmpYes X3.here hx rfl (pc0 := 160) (pc' := 196) rfl (hb hby at_160) rfl (feq c200).2 (by decide) (by decide) hr) ?_
      show oG p e below _ (T3.setTop (mkF m 196 #[.val (.int x0), .val (.int x1), .val (.int x2), .val (.int 3), .val (.int sh_), .val (.int c_), .val (.int mu_), .val (.ref r_GAS_PART), .unset, .unset, .unset, .unset, .unset] []))
      refine og (fun _ hr => XS.iload X3.here hx rfl (hb hby at_196) rfl (XS.iconst X3.here hx rfl (hb hby at_198) hr)) ?_
      show oG p e below _ (T3.setTop (mkF m 199 #[.val (.int x0), .val (.int x1), .val (.int x2), .val (.int 3), .val (.int sh_), .val (.int c_), .val (.int mu_), .val (.ref r_GAS_PART), .unset, .unset, .unset, .unset, .unset] [(.int 2), (.int sh_)]))
      rcases Classical.em (sh_ = (2 : Int32)) with c265 | c265
      · skip
        refine og (fun _ hr => XS.icmpNo X3.here hx rfl (hb hby at_199) rfl (teq c265).2 hr) ?_
        show oG p e below _ (T3.setTop (mkF m 202 #[.val (.int x0), .val (.int x1), .val (.int x2), .val (.int 3), .val (.int sh_), .val (.int c_), .val (.int mu_), .val (.ref r_GAS_PART), .unset, .unset, .unset, .unset, .unset] []))
        refine og (fun _ hr => XS.iloadN X3.here hx rfl (hb hby at_202) rfl hr) ?_
        show oG p e below _ (T3.setTop (mkF m 203 #[.val (.int x0), .val (.int x1), .val (.int x2), .val (.int 3), .val (.int sh_), .val (.int c_), .val (.int mu_), .val (.ref r_GAS_PART), .unset, .unset, .unset, .unset, .unset] [(.int 3)]))
        have hZo267 := hZ
        refine own_csW X3 hx hZ hown (hw _ (own_m 104 rfl)) (hw _ (own_m 105 rfl)) (hw _ (own_m 5 rfl)) (hw _ (own_m 106 rfl)) (by decide) (rm := { frames := 0, cells := 2, slots := 48, locals := 0 }) (rm_shorter_9 l Z a0 hw []  h0 n0 Z0 ) (by decide) (W := 0) (by decide) (by decide) (by decide) e3 hEL A0.1 hS hk (by rw [hml]; rfl) (argsL := [(.int 3)]) (lenOf own_pd9 rfl) (rest := []) rfl rfl (Nat.le_of_eq rfl) (hb hby at_203) ?_
        intro _ T266 L266 X266 hQ266 Ac266 hS hZ hown
        obtain ⟨b266_0, b266_1, kb266_0, rfl, N266q, K266, f266_0, f266_1, f266_2, f266_3⟩ := hQ266
        have N266 := Fr.app N0 N266q
        show oG p e below _ (T266.setTop (mkF m 206 #[.val (.int x0), .val (.int x1), .val (.int x2), .val (.int 3), .val (.int sh_), .val (.int c_), .val (.int mu_), .val (.ref r_GAS_PART), .unset, .unset, .unset, .unset, .unset] [(.ref b266_0)]))
        refine og (fun _ hr => XS.astore X266.here hx rfl (hb hby at_206) rfl rfl (l' := #[.val (.int x0), .val (.int x1), .val (.int x2), .val (.int 3), .val (.int sh_), .val (.int c_), .val (.int mu_), .val (.ref r_GAS_PART), .val (.ref b266_0), .unset, .unset, .unset, .unset]) rfl (XS.aconstNull X266.here hx rfl (hb hby at_208) (XS.astore X266.here hx rfl (hb hby at_209) rfl rfl (l' := #[.val (.int x0), .val (.int x1), .val (.int x2), .val (.int 3), .val (.int sh_), .val (.int c_), .val (.int mu_), .val (.ref r_GAS_PART), .val (.ref b266_0), .val .null, .unset, .unset, .unset]) rfl (XS.goto X266.here hx rfl (pc0 := 211) (pc' := 231) rfl (hb hby at_211) (by decide) (by decide) (XS.aload X266.here hx rfl (hb hby at_231) rfl rfl hr))))) ?_
        show oG p e below _ (T266.setTop (mkF m 233 #[.val (.int x0), .val (.int x1), .val (.int x2), .val (.int 3), .val (.int sh_), .val (.int c_), .val (.int mu_), .val (.ref r_GAS_PART), .val (.ref b266_0), .val .null, .unset, .unset, .unset] [(.ref b266_0)]))
        have f269 := (own_sta_keep S__VALUES K266 all0)
        have f270 := (E__VALUES.keep K266)
        have f271 := (F_USAGE_header.keep K266 nin0)
        have f272 := (E_USAGE_header.keep K266)
        have f273 := (F_USAGE_header_coder.keep K266 nin0)
        have f274 := (F_USAGE_header_value.keep K266 nin0)
        have f275 := (F_CHARGE_header.keep K266 nin0)
        have f276 := (E_CHARGE_header.keep K266)
        have f277 := (F_CHARGE_header_coder.keep K266 nin0)
        have f278 := (F_CHARGE_header_value.keep K266 nin0)
        have f279 := (F_TAX_header.keep K266 nin0)
        have f280 := (E_TAX_header.keep K266)
        have f281 := (F_TAX_header_coder.keep K266 nin0)
        have f282 := (F_TAX_header_value.keep K266 nin0)
        have f283 := (F_GAS_PART_header.keep K266 nin0)
        have f284 := (E_GAS_PART_header.keep K266)
        have f285 := (F_GAS_PART_header_coder.keep K266 nin0)
        have f286 := (F_GAS_PART_header_value.keep K266 nin0)
        have f287 := (V__VALUES.keep K266 nin0)
        have f288 := (V_USAGE_header_value.keep K266 nin0)
        have f289 := (V_CHARGE_header_value.keep K266 nin0)
        have f290 := (V_TAX_header_value.keep K266 nin0)
        have f291 := (V_GAS_PART_header_value.keep K266 nin0)
        have f292 := (own_sta_keep S_COMPACT_STRINGS K266 all0)
        have f293 := (own_sta_keep S_EMPTY K266 all0)
        have f294 := (E_EMPTY.keep K266)
        have f295 := (F_EMPTY_value.keep K266 nin0)
        have Z296 := (Nat.le_trans Z0 K266.1)
        refine own_cs X266 hx hZ hown (hw _ (own_m 38 rfl)) (hw _ (own_m 39 rfl)) (hw _ (own_m 1 rfl)) (hw _ (own_m 40 rfl)) (by decide) (rm := { frames := 3, cells := 2, slots := 5, locals := 38 }) (rm_named_s l Z a0 hw [] b266_0 b266_1 kb266_0 (11 : Int32) own_tx4 [(.int 103), (.int 97), (.int 115), (.int 95), (.int 112), (.int 97), (.int 114), (.int 116), (.int 95), (.int 121), (.int 101)] r_USAGE r__VALUES r_CHARGE r_TAX r_GAS_PART r_USAGE_header r_USAGE_header_value r_CHARGE_header r_CHARGE_header_value r_TAX_header r_TAX_header_value r_GAS_PART_header r_GAS_PART_header_value k__VALUES k_USAGE_header_value k_CHARGE_header_value k_TAX_header_value k_GAS_PART_header_value i_COMPACT_STRINGS v_SIOOBE_FORMATTER r_EMPTY T266.heap n0 Z296 f266_0 f266_1 f266_2 f266_3 own_cod4 own_hb4 (by decide) f269 f270 f271 f272 f273 f274 f275 f276 f277 f278 f279 f280 f281 f282 f283 f284 f285 f286 f287 f288 f289 f290 f291 f292 f293 f294 f295 hs_COMPACT_STRINGS hv_SIOOBE_FORMATTER) (by decide) (W := 0) (by decide) (by decide) (by decide) rfl (by rw [hml]; rfl) (argsL := [(.ref b266_0)]) (lenOf own_pd8 rfl) (rest := []) rfl rfl (Nat.le_of_eq rfl) (hb hby at_233) ?_
        intro _ T268 L268 X268 hQ268
        have c297 : (own_same own_tx0 own_tx4) = (0 : Int32) := by decide +kernel
        have c298 : (own_same own_tx1 own_tx4) = (0 : Int32) := by decide +kernel
        have c299 : (own_same own_tx2 own_tx4) = (0 : Int32) := by decide +kernel
        have c300 : (own_same own_tx3 own_tx4) = (0 : Int32) := by decide +kernel
        have ev301 : (own_nm own_tx4 r_USAGE r_CHARGE r_TAX r_GAS_PART) = .null := by unfold own_nm; rw [if_pos c297, if_pos c298, if_pos c299, if_pos c300]
        unfold Q_named_s at hQ268; rw [ev301] at hQ268
        obtain ⟨b268_0, rfl, N268q, K268, f268_0, f268_1⟩ := hQ268
        have N268 := Fr.app N266 N268q
        show oG p e below _ (T268.setTop (mkF m 236 #[.val (.int x0), .val (.int x1), .val (.int x2), .val (.int 3), .val (.int sh_), .val (.int c_), .val (.int mu_), .val (.ref r_GAS_PART), .val (.ref b266_0), .val .null, .unset, .unset, .unset] [(.ref b268_0)]))
        refine og (fun _ hr => XS.aconstNull X268.here hx rfl (hb hby at_236) hr) ?_
        show oG p e below _ (T268.setTop (mkF m 237 #[.val (.int x0), .val (.int x1), .val (.int x2), .val (.int 3), .val (.int sh_), .val (.int c_), .val (.int mu_), .val (.ref r_GAS_PART), .val (.ref b266_0), .val .null, .unset, .unset, .unset] [.null, (.ref b268_0)]))
        have Z303 := (Nat.le_trans Z296 K268.1)
        refine own_cv X268 hx hZ hown (notFace_of_selects (args := #[]) (mvT hZ (hw _ (own_m 91 rfl)))) (hw _ (own_m 88 rfl)) (hw _ (own_m 89 rfl)) (hw _ (own_m 91 rfl)) (hw _ (own_m 90 rfl)) (hw _ (own_m 73 rfl)) (hw _ (own_m 92 rfl)) (by decide) f268_0 (rm := { frames := 0, cells := 0, slots := 0, locals := 0 }) (rm_orElse_7 l Z a0 hw [] b268_0 T268.heap n0 Z303 f268_1) (by decide) (W := 0) (by decide) (by decide) (by decide) rfl (by rw [hml]; rfl) (argsL := [.null]) (lenOf own_pd4 rfl) (rest := []) rfl rfl (Nat.le_of_eq rfl) (hb hby at_237) ?_
        intro _ T302 L302 X302 hQ302
        obtain ⟨rfl, N302q, e302⟩ := hQ302
        have N302 := Fr.app N268 N302q
        show oG p e below _ (T302.setTop (mkF m 240 #[.val (.int x0), .val (.int x1), .val (.int x2), .val (.int 3), .val (.int sh_), .val (.int c_), .val (.int mu_), .val (.ref r_GAS_PART), .val (.ref b266_0), .val .null, .unset, .unset, .unset] [.null]))
        refine og (X302.checkcastNull hx (g := (mkF m 240 #[.val (.int x0), .val (.int x1), .val (.int x2), .val (.int 3), .val (.int sh_), .val (.int c_), .val (.int mu_), .val (.ref r_GAS_PART), .val (.ref b266_0), .val .null, .unset, .unset, .unset] [.null])) rfl rfl (hb hby at_240)) ?_
        show oG p e below _ (T302.setTop (mkF m 243 #[.val (.int x0), .val (.int x1), .val (.int x2), .val (.int 3), .val (.int sh_), .val (.int c_), .val (.int mu_), .val (.ref r_GAS_PART), .val (.ref b266_0), .val .null, .unset, .unset, .unset] [.null]))
        refine og (fun _ hr => XS.astore X302.here hx rfl (hb hby at_243) rfl rfl (l' := #[.val (.int x0), .val (.int x1), .val (.int x2), .val (.int 3), .val (.int sh_), .val (.int c_), .val (.int mu_), .val (.ref r_GAS_PART), .val (.ref b266_0), .val .null, .val .null, .unset, .unset]) rfl (XS.aload X302.here hx rfl (hb hby at_245) rfl rfl (XS.aload X302.here hx rfl (hb hby at_247) rfl rfl hr))) ?_
        show oG p e below _ (T302.setTop (mkF m 249 #[.val (.int x0), .val (.int x1), .val (.int x2), .val (.int 3), .val (.int sh_), .val (.int c_), .val (.int mu_), .val (.ref r_GAS_PART), .val (.ref b266_0), .val .null, .val .null, .unset, .unset] [.null, .null]))
        refine og (fun _ hr => Jvm.RoadKit.acmp X302 hx rfl rfl rfl (pc0 := 249) (pc' := 252) (same := true) rfl (hb hby at_249) rfl (decide_eq_true rfl) (by decide) (by decide) hr) ?_
        show oG p e below _ (T302.setTop (mkF m 252 #[.val (.int x0), .val (.int x1), .val (.int x2), .val (.int 3), .val (.int sh_), .val (.int c_), .val (.int mu_), .val (.ref r_GAS_PART), .val (.ref b266_0), .val .null, .val .null, .unset, .unset] []))
        refine og (fun _ hr => XS.iconst X302.here hx rfl (hb hby at_252) (XS.goto X302.here hx rfl (pc0 := 253) (pc' := 257) rfl (hb hby at_253) (by decide) (by decide) hr)) ?_
        show oG p e below _ (T302.setTop (mkF m 257 #[.val (.int x0), .val (.int x1), .val (.int x2), .val (.int 3), .val (.int sh_), .val (.int c_), .val (.int mu_), .val (.ref r_GAS_PART), .val (.ref b266_0), .val .null, .val .null, .unset, .unset] [(.int 1)]))
        have hk304 := (Nat.le_trans (Nat.le_refl _) K268.1)
        have A305 := A0.trans Ac266
        have A306 := A305.trans (CHr.keep K268 sf0 A305.1)
        exact own_retNW X302 hx hlk Bd.returns hS hk304 hZ hEL hh e302 A306 (t := .boolean) (by simp) (hb hby at_257) (by decide) (by decide) ⟨rfl, N302⟩
      refine og (fun _ hr => XS.icmpYes X3.here hx rfl (pc0 := 199) (pc' := 214) rfl (hb hby at_199) rfl (feq c265).2 (by decide) (by decide) hr) ?_
      show oG p e below _ (T3.setTop (mkF m 214 #[.val (.int x0), .val (.int x1), .val (.int x2), .val (.int 3), .val (.int sh_), .val (.int c_), .val (.int mu_), .val (.ref r_GAS_PART), .unset, .unset, .unset, .unset, .unset] []))
      refine og (fun _ hr => XS.iloadN X3.here hx rfl (hb hby at_214) rfl (XS.iconst X3.here hx rfl (hb hby at_215) (XS.iand X3.here hx rfl (hb hby at_216) rfl hr))) ?_
      show oG p e below _ (T3.setTop (mkF m 217 #[.val (.int x0), .val (.int x1), .val (.int x2), .val (.int 3), .val (.int sh_), .val (.int c_), .val (.int mu_), .val (.ref r_GAS_PART), .unset, .unset, .unset, .unset, .unset] [(.int (x1 &&& (1 : Int32)))]))
      rcases Classical.em ((x1 &&& (1 : Int32)) = (0 : Int32)) with c307 | c307
      · skip
        refine og (fun _ hr => XS.ifNo X3.here hx rfl (hb hby at_217) rfl ((if0 _ _).trans (teq c307).2) hr) ?_
        show oG p e below _ (T3.setTop (mkF m 220 #[.val (.int x0), .val (.int x1), .val (.int x2), .val (.int 3), .val (.int sh_), .val (.int c_), .val (.int mu_), .val (.ref r_GAS_PART), .unset, .unset, .unset, .unset, .unset] []))
        refine og (fun _ hr => XS.aconstNull X3.here hx rfl (hb hby at_220) (XS.goto X3.here hx rfl (pc0 := 221) (pc' := 226) rfl (hb hby at_221) (by decide) (by decide) (XS.astore X3.here hx rfl (hb hby at_226) rfl rfl (l' := #[.val (.int x0), .val (.int x1), .val (.int x2), .val (.int 3), .val (.int sh_), .val (.int c_), .val (.int mu_), .val (.ref r_GAS_PART), .val .null, .unset, .unset, .unset, .unset]) rfl (XS.aconstNull X3.here hx rfl (hb hby at_228) (XS.astore X3.here hx rfl (hb hby at_229) rfl rfl (l' := #[.val (.int x0), .val (.int x1), .val (.int x2), .val (.int 3), .val (.int sh_), .val (.int c_), .val (.int mu_), .val (.ref r_GAS_PART), .val .null, .val .null, .unset, .unset, .unset]) rfl (XS.aload X3.here hx rfl (hb hby at_231) rfl rfl hr)))))) ?_
        show oG p e below _ (T3.setTop (mkF m 233 #[.val (.int x0), .val (.int x1), .val (.int x2), .val (.int 3), .val (.int sh_), .val (.int c_), .val (.int mu_), .val (.ref r_GAS_PART), .val .null, .val .null, .unset, .unset, .unset] [.null]))
        refine own_cs X3 hx hZ hown (hw _ (own_m 38 rfl)) (hw _ (own_m 39 rfl)) (hw _ (own_m 1 rfl)) (hw _ (own_m 40 rfl)) (by decide) (rm := { frames := 2, cells := 1, slots := 4, locals := 25 }) (rm_named_11 l Z a0 hw [] r__VALUES r_USAGE r_CHARGE r_TAX r_GAS_PART k__VALUES r_USAGE_header r_CHARGE_header r_TAX_header r_GAS_PART_header r_EMPTY h0 n0 Z0 S__VALUES V__VALUES E__VALUES F_USAGE_header E_USAGE_header F_CHARGE_header E_CHARGE_header F_TAX_header E_TAX_header F_GAS_PART_header E_GAS_PART_header S_EMPTY) (by decide) (W := 0) (by decide) (by decide) (by decide) e3 (by rw [hml]; rfl) (argsL := [.null]) (lenOf own_pd8 rfl) (rest := []) rfl rfl (Nat.le_of_eq rfl) (hb hby at_233) ?_
        intro _ T308 L308 X308 hQ308
        obtain ⟨rfl, N308q, K308⟩ := hQ308
        have N308 := Fr.app N0 N308q
        show oG p e below _ (T308.setTop (mkF m 236 #[.val (.int x0), .val (.int x1), .val (.int x2), .val (.int 3), .val (.int sh_), .val (.int c_), .val (.int mu_), .val (.ref r_GAS_PART), .val .null, .val .null, .unset, .unset, .unset] [(.ref r_EMPTY)]))
        refine og (fun _ hr => XS.aconstNull X308.here hx rfl (hb hby at_236) hr) ?_
        show oG p e below _ (T308.setTop (mkF m 237 #[.val (.int x0), .val (.int x1), .val (.int x2), .val (.int 3), .val (.int sh_), .val (.int c_), .val (.int mu_), .val (.ref r_GAS_PART), .val .null, .val .null, .unset, .unset, .unset] [.null, (.ref r_EMPTY)]))
        have f310 := (F_EMPTY_value.keep K308 nin0)
        have Z311 := (Nat.le_trans Z0 K308.1)
        have f312 := (E_EMPTY.keep K308)
        refine own_cv X308 hx hZ hown (notFace_of_selects (args := #[]) (mvT hZ (hw _ (own_m 91 rfl)))) (hw _ (own_m 88 rfl)) (hw _ (own_m 89 rfl)) (hw _ (own_m 91 rfl)) (hw _ (own_m 90 rfl)) (hw _ (own_m 73 rfl)) (hw _ (own_m 92 rfl)) (by decide) f312 (rm := { frames := 0, cells := 0, slots := 0, locals := 0 }) (rm_orElse_7 l Z a0 hw [] r_EMPTY T308.heap n0 Z311 f310) (by decide) (W := 0) (by decide) (by decide) (by decide) rfl (by rw [hml]; rfl) (argsL := [.null]) (lenOf own_pd4 rfl) (rest := []) rfl rfl (Nat.le_of_eq rfl) (hb hby at_237) ?_
        intro _ T309 L309 X309 hQ309
        obtain ⟨rfl, N309q, e309⟩ := hQ309
        have N309 := Fr.app N308 N309q
        show oG p e below _ (T309.setTop (mkF m 240 #[.val (.int x0), .val (.int x1), .val (.int x2), .val (.int 3), .val (.int sh_), .val (.int c_), .val (.int mu_), .val (.ref r_GAS_PART), .val .null, .val .null, .unset, .unset, .unset] [.null]))
        refine og (X309.checkcastNull hx (g := (mkF m 240 #[.val (.int x0), .val (.int x1), .val (.int x2), .val (.int 3), .val (.int sh_), .val (.int c_), .val (.int mu_), .val (.ref r_GAS_PART), .val .null, .val .null, .unset, .unset, .unset] [.null])) rfl rfl (hb hby at_240)) ?_
        show oG p e below _ (T309.setTop (mkF m 243 #[.val (.int x0), .val (.int x1), .val (.int x2), .val (.int 3), .val (.int sh_), .val (.int c_), .val (.int mu_), .val (.ref r_GAS_PART), .val .null, .val .null, .unset, .unset, .unset] [.null]))
        refine og (fun _ hr => XS.astore X309.here hx rfl (hb hby at_243) rfl rfl (l' := #[.val (.int x0), .val (.int x1), .val (.int x2), .val (.int 3), .val (.int sh_), .val (.int c_), .val (.int mu_), .val (.ref r_GAS_PART), .val .null, .val .null, .val .null, .unset, .unset]) rfl (XS.aload X309.here hx rfl (hb hby at_245) rfl rfl (XS.aload X309.here hx rfl (hb hby at_247) rfl rfl hr))) ?_
        show oG p e below _ (T309.setTop (mkF m 249 #[.val (.int x0), .val (.int x1), .val (.int x2), .val (.int 3), .val (.int sh_), .val (.int c_), .val (.int mu_), .val (.ref r_GAS_PART), .val .null, .val .null, .val .null, .unset, .unset] [.null, .null]))
        refine og (fun _ hr => Jvm.RoadKit.acmp X309 hx rfl rfl rfl (pc0 := 249) (pc' := 252) (same := true) rfl (hb hby at_249) rfl (decide_eq_true rfl) (by decide) (by decide) hr) ?_
        show oG p e below _ (T309.setTop (mkF m 252 #[.val (.int x0), .val (.int x1), .val (.int x2), .val (.int 3), .val (.int sh_), .val (.int c_), .val (.int mu_), .val (.ref r_GAS_PART), .val .null, .val .null, .val .null, .unset, .unset] []))
        refine og (fun _ hr => XS.iconst X309.here hx rfl (hb hby at_252) (XS.goto X309.here hx rfl (pc0 := 253) (pc' := 257) rfl (hb hby at_253) (by decide) (by decide) hr)) ?_
        show oG p e below _ (T309.setTop (mkF m 257 #[.val (.int x0), .val (.int x1), .val (.int x2), .val (.int 3), .val (.int sh_), .val (.int c_), .val (.int mu_), .val (.ref r_GAS_PART), .val .null, .val .null, .val .null, .unset, .unset] [(.int 1)]))
        have hk313 := (Nat.le_trans hk K308.1)
        have A314 := A0.trans (CHr.keep K308 sf0 A0.1)
        exact own_retNW X309 hx hlk Bd.returns hS hk313 hZ hEL hh e309 A314 (t := .boolean) (by simp) (hb hby at_257) (by decide) (by decide) ⟨rfl, N309⟩
      refine og (fun _ hr => XS.ifYes X3.here hx rfl (pc0 := 217) (pc' := 224) rfl (hb hby at_217) rfl ((if0 _ _).trans (feq c307).2) (by decide) (by decide) hr) ?_
      show oG p e below _ (T3.setTop (mkF m 224 #[.val (.int x0), .val (.int x1), .val (.int x2), .val (.int 3), .val (.int sh_), .val (.int c_), .val (.int mu_), .val (.ref r_GAS_PART), .unset, .unset, .unset, .unset, .unset] []))
      have hZo316 := hZ
      obtain ⟨a315, T315, h315, k1315, b315, k315, X315, e315, E315, hS, hk315, hZ, hown, EA315, FC315, FV315, AV315, -, -, Al315, -, ne315, st315⟩ := ldcCH X3 hx hZ hown (hw _ (own_m 112 rfl)) (own_ws hw) e3 hS hk hEL (by simp [own_EL]) A0.1 (vs := []) (z := (0 : Int32)) ⟨by decide, by decide⟩ (by decide) (by decide) (g := (mkF m 224 #[.val (.int x0), .val (.int x1), .val (.int x2), .val (.int 3), .val (.int sh_), .val (.int c_), .val (.int mu_), .val (.ref r_GAS_PART), .unset, .unset, .unset, .unset, .unset] [])) rfl (hb hby at_224) (n := 0) (by decide) (by decide) (by decide) (by decide)
      refine og st315 ?_
      show oG p e below _ (T315.setTop (mkF m 226 #[.val (.int x0), .val (.int x1), .val (.int x2), .val (.int 3), .val (.int sh_), .val (.int c_), .val (.int mu_), .val (.ref r_GAS_PART), .unset, .unset, .unset, .unset, .unset] [(.ref a315)]))
      refine og (fun _ hr => XS.astore X315.here hx rfl (hb hby at_226) rfl rfl (l' := #[.val (.int x0), .val (.int x1), .val (.int x2), .val (.int 3), .val (.int sh_), .val (.int c_), .val (.int mu_), .val (.ref r_GAS_PART), .val (.ref a315), .unset, .unset, .unset, .unset]) rfl (XS.aconstNull X315.here hx rfl (hb hby at_228) (XS.astore X315.here hx rfl (hb hby at_229) rfl rfl (l' := #[.val (.int x0), .val (.int x1), .val (.int x2), .val (.int 3), .val (.int sh_), .val (.int c_), .val (.int mu_), .val (.ref r_GAS_PART), .val (.ref a315), .val .null, .unset, .unset, .unset]) rfl (XS.aload X315.here hx rfl (hb hby at_231) rfl rfl hr)))) ?_
      show oG p e below _ (T315.setTop (mkF m 233 #[.val (.int x0), .val (.int x1), .val (.int x2), .val (.int 3), .val (.int sh_), .val (.int c_), .val (.int mu_), .val (.ref r_GAS_PART), .val (.ref a315), .val .null, .unset, .unset, .unset] [(.ref a315)]))
      have f318 := (S__VALUES.ext E315)
      have f319 := (E__VALUES.ext E315)
      have f320 := (F_USAGE_header.ext E315)
      have f321 := (E_USAGE_header.ext E315)
      have f322 := (F_USAGE_header_coder.ext E315)
      have f323 := (F_USAGE_header_value.ext E315)
      have f324 := (F_CHARGE_header.ext E315)
      have f325 := (E_CHARGE_header.ext E315)
      have f326 := (F_CHARGE_header_coder.ext E315)
      have f327 := (F_CHARGE_header_value.ext E315)
      have f328 := (F_TAX_header.ext E315)
      have f329 := (E_TAX_header.ext E315)
      have f330 := (F_TAX_header_coder.ext E315)
      have f331 := (F_TAX_header_value.ext E315)
      have f332 := (F_GAS_PART_header.ext E315)
      have f333 := (E_GAS_PART_header.ext E315)
      have f334 := (F_GAS_PART_header_coder.ext E315)
      have f335 := (F_GAS_PART_header_value.ext E315)
      have f336 := (V__VALUES.ext E315)
      have f337 := (V_USAGE_header_value.ext E315)
      have f338 := (V_CHARGE_header_value.ext E315)
      have f339 := (V_TAX_header_value.ext E315)
      have f340 := (V_GAS_PART_header_value.ext E315)
      have f341 := (S_COMPACT_STRINGS.ext E315)
      have f342 := (S_EMPTY.ext E315)
      have f343 := (E_EMPTY.ext E315)
      have f344 := (F_EMPTY_value.ext E315)
      have Z345 := (Nat.le_trans Z0 E315.1)
      refine own_cs X315 hx hZ hown (hw _ (own_m 38 rfl)) (hw _ (own_m 39 rfl)) (hw _ (own_m 1 rfl)) (hw _ (own_m 40 rfl)) (by decide) (rm := { frames := 3, cells := 2, slots := 5, locals := 38 }) (rm_named_s l Z a0 hw [] a315 b315 k315 (0 : Int32) own_tx5 [] r_USAGE r__VALUES r_CHARGE r_TAX r_GAS_PART r_USAGE_header r_USAGE_header_value r_CHARGE_header r_CHARGE_header_value r_TAX_header r_TAX_header_value r_GAS_PART_header r_GAS_PART_header_value k__VALUES k_USAGE_header_value k_CHARGE_header_value k_TAX_header_value k_GAS_PART_header_value i_COMPACT_STRINGS v_SIOOBE_FORMATTER r_EMPTY h315 n0 Z345 EA315 FC315 FV315 AV315 own_cod5 own_hb5 (by decide) f318 f319 f320 f321 f322 f323 f324 f325 f326 f327 f328 f329 f330 f331 f332 f333 f334 f335 f336 f337 f338 f339 f340 f341 f342 f343 f344 hs_COMPACT_STRINGS hv_SIOOBE_FORMATTER) (by decide) (W := 0) (by decide) (by decide) (by decide) e315 (by rw [hml]; rfl) (argsL := [(.ref a315)]) (lenOf own_pd8 rfl) (rest := []) rfl rfl (Nat.le_of_eq rfl) (hb hby at_233) ?_
      intro _ T317 L317 X317 hQ317
      have c346 : (own_same own_tx0 own_tx5) = (0 : Int32) := by decide +kernel
      have c347 : (own_same own_tx1 own_tx5) = (0 : Int32) := by decide +kernel
      have c348 : (own_same own_tx2 own_tx5) = (0 : Int32) := by decide +kernel
      have c349 : (own_same own_tx3 own_tx5) = (0 : Int32) := by decide +kernel
      have ev350 : (own_nm own_tx5 r_USAGE r_CHARGE r_TAX r_GAS_PART) = .null := by unfold own_nm; rw [if_pos c346, if_pos c347, if_pos c348, if_pos c349]
      unfold Q_named_s at hQ317; rw [ev350] at hQ317
      obtain ⟨b317_0, rfl, N317q, K317, f317_0, f317_1⟩ := hQ317
      have N317 := Fr.app N0 N317q
      show oG p e below _ (T317.setTop (mkF m 236 #[.val (.int x0), .val (.int x1), .val (.int x2), .val (.int 3), .val (.int sh_), .val (.int c_), .val (.int mu_), .val (.ref r_GAS_PART), .val (.ref a315), .val .null, .unset, .unset, .unset] [(.ref b317_0)]))
      refine og (fun _ hr => XS.aconstNull X317.here hx rfl (hb hby at_236) hr) ?_
      show oG p e below _ (T317.setTop (mkF m 237 #[.val (.int x0), .val (.int x1), .val (.int x2), .val (.int 3), .val (.int sh_), .val (.int c_), .val (.int mu_), .val (.ref r_GAS_PART), .val (.ref a315), .val .null, .unset, .unset, .unset] [.null, (.ref b317_0)]))
      have Z352 := (Nat.le_trans Z345 K317.1)
      refine own_cv X317 hx hZ hown (notFace_of_selects (args := #[]) (mvT hZ (hw _ (own_m 91 rfl)))) (hw _ (own_m 88 rfl)) (hw _ (own_m 89 rfl)) (hw _ (own_m 91 rfl)) (hw _ (own_m 90 rfl)) (hw _ (own_m 73 rfl)) (hw _ (own_m 92 rfl)) (by decide) f317_0 (rm := { frames := 0, cells := 0, slots := 0, locals := 0 }) (rm_orElse_7 l Z a0 hw [] b317_0 T317.heap n0 Z352 f317_1) (by decide) (W := 0) (by decide) (by decide) (by decide) rfl (by rw [hml]; rfl) (argsL := [.null]) (lenOf own_pd4 rfl) (rest := []) rfl rfl (Nat.le_of_eq rfl) (hb hby at_237) ?_
      intro _ T351 L351 X351 hQ351
      obtain ⟨rfl, N351q, e351⟩ := hQ351
      have N351 := Fr.app N317 N351q
      show oG p e below _ (T351.setTop (mkF m 240 #[.val (.int x0), .val (.int x1), .val (.int x2), .val (.int 3), .val (.int sh_), .val (.int c_), .val (.int mu_), .val (.ref r_GAS_PART), .val (.ref a315), .val .null, .unset, .unset, .unset] [.null]))
      refine og (X351.checkcastNull hx (g := (mkF m 240 #[.val (.int x0), .val (.int x1), .val (.int x2), .val (.int 3), .val (.int sh_), .val (.int c_), .val (.int mu_), .val (.ref r_GAS_PART), .val (.ref a315), .val .null, .unset, .unset, .unset] [.null])) rfl rfl (hb hby at_240)) ?_
      show oG p e below _ (T351.setTop (mkF m 243 #[.val (.int x0), .val (.int x1), .val (.int x2), .val (.int 3), .val (.int sh_), .val (.int c_), .val (.int mu_), .val (.ref r_GAS_PART), .val (.ref a315), .val .null, .unset, .unset, .unset] [.null]))
      refine og (fun _ hr => XS.astore X351.here hx rfl (hb hby at_243) rfl rfl (l' := #[.val (.int x0), .val (.int x1), .val (.int x2), .val (.int 3), .val (.int sh_), .val (.int c_), .val (.int mu_), .val (.ref r_GAS_PART), .val (.ref a315), .val .null, .val .null, .unset, .unset]) rfl (XS.aload X351.here hx rfl (hb hby at_245) rfl rfl (XS.aload X351.here hx rfl (hb hby at_247) rfl rfl hr))) ?_
      show oG p e below _ (T351.setTop (mkF m 249 #[.val (.int x0), .val (.int x1), .val (.int x2), .val (.int 3), .val (.int sh_), .val (.int c_), .val (.int mu_), .val (.ref r_GAS_PART), .val (.ref a315), .val .null, .val .null, .unset, .unset] [.null, .null]))
      refine og (fun _ hr => Jvm.RoadKit.acmp X351 hx rfl rfl rfl (pc0 := 249) (pc' := 252) (same := true) rfl (hb hby at_249) rfl (decide_eq_true rfl) (by decide) (by decide) hr) ?_
      show oG p e below _ (T351.setTop (mkF m 252 #[.val (.int x0), .val (.int x1), .val (.int x2), .val (.int 3), .val (.int sh_), .val (.int c_), .val (.int mu_), .val (.ref r_GAS_PART), .val (.ref a315), .val .null, .val .null, .unset, .unset] []))
      refine og (fun _ hr => XS.iconst X351.here hx rfl (hb hby at_252) (XS.goto X351.here hx rfl (pc0 := 253) (pc' := 257) rfl (hb hby at_253) (by decide) (by decide) hr)) ?_
      show oG p e below _ (T351.setTop (mkF m 257 #[.val (.int x0), .val (.int x1), .val (.int x2), .val (.int 3), .val (.int sh_), .val (.int c_), .val (.int mu_), .val (.ref r_GAS_PART), .val (.ref a315), .val .null, .val .null, .unset, .unset] [(.int 1)]))
      have hk353 := (Nat.le_trans hk315 K317.1)
      have A354 := A0.trans Al315
      have A355 := A354.trans (CHr.keep K317 sf0 A354.1)
      exact own_retNW X351 hx hlk Bd.returns hS hk353 hZ hEL hh e351 A355 (t := .boolean) (by simp) (hb hby at_257) (by decide) (by decide) ⟨rfl, N351⟩
    rcases Classical.em (k_ = (2 : Int32)) with c356 | c356
    · rw [c356]
      show oG p e below _ (s₁.setTop (mkF m 34 #[.val (.int x0), .val (.int x1), .val (.int x2), .val (.int 2), .val (.int sh_), .val (.int c_), .val (.int mu_), .unset, .unset, .unset, .unset, .unset, .unset] []))
      refine og (fun _ hr => XS.iloadN X0.here hx rfl (hb hby at_34) rfl (XS.ifYes X0.here hx rfl (pc0 := 35) (pc' := 46) rfl (hb hby at_35) rfl ((if0 _ _).trans (feq (by decide)).2) (by decide) (by decide) (XS.iloadN X0.here hx rfl (hb hby at_46) rfl (XS.iconst X0.here hx rfl (hb hby at_47) (XS.icmpYes X0.here hx rfl (pc0 := 48) (pc' := 59) rfl (hb hby at_48) rfl (feq (by decide)).2 (by decide) (by decide) (XS.iloadN X0.here hx rfl (hb hby at_59) rfl (XS.iconst X0.here hx rfl (hb hby at_60) (XS.icmpNo X0.here hx rfl (hb hby at_61) rfl (teq (by decide)).2 hr)))))))) ?_
      show oG p e below _ (s₁.setTop (mkF m 64 #[.val (.int x0), .val (.int x1), .val (.int x2), .val (.int 2), .val (.int sh_), .val (.int c_), .val (.int mu_), .unset, .unset, .unset, .unset, .unset, .unset] []))
      obtain ⟨T357, X357, e357, st357⟩ := getS2 X0 hx hZ hown (host := "") (Or.inl (hw _ (own_m 110 rfl))) Via.refl e0 S_TAX (g := (mkF m 64 #[.val (.int x0), .val (.int x1), .val (.int x2), .val (.int 2), .val (.int sh_), .val (.int c_), .val (.int mu_), .unset, .unset, .unset, .unset, .unset, .unset] [])) rfl (hb hby at_64)
      refine og st357 ?_
      show oG p e below _ (T357.setTop (mkF m 67 #[.val (.int x0), .val (.int x1), .val (.int x2), .val (.int 2), .val (.int sh_), .val (.int c_), .val (.int mu_), .unset, .unset, .unset, .unset, .unset, .unset] [(.ref r_TAX)]))
      refine og (fun _ hr => XS.astore X357.here hx rfl (hb hby at_67) rfl rfl (l' := #[.val (.int x0), .val (.int x1), .val (.int x2), .val (.int 2), .val (.int sh_), .val (.int c_), .val (.int mu_), .val (.ref r_TAX), .unset, .unset, .unset, .unset, .unset]) rfl (XS.goto X357.here hx rfl (pc0 := 69) (pc' := 77) rfl (hb hby at_69) (by decide) (by decide) (XS.iload X357.here hx rfl (hb hby at_77) rfl hr))) ?_
      show oG p e below _ (T357.setTop (mkF m 79 #[.val (.int x0), .val (.int x1), .val (.int x2), .val (.int 2), .val (.int sh_), .val (.int c_), .val (.int mu_), .val (.ref r_TAX), .unset, .unset, .unset, .unset, .unset] [(.int sh_)]))
      rcases Classical.em (sh_ = (0 : Int32)) with c358 | c358
      · skip
        refine og (fun _ hr => XS.ifNo X357.here hx rfl (hb hby at_79) rfl ((if0 _ _).trans (teq c358).2) hr) ?_
        show oG p e below _ (T357.setTop (mkF m 82 #[.val (.int x0), .val (.int x1), .val (.int x2), .val (.int 2), .val (.int sh_), .val (.int c_), .val (.int mu_), .val (.ref r_TAX), .unset, .unset, .unset, .unset, .unset] []))
        refine og (fun _ hr => XS.iloadN X357.here hx rfl (hb hby at_82) rfl hr) ?_
        show oG p e below _ (T357.setTop (mkF m 83 #[.val (.int x0), .val (.int x1), .val (.int x2), .val (.int 2), .val (.int sh_), .val (.int c_), .val (.int mu_), .val (.ref r_TAX), .unset, .unset, .unset, .unset, .unset] [(.int 2)]))
        refine own_cs X357 hx hZ hown (hw _ (own_m 3 rfl)) (hw _ (own_m 4 rfl)) (hw _ (own_m 5 rfl)) (hw _ (own_m 6 rfl)) (by decide) (rm := { frames := 0, cells := 1, slots := 7, locals := 0 }) (rm_exact_12 l Z a0 hw []  h0 n0 Z0 ) (by decide) (W := 0) (by decide) (by decide) (by decide) e357 (by rw [hml]; rfl) (argsL := [(.int 2)]) (lenOf own_pd7 rfl) (rest := []) rfl rfl (Nat.le_of_eq rfl) (hb hby at_83) ?_
        intro _ T359 L359 X359 hQ359
        obtain ⟨b359_0, kb359_0, rfl, N359q, K359, ge359_0, sz359_0, f359_0, f359_1⟩ := hQ359
        have N359 := Fr.app N0 N359q
        have sz360 : h0.size ≤ b359_0 := Nat.le_trans K0.1 sz359_0
        show oG p e below _ (T359.setTop (mkF m 86 #[.val (.int x0), .val (.int x1), .val (.int x2), .val (.int 2), .val (.int sh_), .val (.int c_), .val (.int mu_), .val (.ref r_TAX), .unset, .unset, .unset, .unset, .unset] [(.ref b359_0)]))
        refine og (fun _ hr => XS.astore X359.here hx rfl (hb hby at_86) rfl rfl (l' := #[.val (.int x0), .val (.int x1), .val (.int x2), .val (.int 2), .val (.int sh_), .val (.int c_), .val (.int mu_), .val (.ref r_TAX), .unset, .unset, .val (.ref b359_0), .unset, .unset]) rfl (XS.iloadN X359.here hx rfl (hb hby at_88) rfl hr)) ?_
        show oG p e below _ (T359.setTop (mkF m 89 #[.val (.int x0), .val (.int x1), .val (.int x2), .val (.int 2), .val (.int sh_), .val (.int c_), .val (.int mu_), .val (.ref r_TAX), .unset, .unset, .val (.ref b359_0), .unset, .unset] [(.int x1)]))
        refine og (X359.ldcInt hx hown (mvT hZ (hw _ (own_m 8 rfl))) rfl (hb hby at_89)) ?_
        show oG p e below _ (T359.setTop (mkF m 91 #[.val (.int x0), .val (.int x1), .val (.int x2), .val (.int 2), .val (.int sh_), .val (.int c_), .val (.int mu_), .val (.ref r_TAX), .unset, .unset, .val (.ref b359_0), .unset, .unset] [(.int 2147483647), (.int x1)]))
        refine og (fun _ hr => XS.iand X359.here hx rfl (hb hby at_91) rfl (XS.aload X359.here hx rfl (hb hby at_92) rfl rfl (own_alen X359 hx hZ rfl f359_1 rfl rfl (hb hby at_94) hr))) ?_
        show oG p e below _ (T359.setTop (mkF m 95 #[.val (.int x0), .val (.int x1), .val (.int x2), .val (.int 2), .val (.int sh_), .val (.int c_), .val (.int mu_), .val (.ref r_TAX), .unset, .unset, .val (.ref b359_0), .unset, .unset] [(.int 7), (.int (x1 &&& (2147483647 : Int32)))]))
        have nz361 : (7 : Int32) ≠ (0 : Int32) := by decide
        refine og (fun _ hr => iremM X359 hx rfl (hb hby at_95) rfl nz361 hr) ?_
        show oG p e below _ (T359.setTop (mkF m 96 #[.val (.int x0), .val (.int x1), .val (.int x2), .val (.int 2), .val (.int sh_), .val (.int c_), .val (.int mu_), .val (.ref r_TAX), .unset, .unset, .val (.ref b359_0), .unset, .unset] [(.int ((x1 &&& (2147483647 : Int32)) % (7 : Int32)))]))
        refine og (fun _ hr => XS.istore X359.here hx rfl (hb hby at_96) rfl (l' := #[.val (.int x0), .val (.int x1), .val (.int x2), .val (.int 2), .val (.int sh_), .val (.int c_), .val (.int mu_), .val (.ref r_TAX), .unset, .unset, .val (.ref b359_0), .val (.int ((x1 &&& (2147483647 : Int32)) % (7 : Int32))), .unset]) rfl hr) ?_
        show oG p e below _ (T359.setTop (mkF m 98 #[.val (.int x0), .val (.int x1), .val (.int x2), .val (.int 2), .val (.int sh_), .val (.int c_), .val (.int mu_), .val (.ref r_TAX), .unset, .unset, .val (.ref b359_0), .val (.int ((x1 &&& (2147483647 : Int32)) % (7 : Int32))), .unset] []))
        generalize hp_ : ((x1 &&& (2147483647 : Int32)) % (7 : Int32)) = p_
        refine og (fun _ hr => XS.iconst X359.here hx rfl (hb hby at_98) (XS.istore X359.here hx rfl (hb hby at_99) rfl (l' := #[.val (.int x0), .val (.int x1), .val (.int x2), .val (.int 2), .val (.int sh_), .val (.int c_), .val (.int mu_), .val (.ref r_TAX), .unset, .unset, .val (.ref b359_0), .val (.int p_), .val (.int 1)]) rfl (XS.iload X359.here hx rfl (hb hby at_101) rfl hr))) ?_
        show oG p e below _ (T359.setTop (mkF m 103 #[.val (.int x0), .val (.int x1), .val (.int x2), .val (.int 2), .val (.int sh_), .val (.int c_), .val (.int mu_), .val (.ref r_TAX), .unset, .unset, .val (.ref b359_0), .val (.int p_), .val (.int 1)] [(.int mu_)]))
        rcases Classical.em (mu_ = (0 : Int32)) with c362 | c362
        · skip
          refine og (fun _ hr => XS.ifYes X359.here hx rfl (pc0 := 103) (pc' := 130) rfl (hb hby at_103) rfl ((if0 _ _).trans (teq c362).1) (by decide) (by decide) hr) ?_
          show oG p e below _ (T359.setTop (mkF m 130 #[.val (.int x0), .val (.int x1), .val (.int x2), .val (.int 2), .val (.int sh_), .val (.int c_), .val (.int mu_), .val (.ref r_TAX), .unset, .unset, .val (.ref b359_0), .val (.int p_), .val (.int 1)] []))
          obtain ⟨T363, h363, X363, e363, E363, A363, D363, -, st363⟩ := newO X359 hx hZ hown (hw _ (own_m 9 rfl)) (hw _ (own_m 10 rfl)) (hw _ (own_m 11 rfl)) rfl (g := (mkF m 130 #[.val (.int x0), .val (.int x1), .val (.int x2), .val (.int 2), .val (.int sh_), .val (.int c_), .val (.int mu_), .val (.ref r_TAX), .unset, .unset, .val (.ref b359_0), .val (.int p_), .val (.int 1)] [])) rfl (hb hby at_130) (by decide) (by decide)
          obtain ⟨b363, g363⟩ : ∃ z, z = T359.heap.size := ⟨_, rfl⟩
          rw [← g363] at A363 D363 st363
          have Z364 := (Nat.le_trans Z0 K359.1)
          have ge365 : n0 ≤ b363 := Nat.le_trans Z364 (Nat.le_of_eq g363.symm)
          have K366 := (K0.trans K359 all0)
          have sz367 : h0.size ≤ b363 := Nat.le_trans K366.1 (Nat.le_of_eq g363.symm)
          refine og st363 ?_
          have f368 : Fld Z h363 b363 "java/lang/String" "coder" "B" (.int 0) := D363 (Or.inr (hw _ (own_m 35 rfl))) (ty := .byte) (by decide)
          have f369 : Fld Z h363 b363 "java/lang/String" "value" "[B" .null := D363 (Or.inr (hw _ (own_m 37 rfl))) (ty := (.array .byte)) (by decide)
          show oG p e below _ (T363.setTop (mkF m 133 #[.val (.int x0), .val (.int x1), .val (.int x2), .val (.int 2), .val (.int sh_), .val (.int c_), .val (.int mu_), .val (.ref r_TAX), .unset, .unset, .val (.ref b359_0), .val (.int p_), .val (.int 1)] [(.ref b363)]))
          refine og (fun _ hr => XS.dup X363.here hx rfl (hb hby at_133) rfl rfl (XS.aload X363.here hx rfl (hb hby at_134) rfl rfl hr)) ?_
          show oG p e below _ (T363.setTop (mkF m 136 #[.val (.int x0), .val (.int x1), .val (.int x2), .val (.int 2), .val (.int sh_), .val (.int c_), .val (.int mu_), .val (.ref r_TAX), .unset, .unset, .val (.ref b359_0), .val (.int p_), .val (.int 1)] [(.ref b359_0), (.ref b363), (.ref b363)]))
          have hp370 : ∀ c ∈ ([116, 97, 120, 95, 121, 101, 110] : List Int32), ¬ c < 0 ∧ ¬ (255 : Int32) < c := (own_lc (by decide) (own_lc (by decide) (own_lc (by decide) (own_lc (by decide) (own_lc (by decide) (own_lc (by decide) (own_lc (by decide) own_ln)))))))
          have f371 := (f359_1.ext E363)
          have f372 := ((own_sta_keep S_COMPACT_STRINGS K359 all0).ext E363)
          have Z373 := (Nat.le_trans Z364 E363.1)
          refine own_newS X363 hx hZ hown hw (hw _ (own_m 12 rfl)) (hw _ (own_m 13 rfl)) (hw _ (own_m 14 rfl)) (hw _ (own_m 10 rfl)) [116, 97, 120, 95, 121, 101, 110] ge365 Z373 A363 f369 f368 f371 f372 hs_COMPACT_STRINGS (n := 7) rfl rfl (by decide) (by decide) hp370 (by decide) (W := 1) (by decide) (by decide) (by decide) e363 (by rw [hml]; rfl) (Nat.le_of_eq rfl) (hb hby at_136) ?_
          intro T370 L370 b370_0 kb370_0 X370 N370q K370 f370_0 f370_1 ge370_0 sz370_0 ne370_0 f370_2 f370_3
          have N370 := Fr.app N359 N370q
          have K375 := (K366.ext E363)
          have sz374 : h0.size ≤ b370_0 := Nat.le_trans K375.1 sz370_0
          show oG p e below _ (T370.setTop (mkF m 139 #[.val (.int x0), .val (.int x1), .val (.int x2), .val (.int 2), .val (.int sh_), .val (.int c_), .val (.int mu_), .val (.ref r_TAX), .unset, .unset, .val (.ref b359_0), .val (.int p_), .val (.int 1)] [(.ref b363)]))
          refine og (fun _ hr => XS.astore X370.here hx rfl (hb hby at_139) rfl rfl (l' := #[.val (.int x0), .val (.int x1), .val (.int x2), .val (.int 2), .val (.int sh_), .val (.int c_), .val (.int mu_), .val (.ref r_TAX), .val (.ref b363), .unset, .val (.ref b359_0), .val (.int p_), .val (.int 1)]) rfl (XS.iload X370.here hx rfl (hb hby at_141) rfl (XS.ifNo X370.here hx rfl (hb hby at_143) rfl ((if0 _ _).trans (feq (by decide)).1) (XS.aload X370.here hx rfl (hb hby at_146) rfl rfl (XS.goto X370.here hx rfl (pc0 := 148) (pc' := 152) rfl (hb hby at_148) (by decide) (by decide) (XS.astore X370.here hx rfl (hb hby at_152) rfl rfl (l' := #[.val (.int x0), .val (.int x1), .val (.int x2), .val (.int 2), .val (.int sh_), .val (.int c_), .val (.int mu_), .val (.ref r_TAX), .val (.ref b363), .val (.ref r_TAX), .val (.ref b359_0), .val (.int p_), .val (.int 1)]) rfl (XS.goto X370.here hx rfl (pc0 := 154) (pc' := 231) rfl (hb hby at_154) (by decide) (by decide) (XS.aload X370.here hx rfl (hb hby at_231) rfl rfl hr)))))))) ?_
          show oG p e below _ (T370.setTop (mkF m 233 #[.val (.int x0), .val (.int x1), .val (.int x2), .val (.int 2), .val (.int sh_), .val (.int c_), .val (.int mu_), .val (.ref r_TAX), .val (.ref b363), .val (.ref r_TAX), .val (.ref b359_0), .val (.int p_), .val (.int 1)] [(.ref b363)]))
          have K377 := (K375.trans K370 (allS (Or.inr sz367) all0))
          have f378 := (own_sta_keep S__VALUES K377 all0)
          have f379 := (E__VALUES.keep K377)
          have f380 := (F_USAGE_header.keep K377 nin0)
          have f381 := (E_USAGE_header.keep K377)
          have f382 := (F_USAGE_header_coder.keep K377 nin0)
          have f383 := (F_USAGE_header_value.keep K377 nin0)
          have f384 := (F_CHARGE_header.keep K377 nin0)
          have f385 := (E_CHARGE_header.keep K377)
          have f386 := (F_CHARGE_header_coder.keep K377 nin0)
          have f387 := (F_CHARGE_header_value.keep K377 nin0)
          have f388 := (F_TAX_header.keep K377 nin0)
          have f389 := (E_TAX_header.keep K377)
          have f390 := (F_TAX_header_coder.keep K377 nin0)
          have f391 := (F_TAX_header_value.keep K377 nin0)
          have f392 := (F_GAS_PART_header.keep K377 nin0)
          have f393 := (E_GAS_PART_header.keep K377)
          have f394 := (F_GAS_PART_header_coder.keep K377 nin0)
          have f395 := (F_GAS_PART_header_value.keep K377 nin0)
          have f396 := (V__VALUES.keep K377 nin0)
          have f397 := (V_USAGE_header_value.keep K377 nin0)
          have f398 := (V_CHARGE_header_value.keep K377 nin0)
          have f399 := (V_TAX_header_value.keep K377 nin0)
          have f400 := (V_GAS_PART_header_value.keep K377 nin0)
          have f401 := (own_sta_keep f372 K370 (allS (own_ns_exa A363) all0))
          have f402 := (own_sta_keep S_EMPTY K377 all0)
          have f403 := (E_EMPTY.keep K377)
          have f404 := (F_EMPTY_value.keep K377 nin0)
          have Z405 := (Nat.le_trans Z373 K370.1)
          refine own_cs X370 hx hZ hown (hw _ (own_m 38 rfl)) (hw _ (own_m 39 rfl)) (hw _ (own_m 1 rfl)) (hw _ (own_m 40 rfl)) (by decide) (rm := { frames := 3, cells := 2, slots := 5, locals := 38 }) (rm_named_s l Z a0 hw [] b363 b370_0 kb370_0 (7 : Int32) [116, 97, 120, 95, 121, 101, 110] ((List.map StrChars.lo8 [116, 97, 120, 95, 121, 101, 110]).map Value.int) r_USAGE r__VALUES r_CHARGE r_TAX r_GAS_PART r_USAGE_header r_USAGE_header_value r_CHARGE_header r_CHARGE_header_value r_TAX_header r_TAX_header_value r_GAS_PART_header r_GAS_PART_header_value k__VALUES k_USAGE_header_value k_CHARGE_header_value k_TAX_header_value k_GAS_PART_header_value i_COMPACT_STRINGS v_SIOOBE_FORMATTER r_EMPTY T370.heap n0 Z405 f370_0 f370_1 f370_2 f370_3 (StrChars.Road.codOf (cs := [116, 97, 120, 95, 121, 101, 110]) (n := 7) rfl (fun c hc => (hp370 c hc).2)) (own_up hp370) (Nat.le_of_ble_eq_true rfl) f378 f379 f380 f381 f382 f383 f384 f385 f386 f387 f388 f389 f390 f391 f392 f393 f394 f395 f396 f397 f398 f399 f400 f401 f402 f403 f404 hs_COMPACT_STRINGS hv_SIOOBE_FORMATTER) (by decide) (W := 0) (by decide) (by decide) (by decide) rfl (by rw [hml]; rfl) (argsL := [(.ref b363)]) (lenOf own_pd8 rfl) (rest := []) rfl rfl (Nat.le_of_eq rfl) (hb hby at_233) ?_
          intro _ T376 L376 X376 hQ376
          have c406 : (own_same own_tx0 [116, 97, 120, 95, 121, 101, 110]) = (0 : Int32) := by decide +kernel
          have c407 : (own_same own_tx1 [116, 97, 120, 95, 121, 101, 110]) = (0 : Int32) := by decide +kernel
          have c408 : ¬ ((own_same own_tx2 [116, 97, 120, 95, 121, 101, 110]) = (0 : Int32)) := by decide +kernel
          have ev409 : (own_nm [116, 97, 120, 95, 121, 101, 110] r_USAGE r_CHARGE r_TAX r_GAS_PART) = (.ref r_TAX) := by unfold own_nm; rw [if_pos c406, if_pos c407, if_neg c408]
          unfold Q_named_s at hQ376; rw [ev409] at hQ376
          obtain ⟨b376_0, rfl, N376q, K376, f376_0, f376_1⟩ := hQ376
          have N376 := Fr.app N370 N376q
          show oG p e below _ (T376.setTop (mkF m 236 #[.val (.int x0), .val (.int x1), .val (.int x2), .val (.int 2), .val (.int sh_), .val (.int c_), .val (.int mu_), .val (.ref r_TAX), .val (.ref b363), .val (.ref r_TAX), .val (.ref b359_0), .val (.int p_), .val (.int 1)] [(.ref b376_0)]))
          refine og (fun _ hr => XS.aconstNull X376.here hx rfl (hb hby at_236) hr) ?_
          show oG p e below _ (T376.setTop (mkF m 237 #[.val (.int x0), .val (.int x1), .val (.int x2), .val (.int 2), .val (.int sh_), .val (.int c_), .val (.int mu_), .val (.ref r_TAX), .val (.ref b363), .val (.ref r_TAX), .val (.ref b359_0), .val (.int p_), .val (.int 1)] [.null, (.ref b376_0)]))
          have Z411 := (Nat.le_trans Z405 K376.1)
          refine own_cv X376 hx hZ hown (notFace_of_selects (args := #[]) (mvT hZ (hw _ (own_m 91 rfl)))) (hw _ (own_m 88 rfl)) (hw _ (own_m 89 rfl)) (hw _ (own_m 91 rfl)) (hw _ (own_m 90 rfl)) (hw _ (own_m 73 rfl)) (hw _ (own_m 92 rfl)) (by decide) f376_0 (rm := { frames := 0, cells := 0, slots := 0, locals := 0 }) (rm_orElse_6 l Z a0 hw [] b376_0 r_TAX T376.heap n0 Z411 f376_1) (by decide) (W := 0) (by decide) (by decide) (by decide) rfl (by rw [hml]; rfl) (argsL := [.null]) (lenOf own_pd4 rfl) (rest := []) rfl rfl (Nat.le_of_eq rfl) (hb hby at_237) ?_
          intro _ T410 L410 X410 hQ410
          obtain ⟨rfl, N410q, e410⟩ := hQ410
          have N410 := Fr.app N376 N410q
          show oG p e below _ (T410.setTop (mkF m 240 #[.val (.int x0), .val (.int x1), .val (.int x2), .val (.int 2), .val (.int sh_), .val (.int c_), .val (.int mu_), .val (.ref r_TAX), .val (.ref b363), .val (.ref r_TAX), .val (.ref b359_0), .val (.int p_), .val (.int 1)] [(.ref r_TAX)]))
          have K412 := (K377.trans K376 all0)
          have f413 := (E_TAX.keep K412)
          obtain ⟨T414, X414, e414, st414⟩ := castY X410 hx hZ hown (hw _ (own_m 93 rfl)) e410 (Ins.self f413) (g := (mkF m 240 #[.val (.int x0), .val (.int x1), .val (.int x2), .val (.int 2), .val (.int sh_), .val (.int c_), .val (.int mu_), .val (.ref r_TAX), .val (.ref b363), .val (.ref r_TAX), .val (.ref b359_0), .val (.int p_), .val (.int 1)] [(.ref r_TAX)])) rfl rfl (hb hby at_240)
          refine og st414 ?_
          show oG p e below _ (T414.setTop (mkF m 243 #[.val (.int x0), .val (.int x1), .val (.int x2), .val (.int 2), .val (.int sh_), .val (.int c_), .val (.int mu_), .val (.ref r_TAX), .val (.ref b363), .val (.ref r_TAX), .val (.ref b359_0), .val (.int p_), .val (.int 1)] [(.ref r_TAX)]))
          refine og (fun _ hr => XS.astore X414.here hx rfl (hb hby at_243) rfl rfl (l' := #[.val (.int x0), .val (.int x1), .val (.int x2), .val (.int 2), .val (.int sh_), .val (.int c_), .val (.int mu_), .val (.ref r_TAX), .val (.ref b363), .val (.ref r_TAX), .val (.ref r_TAX), .val (.int p_), .val (.int 1)]) rfl (XS.aload X414.here hx rfl (hb hby at_245) rfl rfl (XS.aload X414.here hx rfl (hb hby at_247) rfl rfl hr))) ?_
          show oG p e below _ (T414.setTop (mkF m 249 #[.val (.int x0), .val (.int x1), .val (.int x2), .val (.int 2), .val (.int sh_), .val (.int c_), .val (.int mu_), .val (.ref r_TAX), .val (.ref b363), .val (.ref r_TAX), .val (.ref r_TAX), .val (.int p_), .val (.int 1)] [(.ref r_TAX), (.ref r_TAX)]))
          refine og (fun _ hr => Jvm.RoadKit.acmp X414 hx rfl rfl rfl (pc0 := 249) (pc' := 252) (same := true) rfl (hb hby at_249) rfl (decide_eq_true rfl) (by decide) (by decide) hr) ?_
          show oG p e below _ (T414.setTop (mkF m 252 #[.val (.int x0), .val (.int x1), .val (.int x2), .val (.int 2), .val (.int sh_), .val (.int c_), .val (.int mu_), .val (.ref r_TAX), .val (.ref b363), .val (.ref r_TAX), .val (.ref r_TAX), .val (.int p_), .val (.int 1)] []))
          refine og (fun _ hr => XS.iconst X414.here hx rfl (hb hby at_252) (XS.goto X414.here hx rfl (pc0 := 253) (pc' := 257) rfl (hb hby at_253) (by decide) (by decide) hr)) ?_
          show oG p e below _ (T414.setTop (mkF m 257 #[.val (.int x0), .val (.int x1), .val (.int x2), .val (.int 2), .val (.int sh_), .val (.int c_), .val (.int mu_), .val (.ref r_TAX), .val (.ref b363), .val (.ref r_TAX), .val (.ref r_TAX), .val (.int p_), .val (.int 1)] [(.int 1)]))
          have hk415 := (Nat.le_trans (Nat.le_trans (Nat.le_trans (Nat.le_trans hk K359.1) E363.1) K370.1) K376.1)
          have A416 := A0.trans (CHr.keep K359 sf0 A0.1)
          have A417 := A416.trans (CHr.ext E363 A416.1)
          have sf419 := (Safe.ext E363 A416.1 (Safe.new (Nat.le_of_eq g363.symm)))
          have A418 := A417.trans (CHr.keep K370 (sfS sf419 sf0) A417.1)
          have A420 := A418.trans (CHr.keep K376 sf0 A418.1)
          exact own_retNW X414 hx hlk Bd.returns hS hk415 hZ hEL hh e414 A420 (t := .boolean) (by simp) (hb hby at_257) (by decide) (by decide) ⟨rfl, N410⟩
        refine og (fun _ hr => XS.ifNo X359.here hx rfl (hb hby at_103) rfl ((if0 _ _).trans (feq c362).1) hr) ?_
        show oG p e below _ (T359.setTop (mkF m 106 #[.val (.int x0), .val (.int x1), .val (.int x2), .val (.int 2), .val (.int sh_), .val (.int c_), .val (.int mu_), .val (.ref r_TAX), .unset, .unset, .val (.ref b359_0), .val (.int p_), .val (.int 1)] []))
        have c421 : ¬ (p_ < (0 : Int32)) := by
          have q0 := rng32 x1
          have q1 := c_mask x1 (2147483647 : Int32) 31 (by decide) (by decide)
          have q2 := c_irem (x1 &&& (2147483647 : Int32)) (7 : Int32) 7 (by decide)
          have q3 := congrArg Int32.toInt hp_
          simp only [true_implies, Int32.lt_iff_toInt_lt, ← Int32.toInt_inj, Int32.reduceToInt, Int64.lt_iff_toInt_lt, ← Int64.toInt_inj, Int64.reduceToInt] at q0 q1 q2 q3 ⊢
          omega
        have c422 : p_ < (7 : Int32) := by
          have q0 := rng32 x1
          have q1 := c_mask x1 (2147483647 : Int32) 31 (by decide) (by decide)
          have q2 := c_irem (x1 &&& (2147483647 : Int32)) (7 : Int32) 7 (by decide)
          have q3 := congrArg Int32.toInt hp_
          have p0 := c421
          simp only [true_implies, Int32.lt_iff_toInt_lt, ← Int32.toInt_inj, Int32.reduceToInt, Int64.lt_iff_toInt_lt, ← Int64.toInt_inj, Int64.reduceToInt] at q0 q1 q2 q3 p0 ⊢
          omega
        refine og (fun _ hr => XS.aload X359.here hx rfl (hb hby at_106) rfl rfl (XS.iload X359.here hx rfl (hb hby at_108) rfl (own_caload X359 hx hZ rfl f359_1 p_ (.int (own_g2 p_)) ⟨c421, c422⟩ (own_get2 p_ c421 c422) rfl rfl (hb hby at_110) (XS.iload X359.here hx rfl (hb hby at_111) rfl hr)))) ?_
        show oG p e below _ (T359.setTop (mkF m 113 #[.val (.int x0), .val (.int x1), .val (.int x2), .val (.int 2), .val (.int sh_), .val (.int c_), .val (.int mu_), .val (.ref r_TAX), .unset, .unset, .val (.ref b359_0), .val (.int p_), .val (.int 1)] [(.int c_), (.int (own_g2 p_))]))
        rcases Classical.em ((own_g2 p_) = c_) with c423 | c423
        · skip
          refine og (fun _ hr => XS.icmpNo X359.here hx rfl (hb hby at_113) rfl (teq c423).2 hr) ?_
          show oG p e below _ (T359.setTop (mkF m 116 #[.val (.int x0), .val (.int x1), .val (.int x2), .val (.int 2), .val (.int sh_), .val (.int c_), .val (.int mu_), .val (.ref r_TAX), .unset, .unset, .val (.ref b359_0), .val (.int p_), .val (.int 1)] []))
          refine og (fun _ hr => XS.iconst X359.here hx rfl (hb hby at_116) (XS.goto X359.here hx rfl (pc0 := 117) (pc' := 121) rfl (hb hby at_117) (by decide) (by decide) (XS.istore X359.here hx rfl (hb hby at_121) rfl (l' := #[.val (.int x0), .val (.int x1), .val (.int x2), .val (.int 2), .val (.int sh_), .val (.int c_), .val (.int mu_), .val (.ref r_TAX), .unset, .unset, .val (.ref b359_0), .val (.int p_), .val (.int 1)]) rfl (XS.aload X359.here hx rfl (hb hby at_123) rfl rfl (XS.iload X359.here hx rfl (hb hby at_125) rfl (XS.iload X359.here hx rfl (hb hby at_127) rfl hr)))))) ?_
          show oG p e below _ (T359.setTop (mkF m 129 #[.val (.int x0), .val (.int x1), .val (.int x2), .val (.int 2), .val (.int sh_), .val (.int c_), .val (.int mu_), .val (.ref r_TAX), .unset, .unset, .val (.ref b359_0), .val (.int p_), .val (.int 1)] [(.int c_), (.int p_), (.ref b359_0)]))
          have c425 : (nar .char c_) = c_ := by
            have q0 := rng32 x1
            have q1 := c_mask x1 (2147483647 : Int32) 31 (by decide) (by decide)
            have q2 := c_irem (x1 &&& (2147483647 : Int32)) (7 : Int32) 7 (by decide)
            have q3 := congrArg Int32.toInt hp_
            have q4 := rng32 (own_g2 p_)
            have q5 := rng32 x2
            have q6 := c_mask x2 (255 : Int32) 8 (by decide) (by decide)
            have q7 := c_i2c (x2 &&& (255 : Int32))
            have q8 := congrArg Int32.toInt hc_
            have q9 := (show ((nar .char c_).toInt - c_.toInt) % 65536 = 0 ∧ 0 ≤ (nar .char c_).toInt ∧ (nar .char c_).toInt < 65536 from c_i2c c_)
            have p0 := c423
            have p1 := c421
            have p2 := c422
            simp only [true_implies, Int32.lt_iff_toInt_lt, ← Int32.toInt_inj, Int32.reduceToInt, Int64.lt_iff_toInt_lt, ← Int64.toInt_inj, Int64.reduceToInt] at q0 q1 q2 q3 q4 q5 q6 q7 q8 q9 p0 p1 p2 ⊢
            omega
          refine own_stC X359 hx hZ rfl f359_1 p_ c_ c_ (p_).toNatClampNeg ⟨c421, c422⟩ rfl (own_inl c421 c422 rfl) c425 ([(.int 116), (.int 97), (.int 120), (.int 95), (.int 121), (.int 101), (.int 110)].set (p_).toNatClampNeg (.int c_)) rfl N359 ge359_0 (hb hby at_129) ?_
          intro T424 h424 L424 X424 e424 W424 N424 f424
          show oG p e below _ (T424.setTop (mkF m 130 #[.val (.int x0), .val (.int x1), .val (.int x2), .val (.int 2), .val (.int sh_), .val (.int c_), .val (.int mu_), .val (.ref r_TAX), .unset, .unset, .val (.ref b359_0), .val (.int p_), .val (.int 1)] []))
          have f426 : Arv Z h424 b359_0 kb359_0 .char (7 : Int32) [(.int (own_pk p_ (0 : Int32) c_ (116 : Int32))), (.int (own_pk p_ (1 : Int32) c_ (97 : Int32))), (.int (own_pk p_ (2 : Int32) c_ (120 : Int32))), (.int (own_pk p_ (3 : Int32) c_ (95 : Int32))), (.int (own_pk p_ (4 : Int32) c_ (121 : Int32))), (.int (own_pk p_ (5 : Int32) c_ (101 : Int32))), (.int (own_pk p_ (6 : Int32) c_ (110 : Int32)))] (.int 0) := own_set2 p_ c_ c421 c422 ▸ (show Arv Z h424 b359_0 kb359_0 .char (7 : Int32) (([.int 116, .int 97, .int 120, .int 95, .int 121, .int 101, .int 110] : List Value).set p_.toNatClampNeg (.int c_)) (.int 0) from f424)
          obtain ⟨T427, h427, X427, e427, E427, A427, D427, -, st427⟩ := newO X424 hx hZ hown (hw _ (own_m 9 rfl)) (hw _ (own_m 10 rfl)) (hw _ (own_m 11 rfl)) e424 (g := (mkF m 130 #[.val (.int x0), .val (.int x1), .val (.int x2), .val (.int 2), .val (.int sh_), .val (.int c_), .val (.int mu_), .val (.ref r_TAX), .unset, .unset, .val (.ref b359_0), .val (.int p_), .val (.int 1)] [])) rfl (hb hby at_130) (by decide) (by decide)
          obtain ⟨b427, g427⟩ : ∃ z, z = h424.size := ⟨_, rfl⟩
          rw [← g427] at A427 D427 st427
          have Z428 := (Nat.le_trans (Nat.le_trans Z0 K359.1) (Nat.le_of_eq W424.size.symm))
          have ge429 : n0 ≤ b427 := Nat.le_trans Z428 (Nat.le_of_eq g427.symm)
          have K430 := ((K0.trans K359 all0).wr W424 (Or.inr sz360))
          have sz431 : h0.size ≤ b427 := Nat.le_trans K430.1 (Nat.le_of_eq g427.symm)
          refine og st427 ?_
          have f432 : Fld Z h427 b427 "java/lang/String" "coder" "B" (.int 0) := D427 (Or.inr (hw _ (own_m 35 rfl))) (ty := .byte) (by decide)
          have f433 : Fld Z h427 b427 "java/lang/String" "value" "[B" .null := D427 (Or.inr (hw _ (own_m 37 rfl))) (ty := (.array .byte)) (by decide)
          show oG p e below _ (T427.setTop (mkF m 133 #[.val (.int x0), .val (.int x1), .val (.int x2), .val (.int 2), .val (.int sh_), .val (.int c_), .val (.int mu_), .val (.ref r_TAX), .unset, .unset, .val (.ref b359_0), .val (.int p_), .val (.int 1)] [(.ref b427)]))
          refine og (fun _ hr => XS.dup X427.here hx rfl (hb hby at_133) rfl rfl (XS.aload X427.here hx rfl (hb hby at_134) rfl rfl hr)) ?_
          show oG p e below _ (T427.setTop (mkF m 136 #[.val (.int x0), .val (.int x1), .val (.int x2), .val (.int 2), .val (.int sh_), .val (.int c_), .val (.int mu_), .val (.ref r_TAX), .unset, .unset, .val (.ref b359_0), .val (.int p_), .val (.int 1)] [(.ref b359_0), (.ref b427), (.ref b427)]))
          have c435 : ¬ (c_ < (0 : Int32)) := by
            have q0 := rng32 x1
            have q1 := c_mask x1 (2147483647 : Int32) 31 (by decide) (by decide)
            have q2 := c_irem (x1 &&& (2147483647 : Int32)) (7 : Int32) 7 (by decide)
            have q3 := congrArg Int32.toInt hp_
            have q4 := rng32 (own_g2 p_)
            have q5 := rng32 x2
            have q6 := c_mask x2 (255 : Int32) 8 (by decide) (by decide)
            have q7 := c_i2c (x2 &&& (255 : Int32))
            have q8 := congrArg Int32.toInt hc_
            have q9 := (show ((nar .char c_).toInt - c_.toInt) % 65536 = 0 ∧ 0 ≤ (nar .char c_).toInt ∧ (nar .char c_).toInt < 65536 from c_i2c c_)
            have p0 := c423
            have p1 := c425
            have p2 := c421
            have p3 := c422
            simp only [true_implies, Int32.lt_iff_toInt_lt, ← Int32.toInt_inj, Int32.reduceToInt, Int64.lt_iff_toInt_lt, ← Int64.toInt_inj, Int64.reduceToInt] at q0 q1 q2 q3 q4 q5 q6 q7 q8 q9 p0 p1 p2 p3 ⊢
            omega
          have c436 : ¬ ((255 : Int32) < c_) := by
            have q0 := rng32 x1
            have q1 := c_mask x1 (2147483647 : Int32) 31 (by decide) (by decide)
            have q2 := c_irem (x1 &&& (2147483647 : Int32)) (7 : Int32) 7 (by decide)
            have q3 := congrArg Int32.toInt hp_
            have q4 := rng32 (own_g2 p_)
            have q5 := rng32 x2
            have q6 := c_mask x2 (255 : Int32) 8 (by decide) (by decide)
            have q7 := c_i2c (x2 &&& (255 : Int32))
            have q8 := congrArg Int32.toInt hc_
            have q9 := (show ((nar .char c_).toInt - c_.toInt) % 65536 = 0 ∧ 0 ≤ (nar .char c_).toInt ∧ (nar .char c_).toInt < 65536 from c_i2c c_)
            have p0 := c423
            have p1 := c425
            have p2 := c435
            have p3 := c421
            have p4 := c422
            simp only [true_implies, Int32.lt_iff_toInt_lt, ← Int32.toInt_inj, Int32.reduceToInt, Int64.lt_iff_toInt_lt, ← Int64.toInt_inj, Int64.reduceToInt] at q0 q1 q2 q3 q4 q5 q6 q7 q8 q9 p0 p1 p2 p3 p4 ⊢
            omega
          have hp434 : ∀ c ∈ ([(own_pk p_ (0 : Int32) c_ (116 : Int32)), (own_pk p_ (1 : Int32) c_ (97 : Int32)), (own_pk p_ (2 : Int32) c_ (120 : Int32)), (own_pk p_ (3 : Int32) c_ (95 : Int32)), (own_pk p_ (4 : Int32) c_ (121 : Int32)), (own_pk p_ (5 : Int32) c_ (101 : Int32)), (own_pk p_ (6 : Int32) c_ (110 : Int32))] : List Int32), ¬ c < 0 ∧ ¬ (255 : Int32) < c := (own_lc (own_pk_l ⟨c435, c436⟩ (by decide)) (own_lc (own_pk_l ⟨c435, c436⟩ (by decide)) (own_lc (own_pk_l ⟨c435, c436⟩ (by decide)) (own_lc (own_pk_l ⟨c435, c436⟩ (by decide)) (own_lc (own_pk_l ⟨c435, c436⟩ (by decide)) (own_lc (own_pk_l ⟨c435, c436⟩ (by decide)) (own_lc (own_pk_l ⟨c435, c436⟩ (by decide)) own_ln)))))))
          have f437 := (f426.ext E427)
          have K438 := (K430.ext E427)
          have f439 := (own_sta_keep S_COMPACT_STRINGS K438 all0)
          have Z440 := (Nat.le_trans Z428 E427.1)
          refine own_newS X427 hx hZ hown hw (hw _ (own_m 12 rfl)) (hw _ (own_m 13 rfl)) (hw _ (own_m 14 rfl)) (hw _ (own_m 10 rfl)) [(own_pk p_ (0 : Int32) c_ (116 : Int32)), (own_pk p_ (1 : Int32) c_ (97 : Int32)), (own_pk p_ (2 : Int32) c_ (120 : Int32)), (own_pk p_ (3 : Int32) c_ (95 : Int32)), (own_pk p_ (4 : Int32) c_ (121 : Int32)), (own_pk p_ (5 : Int32) c_ (101 : Int32)), (own_pk p_ (6 : Int32) c_ (110 : Int32))] ge429 Z440 A427 f433 f432 f437 f439 hs_COMPACT_STRINGS (n := 7) rfl rfl (by decide) (by decide) hp434 (by decide) (W := 1) (by decide) (by decide) (by decide) e427 (by rw [hml]; rfl) (Nat.le_of_eq rfl) (hb hby at_136) ?_
          intro T434 L434 b434_0 kb434_0 X434 N434q K434 f434_0 f434_1 ge434_0 sz434_0 ne434_0 f434_2 f434_3
          have N434 := Fr.app N424 N434q
          have sz441 : h0.size ≤ b434_0 := Nat.le_trans K438.1 sz434_0
          show oG p e below _ (T434.setTop (mkF m 139 #[.val (.int x0), .val (.int x1), .val (.int x2), .val (.int 2), .val (.int sh_), .val (.int c_), .val (.int mu_), .val (.ref r_TAX), .unset, .unset, .val (.ref b359_0), .val (.int p_), .val (.int 1)] [(.ref b427)]))
          refine og (fun _ hr => XS.astore X434.here hx rfl (hb hby at_139) rfl rfl (l' := #[.val (.int x0), .val (.int x1), .val (.int x2), .val (.int 2), .val (.int sh_), .val (.int c_), .val (.int mu_), .val (.ref r_TAX), .val (.ref b427), .unset, .val (.ref b359_0), .val (.int p_), .val (.int 1)]) rfl (XS.iload X434.here hx rfl (hb hby at_141) rfl (XS.ifNo X434.here hx rfl (hb hby at_143) rfl ((if0 _ _).trans (feq (by decide)).1) (XS.aload X434.here hx rfl (hb hby at_146) rfl rfl (XS.goto X434.here hx rfl (pc0 := 148) (pc' := 152) rfl (hb hby at_148) (by decide) (by decide) (XS.astore X434.here hx rfl (hb hby at_152) rfl rfl (l' := #[.val (.int x0), .val (.int x1), .val (.int x2), .val (.int 2), .val (.int sh_), .val (.int c_), .val (.int mu_), .val (.ref r_TAX), .val (.ref b427), .val (.ref r_TAX), .val (.ref b359_0), .val (.int p_), .val (.int 1)]) rfl (XS.goto X434.here hx rfl (pc0 := 154) (pc' := 231) rfl (hb hby at_154) (by decide) (by decide) (XS.aload X434.here hx rfl (hb hby at_231) rfl rfl hr)))))))) ?_
          show oG p e below _ (T434.setTop (mkF m 233 #[.val (.int x0), .val (.int x1), .val (.int x2), .val (.int 2), .val (.int sh_), .val (.int c_), .val (.int mu_), .val (.ref r_TAX), .val (.ref b427), .val (.ref r_TAX), .val (.ref b359_0), .val (.int p_), .val (.int 1)] [(.ref b427)]))
          have K443 := (K438.trans K434 (allS (Or.inr sz431) all0))
          have f444 := (own_sta_keep S__VALUES K443 all0)
          have f445 := (E__VALUES.keep K443)
          have f446 := (F_USAGE_header.keep K443 nin0)
          have f447 := (E_USAGE_header.keep K443)
          have f448 := (F_USAGE_header_coder.keep K443 nin0)
          have f449 := (F_USAGE_header_value.keep K443 nin0)
          have f450 := (F_CHARGE_header.keep K443 nin0)
          have f451 := (E_CHARGE_header.keep K443)
          have f452 := (F_CHARGE_header_coder.keep K443 nin0)
          have f453 := (F_CHARGE_header_value.keep K443 nin0)
          have f454 := (F_TAX_header.keep K443 nin0)
          have f455 := (E_TAX_header.keep K443)
          have f456 := (F_TAX_header_coder.keep K443 nin0)
          have f457 := (F_TAX_header_value.keep K443 nin0)
          have f458 := (F_GAS_PART_header.keep K443 nin0)
          have f459 := (E_GAS_PART_header.keep K443)
          have f460 := (F_GAS_PART_header_coder.keep K443 nin0)
          have f461 := (F_GAS_PART_header_value.keep K443 nin0)
          have f462 := (V__VALUES.keep K443 nin0)
          have f463 := (V_USAGE_header_value.keep K443 nin0)
          have f464 := (V_CHARGE_header_value.keep K443 nin0)
          have f465 := (V_TAX_header_value.keep K443 nin0)
          have f466 := (V_GAS_PART_header_value.keep K443 nin0)
          have f467 := (own_sta_keep f439 K434 (allS (own_ns_exa A427) all0))
          have f468 := (own_sta_keep S_EMPTY K443 all0)
          have f469 := (E_EMPTY.keep K443)
          have f470 := (F_EMPTY_value.keep K443 nin0)
          have Z471 := (Nat.le_trans Z440 K434.1)
          refine own_cs X434 hx hZ hown (hw _ (own_m 38 rfl)) (hw _ (own_m 39 rfl)) (hw _ (own_m 1 rfl)) (hw _ (own_m 40 rfl)) (by decide) (rm := { frames := 3, cells := 2, slots := 5, locals := 38 }) (rm_named_s l Z a0 hw [] b427 b434_0 kb434_0 (7 : Int32) [(own_pk p_ (0 : Int32) c_ (116 : Int32)), (own_pk p_ (1 : Int32) c_ (97 : Int32)), (own_pk p_ (2 : Int32) c_ (120 : Int32)), (own_pk p_ (3 : Int32) c_ (95 : Int32)), (own_pk p_ (4 : Int32) c_ (121 : Int32)), (own_pk p_ (5 : Int32) c_ (101 : Int32)), (own_pk p_ (6 : Int32) c_ (110 : Int32))] ((List.map StrChars.lo8 [(own_pk p_ (0 : Int32) c_ (116 : Int32)), (own_pk p_ (1 : Int32) c_ (97 : Int32)), (own_pk p_ (2 : Int32) c_ (120 : Int32)), (own_pk p_ (3 : Int32) c_ (95 : Int32)), (own_pk p_ (4 : Int32) c_ (121 : Int32)), (own_pk p_ (5 : Int32) c_ (101 : Int32)), (own_pk p_ (6 : Int32) c_ (110 : Int32))]).map Value.int) r_USAGE r__VALUES r_CHARGE r_TAX r_GAS_PART r_USAGE_header r_USAGE_header_value r_CHARGE_header r_CHARGE_header_value r_TAX_header r_TAX_header_value r_GAS_PART_header r_GAS_PART_header_value k__VALUES k_USAGE_header_value k_CHARGE_header_value k_TAX_header_value k_GAS_PART_header_value i_COMPACT_STRINGS v_SIOOBE_FORMATTER r_EMPTY T434.heap n0 Z471 f434_0 f434_1 f434_2 f434_3 (StrChars.Road.codOf (cs := [(own_pk p_ (0 : Int32) c_ (116 : Int32)), (own_pk p_ (1 : Int32) c_ (97 : Int32)), (own_pk p_ (2 : Int32) c_ (120 : Int32)), (own_pk p_ (3 : Int32) c_ (95 : Int32)), (own_pk p_ (4 : Int32) c_ (121 : Int32)), (own_pk p_ (5 : Int32) c_ (101 : Int32)), (own_pk p_ (6 : Int32) c_ (110 : Int32))]) (n := 7) rfl (fun c hc => (hp434 c hc).2)) (own_up hp434) (Nat.le_of_ble_eq_true rfl) f444 f445 f446 f447 f448 f449 f450 f451 f452 f453 f454 f455 f456 f457 f458 f459 f460 f461 f462 f463 f464 f465 f466 f467 f468 f469 f470 hs_COMPACT_STRINGS hv_SIOOBE_FORMATTER) (by decide) (W := 0) (by decide) (by decide) (by decide) rfl (by rw [hml]; rfl) (argsL := [(.ref b427)]) (lenOf own_pd8 rfl) (rest := []) rfl rfl (Nat.le_of_eq rfl) (hb hby at_233) ?_
          intro _ T442 L442 X442 hQ442
          have c472 : (own_same own_tx0 [(own_pk p_ (0 : Int32) c_ (116 : Int32)), (own_pk p_ (1 : Int32) c_ (97 : Int32)), (own_pk p_ (2 : Int32) c_ (120 : Int32)), (own_pk p_ (3 : Int32) c_ (95 : Int32)), (own_pk p_ (4 : Int32) c_ (121 : Int32)), (own_pk p_ (5 : Int32) c_ (101 : Int32)), (own_pk p_ (6 : Int32) c_ (110 : Int32))]) = (0 : Int32) := own_same_len (show (8 : Nat) ≠ 7 from by decide)
          have c473 : (own_same own_tx1 [(own_pk p_ (0 : Int32) c_ (116 : Int32)), (own_pk p_ (1 : Int32) c_ (97 : Int32)), (own_pk p_ (2 : Int32) c_ (120 : Int32)), (own_pk p_ (3 : Int32) c_ (95 : Int32)), (own_pk p_ (4 : Int32) c_ (121 : Int32)), (own_pk p_ (5 : Int32) c_ (101 : Int32)), (own_pk p_ (6 : Int32) c_ (110 : Int32))]) = (0 : Int32) := own_same_len (show (10 : Nat) ≠ 7 from by decide)
          have c474 : ¬ ((own_same own_tx2 [(own_pk p_ (0 : Int32) c_ (116 : Int32)), (own_pk p_ (1 : Int32) c_ (97 : Int32)), (own_pk p_ (2 : Int32) c_ (120 : Int32)), (own_pk p_ (3 : Int32) c_ (95 : Int32)), (own_pk p_ (4 : Int32) c_ (121 : Int32)), (own_pk p_ (5 : Int32) c_ (101 : Int32)), (own_pk p_ (6 : Int32) c_ (110 : Int32))]) = (0 : Int32)) := own_finT2 p_ c_ c421 c422 c423
          have ev475 : (own_nm [(own_pk p_ (0 : Int32) c_ (116 : Int32)), (own_pk p_ (1 : Int32) c_ (97 : Int32)), (own_pk p_ (2 : Int32) c_ (120 : Int32)), (own_pk p_ (3 : Int32) c_ (95 : Int32)), (own_pk p_ (4 : Int32) c_ (121 : Int32)), (own_pk p_ (5 : Int32) c_ (101 : Int32)), (own_pk p_ (6 : Int32) c_ (110 : Int32))] r_USAGE r_CHARGE r_TAX r_GAS_PART) = (.ref r_TAX) := by unfold own_nm; rw [if_pos c472, if_pos c473, if_neg c474]
          unfold Q_named_s at hQ442; rw [ev475] at hQ442
          obtain ⟨b442_0, rfl, N442q, K442, f442_0, f442_1⟩ := hQ442
          have N442 := Fr.app N434 N442q
          show oG p e below _ (T442.setTop (mkF m 236 #[.val (.int x0), .val (.int x1), .val (.int x2), .val (.int 2), .val (.int sh_), .val (.int c_), .val (.int mu_), .val (.ref r_TAX), .val (.ref b427), .val (.ref r_TAX), .val (.ref b359_0), .val (.int p_), .val (.int 1)] [(.ref b442_0)]))
          refine og (fun _ hr => XS.aconstNull X442.here hx rfl (hb hby at_236) hr) ?_
          show oG p e below _ (T442.setTop (mkF m 237 #[.val (.int x0), .val (.int x1), .val (.int x2), .val (.int 2), .val (.int sh_), .val (.int c_), .val (.int mu_), .val (.ref r_TAX), .val (.ref b427), .val (.ref r_TAX), .val (.ref b359_0), .val (.int p_), .val (.int 1)] [.null, (.ref b442_0)]))
          have Z477 := (Nat.le_trans Z471 K442.1)
          refine own_cv X442 hx hZ hown (notFace_of_selects (args := #[]) (mvT hZ (hw _ (own_m 91 rfl)))) (hw _ (own_m 88 rfl)) (hw _ (own_m 89 rfl)) (hw _ (own_m 91 rfl)) (hw _ (own_m 90 rfl)) (hw _ (own_m 73 rfl)) (hw _ (own_m 92 rfl)) (by decide) f442_0 (rm := { frames := 0, cells := 0, slots := 0, locals := 0 }) (rm_orElse_6 l Z a0 hw [] b442_0 r_TAX T442.heap n0 Z477 f442_1) (by decide) (W := 0) (by decide) (by decide) (by decide) rfl (by rw [hml]; rfl) (argsL := [.null]) (lenOf own_pd4 rfl) (rest := []) rfl rfl (Nat.le_of_eq rfl) (hb hby at_237) ?_
          intro _ T476 L476 X476 hQ476
          obtain ⟨rfl, N476q, e476⟩ := hQ476
          have N476 := Fr.app N442 N476q
          show oG p e below _ (T476.setTop (mkF m 240 #[.val (.int x0), .val (.int x1), .val (.int x2), .val (.int 2), .val (.int sh_), .val (.int c_), .val (.int mu_), .val (.ref r_TAX), .val (.ref b427), .val (.ref r_TAX), .val (.ref b359_0), .val (.int p_), .val (.int 1)] [(.ref r_TAX)]))
          have K478 := (K443.trans K442 all0)
          have f479 := (E_TAX.keep K478)
          obtain ⟨T480, X480, e480, st480⟩ := castY X476 hx hZ hown (hw _ (own_m 93 rfl)) e476 (Ins.self f479) (g := (mkF m 240 #[.val (.int x0), .val (.int x1), .val (.int x2), .val (.int 2), .val (.int sh_), .val (.int c_), .val (.int mu_), .val (.ref r_TAX), .val (.ref b427), .val (.ref r_TAX), .val (.ref b359_0), .val (.int p_), .val (.int 1)] [(.ref r_TAX)])) rfl rfl (hb hby at_240)
          refine og st480 ?_
          show oG p e below _ (T480.setTop (mkF m 243 #[.val (.int x0), .val (.int x1), .val (.int x2), .val (.int 2), .val (.int sh_), .val (.int c_), .val (.int mu_), .val (.ref r_TAX), .val (.ref b427), .val (.ref r_TAX), .val (.ref b359_0), .val (.int p_), .val (.int 1)] [(.ref r_TAX)]))
          refine og (fun _ hr => XS.astore X480.here hx rfl (hb hby at_243) rfl rfl (l' := #[.val (.int x0), .val (.int x1), .val (.int x2), .val (.int 2), .val (.int sh_), .val (.int c_), .val (.int mu_), .val (.ref r_TAX), .val (.ref b427), .val (.ref r_TAX), .val (.ref r_TAX), .val (.int p_), .val (.int 1)]) rfl (XS.aload X480.here hx rfl (hb hby at_245) rfl rfl (XS.aload X480.here hx rfl (hb hby at_247) rfl rfl hr))) ?_
          show oG p e below _ (T480.setTop (mkF m 249 #[.val (.int x0), .val (.int x1), .val (.int x2), .val (.int 2), .val (.int sh_), .val (.int c_), .val (.int mu_), .val (.ref r_TAX), .val (.ref b427), .val (.ref r_TAX), .val (.ref r_TAX), .val (.int p_), .val (.int 1)] [(.ref r_TAX), (.ref r_TAX)]))
          refine og (fun _ hr => Jvm.RoadKit.acmp X480 hx rfl rfl rfl (pc0 := 249) (pc' := 252) (same := true) rfl (hb hby at_249) rfl (decide_eq_true rfl) (by decide) (by decide) hr) ?_
          show oG p e below _ (T480.setTop (mkF m 252 #[.val (.int x0), .val (.int x1), .val (.int x2), .val (.int 2), .val (.int sh_), .val (.int c_), .val (.int mu_), .val (.ref r_TAX), .val (.ref b427), .val (.ref r_TAX), .val (.ref r_TAX), .val (.int p_), .val (.int 1)] []))
          refine og (fun _ hr => XS.iconst X480.here hx rfl (hb hby at_252) (XS.goto X480.here hx rfl (pc0 := 253) (pc' := 257) rfl (hb hby at_253) (by decide) (by decide) hr)) ?_
          show oG p e below _ (T480.setTop (mkF m 257 #[.val (.int x0), .val (.int x1), .val (.int x2), .val (.int 2), .val (.int sh_), .val (.int c_), .val (.int mu_), .val (.ref r_TAX), .val (.ref b427), .val (.ref r_TAX), .val (.ref r_TAX), .val (.int p_), .val (.int 1)] [(.int 1)]))
          have hk481 := (Nat.le_trans (Nat.le_trans (Nat.le_trans (Nat.le_trans (Nat.le_trans hk K359.1) (Nat.le_of_eq W424.size.symm)) E427.1) K434.1) K442.1)
          have A482 := A0.trans (CHr.keep K359 sf0 A0.1)
          have sf484 := (Safe.keep K359 sf0 A0.1 (Safe.new sz359_0))
          have A483 := A482.trans (CHr.wr W424 sf484 A482.1)
          have A485 := A483.trans (CHr.ext E427 A483.1)
          have sf487 := (Safe.ext E427 A483.1 (Safe.new (Nat.le_of_eq g427.symm)))
          have A486 := A485.trans (CHr.keep K434 (sfS sf487 sf0) A485.1)
          have A488 := A486.trans (CHr.keep K442 sf0 A486.1)
          exact own_retNW X480 hx hlk Bd.returns hS hk481 hZ hEL hh e480 A488 (t := .boolean) (by simp) (hb hby at_257) (by decide) (by decide) ⟨rfl, N476⟩
        refine og (fun _ hr => XS.icmpYes X359.here hx rfl (pc0 := 113) (pc' := 120) rfl (hb hby at_113) rfl (feq c423).2 (by decide) (by decide) hr) ?_
        show oG p e below _ (T359.setTop (mkF m 120 #[.val (.int x0), .val (.int x1), .val (.int x2), .val (.int 2), .val (.int sh_), .val (.int c_), .val (.int mu_), .val (.ref r_TAX), .unset, .unset, .val (.ref b359_0), .val (.int p_), .val (.int 1)] []))
        refine og (fun _ hr => XS.iconst X359.here hx rfl (hb hby at_120) (XS.istore X359.here hx rfl (hb hby at_121) rfl (l' := #[.val (.int x0), .val (.int x1), .val (.int x2), .val (.int 2), .val (.int sh_), .val (.int c_), .val (.int mu_), .val (.ref r_TAX), .unset, .unset, .val (.ref b359_0), .val (.int p_), .val (.int 0)]) rfl (XS.aload X359.here hx rfl (hb hby at_123) rfl rfl (XS.iload X359.here hx rfl (hb hby at_125) rfl (XS.iload X359.here hx rfl (hb hby at_127) rfl hr))))) ?_
        show oG p e below _ (T359.setTop (mkF m 129 #[.val (.int x0), .val (.int x1), .val (.int x2), .val (.int 2), .val (.int sh_), .val (.int c_), .val (.int mu_), .val (.ref r_TAX), .unset, .unset, .val (.ref b359_0), .val (.int p_), .val (.int 0)] [(.int c_), (.int p_), (.ref b359_0)]))
        have c490 : (nar .char c_) = c_ := by
          have q0 := rng32 x1
          have q1 := c_mask x1 (2147483647 : Int32) 31 (by decide) (by decide)
          have q2 := c_irem (x1 &&& (2147483647 : Int32)) (7 : Int32) 7 (by decide)
          have q3 := congrArg Int32.toInt hp_
          have q4 := rng32 (own_g2 p_)
          have q5 := rng32 x2
          have q6 := c_mask x2 (255 : Int32) 8 (by decide) (by decide)
          have q7 := c_i2c (x2 &&& (255 : Int32))
          have q8 := congrArg Int32.toInt hc_
          have q9 := (show ((nar .char c_).toInt - c_.toInt) % 65536 = 0 ∧ 0 ≤ (nar .char c_).toInt ∧ (nar .char c_).toInt < 65536 from c_i2c c_)
          have p0 := c423
          have p1 := c421
          have p2 := c422
          simp only [true_implies, Int32.lt_iff_toInt_lt, ← Int32.toInt_inj, Int32.reduceToInt, Int64.lt_iff_toInt_lt, ← Int64.toInt_inj, Int64.reduceToInt] at q0 q1 q2 q3 q4 q5 q6 q7 q8 q9 p0 p1 p2 ⊢
          omega
        refine own_stC X359 hx hZ rfl f359_1 p_ c_ c_ (p_).toNatClampNeg ⟨c421, c422⟩ rfl (own_inl c421 c422 rfl) c490 ([(.int 116), (.int 97), (.int 120), (.int 95), (.int 121), (.int 101), (.int 110)].set (p_).toNatClampNeg (.int c_)) rfl N359 ge359_0 (hb hby at_129) ?_
        intro T489 h489 L489 X489 e489 W489 N489 f489
        show oG p e below _ (T489.setTop (mkF m 130 #[.val (.int x0), .val (.int x1), .val (.int x2), .val (.int 2), .val (.int sh_), .val (.int c_), .val (.int mu_), .val (.ref r_TAX), .unset, .unset, .val (.ref b359_0), .val (.int p_), .val (.int 0)] []))
        have f491 : Arv Z h489 b359_0 kb359_0 .char (7 : Int32) [(.int (own_pk p_ (0 : Int32) c_ (116 : Int32))), (.int (own_pk p_ (1 : Int32) c_ (97 : Int32))), (.int (own_pk p_ (2 : Int32) c_ (120 : Int32))), (.int (own_pk p_ (3 : Int32) c_ (95 : Int32))), (.int (own_pk p_ (4 : Int32) c_ (121 : Int32))), (.int (own_pk p_ (5 : Int32) c_ (101 : Int32))), (.int (own_pk p_ (6 : Int32) c_ (110 : Int32)))] (.int 0) := own_set2 p_ c_ c421 c422 ▸ (show Arv Z h489 b359_0 kb359_0 .char (7 : Int32) (([.int 116, .int 97, .int 120, .int 95, .int 121, .int 101, .int 110] : List Value).set p_.toNatClampNeg (.int c_)) (.int 0) from f489)
        obtain ⟨T492, h492, X492, e492, E492, A492, D492, -, st492⟩ := newO X489 hx hZ hown (hw _ (own_m 9 rfl)) (hw _ (own_m 10 rfl)) (hw _ (own_m 11 rfl)) e489 (g := (mkF m 130 #[.val (.int x0), .val (.int x1), .val (.int x2), .val (.int 2), .val (.int sh_), .val (.int c_), .val (.int mu_), .val (.ref r_TAX), .unset, .unset, .val (.ref b359_0), .val (.int p_), .val (.int 0)] [])) rfl (hb hby at_130) (by decide) (by decide)
        obtain ⟨b492, g492⟩ : ∃ z, z = h489.size := ⟨_, rfl⟩
        rw [← g492] at A492 D492 st492
        have Z493 := (Nat.le_trans (Nat.le_trans Z0 K359.1) (Nat.le_of_eq W489.size.symm))
        have ge494 : n0 ≤ b492 := Nat.le_trans Z493 (Nat.le_of_eq g492.symm)
        have K495 := ((K0.trans K359 all0).wr W489 (Or.inr sz360))
        have sz496 : h0.size ≤ b492 := Nat.le_trans K495.1 (Nat.le_of_eq g492.symm)
        refine og st492 ?_
        have f497 : Fld Z h492 b492 "java/lang/String" "coder" "B" (.int 0) := D492 (Or.inr (hw _ (own_m 35 rfl))) (ty := .byte) (by decide)
        have f498 : Fld Z h492 b492 "java/lang/String" "value" "[B" .null := D492 (Or.inr (hw _ (own_m 37 rfl))) (ty := (.array .byte)) (by decide)
        show oG p e below _ (T492.setTop (mkF m 133 #[.val (.int x0), .val (.int x1), .val (.int x2), .val (.int 2), .val (.int sh_), .val (.int c_), .val (.int mu_), .val (.ref r_TAX), .unset, .unset, .val (.ref b359_0), .val (.int p_), .val (.int 0)] [(.ref b492)]))
        refine og (fun _ hr => XS.dup X492.here hx rfl (hb hby at_133) rfl rfl (XS.aload X492.here hx rfl (hb hby at_134) rfl rfl hr)) ?_
        show oG p e below _ (T492.setTop (mkF m 136 #[.val (.int x0), .val (.int x1), .val (.int x2), .val (.int 2), .val (.int sh_), .val (.int c_), .val (.int mu_), .val (.ref r_TAX), .unset, .unset, .val (.ref b359_0), .val (.int p_), .val (.int 0)] [(.ref b359_0), (.ref b492), (.ref b492)]))
        have c500 : ¬ (c_ < (0 : Int32)) := by
          have q0 := rng32 x1
          have q1 := c_mask x1 (2147483647 : Int32) 31 (by decide) (by decide)
          have q2 := c_irem (x1 &&& (2147483647 : Int32)) (7 : Int32) 7 (by decide)
          have q3 := congrArg Int32.toInt hp_
          have q4 := rng32 (own_g2 p_)
          have q5 := rng32 x2
          have q6 := c_mask x2 (255 : Int32) 8 (by decide) (by decide)
          have q7 := c_i2c (x2 &&& (255 : Int32))
          have q8 := congrArg Int32.toInt hc_
          have q9 := (show ((nar .char c_).toInt - c_.toInt) % 65536 = 0 ∧ 0 ≤ (nar .char c_).toInt ∧ (nar .char c_).toInt < 65536 from c_i2c c_)
          have p0 := c423
          have p1 := c490
          have p2 := c421
          have p3 := c422
          simp only [true_implies, Int32.lt_iff_toInt_lt, ← Int32.toInt_inj, Int32.reduceToInt, Int64.lt_iff_toInt_lt, ← Int64.toInt_inj, Int64.reduceToInt] at q0 q1 q2 q3 q4 q5 q6 q7 q8 q9 p0 p1 p2 p3 ⊢
          omega
        have c501 : ¬ ((255 : Int32) < c_) := by
          have q0 := rng32 x1
          have q1 := c_mask x1 (2147483647 : Int32) 31 (by decide) (by decide)
          have q2 := c_irem (x1 &&& (2147483647 : Int32)) (7 : Int32) 7 (by decide)
          have q3 := congrArg Int32.toInt hp_
          have q4 := rng32 (own_g2 p_)
          have q5 := rng32 x2
          have q6 := c_mask x2 (255 : Int32) 8 (by decide) (by decide)
          have q7 := c_i2c (x2 &&& (255 : Int32))
          have q8 := congrArg Int32.toInt hc_
          have q9 := (show ((nar .char c_).toInt - c_.toInt) % 65536 = 0 ∧ 0 ≤ (nar .char c_).toInt ∧ (nar .char c_).toInt < 65536 from c_i2c c_)
          have p0 := c423
          have p1 := c490
          have p2 := c500
          have p3 := c421
          have p4 := c422
          simp only [true_implies, Int32.lt_iff_toInt_lt, ← Int32.toInt_inj, Int32.reduceToInt, Int64.lt_iff_toInt_lt, ← Int64.toInt_inj, Int64.reduceToInt] at q0 q1 q2 q3 q4 q5 q6 q7 q8 q9 p0 p1 p2 p3 p4 ⊢
          omega
        have hp499 : ∀ c ∈ ([(own_pk p_ (0 : Int32) c_ (116 : Int32)), (own_pk p_ (1 : Int32) c_ (97 : Int32)), (own_pk p_ (2 : Int32) c_ (120 : Int32)), (own_pk p_ (3 : Int32) c_ (95 : Int32)), (own_pk p_ (4 : Int32) c_ (121 : Int32)), (own_pk p_ (5 : Int32) c_ (101 : Int32)), (own_pk p_ (6 : Int32) c_ (110 : Int32))] : List Int32), ¬ c < 0 ∧ ¬ (255 : Int32) < c := (own_lc (own_pk_l ⟨c500, c501⟩ (by decide)) (own_lc (own_pk_l ⟨c500, c501⟩ (by decide)) (own_lc (own_pk_l ⟨c500, c501⟩ (by decide)) (own_lc (own_pk_l ⟨c500, c501⟩ (by decide)) (own_lc (own_pk_l ⟨c500, c501⟩ (by decide)) (own_lc (own_pk_l ⟨c500, c501⟩ (by decide)) (own_lc (own_pk_l ⟨c500, c501⟩ (by decide)) own_ln)))))))
        have f502 := (f491.ext E492)
        have K503 := (K495.ext E492)
        have f504 := (own_sta_keep S_COMPACT_STRINGS K503 all0)
        have Z505 := (Nat.le_trans Z493 E492.1)
        refine own_newS X492 hx hZ hown hw (hw _ (own_m 12 rfl)) (hw _ (own_m 13 rfl)) (hw _ (own_m 14 rfl)) (hw _ (own_m 10 rfl)) [(own_pk p_ (0 : Int32) c_ (116 : Int32)), (own_pk p_ (1 : Int32) c_ (97 : Int32)), (own_pk p_ (2 : Int32) c_ (120 : Int32)), (own_pk p_ (3 : Int32) c_ (95 : Int32)), (own_pk p_ (4 : Int32) c_ (121 : Int32)), (own_pk p_ (5 : Int32) c_ (101 : Int32)), (own_pk p_ (6 : Int32) c_ (110 : Int32))] ge494 Z505 A492 f498 f497 f502 f504 hs_COMPACT_STRINGS (n := 7) rfl rfl (by decide) (by decide) hp499 (by decide) (W := 1) (by decide) (by decide) (by decide) e492 (by rw [hml]; rfl) (Nat.le_of_eq rfl) (hb hby at_136) ?_
        intro T499 L499 b499_0 kb499_0 X499 N499q K499 f499_0 f499_1 ge499_0 sz499_0 ne499_0 f499_2 f499_3
        have N499 := Fr.app N489 N499q
        have sz506 : h0.size ≤ b499_0 := Nat.le_trans K503.1 sz499_0
        show oG p e below _ (T499.setTop (mkF m 139 #[.val (.int x0), .val (.int x1), .val (.int x2), .val (.int 2), .val (.int sh_), .val (.int c_), .val (.int mu_), .val (.ref r_TAX), .unset, .unset, .val (.ref b359_0), .val (.int p_), .val (.int 0)] [(.ref b492)]))
        refine og (fun _ hr => XS.astore X499.here hx rfl (hb hby at_139) rfl rfl (l' := #[.val (.int x0), .val (.int x1), .val (.int x2), .val (.int 2), .val (.int sh_), .val (.int c_), .val (.int mu_), .val (.ref r_TAX), .val (.ref b492), .unset, .val (.ref b359_0), .val (.int p_), .val (.int 0)]) rfl (XS.iload X499.here hx rfl (hb hby at_141) rfl (XS.ifYes X499.here hx rfl (pc0 := 143) (pc' := 151) rfl (hb hby at_143) rfl ((if0 _ _).trans (teq (by decide)).1) (by decide) (by decide) (XS.aconstNull X499.here hx rfl (hb hby at_151) (XS.astore X499.here hx rfl (hb hby at_152) rfl rfl (l' := #[.val (.int x0), .val (.int x1), .val (.int x2), .val (.int 2), .val (.int sh_), .val (.int c_), .val (.int mu_), .val (.ref r_TAX), .val (.ref b492), .val .null, .val (.ref b359_0), .val (.int p_), .val (.int 0)]) rfl (XS.goto X499.here hx rfl (pc0 := 154) (pc' := 231) rfl (hb hby at_154) (by decide) (by decide) (XS.aload X499.here hx rfl (hb hby at_231) rfl rfl hr))))))) ?_
        show oG p e below _ (T499.setTop (mkF m 233 #[.val (.int x0), .val (.int x1), .val (.int x2), .val (.int 2), .val (.int sh_), .val (.int c_), .val (.int mu_), .val (.ref r_TAX), .val (.ref b492), .val .null, .val (.ref b359_0), .val (.int p_), .val (.int 0)] [(.ref b492)]))
        have K508 := (K503.trans K499 (allS (Or.inr sz496) all0))
        have f509 := (own_sta_keep S__VALUES K508 all0)
        have f510 := (E__VALUES.keep K508)
        have f511 := (F_USAGE_header.keep K508 nin0)
        have f512 := (E_USAGE_header.keep K508)
        have f513 := (F_USAGE_header_coder.keep K508 nin0)
        have f514 := (F_USAGE_header_value.keep K508 nin0)
        have f515 := (F_CHARGE_header.keep K508 nin0)
        have f516 := (E_CHARGE_header.keep K508)
        have f517 := (F_CHARGE_header_coder.keep K508 nin0)
        have f518 := (F_CHARGE_header_value.keep K508 nin0)
        have f519 := (F_TAX_header.keep K508 nin0)
        have f520 := (E_TAX_header.keep K508)
        have f521 := (F_TAX_header_coder.keep K508 nin0)
        have f522 := (F_TAX_header_value.keep K508 nin0)
        have f523 := (F_GAS_PART_header.keep K508 nin0)
        have f524 := (E_GAS_PART_header.keep K508)
        have f525 := (F_GAS_PART_header_coder.keep K508 nin0)
        have f526 := (F_GAS_PART_header_value.keep K508 nin0)
        have f527 := (V__VALUES.keep K508 nin0)
        have f528 := (V_USAGE_header_value.keep K508 nin0)
        have f529 := (V_CHARGE_header_value.keep K508 nin0)
        have f530 := (V_TAX_header_value.keep K508 nin0)
        have f531 := (V_GAS_PART_header_value.keep K508 nin0)
        have f532 := (own_sta_keep f504 K499 (allS (own_ns_exa A492) all0))
        have f533 := (own_sta_keep S_EMPTY K508 all0)
        have f534 := (E_EMPTY.keep K508)
        have f535 := (F_EMPTY_value.keep K508 nin0)
        have Z536 := (Nat.le_trans Z505 K499.1)
        refine own_cs X499 hx hZ hown (hw _ (own_m 38 rfl)) (hw _ (own_m 39 rfl)) (hw _ (own_m 1 rfl)) (hw _ (own_m 40 rfl)) (by decide) (rm := { frames := 3, cells := 2, slots := 5, locals := 38 }) (rm_named_s l Z a0 hw [] b492 b499_0 kb499_0 (7 : Int32) [(own_pk p_ (0 : Int32) c_ (116 : Int32)), (own_pk p_ (1 : Int32) c_ (97 : Int32)), (own_pk p_ (2 : Int32) c_ (120 : Int32)), (own_pk p_ (3 : Int32) c_ (95 : Int32)), (own_pk p_ (4 : Int32) c_ (121 : Int32)), (own_pk p_ (5 : Int32) c_ (101 : Int32)), (own_pk p_ (6 : Int32) c_ (110 : Int32))] ((List.map StrChars.lo8 [(own_pk p_ (0 : Int32) c_ (116 : Int32)), (own_pk p_ (1 : Int32) c_ (97 : Int32)), (own_pk p_ (2 : Int32) c_ (120 : Int32)), (own_pk p_ (3 : Int32) c_ (95 : Int32)), (own_pk p_ (4 : Int32) c_ (121 : Int32)), (own_pk p_ (5 : Int32) c_ (101 : Int32)), (own_pk p_ (6 : Int32) c_ (110 : Int32))]).map Value.int) r_USAGE r__VALUES r_CHARGE r_TAX r_GAS_PART r_USAGE_header r_USAGE_header_value r_CHARGE_header r_CHARGE_header_value r_TAX_header r_TAX_header_value r_GAS_PART_header r_GAS_PART_header_value k__VALUES k_USAGE_header_value k_CHARGE_header_value k_TAX_header_value k_GAS_PART_header_value i_COMPACT_STRINGS v_SIOOBE_FORMATTER r_EMPTY T499.heap n0 Z536 f499_0 f499_1 f499_2 f499_3 (StrChars.Road.codOf (cs := [(own_pk p_ (0 : Int32) c_ (116 : Int32)), (own_pk p_ (1 : Int32) c_ (97 : Int32)), (own_pk p_ (2 : Int32) c_ (120 : Int32)), (own_pk p_ (3 : Int32) c_ (95 : Int32)), (own_pk p_ (4 : Int32) c_ (121 : Int32)), (own_pk p_ (5 : Int32) c_ (101 : Int32)), (own_pk p_ (6 : Int32) c_ (110 : Int32))]) (n := 7) rfl (fun c hc => (hp499 c hc).2)) (own_up hp499) (Nat.le_of_ble_eq_true rfl) f509 f510 f511 f512 f513 f514 f515 f516 f517 f518 f519 f520 f521 f522 f523 f524 f525 f526 f527 f528 f529 f530 f531 f532 f533 f534 f535 hs_COMPACT_STRINGS hv_SIOOBE_FORMATTER) (by decide) (W := 0) (by decide) (by decide) (by decide) rfl (by rw [hml]; rfl) (argsL := [(.ref b492)]) (lenOf own_pd8 rfl) (rest := []) rfl rfl (Nat.le_of_eq rfl) (hb hby at_233) ?_
        intro _ T507 L507 X507 hQ507
        have c537 : (own_same own_tx0 [(own_pk p_ (0 : Int32) c_ (116 : Int32)), (own_pk p_ (1 : Int32) c_ (97 : Int32)), (own_pk p_ (2 : Int32) c_ (120 : Int32)), (own_pk p_ (3 : Int32) c_ (95 : Int32)), (own_pk p_ (4 : Int32) c_ (121 : Int32)), (own_pk p_ (5 : Int32) c_ (101 : Int32)), (own_pk p_ (6 : Int32) c_ (110 : Int32))]) = (0 : Int32) := own_same_len (show (8 : Nat) ≠ 7 from by decide)
        have c538 : (own_same own_tx1 [(own_pk p_ (0 : Int32) c_ (116 : Int32)), (own_pk p_ (1 : Int32) c_ (97 : Int32)), (own_pk p_ (2 : Int32) c_ (120 : Int32)), (own_pk p_ (3 : Int32) c_ (95 : Int32)), (own_pk p_ (4 : Int32) c_ (121 : Int32)), (own_pk p_ (5 : Int32) c_ (101 : Int32)), (own_pk p_ (6 : Int32) c_ (110 : Int32))]) = (0 : Int32) := own_same_len (show (10 : Nat) ≠ 7 from by decide)
        have c539 : (own_same own_tx2 [(own_pk p_ (0 : Int32) c_ (116 : Int32)), (own_pk p_ (1 : Int32) c_ (97 : Int32)), (own_pk p_ (2 : Int32) c_ (120 : Int32)), (own_pk p_ (3 : Int32) c_ (95 : Int32)), (own_pk p_ (4 : Int32) c_ (121 : Int32)), (own_pk p_ (5 : Int32) c_ (101 : Int32)), (own_pk p_ (6 : Int32) c_ (110 : Int32))]) = (0 : Int32) := own_finF2 p_ c_ c421 c422 c423
        have c540 : (own_same own_tx3 [(own_pk p_ (0 : Int32) c_ (116 : Int32)), (own_pk p_ (1 : Int32) c_ (97 : Int32)), (own_pk p_ (2 : Int32) c_ (120 : Int32)), (own_pk p_ (3 : Int32) c_ (95 : Int32)), (own_pk p_ (4 : Int32) c_ (121 : Int32)), (own_pk p_ (5 : Int32) c_ (101 : Int32)), (own_pk p_ (6 : Int32) c_ (110 : Int32))]) = (0 : Int32) := own_same_len (show (12 : Nat) ≠ 7 from by decide)
        have ev541 : (own_nm [(own_pk p_ (0 : Int32) c_ (116 : Int32)), (own_pk p_ (1 : Int32) c_ (97 : Int32)), (own_pk p_ (2 : Int32) c_ (120 : Int32)), (own_pk p_ (3 : Int32) c_ (95 : Int32)), (own_pk p_ (4 : Int32) c_ (121 : Int32)), (own_pk p_ (5 : Int32) c_ (101 : Int32)), (own_pk p_ (6 : Int32) c_ (110 : Int32))] r_USAGE r_CHARGE r_TAX r_GAS_PART) = .null := by unfold own_nm; rw [if_pos c537, if_pos c538, if_pos c539, if_pos c540]
        unfold Q_named_s at hQ507; rw [ev541] at hQ507
        obtain ⟨b507_0, rfl, N507q, K507, f507_0, f507_1⟩ := hQ507
        have N507 := Fr.app N499 N507q
        show oG p e below _ (T507.setTop (mkF m 236 #[.val (.int x0), .val (.int x1), .val (.int x2), .val (.int 2), .val (.int sh_), .val (.int c_), .val (.int mu_), .val (.ref r_TAX), .val (.ref b492), .val .null, .val (.ref b359_0), .val (.int p_), .val (.int 0)] [(.ref b507_0)]))
        refine og (fun _ hr => XS.aconstNull X507.here hx rfl (hb hby at_236) hr) ?_
        show oG p e below _ (T507.setTop (mkF m 237 #[.val (.int x0), .val (.int x1), .val (.int x2), .val (.int 2), .val (.int sh_), .val (.int c_), .val (.int mu_), .val (.ref r_TAX), .val (.ref b492), .val .null, .val (.ref b359_0), .val (.int p_), .val (.int 0)] [.null, (.ref b507_0)]))
        have Z543 := (Nat.le_trans Z536 K507.1)
        refine own_cv X507 hx hZ hown (notFace_of_selects (args := #[]) (mvT hZ (hw _ (own_m 91 rfl)))) (hw _ (own_m 88 rfl)) (hw _ (own_m 89 rfl)) (hw _ (own_m 91 rfl)) (hw _ (own_m 90 rfl)) (hw _ (own_m 73 rfl)) (hw _ (own_m 92 rfl)) (by decide) f507_0 (rm := { frames := 0, cells := 0, slots := 0, locals := 0 }) (rm_orElse_7 l Z a0 hw [] b507_0 T507.heap n0 Z543 f507_1) (by decide) (W := 0) (by decide) (by decide) (by decide) rfl (by rw [hml]; rfl) (argsL := [.null]) (lenOf own_pd4 rfl) (rest := []) rfl rfl (Nat.le_of_eq rfl) (hb hby at_237) ?_
        intro _ T542 L542 X542 hQ542
        obtain ⟨rfl, N542q, e542⟩ := hQ542
        have N542 := Fr.app N507 N542q
        show oG p e below _ (T542.setTop (mkF m 240 #[.val (.int x0), .val (.int x1), .val (.int x2), .val (.int 2), .val (.int sh_), .val (.int c_), .val (.int mu_), .val (.ref r_TAX), .val (.ref b492), .val .null, .val (.ref b359_0), .val (.int p_), .val (.int 0)] [.null]))
        refine og (X542.checkcastNull hx (g := (mkF m 240 #[.val (.int x0), .val (.int x1), .val (.int x2), .val (.int 2), .val (.int sh_), .val (.int c_), .val (.int mu_), .val (.ref r_TAX), .val (.ref b492), .val .null, .val (.ref b359_0), .val (.int p_), .val (.int 0)] [.null])) rfl rfl (hb hby at_240)) ?_
        show oG p e below _ (T542.setTop (mkF m 243 #[.val (.int x0), .val (.int x1), .val (.int x2), .val (.int 2), .val (.int sh_), .val (.int c_), .val (.int mu_), .val (.ref r_TAX), .val (.ref b492), .val .null, .val (.ref b359_0), .val (.int p_), .val (.int 0)] [.null]))
        refine og (fun _ hr => XS.astore X542.here hx rfl (hb hby at_243) rfl rfl (l' := #[.val (.int x0), .val (.int x1), .val (.int x2), .val (.int 2), .val (.int sh_), .val (.int c_), .val (.int mu_), .val (.ref r_TAX), .val (.ref b492), .val .null, .val .null, .val (.int p_), .val (.int 0)]) rfl (XS.aload X542.here hx rfl (hb hby at_245) rfl rfl (XS.aload X542.here hx rfl (hb hby at_247) rfl rfl hr))) ?_
        show oG p e below _ (T542.setTop (mkF m 249 #[.val (.int x0), .val (.int x1), .val (.int x2), .val (.int 2), .val (.int sh_), .val (.int c_), .val (.int mu_), .val (.ref r_TAX), .val (.ref b492), .val .null, .val .null, .val (.int p_), .val (.int 0)] [.null, .null]))
        refine og (fun _ hr => Jvm.RoadKit.acmp X542 hx rfl rfl rfl (pc0 := 249) (pc' := 252) (same := true) rfl (hb hby at_249) rfl (decide_eq_true rfl) (by decide) (by decide) hr) ?_
        show oG p e below _ (T542.setTop (mkF m 252 #[.val (.int x0), .val (.int x1), .val (.int x2), .val (.int 2), .val (.int sh_), .val (.int c_), .val (.int mu_), .val (.ref r_TAX), .val (.ref b492), .val .null, .val .null, .val (.int p_), .val (.int 0)] []))
        refine og (fun _ hr => XS.iconst X542.here hx rfl (hb hby at_252) (XS.goto X542.here hx rfl (pc0 := 253) (pc' := 257) rfl (hb hby at_253) (by decide) (by decide) hr)) ?_
        show oG p e below _ (T542.setTop (mkF m 257 #[.val (.int x0), .val (.int x1), .val (.int x2), .val (.int 2), .val (.int sh_), .val (.int c_), .val (.int mu_), .val (.ref r_TAX), .val (.ref b492), .val .null, .val .null, .val (.int p_), .val (.int 0)] [(.int 1)]))
        have hk544 := (Nat.le_trans (Nat.le_trans (Nat.le_trans (Nat.le_trans (Nat.le_trans hk K359.1) (Nat.le_of_eq W489.size.symm)) E492.1) K499.1) K507.1)
        have A545 := A0.trans (CHr.keep K359 sf0 A0.1)
        have sf547 := (Safe.keep K359 sf0 A0.1 (Safe.new sz359_0))
        have A546 := A545.trans (CHr.wr W489 sf547 A545.1)
        have A548 := A546.trans (CHr.ext E492 A546.1)
        have sf550 := (Safe.ext E492 A546.1 (Safe.new (Nat.le_of_eq g492.symm)))
        have A549 := A548.trans (CHr.keep K499 (sfS sf550 sf0) A548.1)
        have A551 := A549.trans (CHr.keep K507 sf0 A549.1)
        exact own_retNW X542 hx hlk Bd.returns hS hk544 hZ hEL hh e542 A551 (t := .boolean) (by simp) (hb hby at_257) (by decide) (by decide) ⟨rfl, N542⟩
      refine og (fun _ hr => XS.ifYes X357.here hx rfl (pc0 := 79) (pc' := 157) rfl (hb hby at_79) rfl ((if0 _ _).trans (feq c358).2) (by decide) (by decide) hr) ?_
      show oG p e below _ (T357.setTop (mkF m 157 #[.val (.int x0), .val (.int x1), .val (.int x2), .val (.int 2), .val (.int sh_), .val (.int c_), .val (.int mu_), .val (.ref r_TAX), .unset, .unset, .unset, .unset, .unset] []))
      refine og (fun _ hr => XS.iload X357.here hx rfl (hb hby at_157) rfl (XS.iconst X357.here hx rfl (hb hby at_159) hr)) ?_
      show oG p e below _ (T357.setTop (mkF m 160 #[.val (.int x0), .val (.int x1), .val (.int x2), .val (.int 2), .val (.int sh_), .val (.int c_), .val (.int mu_), .val (.ref r_TAX), .unset, .unset, .unset, .unset, .unset] [(.int 1), (.int sh_)]))
      rcases Classical.em (sh_ = (1 : Int32)) with c552 | c552
      · skip
        refine og (fun _ hr => XS.icmpNo X357.here hx rfl (hb hby at_160) rfl (teq c552).2 hr) ?_
        show oG p e below _ (T357.setTop (mkF m 163 #[.val (.int x0), .val (.int x1), .val (.int x2), .val (.int 2), .val (.int sh_), .val (.int c_), .val (.int mu_), .val (.ref r_TAX), .unset, .unset, .unset, .unset, .unset] []))
        refine og (fun _ hr => XS.iloadN X357.here hx rfl (hb hby at_163) rfl hr) ?_
        show oG p e below _ (T357.setTop (mkF m 164 #[.val (.int x0), .val (.int x1), .val (.int x2), .val (.int 2), .val (.int sh_), .val (.int c_), .val (.int mu_), .val (.ref r_TAX), .unset, .unset, .unset, .unset, .unset] [(.int 2)]))
        refine own_cs X357 hx hZ hown (hw _ (own_m 96 rfl)) (hw _ (own_m 97 rfl)) (hw _ (own_m 5 rfl)) (hw _ (own_m 98 rfl)) (by decide) (rm := { frames := 0, cells := 1, slots := 8, locals := 0 }) (rm_longer_13 l Z a0 hw []  h0 n0 Z0 ) (by decide) (W := 0) (by decide) (by decide) (by decide) e357 (by rw [hml]; rfl) (argsL := [(.int 2)]) (lenOf own_pd7 rfl) (rest := []) rfl rfl (Nat.le_of_eq rfl) (hb hby at_164) ?_
        intro _ T553 L553 X553 hQ553
        obtain ⟨b553_0, kb553_0, rfl, N553q, K553, ge553_0, sz553_0, f553_0, f553_1⟩ := hQ553
        have N553 := Fr.app N0 N553q
        have sz554 : h0.size ≤ b553_0 := Nat.le_trans K0.1 sz553_0
        show oG p e below _ (T553.setTop (mkF m 167 #[.val (.int x0), .val (.int x1), .val (.int x2), .val (.int 2), .val (.int sh_), .val (.int c_), .val (.int mu_), .val (.ref r_TAX), .unset, .unset, .unset, .unset, .unset] [(.ref b553_0)]))
        refine og (fun _ hr => XS.astore X553.here hx rfl (hb hby at_167) rfl rfl (l' := #[.val (.int x0), .val (.int x1), .val (.int x2), .val (.int 2), .val (.int sh_), .val (.int c_), .val (.int mu_), .val (.ref r_TAX), .unset, .unset, .val (.ref b553_0), .unset, .unset]) rfl (XS.aload X553.here hx rfl (hb hby at_169) rfl rfl (XS.aload X553.here hx rfl (hb hby at_171) rfl rfl (own_alen X553 hx hZ rfl f553_1 rfl rfl (hb hby at_173) (XS.iconst X553.here hx rfl (hb hby at_174) (XS.isub X553.here hx rfl (hb hby at_175) rfl (XS.iload X553.here hx rfl (hb hby at_176) rfl hr))))))) ?_
        show oG p e below _ (T553.setTop (mkF m 178 #[.val (.int x0), .val (.int x1), .val (.int x2), .val (.int 2), .val (.int sh_), .val (.int c_), .val (.int mu_), .val (.ref r_TAX), .unset, .unset, .val (.ref b553_0), .unset, .unset] [(.int c_), (.int 7), (.ref b553_0)]))
        have c556 : (nar .char c_) = c_ := by
          have q0 := rng32 x2
          have q1 := c_mask x2 (255 : Int32) 8 (by decide) (by decide)
          have q2 := c_i2c (x2 &&& (255 : Int32))
          have q3 := congrArg Int32.toInt hc_
          have q4 := (show ((nar .char c_).toInt - c_.toInt) % 65536 = 0 ∧ 0 ≤ (nar .char c_).toInt ∧ (nar .char c_).toInt < 65536 from c_i2c c_)
          simp only [true_implies, Int32.lt_iff_toInt_lt, ← Int32.toInt_inj, Int32.reduceToInt, Int64.lt_iff_toInt_lt, ← Int64.toInt_inj, Int64.reduceToInt] at q0 q1 q2 q3 q4 ⊢
          omega
        refine own_stC X553 hx hZ rfl f553_1 (7 : Int32) c_ c_ 7 ⟨by decide, by decide⟩ rfl (Nat.le_of_ble_eq_true rfl) c556 [(.int 116), (.int 97), (.int 120), (.int 95), (.int 121), (.int 101), (.int 110), (.int c_)] rfl N553 ge553_0 (hb hby at_178) ?_
        intro T555 h555 L555 X555 e555 W555 N555 f555
        show oG p e below _ (T555.setTop (mkF m 179 #[.val (.int x0), .val (.int x1), .val (.int x2), .val (.int 2), .val (.int sh_), .val (.int c_), .val (.int mu_), .val (.ref r_TAX), .unset, .unset, .val (.ref b553_0), .unset, .unset] []))
        obtain ⟨T557, h557, X557, e557, E557, A557, D557, -, st557⟩ := newO X555 hx hZ hown (hw _ (own_m 9 rfl)) (hw _ (own_m 10 rfl)) (hw _ (own_m 11 rfl)) e555 (g := (mkF m 179 #[.val (.int x0), .val (.int x1), .val (.int x2), .val (.int 2), .val (.int sh_), .val (.int c_), .val (.int mu_), .val (.ref r_TAX), .unset, .unset, .val (.ref b553_0), .unset, .unset] [])) rfl (hb hby at_179) (by decide) (by decide)
        obtain ⟨b557, g557⟩ : ∃ z, z = h555.size := ⟨_, rfl⟩
        rw [← g557] at A557 D557 st557
        have Z558 := (Nat.le_trans (Nat.le_trans Z0 K553.1) (Nat.le_of_eq W555.size.symm))
        have ge559 : n0 ≤ b557 := Nat.le_trans Z558 (Nat.le_of_eq g557.symm)
        have K560 := ((K0.trans K553 all0).wr W555 (Or.inr sz554))
        have sz561 : h0.size ≤ b557 := Nat.le_trans K560.1 (Nat.le_of_eq g557.symm)
        refine og st557 ?_
        have f562 : Fld Z h557 b557 "java/lang/String" "coder" "B" (.int 0) := D557 (Or.inr (hw _ (own_m 35 rfl))) (ty := .byte) (by decide)
        have f563 : Fld Z h557 b557 "java/lang/String" "value" "[B" .null := D557 (Or.inr (hw _ (own_m 37 rfl))) (ty := (.array .byte)) (by decide)
        show oG p e below _ (T557.setTop (mkF m 182 #[.val (.int x0), .val (.int x1), .val (.int x2), .val (.int 2), .val (.int sh_), .val (.int c_), .val (.int mu_), .val (.ref r_TAX), .unset, .unset, .val (.ref b553_0), .unset, .unset] [(.ref b557)]))
        refine og (fun _ hr => XS.dup X557.here hx rfl (hb hby at_182) rfl rfl (XS.aload X557.here hx rfl (hb hby at_183) rfl rfl hr)) ?_
        show oG p e below _ (T557.setTop (mkF m 185 #[.val (.int x0), .val (.int x1), .val (.int x2), .val (.int 2), .val (.int sh_), .val (.int c_), .val (.int mu_), .val (.ref r_TAX), .unset, .unset, .val (.ref b553_0), .unset, .unset] [(.ref b553_0), (.ref b557), (.ref b557)]))
        have c565 : ¬ (c_ < (0 : Int32)) := by
          have q0 := rng32 x2
          have q1 := c_mask x2 (255 : Int32) 8 (by decide) (by decide)
          have q2 := c_i2c (x2 &&& (255 : Int32))
          have q3 := congrArg Int32.toInt hc_
          have q4 := (show ((nar .char c_).toInt - c_.toInt) % 65536 = 0 ∧ 0 ≤ (nar .char c_).toInt ∧ (nar .char c_).toInt < 65536 from c_i2c c_)
          have p0 := c556
          simp only [true_implies, Int32.lt_iff_toInt_lt, ← Int32.toInt_inj, Int32.reduceToInt, Int64.lt_iff_toInt_lt, ← Int64.toInt_inj, Int64.reduceToInt] at q0 q1 q2 q3 q4 p0 ⊢
          omega
        have c566 : ¬ ((255 : Int32) < c_) := by
          have q0 := rng32 x2
          have q1 := c_mask x2 (255 : Int32) 8 (by decide) (by decide)
          have q2 := c_i2c (x2 &&& (255 : Int32))
          have q3 := congrArg Int32.toInt hc_
          have q4 := (show ((nar .char c_).toInt - c_.toInt) % 65536 = 0 ∧ 0 ≤ (nar .char c_).toInt ∧ (nar .char c_).toInt < 65536 from c_i2c c_)
          have p0 := c556
          have p1 := c565
          simp only [true_implies, Int32.lt_iff_toInt_lt, ← Int32.toInt_inj, Int32.reduceToInt, Int64.lt_iff_toInt_lt, ← Int64.toInt_inj, Int64.reduceToInt] at q0 q1 q2 q3 q4 p0 p1 ⊢
          omega
        have hp564 : ∀ c ∈ ([116, 97, 120, 95, 121, 101, 110, c_] : List Int32), ¬ c < 0 ∧ ¬ (255 : Int32) < c := (own_lc (by decide) (own_lc (by decide) (own_lc (by decide) (own_lc (by decide) (own_lc (by decide) (own_lc (by decide) (own_lc (by decide) (own_lc ⟨c565, c566⟩ own_ln))))))))
        have f567 := (f555.ext E557)
        have K568 := (K560.ext E557)
        have f569 := (own_sta_keep S_COMPACT_STRINGS K568 all0)
        have Z570 := (Nat.le_trans Z558 E557.1)
        refine own_newS X557 hx hZ hown hw (hw _ (own_m 12 rfl)) (hw _ (own_m 13 rfl)) (hw _ (own_m 14 rfl)) (hw _ (own_m 10 rfl)) [116, 97, 120, 95, 121, 101, 110, c_] ge559 Z570 A557 f563 f562 f567 f569 hs_COMPACT_STRINGS (n := 8) rfl rfl (by decide) (by decide) hp564 (by decide) (W := 1) (by decide) (by decide) (by decide) e557 (by rw [hml]; rfl) (Nat.le_of_eq rfl) (hb hby at_185) ?_
        intro T564 L564 b564_0 kb564_0 X564 N564q K564 f564_0 f564_1 ge564_0 sz564_0 ne564_0 f564_2 f564_3
        have N564 := Fr.app N555 N564q
        have sz571 : h0.size ≤ b564_0 := Nat.le_trans K568.1 sz564_0
        show oG p e below _ (T564.setTop (mkF m 188 #[.val (.int x0), .val (.int x1), .val (.int x2), .val (.int 2), .val (.int sh_), .val (.int c_), .val (.int mu_), .val (.ref r_TAX), .unset, .unset, .val (.ref b553_0), .unset, .unset] [(.ref b557)]))
        refine og (fun _ hr => XS.astore X564.here hx rfl (hb hby at_188) rfl rfl (l' := #[.val (.int x0), .val (.int x1), .val (.int x2), .val (.int 2), .val (.int sh_), .val (.int c_), .val (.int mu_), .val (.ref r_TAX), .val (.ref b557), .unset, .val (.ref b553_0), .unset, .unset]) rfl (XS.aconstNull X564.here hx rfl (hb hby at_190) (XS.astore X564.here hx rfl (hb hby at_191) rfl rfl (l' := #[.val (.int x0), .val (.int x1), .val (.int x2), .val (.int 2), .val (.int sh_), .val (.int c_), .val (.int mu_), .val (.ref r_TAX), .val (.ref b557), .val .null, .val (.ref b553_0), .unset, .unset]) rfl (XS.goto X564.here hx rfl (pc0 := 193) (pc' := 231) rfl (hb hby at_193) (by decide) (by decide) (XS.aload X564.here hx rfl (hb hby at_231) rfl rfl hr))))) ?_
        show oG p e below _ (T564.setTop (mkF m 233 #[.val (.int x0), .val (.int x1), .val (.int x2), .val (.int 2), .val (.int sh_), .val (.int c_), .val (.int mu_), .val (.ref r_TAX), .val (.ref b557), .val .null, .val (.ref b553_0), .unset, .unset] [(.ref b557)]))
        have K573 := (K568.trans K564 (allS (Or.inr sz561) all0))
        have f574 := (own_sta_keep S__VALUES K573 all0)
        have f575 := (E__VALUES.keep K573)
        have f576 := (F_USAGE_header.keep K573 nin0)
        have f577 := (E_USAGE_header.keep K573)
        have f578 := (F_USAGE_header_coder.keep K573 nin0)
        have f579 := (F_USAGE_header_value.keep K573 nin0)
        have f580 := (F_CHARGE_header.keep K573 nin0)
        have f581 := (E_CHARGE_header.keep K573)
        have f582 := (F_CHARGE_header_coder.keep K573 nin0)
        have f583 := (F_CHARGE_header_value.keep K573 nin0)
        have f584 := (F_TAX_header.keep K573 nin0)
        have f585 := (E_TAX_header.keep K573)
        have f586 := (F_TAX_header_coder.keep K573 nin0)
        have f587 := (F_TAX_header_value.keep K573 nin0)
        have f588 := (F_GAS_PART_header.keep K573 nin0)
        have f589 := (E_GAS_PART_header.keep K573)
        have f590 := (F_GAS_PART_header_coder.keep K573 nin0)
        have f591 := (F_GAS_PART_header_value.keep K573 nin0)
        have f592 := (V__VALUES.keep K573 nin0)
        have f593 := (V_USAGE_header_value.keep K573 nin0)
        have f594 := (V_CHARGE_header_value.keep K573 nin0)
        have f595 := (V_TAX_header_value.keep K573 nin0)
        have f596 := (V_GAS_PART_header_value.keep K573 nin0)
        have f597 := (own_sta_keep f569 K564 (allS (own_ns_exa A557) all0))
        have f598 := (own_sta_keep S_EMPTY K573 all0)
        have f599 := (E_EMPTY.keep K573)
        have f600 := (F_EMPTY_value.keep K573 nin0)
        have Z601 := (Nat.le_trans Z570 K564.1)
        refine own_cs X564 hx hZ hown (hw _ (own_m 38 rfl)) (hw _ (own_m 39 rfl)) (hw _ (own_m 1 rfl)) (hw _ (own_m 40 rfl)) (by decide) (rm := { frames := 3, cells := 2, slots := 5, locals := 38 }) (rm_named_s l Z a0 hw [] b557 b564_0 kb564_0 (8 : Int32) [116, 97, 120, 95, 121, 101, 110, c_] ((List.map StrChars.lo8 [116, 97, 120, 95, 121, 101, 110, c_]).map Value.int) r_USAGE r__VALUES r_CHARGE r_TAX r_GAS_PART r_USAGE_header r_USAGE_header_value r_CHARGE_header r_CHARGE_header_value r_TAX_header r_TAX_header_value r_GAS_PART_header r_GAS_PART_header_value k__VALUES k_USAGE_header_value k_CHARGE_header_value k_TAX_header_value k_GAS_PART_header_value i_COMPACT_STRINGS v_SIOOBE_FORMATTER r_EMPTY T564.heap n0 Z601 f564_0 f564_1 f564_2 f564_3 (StrChars.Road.codOf (cs := [116, 97, 120, 95, 121, 101, 110, c_]) (n := 8) rfl (fun c hc => (hp564 c hc).2)) (own_up hp564) (Nat.le_of_ble_eq_true rfl) f574 f575 f576 f577 f578 f579 f580 f581 f582 f583 f584 f585 f586 f587 f588 f589 f590 f591 f592 f593 f594 f595 f596 f597 f598 f599 f600 hs_COMPACT_STRINGS hv_SIOOBE_FORMATTER) (by decide) (W := 0) (by decide) (by decide) (by decide) rfl (by rw [hml]; rfl) (argsL := [(.ref b557)]) (lenOf own_pd8 rfl) (rest := []) rfl rfl (Nat.le_of_eq rfl) (hb hby at_233) ?_
        intro _ T572 L572 X572 hQ572
        have c602 : (own_same own_tx0 [116, 97, 120, 95, 121, 101, 110, c_]) = (0 : Int32) := own_same_hd (show (117 : Int32) ≠ 116 from by decide)
        have c603 : (own_same own_tx1 [116, 97, 120, 95, 121, 101, 110, c_]) = (0 : Int32) := own_same_len (show (10 : Nat) ≠ 8 from by decide)
        have c604 : (own_same own_tx2 [116, 97, 120, 95, 121, 101, 110, c_]) = (0 : Int32) := own_same_len (show (7 : Nat) ≠ 8 from by decide)
        have c605 : (own_same own_tx3 [116, 97, 120, 95, 121, 101, 110, c_]) = (0 : Int32) := own_same_len (show (12 : Nat) ≠ 8 from by decide)
        have ev606 : (own_nm [116, 97, 120, 95, 121, 101, 110, c_] r_USAGE r_CHARGE r_TAX r_GAS_PART) = .null := by unfold own_nm; rw [if_pos c602, if_pos c603, if_pos c604, if_pos c605]
        unfold Q_named_s at hQ572; rw [ev606] at hQ572
        obtain ⟨b572_0, rfl, N572q, K572, f572_0, f572_1⟩ := hQ572
        have N572 := Fr.app N564 N572q
        show oG p e below _ (T572.setTop (mkF m 236 #[.val (.int x0), .val (.int x1), .val (.int x2), .val (.int 2), .val (.int sh_), .val (.int c_), .val (.int mu_), .val (.ref r_TAX), .val (.ref b557), .val .null, .val (.ref b553_0), .unset, .unset] [(.ref b572_0)]))
        refine og (fun _ hr => XS.aconstNull X572.here hx rfl (hb hby at_236) hr) ?_
        show oG p e below _ (T572.setTop (mkF m 237 #[.val (.int x0), .val (.int x1), .val (.int x2), .val (.int 2), .val (.int sh_), .val (.int c_), .val (.int mu_), .val (.ref r_TAX), .val (.ref b557), .val .null, .val (.ref b553_0), .unset, .unset] [.null, (.ref b572_0)]))
        have Z608 := (Nat.le_trans Z601 K572.1)
        refine own_cv X572 hx hZ hown (notFace_of_selects (args := #[]) (mvT hZ (hw _ (own_m 91 rfl)))) (hw _ (own_m 88 rfl)) (hw _ (own_m 89 rfl)) (hw _ (own_m 91 rfl)) (hw _ (own_m 90 rfl)) (hw _ (own_m 73 rfl)) (hw _ (own_m 92 rfl)) (by decide) f572_0 (rm := { frames := 0, cells := 0, slots := 0, locals := 0 }) (rm_orElse_7 l Z a0 hw [] b572_0 T572.heap n0 Z608 f572_1) (by decide) (W := 0) (by decide) (by decide) (by decide) rfl (by rw [hml]; rfl) (argsL := [.null]) (lenOf own_pd4 rfl) (rest := []) rfl rfl (Nat.le_of_eq rfl) (hb hby at_237) ?_
        intro _ T607 L607 X607 hQ607
        obtain ⟨rfl, N607q, e607⟩ := hQ607
        have N607 := Fr.app N572 N607q
        show oG p e below _ (T607.setTop (mkF m 240 #[.val (.int x0), .val (.int x1), .val (.int x2), .val (.int 2), .val (.int sh_), .val (.int c_), .val (.int mu_), .val (.ref r_TAX), .val (.ref b557), .val .null, .val (.ref b553_0), .unset, .unset] [.null]))
        refine og (X607.checkcastNull hx (g := (mkF m 240 #[.val (.int x0), .val (.int x1), .val (.int x2), .val (.int 2), .val (.int sh_), .val (.int c_), .val (.int mu_), .val (.ref r_TAX), .val (.ref b557), .val .null, .val (.ref b553_0), .unset, .unset] [.null])) rfl rfl (hb hby at_240)) ?_
        show oG p e below _ (T607.setTop (mkF m 243 #[.val (.int x0), .val (.int x1), .val (.int x2), .val (.int 2), .val (.int sh_), .val (.int c_), .val (.int mu_), .val (.ref r_TAX), .val (.ref b557), .val .null, .val (.ref b553_0), .unset, .unset] [.null]))
        refine og (fun _ hr => XS.astore X607.here hx rfl (hb hby at_243) rfl rfl (l' := #[.val (.int x0), .val (.int x1), .val (.int x2), .val (.int 2), .val (.int sh_), .val (.int c_), .val (.int mu_), .val (.ref r_TAX), .val (.ref b557), .val .null, .val .null, .unset, .unset]) rfl (XS.aload X607.here hx rfl (hb hby at_245) rfl rfl (XS.aload X607.here hx rfl (hb hby at_247) rfl rfl hr))) ?_
        show oG p e below _ (T607.setTop (mkF m 249 #[.val (.int x0), .val (.int x1), .val (.int x2), .val (.int 2), .val (.int sh_), .val (.int c_), .val (.int mu_), .val (.ref r_TAX), .val (.ref b557), .val .null, .val .null, .unset, .unset] [.null, .null]))
        refine og (fun _ hr => Jvm.RoadKit.acmp X607 hx rfl rfl rfl (pc0 := 249) (pc' := 252) (same := true) rfl (hb hby at_249) rfl (decide_eq_true rfl) (by decide) (by decide) hr) ?_
        show oG p e below _ (T607.setTop (mkF m 252 #[.val (.int x0), .val (.int x1), .val (.int x2), .val (.int 2), .val (.int sh_), .val (.int c_), .val (.int mu_), .val (.ref r_TAX), .val (.ref b557), .val .null, .val .null, .unset, .unset] []))
        refine og (fun _ hr => XS.iconst X607.here hx rfl (hb hby at_252) (XS.goto X607.here hx rfl (pc0 := 253) (pc' := 257) rfl (hb hby at_253) (by decide) (by decide) hr)) ?_
        show oG p e below _ (T607.setTop (mkF m 257 #[.val (.int x0), .val (.int x1), .val (.int x2), .val (.int 2), .val (.int sh_), .val (.int c_), .val (.int mu_), .val (.ref r_TAX), .val (.ref b557), .val .null, .val .null, .unset, .unset] [(.int 1)]))
        have hk609 := (Nat.le_trans (Nat.le_trans (Nat.le_trans (Nat.le_trans (Nat.le_trans hk K553.1) (Nat.le_of_eq W555.size.symm)) E557.1) K564.1) K572.1)
        have A610 := A0.trans (CHr.keep K553 sf0 A0.1)
        have sf612 := (Safe.keep K553 sf0 A0.1 (Safe.new sz553_0))
        have A611 := A610.trans (CHr.wr W555 sf612 A610.1)
        have A613 := A611.trans (CHr.ext E557 A611.1)
        have sf615 := (Safe.ext E557 A611.1 (Safe.new (Nat.le_of_eq g557.symm)))
        have A614 := A613.trans (CHr.keep K564 (sfS sf615 sf0) A613.1)
        have A616 := A614.trans (CHr.keep K572 sf0 A614.1)
        exact own_retNW X607 hx hlk Bd.returns hS hk609 hZ hEL hh e607 A616 (t := .boolean) (by simp) (hb hby at_257) (by decide) (by decide) ⟨rfl, N607⟩
      refine og (fun _ hr => XS.icmpYes X357.here hx rfl (pc0 := 160) (pc' := 196) rfl (hb hby at_160) rfl (feq c552).2 (by decide) (by decide) hr) ?_
      show oG p e below _ (T357.setTop (mkF m 196 #[.val (.int x0), .val (.int x1), .val (.int x2), .val (.int 2), .val (.int sh_), .val (.int c_), .val (.int mu_), .val (.ref r_TAX), .unset, .unset, .unset, .unset, .unset] []))
      refine og (fun _ hr => XS.iload X357.here hx rfl (hb hby at_196) rfl (XS.iconst X357.here hx rfl (hb hby at_198) hr)) ?_
      show oG p e below _ (T357.setTop (mkF m 199 #[.val (.int x0), .val (.int x1), .val (.int x2), .val (.int 2), .val (.int sh_), .val (.int c_), .val (.int mu_), .val (.ref r_TAX), .unset, .unset, .unset, .unset, .unset] [(.int 2), (.int sh_)]))
      rcases Classical.em (sh_ = (2 : Int32)) with c617 | c617
      · skip
        refine og (fun _ hr => XS.icmpNo X357.here hx rfl (hb hby at_199) rfl (teq c617).2 hr) ?_
        show oG p e below _ (T357.setTop (mkF m 202 #[.val (.int x0), .val (.int x1), .val (.int x2), .val (.int 2), .val (.int sh_), .val (.int c_), .val (.int mu_), .val (.ref r_TAX), .unset, .unset, .unset, .unset, .unset] []))
        refine og (fun _ hr => XS.iloadN X357.here hx rfl (hb hby at_202) rfl hr) ?_
        show oG p e below _ (T357.setTop (mkF m 203 #[.val (.int x0), .val (.int x1), .val (.int x2), .val (.int 2), .val (.int sh_), .val (.int c_), .val (.int mu_), .val (.ref r_TAX), .unset, .unset, .unset, .unset, .unset] [(.int 2)]))
        have hZo619 := hZ
        refine own_csW X357 hx hZ hown (hw _ (own_m 104 rfl)) (hw _ (own_m 105 rfl)) (hw _ (own_m 5 rfl)) (hw _ (own_m 106 rfl)) (by decide) (rm := { frames := 0, cells := 2, slots := 28, locals := 0 }) (rm_shorter_14 l Z a0 hw []  h0 n0 Z0 ) (by decide) (W := 0) (by decide) (by decide) (by decide) e357 hEL A0.1 hS hk (by rw [hml]; rfl) (argsL := [(.int 2)]) (lenOf own_pd9 rfl) (rest := []) rfl rfl (Nat.le_of_eq rfl) (hb hby at_203) ?_
        intro _ T618 L618 X618 hQ618 Ac618 hS hZ hown
        obtain ⟨b618_0, b618_1, kb618_0, rfl, N618q, K618, f618_0, f618_1, f618_2, f618_3⟩ := hQ618
        have N618 := Fr.app N0 N618q
        show oG p e below _ (T618.setTop (mkF m 206 #[.val (.int x0), .val (.int x1), .val (.int x2), .val (.int 2), .val (.int sh_), .val (.int c_), .val (.int mu_), .val (.ref r_TAX), .unset, .unset, .unset, .unset, .unset] [(.ref b618_0)]))
        refine og (fun _ hr => XS.astore X618.here hx rfl (hb hby at_206) rfl rfl (l' := #[.val (.int x0), .val (.int x1), .val (.int x2), .val (.int 2), .val (.int sh_), .val (.int c_), .val (.int mu_), .val (.ref r_TAX), .val (.ref b618_0), .unset, .unset, .unset, .unset]) rfl (XS.aconstNull X618.here hx rfl (hb hby at_208) (XS.astore X618.here hx rfl (hb hby at_209) rfl rfl (l' := #[.val (.int x0), .val (.int x1), .val (.int x2), .val (.int 2), .val (.int sh_), .val (.int c_), .val (.int mu_), .val (.ref r_TAX), .val (.ref b618_0), .val .null, .unset, .unset, .unset]) rfl (XS.goto X618.here hx rfl (pc0 := 211) (pc' := 231) rfl (hb hby at_211) (by decide) (by decide) (XS.aload X618.here hx rfl (hb hby at_231) rfl rfl hr))))) ?_
        show oG p e below _ (T618.setTop (mkF m 233 #[.val (.int x0), .val (.int x1), .val (.int x2), .val (.int 2), .val (.int sh_), .val (.int c_), .val (.int mu_), .val (.ref r_TAX), .val (.ref b618_0), .val .null, .unset, .unset, .unset] [(.ref b618_0)]))
        have f621 := (own_sta_keep S__VALUES K618 all0)
        have f622 := (E__VALUES.keep K618)
        have f623 := (F_USAGE_header.keep K618 nin0)
        have f624 := (E_USAGE_header.keep K618)
        have f625 := (F_USAGE_header_coder.keep K618 nin0)
        have f626 := (F_USAGE_header_value.keep K618 nin0)
        have f627 := (F_CHARGE_header.keep K618 nin0)
        have f628 := (E_CHARGE_header.keep K618)
        have f629 := (F_CHARGE_header_coder.keep K618 nin0)
        have f630 := (F_CHARGE_header_value.keep K618 nin0)
        have f631 := (F_TAX_header.keep K618 nin0)
        have f632 := (E_TAX_header.keep K618)
        have f633 := (F_TAX_header_coder.keep K618 nin0)
        have f634 := (F_TAX_header_value.keep K618 nin0)
        have f635 := (F_GAS_PART_header.keep K618 nin0)
        have f636 := (E_GAS_PART_header.keep K618)
        have f637 := (F_GAS_PART_header_coder.keep K618 nin0)
        have f638 := (F_GAS_PART_header_value.keep K618 nin0)
        have f639 := (V__VALUES.keep K618 nin0)
        have f640 := (V_USAGE_header_value.keep K618 nin0)
        have f641 := (V_CHARGE_header_value.keep K618 nin0)
        have f642 := (V_TAX_header_value.keep K618 nin0)
        have f643 := (V_GAS_PART_header_value.keep K618 nin0)
        have f644 := (own_sta_keep S_COMPACT_STRINGS K618 all0)
        have f645 := (own_sta_keep S_EMPTY K618 all0)
        have f646 := (E_EMPTY.keep K618)
        have f647 := (F_EMPTY_value.keep K618 nin0)
        have Z648 := (Nat.le_trans Z0 K618.1)
        refine own_cs X618 hx hZ hown (hw _ (own_m 38 rfl)) (hw _ (own_m 39 rfl)) (hw _ (own_m 1 rfl)) (hw _ (own_m 40 rfl)) (by decide) (rm := { frames := 3, cells := 2, slots := 5, locals := 38 }) (rm_named_s l Z a0 hw [] b618_0 b618_1 kb618_0 (6 : Int32) own_tx6 [(.int 116), (.int 97), (.int 120), (.int 95), (.int 121), (.int 101)] r_USAGE r__VALUES r_CHARGE r_TAX r_GAS_PART r_USAGE_header r_USAGE_header_value r_CHARGE_header r_CHARGE_header_value r_TAX_header r_TAX_header_value r_GAS_PART_header r_GAS_PART_header_value k__VALUES k_USAGE_header_value k_CHARGE_header_value k_TAX_header_value k_GAS_PART_header_value i_COMPACT_STRINGS v_SIOOBE_FORMATTER r_EMPTY T618.heap n0 Z648 f618_0 f618_1 f618_2 f618_3 own_cod6 own_hb6 (by decide) f621 f622 f623 f624 f625 f626 f627 f628 f629 f630 f631 f632 f633 f634 f635 f636 f637 f638 f639 f640 f641 f642 f643 f644 f645 f646 f647 hs_COMPACT_STRINGS hv_SIOOBE_FORMATTER) (by decide) (W := 0) (by decide) (by decide) (by decide) rfl (by rw [hml]; rfl) (argsL := [(.ref b618_0)]) (lenOf own_pd8 rfl) (rest := []) rfl rfl (Nat.le_of_eq rfl) (hb hby at_233) ?_
        intro _ T620 L620 X620 hQ620
        have c649 : (own_same own_tx0 own_tx6) = (0 : Int32) := by decide +kernel
        have c650 : (own_same own_tx1 own_tx6) = (0 : Int32) := by decide +kernel
        have c651 : (own_same own_tx2 own_tx6) = (0 : Int32) := by decide +kernel
        have c652 : (own_same own_tx3 own_tx6) = (0 : Int32) := by decide +kernel
        have ev653 : (own_nm own_tx6 r_USAGE r_CHARGE r_TAX r_GAS_PART) = .null := by unfold own_nm; rw [if_pos c649, if_pos c650, if_pos c651, if_pos c652]
        unfold Q_named_s at hQ620; rw [ev653] at hQ620
        obtain ⟨b620_0, rfl, N620q, K620, f620_0, f620_1⟩ := hQ620
        have N620 := Fr.app N618 N620q
        show oG p e below _ (T620.setTop (mkF m 236 #[.val (.int x0), .val (.int x1), .val (.int x2), .val (.int 2), .val (.int sh_), .val (.int c_), .val (.int mu_), .val (.ref r_TAX), .val (.ref b618_0), .val .null, .unset, .unset, .unset] [(.ref b620_0)]))
        refine og (fun _ hr => XS.aconstNull X620.here hx rfl (hb hby at_236) hr) ?_
        show oG p e below _ (T620.setTop (mkF m 237 #[.val (.int x0), .val (.int x1), .val (.int x2), .val (.int 2), .val (.int sh_), .val (.int c_), .val (.int mu_), .val (.ref r_TAX), .val (.ref b618_0), .val .null, .unset, .unset, .unset] [.null, (.ref b620_0)]))
        have Z655 := (Nat.le_trans Z648 K620.1)
        refine own_cv X620 hx hZ hown (notFace_of_selects (args := #[]) (mvT hZ (hw _ (own_m 91 rfl)))) (hw _ (own_m 88 rfl)) (hw _ (own_m 89 rfl)) (hw _ (own_m 91 rfl)) (hw _ (own_m 90 rfl)) (hw _ (own_m 73 rfl)) (hw _ (own_m 92 rfl)) (by decide) f620_0 (rm := { frames := 0, cells := 0, slots := 0, locals := 0 }) (rm_orElse_7 l Z a0 hw [] b620_0 T620.heap n0 Z655 f620_1) (by decide) (W := 0) (by decide) (by decide) (by decide) rfl (by rw [hml]; rfl) (argsL := [.null]) (lenOf own_pd4 rfl) (rest := []) rfl rfl (Nat.le_of_eq rfl) (hb hby at_237) ?_
        intro _ T654 L654 X654 hQ654
        obtain ⟨rfl, N654q, e654⟩ := hQ654
        have N654 := Fr.app N620 N654q
        show oG p e below _ (T654.setTop (mkF m 240 #[.val (.int x0), .val (.int x1), .val (.int x2), .val (.int 2), .val (.int sh_), .val (.int c_), .val (.int mu_), .val (.ref r_TAX), .val (.ref b618_0), .val .null, .unset, .unset, .unset] [.null]))
        refine og (X654.checkcastNull hx (g := (mkF m 240 #[.val (.int x0), .val (.int x1), .val (.int x2), .val (.int 2), .val (.int sh_), .val (.int c_), .val (.int mu_), .val (.ref r_TAX), .val (.ref b618_0), .val .null, .unset, .unset, .unset] [.null])) rfl rfl (hb hby at_240)) ?_
        show oG p e below _ (T654.setTop (mkF m 243 #[.val (.int x0), .val (.int x1), .val (.int x2), .val (.int 2), .val (.int sh_), .val (.int c_), .val (.int mu_), .val (.ref r_TAX), .val (.ref b618_0), .val .null, .unset, .unset, .unset] [.null]))
        refine og (fun _ hr => XS.astore X654.here hx rfl (hb hby at_243) rfl rfl (l' := #[.val (.int x0), .val (.int x1), .val (.int x2), .val (.int 2), .val (.int sh_), .val (.int c_), .val (.int mu_), .val (.ref r_TAX), .val (.ref b618_0), .val .null, .val .null, .unset, .unset]) rfl (XS.aload X654.here hx rfl (hb hby at_245) rfl rfl (XS.aload X654.here hx rfl (hb hby at_247) rfl rfl hr))) ?_
        show oG p e below _ (T654.setTop (mkF m 249 #[.val (.int x0), .val (.int x1), .val (.int x2), .val (.int 2), .val (.int sh_), .val (.int c_), .val (.int mu_), .val (.ref r_TAX), .val (.ref b618_0), .val .null, .val .null, .unset, .unset] [.null, .null]))
        refine og (fun _ hr => Jvm.RoadKit.acmp X654 hx rfl rfl rfl (pc0 := 249) (pc' := 252) (same := true) rfl (hb hby at_249) rfl (decide_eq_true rfl) (by decide) (by decide) hr) ?_
        show oG p e below _ (T654.setTop (mkF m 252 #[.val (.int x0), .val (.int x1), .val (.int x2), .val (.int 2), .val (.int sh_), .val (.int c_), .val (.int mu_), .val (.ref r_TAX), .val (.ref b618_0), .val .null, .val .null, .unset, .unset] []))
        refine og (fun _ hr => XS.iconst X654.here hx rfl (hb hby at_252) (XS.goto X654.here hx rfl (pc0 := 253) (pc' := 257) rfl (hb hby at_253) (by decide) (by decide) hr)) ?_
        show oG p e below _ (T654.setTop (mkF m 257 #[.val (.int x0), .val (.int x1), .val (.int x2), .val (.int 2), .val (.int sh_), .val (.int c_), .val (.int mu_), .val (.ref r_TAX), .val (.ref b618_0), .val .null, .val .null, .unset, .unset] [(.int 1)]))
        have hk656 := (Nat.le_trans (Nat.le_refl _) K620.1)
        have A657 := A0.trans Ac618
        have A658 := A657.trans (CHr.keep K620 sf0 A657.1)
        exact own_retNW X654 hx hlk Bd.returns hS hk656 hZ hEL hh e654 A658 (t := .boolean) (by simp) (hb hby at_257) (by decide) (by decide) ⟨rfl, N654⟩
      refine og (fun _ hr => XS.icmpYes X357.here hx rfl (pc0 := 199) (pc' := 214) rfl (hb hby at_199) rfl (feq c617).2 (by decide) (by decide) hr) ?_
      show oG p e below _ (T357.setTop (mkF m 214 #[.val (.int x0), .val (.int x1), .val (.int x2), .val (.int 2), .val (.int sh_), .val (.int c_), .val (.int mu_), .val (.ref r_TAX), .unset, .unset, .unset, .unset, .unset] []))
      refine og (fun _ hr => XS.iloadN X357.here hx rfl (hb hby at_214) rfl (XS.iconst X357.here hx rfl (hb hby at_215) (XS.iand X357.here hx rfl (hb hby at_216) rfl hr))) ?_
      show oG p e below _ (T357.setTop (mkF m 217 #[.val (.int x0), .val (.int x1), .val (.int x2), .val (.int 2), .val (.int sh_), .val (.int c_), .val (.int mu_), .val (.ref r_TAX), .unset, .unset, .unset, .unset, .unset] [(.int (x1 &&& (1 : Int32)))]))
      rcases Classical.em ((x1 &&& (1 : Int32)) = (0 : Int32)) with c659 | c659
      · skip
        refine og (fun _ hr => XS.ifNo X357.here hx rfl (hb hby at_217) rfl ((if0 _ _).trans (teq c659).2) hr) ?_
        show oG p e below _ (T357.setTop (mkF m 220 #[.val (.int x0), .val (.int x1), .val (.int x2), .val (.int 2), .val (.int sh_), .val (.int c_), .val (.int mu_), .val (.ref r_TAX), .unset, .unset, .unset, .unset, .unset] []))
        refine og (fun _ hr => XS.aconstNull X357.here hx rfl (hb hby at_220) (XS.goto X357.here hx rfl (pc0 := 221) (pc' := 226) rfl (hb hby at_221) (by decide) (by decide) (XS.astore X357.here hx rfl (hb hby at_226) rfl rfl (l' := #[.val (.int x0), .val (.int x1), .val (.int x2), .val (.int 2), .val (.int sh_), .val (.int c_), .val (.int mu_), .val (.ref r_TAX), .val .null, .unset, .unset, .unset, .unset]) rfl (XS.aconstNull X357.here hx rfl (hb hby at_228) (XS.astore X357.here hx rfl (hb hby at_229) rfl rfl (l' := #[.val (.int x0), .val (.int x1), .val (.int x2), .val (.int 2), .val (.int sh_), .val (.int c_), .val (.int mu_), .val (.ref r_TAX), .val .null, .val .null, .unset, .unset, .unset]) rfl (XS.aload X357.here hx rfl (hb hby at_231) rfl rfl hr)))))) ?_
        show oG p e below _ (T357.setTop (mkF m 233 #[.val (.int x0), .val (.int x1), .val (.int x2), .val (.int 2), .val (.int sh_), .val (.int c_), .val (.int mu_), .val (.ref r_TAX), .val .null, .val .null, .unset, .unset, .unset] [.null]))
        refine own_cs X357 hx hZ hown (hw _ (own_m 38 rfl)) (hw _ (own_m 39 rfl)) (hw _ (own_m 1 rfl)) (hw _ (own_m 40 rfl)) (by decide) (rm := { frames := 2, cells := 1, slots := 4, locals := 25 }) (rm_named_11 l Z a0 hw [] r__VALUES r_USAGE r_CHARGE r_TAX r_GAS_PART k__VALUES r_USAGE_header r_CHARGE_header r_TAX_header r_GAS_PART_header r_EMPTY h0 n0 Z0 S__VALUES V__VALUES E__VALUES F_USAGE_header E_USAGE_header F_CHARGE_header E_CHARGE_header F_TAX_header E_TAX_header F_GAS_PART_header E_GAS_PART_header S_EMPTY) (by decide) (W := 0) (by decide) (by decide) (by decide) e357 (by rw [hml]; rfl) (argsL := [.null]) (lenOf own_pd8 rfl) (rest := []) rfl rfl (Nat.le_of_eq rfl) (hb hby at_233) ?_
        intro _ T660 L660 X660 hQ660
        obtain ⟨rfl, N660q, K660⟩ := hQ660
        have N660 := Fr.app N0 N660q
        show oG p e below _ (T660.setTop (mkF m 236 #[.val (.int x0), .val (.int x1), .val (.int x2), .val (.int 2), .val (.int sh_), .val (.int c_), .val (.int mu_), .val (.ref r_TAX), .val .null, .val .null, .unset, .unset, .unset] [(.ref r_EMPTY)]))
        refine og (fun _ hr => XS.aconstNull X660.here hx rfl (hb hby at_236) hr) ?_
        show oG p e below _ (T660.setTop (mkF m 237 #[.val (.int x0), .val (.int x1), .val (.int x2), .val (.int 2), .val (.int sh_), .val (.int c_), .val (.int mu_), .val (.ref r_TAX), .val .null, .val .null, .unset, .unset, .unset] [.null, (.ref r_EMPTY)]))
        have f662 := (F_EMPTY_value.keep K660 nin0)
        have Z663 := (Nat.le_trans Z0 K660.1)
        have f664 := (E_EMPTY.keep K660)
        refine own_cv X660 hx hZ hown (notFace_of_selects (args := #[]) (mvT hZ (hw _ (own_m 91 rfl)))) (hw _ (own_m 88 rfl)) (hw _ (own_m 89 rfl)) (hw _ (own_m 91 rfl)) (hw _ (own_m 90 rfl)) (hw _ (own_m 73 rfl)) (hw _ (own_m 92 rfl)) (by decide) f664 (rm := { frames := 0, cells := 0, slots := 0, locals := 0 }) (rm_orElse_7 l Z a0 hw [] r_EMPTY T660.heap n0 Z663 f662) (by decide) (W := 0) (by decide) (by decide) (by decide) rfl (by rw [hml]; rfl) (argsL := [.null]) (lenOf own_pd4 rfl) (rest := []) rfl rfl (Nat.le_of_eq rfl) (hb hby at_237) ?_
        intro _ T661 L661 X661 hQ661
        obtain ⟨rfl, N661q, e661⟩ := hQ661
        have N661 := Fr.app N660 N661q
        show oG p e below _ (T661.setTop (mkF m 240 #[.val (.int x0), .val (.int x1), .val (.int x2), .val (.int 2), .val (.int sh_), .val (.int c_), .val (.int mu_), .val (.ref r_TAX), .val .null, .val .null, .unset, .unset, .unset] [.null]))
        refine og (X661.checkcastNull hx (g := (mkF m 240 #[.val (.int x0), .val (.int x1), .val (.int x2), .val (.int 2), .val (.int sh_), .val (.int c_), .val (.int mu_), .val (.ref r_TAX), .val .null, .val .null, .unset, .unset, .unset] [.null])) rfl rfl (hb hby at_240)) ?_
        show oG p e below _ (T661.setTop (mkF m 243 #[.val (.int x0), .val (.int x1), .val (.int x2), .val (.int 2), .val (.int sh_), .val (.int c_), .val (.int mu_), .val (.ref r_TAX), .val .null, .val .null, .unset, .unset, .unset] [.null]))
        refine og (fun _ hr => XS.astore X661.here hx rfl (hb hby at_243) rfl rfl (l' := #[.val (.int x0), .val (.int x1), .val (.int x2), .val (.int 2), .val (.int sh_), .val (.int c_), .val (.int mu_), .val (.ref r_TAX), .val .null, .val .null, .val .null, .unset, .unset]) rfl (XS.aload X661.here hx rfl (hb hby at_245) rfl rfl (XS.aload X661.here hx rfl (hb hby at_247) rfl rfl hr))) ?_
        show oG p e below _ (T661.setTop (mkF m 249 #[.val (.int x0), .val (.int x1), .val (.int x2), .val (.int 2), .val (.int sh_), .val (.int c_), .val (.int mu_), .val (.ref r_TAX), .val .null, .val .null, .val .null, .unset, .unset] [.null, .null]))
        refine og (fun _ hr => Jvm.RoadKit.acmp X661 hx rfl rfl rfl (pc0 := 249) (pc' := 252) (same := true) rfl (hb hby at_249) rfl (decide_eq_true rfl) (by decide) (by decide) hr) ?_
        show oG p e below _ (T661.setTop (mkF m 252 #[.val (.int x0), .val (.int x1), .val (.int x2), .val (.int 2), .val (.int sh_), .val (.int c_), .val (.int mu_), .val (.ref r_TAX), .val .null, .val .null, .val .null, .unset, .unset] []))
        refine og (fun _ hr => XS.iconst X661.here hx rfl (hb hby at_252) (XS.goto X661.here hx rfl (pc0 := 253) (pc' := 257) rfl (hb hby at_253) (by decide) (by decide) hr)) ?_
        show oG p e below _ (T661.setTop (mkF m 257 #[.val (.int x0), .val (.int x1), .val (.int x2), .val (.int 2), .val (.int sh_), .val (.int c_), .val (.int mu_), .val (.ref r_TAX), .val .null, .val .null, .val .null, .unset, .unset] [(.int 1)]))
        have hk665 := (Nat.le_trans hk K660.1)
        have A666 := A0.trans (CHr.keep K660 sf0 A0.1)
        exact own_retNW X661 hx hlk Bd.returns hS hk665 hZ hEL hh e661 A666 (t := .boolean) (by simp) (hb hby at_257) (by decide) (by decide) ⟨rfl, N661⟩
      refine og (fun _ hr => XS.ifYes X357.here hx rfl (pc0 := 217) (pc' := 224) rfl (hb hby at_217) rfl ((if0 _ _).trans (feq c659).2) (by decide) (by decide) hr) ?_
      show oG p e below _ (T357.setTop (mkF m 224 #[.val (.int x0), .val (.int x1), .val (.int x2), .val (.int 2), .val (.int sh_), .val (.int c_), .val (.int mu_), .val (.ref r_TAX), .unset, .unset, .unset, .unset, .unset] []))
      have hZo668 := hZ
      obtain ⟨a667, T667, h667, k1667, b667, k667, X667, e667, E667, hS, hk667, hZ, hown, EA667, FC667, FV667, AV667, -, -, Al667, -, ne667, st667⟩ := ldcCH X357 hx hZ hown (hw _ (own_m 112 rfl)) (own_ws hw) e357 hS hk hEL (by simp [own_EL]) A0.1 (vs := []) (z := (0 : Int32)) ⟨by decide, by decide⟩ (by decide) (by decide) (g := (mkF m 224 #[.val (.int x0), .val (.int x1), .val (.int x2), .val (.int 2), .val (.int sh_), .val (.int c_), .val (.int mu_), .val (.ref r_TAX), .unset, .unset, .unset, .unset, .unset] [])) rfl (hb hby at_224) (n := 0) (by decide) (by decide) (by decide) (by decide)
      refine og st667 ?_
      show oG p e below _ (T667.setTop (mkF m 226 #[.val (.int x0), .val (.int x1), .val (.int x2), .val (.int 2), .val (.int sh_), .val (.int c_), .val (.int mu_), .val (.ref r_TAX), .unset, .unset, .unset, .unset, .unset] [(.ref a667)]))
      refine og (fun _ hr => XS.astore X667.here hx rfl (hb hby at_226) rfl rfl (l' := #[.val (.int x0), .val (.int x1), .val (.int x2), .val (.int 2), .val (.int sh_), .val (.int c_), .val (.int mu_), .val (.ref r_TAX), .val (.ref a667), .unset, .unset, .unset, .unset]) rfl (XS.aconstNull X667.here hx rfl (hb hby at_228) (XS.astore X667.here hx rfl (hb hby at_229) rfl rfl (l' := #[.val (.int x0), .val (.int x1), .val (.int x2), .val (.int 2), .val (.int sh_), .val (.int c_), .val (.int mu_), .val (.ref r_TAX), .val (.ref a667), .val .null, .unset, .unset, .unset]) rfl (XS.aload X667.here hx rfl (hb hby at_231) rfl rfl hr)))) ?_
      show oG p e below _ (T667.setTop (mkF m 233 #[.val (.int x0), .val (.int x1), .val (.int x2), .val (.int 2), .val (.int sh_), .val (.int c_), .val (.int mu_), .val (.ref r_TAX), .val (.ref a667), .val .null, .unset, .unset, .unset] [(.ref a667)]))
      have f670 := (S__VALUES.ext E667)
      have f671 := (E__VALUES.ext E667)
      have f672 := (F_USAGE_header.ext E667)
      have f673 := (E_USAGE_header.ext E667)
      have f674 := (F_USAGE_header_coder.ext E667)
      have f675 := (F_USAGE_header_value.ext E667)
      have f676 := (F_CHARGE_header.ext E667)
      have f677 := (E_CHARGE_header.ext E667)
      have f678 := (F_CHARGE_header_coder.ext E667)
      have f679 := (F_CHARGE_header_value.ext E667)
      have f680 := (F_TAX_header.ext E667)
      have f681 := (E_TAX_header.ext E667)
      have f682 := (F_TAX_header_coder.ext E667)
      have f683 := (F_TAX_header_value.ext E667)
      have f684 := (F_GAS_PART_header.ext E667)
      have f685 := (E_GAS_PART_header.ext E667)
      have f686 := (F_GAS_PART_header_coder.ext E667)
      have f687 := (F_GAS_PART_header_value.ext E667)
      have f688 := (V__VALUES.ext E667)
      have f689 := (V_USAGE_header_value.ext E667)
      have f690 := (V_CHARGE_header_value.ext E667)
      have f691 := (V_TAX_header_value.ext E667)
      have f692 := (V_GAS_PART_header_value.ext E667)
      have f693 := (S_COMPACT_STRINGS.ext E667)
      have f694 := (S_EMPTY.ext E667)
      have f695 := (E_EMPTY.ext E667)
      have f696 := (F_EMPTY_value.ext E667)
      have Z697 := (Nat.le_trans Z0 E667.1)
      refine own_cs X667 hx hZ hown (hw _ (own_m 38 rfl)) (hw _ (own_m 39 rfl)) (hw _ (own_m 1 rfl)) (hw _ (own_m 40 rfl)) (by decide) (rm := { frames := 3, cells := 2, slots := 5, locals := 38 }) (rm_named_s l Z a0 hw [] a667 b667 k667 (0 : Int32) own_tx5 [] r_USAGE r__VALUES r_CHARGE r_TAX r_GAS_PART r_USAGE_header r_USAGE_header_value r_CHARGE_header r_CHARGE_header_value r_TAX_header r_TAX_header_value r_GAS_PART_header r_GAS_PART_header_value k__VALUES k_USAGE_header_value k_CHARGE_header_value k_TAX_header_value k_GAS_PART_header_value i_COMPACT_STRINGS v_SIOOBE_FORMATTER r_EMPTY h667 n0 Z697 EA667 FC667 FV667 AV667 own_cod5 own_hb5 (by decide) f670 f671 f672 f673 f674 f675 f676 f677 f678 f679 f680 f681 f682 f683 f684 f685 f686 f687 f688 f689 f690 f691 f692 f693 f694 f695 f696 hs_COMPACT_STRINGS hv_SIOOBE_FORMATTER) (by decide) (W := 0) (by decide) (by decide) (by decide) e667 (by rw [hml]; rfl) (argsL := [(.ref a667)]) (lenOf own_pd8 rfl) (rest := []) rfl rfl (Nat.le_of_eq rfl) (hb hby at_233) ?_
      intro _ T669 L669 X669 hQ669
      have c698 : (own_same own_tx0 own_tx5) = (0 : Int32) := by decide +kernel
      have c699 : (own_same own_tx1 own_tx5) = (0 : Int32) := by decide +kernel
      have c700 : (own_same own_tx2 own_tx5) = (0 : Int32) := by decide +kernel
      have c701 : (own_same own_tx3 own_tx5) = (0 : Int32) := by decide +kernel
      have ev702 : (own_nm own_tx5 r_USAGE r_CHARGE r_TAX r_GAS_PART) = .null := by unfold own_nm; rw [if_pos c698, if_pos c699, if_pos c700, if_pos c701]
      unfold Q_named_s at hQ669; rw [ev702] at hQ669
      obtain ⟨b669_0, rfl, N669q, K669, f669_0, f669_1⟩ := hQ669
      have N669 := Fr.app N0 N669q
      show oG p e below _ (T669.setTop (mkF m 236 #[.val (.int x0), .val (.int x1), .val (.int x2), .val (.int 2), .val (.int sh_), .val (.int c_), .val (.int mu_), .val (.ref r_TAX), .val (.ref a667), .val .null, .unset, .unset, .unset] [(.ref b669_0)]))
      refine og (fun _ hr => XS.aconstNull X669.here hx rfl (hb hby at_236) hr) ?_
      show oG p e below _ (T669.setTop (mkF m 237 #[.val (.int x0), .val (.int x1), .val (.int x2), .val (.int 2), .val (.int sh_), .val (.int c_), .val (.int mu_), .val (.ref r_TAX), .val (.ref a667), .val .null, .unset, .unset, .unset] [.null, (.ref b669_0)]))
      have Z704 := (Nat.le_trans Z697 K669.1)
      refine own_cv X669 hx hZ hown (notFace_of_selects (args := #[]) (mvT hZ (hw _ (own_m 91 rfl)))) (hw _ (own_m 88 rfl)) (hw _ (own_m 89 rfl)) (hw _ (own_m 91 rfl)) (hw _ (own_m 90 rfl)) (hw _ (own_m 73 rfl)) (hw _ (own_m 92 rfl)) (by decide) f669_0 (rm := { frames := 0, cells := 0, slots := 0, locals := 0 }) (rm_orElse_7 l Z a0 hw [] b669_0 T669.heap n0 Z704 f669_1) (by decide) (W := 0) (by decide) (by decide) (by decide) rfl (by rw [hml]; rfl) (argsL := [.null]) (lenOf own_pd4 rfl) (rest := []) rfl rfl (Nat.le_of_eq rfl) (hb hby at_237) ?_
      intro _ T703 L703 X703 hQ703
      obtain ⟨rfl, N703q, e703⟩ := hQ703
      have N703 := Fr.app N669 N703q
      show oG p e below _ (T703.setTop (mkF m 240 #[.val (.int x0), .val (.int x1), .val (.int x2), .val (.int 2), .val (.int sh_), .val (.int c_), .val (.int mu_), .val (.ref r_TAX), .val (.ref a667), .val .null, .unset, .unset, .unset] [.null]))
      refine og (X703.checkcastNull hx (g := (mkF m 240 #[.val (.int x0), .val (.int x1), .val (.int x2), .val (.int 2), .val (.int sh_), .val (.int c_), .val (.int mu_), .val (.ref r_TAX), .val (.ref a667), .val .null, .unset, .unset, .unset] [.null])) rfl rfl (hb hby at_240)) ?_
      show oG p e below _ (T703.setTop (mkF m 243 #[.val (.int x0), .val (.int x1), .val (.int x2), .val (.int 2), .val (.int sh_), .val (.int c_), .val (.int mu_), .val (.ref r_TAX), .val (.ref a667), .val .null, .unset, .unset, .unset] [.null]))
      refine og (fun _ hr => XS.astore X703.here hx rfl (hb hby at_243) rfl rfl (l' := #[.val (.int x0), .val (.int x1), .val (.int x2), .val (.int 2), .val (.int sh_), .val (.int c_), .val (.int mu_), .val (.ref r_TAX), .val (.ref a667), .val .null, .val .null, .unset, .unset]) rfl (XS.aload X703.here hx rfl (hb hby at_245) rfl rfl (XS.aload X703.here hx rfl (hb hby at_247) rfl rfl hr))) ?_
      show oG p e below _ (T703.setTop (mkF m 249 #[.val (.int x0), .val (.int x1), .val (.int x2), .val (.int 2), .val (.int sh_), .val (.int c_), .val (.int mu_), .val (.ref r_TAX), .val (.ref a667), .val .null, .val .null, .unset, .unset] [.null, .null]))
      refine og (fun _ hr => Jvm.RoadKit.acmp X703 hx rfl rfl rfl (pc0 := 249) (pc' := 252) (same := true) rfl (hb hby at_249) rfl (decide_eq_true rfl) (by decide) (by decide) hr) ?_
      show oG p e below _ (T703.setTop (mkF m 252 #[.val (.int x0), .val (.int x1), .val (.int x2), .val (.int 2), .val (.int sh_), .val (.int c_), .val (.int mu_), .val (.ref r_TAX), .val (.ref a667), .val .null, .val .null, .unset, .unset] []))
      refine og (fun _ hr => XS.iconst X703.here hx rfl (hb hby at_252) (XS.goto X703.here hx rfl (pc0 := 253) (pc' := 257) rfl (hb hby at_253) (by decide) (by decide) hr)) ?_
      show oG p e below _ (T703.setTop (mkF m 257 #[.val (.int x0), .val (.int x1), .val (.int x2), .val (.int 2), .val (.int sh_), .val (.int c_), .val (.int mu_), .val (.ref r_TAX), .val (.ref a667), .val .null, .val .null, .unset, .unset] [(.int 1)]))
      have hk705 := (Nat.le_trans hk667 K669.1)
      have A706 := A0.trans Al667
      have A707 := A706.trans (CHr.keep K669 sf0 A706.1)
      exact own_retNW X703 hx hlk Bd.returns hS hk705 hZ hEL hh e703 A707 (t := .boolean) (by simp) (hb hby at_257) (by decide) (by decide) ⟨rfl, N703⟩
    rcases Classical.em (k_ = (1 : Int32)) with c708 | c708
    · rw [c708]
      show oG p e below _ (s₁.setTop (mkF m 34 #[.val (.int x0), .val (.int x1), .val (.int x2), .val (.int 1), .val (.int sh_), .val (.int c_), .val (.int mu_), .unset, .unset, .unset, .unset, .unset, .unset] []))
      refine og (fun _ hr => XS.iloadN X0.here hx rfl (hb hby at_34) rfl (XS.ifYes X0.here hx rfl (pc0 := 35) (pc' := 46) rfl (hb hby at_35) rfl ((if0 _ _).trans (feq (by decide)).2) (by decide) (by decide) (XS.iloadN X0.here hx rfl (hb hby at_46) rfl (XS.iconst X0.here hx rfl (hb hby at_47) (XS.icmpNo X0.here hx rfl (hb hby at_48) rfl (teq (by decide)).2 hr))))) ?_
      show oG p e below _ (s₁.setTop (mkF m 51 #[.val (.int x0), .val (.int x1), .val (.int x2), .val (.int 1), .val (.int sh_), .val (.int c_), .val (.int mu_), .unset, .unset, .unset, .unset, .unset, .unset] []))
      obtain ⟨T709, X709, e709, st709⟩ := getS2 X0 hx hZ hown (host := "") (Or.inl (hw _ (own_m 95 rfl))) Via.refl e0 S_CHARGE (g := (mkF m 51 #[.val (.int x0), .val (.int x1), .val (.int x2), .val (.int 1), .val (.int sh_), .val (.int c_), .val (.int mu_), .unset, .unset, .unset, .unset, .unset, .unset] [])) rfl (hb hby at_51)
      refine og st709 ?_
      show oG p e below _ (T709.setTop (mkF m 54 #[.val (.int x0), .val (.int x1), .val (.int x2), .val (.int 1), .val (.int sh_), .val (.int c_), .val (.int mu_), .unset, .unset, .unset, .unset, .unset, .unset] [(.ref r_CHARGE)]))
      refine og (fun _ hr => XS.astore X709.here hx rfl (hb hby at_54) rfl rfl (l' := #[.val (.int x0), .val (.int x1), .val (.int x2), .val (.int 1), .val (.int sh_), .val (.int c_), .val (.int mu_), .val (.ref r_CHARGE), .unset, .unset, .unset, .unset, .unset]) rfl (XS.goto X709.here hx rfl (pc0 := 56) (pc' := 77) rfl (hb hby at_56) (by decide) (by decide) (XS.iload X709.here hx rfl (hb hby at_77) rfl hr))) ?_
      show oG p e below _ (T709.setTop (mkF m 79 #[.val (.int x0), .val (.int x1), .val (.int x2), .val (.int 1), .val (.int sh_), .val (.int c_), .val (.int mu_), .val (.ref r_CHARGE), .unset, .unset, .unset, .unset, .unset] [(.int sh_)]))
      rcases Classical.em (sh_ = (0 : Int32)) with c710 | c710
      · skip
        refine og (fun _ hr => XS.ifNo X709.here hx rfl (hb hby at_79) rfl ((if0 _ _).trans (teq c710).2) hr) ?_
        show oG p e below _ (T709.setTop (mkF m 82 #[.val (.int x0), .val (.int x1), .val (.int x2), .val (.int 1), .val (.int sh_), .val (.int c_), .val (.int mu_), .val (.ref r_CHARGE), .unset, .unset, .unset, .unset, .unset] []))
        refine og (fun _ hr => XS.iloadN X709.here hx rfl (hb hby at_82) rfl hr) ?_
        show oG p e below _ (T709.setTop (mkF m 83 #[.val (.int x0), .val (.int x1), .val (.int x2), .val (.int 1), .val (.int sh_), .val (.int c_), .val (.int mu_), .val (.ref r_CHARGE), .unset, .unset, .unset, .unset, .unset] [(.int 1)]))
        refine own_cs X709 hx hZ hown (hw _ (own_m 3 rfl)) (hw _ (own_m 4 rfl)) (hw _ (own_m 5 rfl)) (hw _ (own_m 6 rfl)) (by decide) (rm := { frames := 0, cells := 1, slots := 10, locals := 0 }) (rm_exact_15 l Z a0 hw []  h0 n0 Z0 ) (by decide) (W := 0) (by decide) (by decide) (by decide) e709 (by rw [hml]; rfl) (argsL := [(.int 1)]) (lenOf own_pd7 rfl) (rest := []) rfl rfl (Nat.le_of_eq rfl) (hb hby at_83) ?_
        intro _ T711 L711 X711 hQ711
        obtain ⟨b711_0, kb711_0, rfl, N711q, K711, ge711_0, sz711_0, f711_0, f711_1⟩ := hQ711
        have N711 := Fr.app N0 N711q
        have sz712 : h0.size ≤ b711_0 := Nat.le_trans K0.1 sz711_0
        show oG p e below _ (T711.setTop (mkF m 86 #[.val (.int x0), .val (.int x1), .val (.int x2), .val (.int 1), .val (.int sh_), .val (.int c_), .val (.int mu_), .val (.ref r_CHARGE), .unset, .unset, .unset, .unset, .unset] [(.ref b711_0)]))
        refine og (fun _ hr => XS.astore X711.here hx rfl (hb hby at_86) rfl rfl (l' := #[.val (.int x0), .val (.int x1), .val (.int x2), .val (.int 1), .val (.int sh_), .val (.int c_), .val (.int mu_), .val (.ref r_CHARGE), .unset, .unset, .val (.ref b711_0), .unset, .unset]) rfl (XS.iloadN X711.here hx rfl (hb hby at_88) rfl hr)) ?_
        show oG p e below _ (T711.setTop (mkF m 89 #[.val (.int x0), .val (.int x1), .val (.int x2), .val (.int 1), .val (.int sh_), .val (.int c_), .val (.int mu_), .val (.ref r_CHARGE), .unset, .unset, .val (.ref b711_0), .unset, .unset] [(.int x1)]))
        refine og (X711.ldcInt hx hown (mvT hZ (hw _ (own_m 8 rfl))) rfl (hb hby at_89)) ?_
        show oG p e below _ (T711.setTop (mkF m 91 #[.val (.int x0), .val (.int x1), .val (.int x2), .val (.int 1), .val (.int sh_), .val (.int c_), .val (.int mu_), .val (.ref r_CHARGE), .unset, .unset, .val (.ref b711_0), .unset, .unset] [(.int 2147483647), (.int x1)]))
        refine og (fun _ hr => XS.iand X711.here hx rfl (hb hby at_91) rfl (XS.aload X711.here hx rfl (hb hby at_92) rfl rfl (own_alen X711 hx hZ rfl f711_1 rfl rfl (hb hby at_94) hr))) ?_
        show oG p e below _ (T711.setTop (mkF m 95 #[.val (.int x0), .val (.int x1), .val (.int x2), .val (.int 1), .val (.int sh_), .val (.int c_), .val (.int mu_), .val (.ref r_CHARGE), .unset, .unset, .val (.ref b711_0), .unset, .unset] [(.int 10), (.int (x1 &&& (2147483647 : Int32)))]))
        have nz713 : (10 : Int32) ≠ (0 : Int32) := by decide
        refine og (fun _ hr => iremM X711 hx rfl (hb hby at_95) rfl nz713 hr) ?_
        show oG p e below _ (T711.setTop (mkF m 96 #[.val (.int x0), .val (.int x1), .val (.int x2), .val (.int 1), .val (.int sh_), .val (.int c_), .val (.int mu_), .val (.ref r_CHARGE), .unset, .unset, .val (.ref b711_0), .unset, .unset] [(.int ((x1 &&& (2147483647 : Int32)) % (10 : Int32)))]))
        refine og (fun _ hr => XS.istore X711.here hx rfl (hb hby at_96) rfl (l' := #[.val (.int x0), .val (.int x1), .val (.int x2), .val (.int 1), .val (.int sh_), .val (.int c_), .val (.int mu_), .val (.ref r_CHARGE), .unset, .unset, .val (.ref b711_0), .val (.int ((x1 &&& (2147483647 : Int32)) % (10 : Int32))), .unset]) rfl hr) ?_
        show oG p e below _ (T711.setTop (mkF m 98 #[.val (.int x0), .val (.int x1), .val (.int x2), .val (.int 1), .val (.int sh_), .val (.int c_), .val (.int mu_), .val (.ref r_CHARGE), .unset, .unset, .val (.ref b711_0), .val (.int ((x1 &&& (2147483647 : Int32)) % (10 : Int32))), .unset] []))
        generalize hp_ : ((x1 &&& (2147483647 : Int32)) % (10 : Int32)) = p_
        refine og (fun _ hr => XS.iconst X711.here hx rfl (hb hby at_98) (XS.istore X711.here hx rfl (hb hby at_99) rfl (l' := #[.val (.int x0), .val (.int x1), .val (.int x2), .val (.int 1), .val (.int sh_), .val (.int c_), .val (.int mu_), .val (.ref r_CHARGE), .unset, .unset, .val (.ref b711_0), .val (.int p_), .val (.int 1)]) rfl (XS.iload X711.here hx rfl (hb hby at_101) rfl hr))) ?_
        show oG p e below _ (T711.setTop (mkF m 103 #[.val (.int x0), .val (.int x1), .val (.int x2), .val (.int 1), .val (.int sh_), .val (.int c_), .val (.int mu_), .val (.ref r_CHARGE), .unset, .unset, .val (.ref b711_0), .val (.int p_), .val (.int 1)] [(.int mu_)]))
        rcases Classical.em (mu_ = (0 : Int32)) with c714 | c714
        · skip
          refine og (fun _ hr => XS.ifYes X711.here hx rfl (pc0 := 103) (pc' := 130) rfl (hb hby at_103) rfl ((if0 _ _).trans (teq c714).1) (by decide) (by decide) hr) ?_
          show oG p e below _ (T711.setTop (mkF m 130 #[.val (.int x0), .val (.int x1), .val (.int x2), .val (.int 1), .val (.int sh_), .val (.int c_), .val (.int mu_), .val (.ref r_CHARGE), .unset, .unset, .val (.ref b711_0), .val (.int p_), .val (.int 1)] []))
          obtain ⟨T715, h715, X715, e715, E715, A715, D715, -, st715⟩ := newO X711 hx hZ hown (hw _ (own_m 9 rfl)) (hw _ (own_m 10 rfl)) (hw _ (own_m 11 rfl)) rfl (g := (mkF m 130 #[.val (.int x0), .val (.int x1), .val (.int x2), .val (.int 1), .val (.int sh_), .val (.int c_), .val (.int mu_), .val (.ref r_CHARGE), .unset, .unset, .val (.ref b711_0), .val (.int p_), .val (.int 1)] [])) rfl (hb hby at_130) (by decide) (by decide)
          obtain ⟨b715, g715⟩ : ∃ z, z = T711.heap.size := ⟨_, rfl⟩
          rw [← g715] at A715 D715 st715
          have Z716 := (Nat.le_trans Z0 K711.1)
          have ge717 : n0 ≤ b715 := Nat.le_trans Z716 (Nat.le_of_eq g715.symm)
          have K718 := (K0.trans K711 all0)
          have sz719 : h0.size ≤ b715 := Nat.le_trans K718.1 (Nat.le_of_eq g715.symm)
          refine og st715 ?_
          have f720 : Fld Z h715 b715 "java/lang/String" "coder" "B" (.int 0) := D715 (Or.inr (hw _ (own_m 35 rfl))) (ty := .byte) (by decide)
          have f721 : Fld Z h715 b715 "java/lang/String" "value" "[B" .null := D715 (Or.inr (hw _ (own_m 37 rfl))) (ty := (.array .byte)) (by decide)
          show oG p e below _ (T715.setTop (mkF m 133 #[.val (.int x0), .val (.int x1), .val (.int x2), .val (.int 1), .val (.int sh_), .val (.int c_), .val (.int mu_), .val (.ref r_CHARGE), .unset, .unset, .val (.ref b711_0), .val (.int p_), .val (.int 1)] [(.ref b715)]))
          refine og (fun _ hr => XS.dup X715.here hx rfl (hb hby at_133) rfl rfl (XS.aload X715.here hx rfl (hb hby at_134) rfl rfl hr)) ?_
          show oG p e below _ (T715.setTop (mkF m 136 #[.val (.int x0), .val (.int x1), .val (.int x2), .val (.int 1), .val (.int sh_), .val (.int c_), .val (.int mu_), .val (.ref r_CHARGE), .unset, .unset, .val (.ref b711_0), .val (.int p_), .val (.int 1)] [(.ref b711_0), (.ref b715), (.ref b715)]))
          have hp722 : ∀ c ∈ ([99, 104, 97, 114, 103, 101, 95, 121, 101, 110] : List Int32), ¬ c < 0 ∧ ¬ (255 : Int32) < c := (own_lc (by decide) (own_lc (by decide) (own_lc (by decide) (own_lc (by decide) (own_lc (by decide) (own_lc (by decide) (own_lc (by decide) (own_lc (by decide) (own_lc (by decide) (own_lc (by decide) own_ln))))))))))
          have f723 := (f711_1.ext E715)
          have f724 := ((own_sta_keep S_COMPACT_STRINGS K711 all0).ext E715)
          have Z725 := (Nat.le_trans Z716 E715.1)
          refine own_newS X715 hx hZ hown hw (hw _ (own_m 12 rfl)) (hw _ (own_m 13 rfl)) (hw _ (own_m 14 rfl)) (hw _ (own_m 10 rfl)) [99, 104, 97, 114, 103, 101, 95, 121, 101, 110] ge717 Z725 A715 f721 f720 f723 f724 hs_COMPACT_STRINGS (n := 10) rfl rfl (by decide) (by decide) hp722 (by decide) (W := 1) (by decide) (by decide) (by decide) e715 (by rw [hml]; rfl) (Nat.le_of_eq rfl) (hb hby at_136) ?_
          intro T722 L722 b722_0 kb722_0 X722 N722q K722 f722_0 f722_1 ge722_0 sz722_0 ne722_0 f722_2 f722_3
          have N722 := Fr.app N711 N722q
          have K727 := (K718.ext E715)
          have sz726 : h0.size ≤ b722_0 := Nat.le_trans K727.1 sz722_0
          show oG p e below _ (T722.setTop (mkF m 139 #[.val (.int x0), .val (.int x1), .val (.int x2), .val (.int 1), .val (.int sh_), .val (.int c_), .val (.int mu_), .val (.ref r_CHARGE), .unset, .unset, .val (.ref b711_0), .val (.int p_), .val (.int 1)] [(.ref b715)]))
          refine og (fun _ hr => XS.astore X722.here hx rfl (hb hby at_139) rfl rfl (l' := #[.val (.int x0), .val (.int x1), .val (.int x2), .val (.int 1), .val (.int sh_), .val (.int c_), .val (.int mu_), .val (.ref r_CHARGE), .val (.ref b715), .unset, .val (.ref b711_0), .val (.int p_), .val (.int 1)]) rfl (XS.iload X722.here hx rfl (hb hby at_141) rfl (XS.ifNo X722.here hx rfl (hb hby at_143) rfl ((if0 _ _).trans (feq (by decide)).1) (XS.aload X722.here hx rfl (hb hby at_146) rfl rfl (XS.goto X722.here hx rfl (pc0 := 148) (pc' := 152) rfl (hb hby at_148) (by decide) (by decide) (XS.astore X722.here hx rfl (hb hby at_152) rfl rfl (l' := #[.val (.int x0), .val (.int x1), .val (.int x2), .val (.int 1), .val (.int sh_), .val (.int c_), .val (.int mu_), .val (.ref r_CHARGE), .val (.ref b715), .val (.ref r_CHARGE), .val (.ref b711_0), .val (.int p_), .val (.int 1)]) rfl (XS.goto X722.here hx rfl (pc0 := 154) (pc' := 231) rfl (hb hby at_154) (by decide) (by decide) (XS.aload X722.here hx rfl (hb hby at_231) rfl rfl hr)))))))) ?_
          show oG p e below _ (T722.setTop (mkF m 233 #[.val (.int x0), .val (.int x1), .val (.int x2), .val (.int 1), .val (.int sh_), .val (.int c_), .val (.int mu_), .val (.ref r_CHARGE), .val (.ref b715), .val (.ref r_CHARGE), .val (.ref b711_0), .val (.int p_), .val (.int 1)] [(.ref b715)]))
          have K729 := (K727.trans K722 (allS (Or.inr sz719) all0))
          have f730 := (own_sta_keep S__VALUES K729 all0)
          have f731 := (E__VALUES.keep K729)
          have f732 := (F_USAGE_header.keep K729 nin0)
          have f733 := (E_USAGE_header.keep K729)
          have f734 := (F_USAGE_header_coder.keep K729 nin0)
          have f735 := (F_USAGE_header_value.keep K729 nin0)
          have f736 := (F_CHARGE_header.keep K729 nin0)
          have f737 := (E_CHARGE_header.keep K729)
          have f738 := (F_CHARGE_header_coder.keep K729 nin0)
          have f739 := (F_CHARGE_header_value.keep K729 nin0)
          have f740 := (F_TAX_header.keep K729 nin0)
          have f741 := (E_TAX_header.keep K729)
          have f742 := (F_TAX_header_coder.keep K729 nin0)
          have f743 := (F_TAX_header_value.keep K729 nin0)
          have f744 := (F_GAS_PART_header.keep K729 nin0)
          have f745 := (E_GAS_PART_header.keep K729)
          have f746 := (F_GAS_PART_header_coder.keep K729 nin0)
          have f747 := (F_GAS_PART_header_value.keep K729 nin0)
          have f748 := (V__VALUES.keep K729 nin0)
          have f749 := (V_USAGE_header_value.keep K729 nin0)
          have f750 := (V_CHARGE_header_value.keep K729 nin0)
          have f751 := (V_TAX_header_value.keep K729 nin0)
          have f752 := (V_GAS_PART_header_value.keep K729 nin0)
          have f753 := (own_sta_keep f724 K722 (allS (own_ns_exa A715) all0))
          have f754 := (own_sta_keep S_EMPTY K729 all0)
          have f755 := (E_EMPTY.keep K729)
          have f756 := (F_EMPTY_value.keep K729 nin0)
          have Z757 := (Nat.le_trans Z725 K722.1)
          refine own_cs X722 hx hZ hown (hw _ (own_m 38 rfl)) (hw _ (own_m 39 rfl)) (hw _ (own_m 1 rfl)) (hw _ (own_m 40 rfl)) (by decide) (rm := { frames := 3, cells := 2, slots := 5, locals := 38 }) (rm_named_s l Z a0 hw [] b715 b722_0 kb722_0 (10 : Int32) [99, 104, 97, 114, 103, 101, 95, 121, 101, 110] ((List.map StrChars.lo8 [99, 104, 97, 114, 103, 101, 95, 121, 101, 110]).map Value.int) r_USAGE r__VALUES r_CHARGE r_TAX r_GAS_PART r_USAGE_header r_USAGE_header_value r_CHARGE_header r_CHARGE_header_value r_TAX_header r_TAX_header_value r_GAS_PART_header r_GAS_PART_header_value k__VALUES k_USAGE_header_value k_CHARGE_header_value k_TAX_header_value k_GAS_PART_header_value i_COMPACT_STRINGS v_SIOOBE_FORMATTER r_EMPTY T722.heap n0 Z757 f722_0 f722_1 f722_2 f722_3 (StrChars.Road.codOf (cs := [99, 104, 97, 114, 103, 101, 95, 121, 101, 110]) (n := 10) rfl (fun c hc => (hp722 c hc).2)) (own_up hp722) (Nat.le_of_ble_eq_true rfl) f730 f731 f732 f733 f734 f735 f736 f737 f738 f739 f740 f741 f742 f743 f744 f745 f746 f747 f748 f749 f750 f751 f752 f753 f754 f755 f756 hs_COMPACT_STRINGS hv_SIOOBE_FORMATTER) (by decide) (W := 0) (by decide) (by decide) (by decide) rfl (by rw [hml]; rfl) (argsL := [(.ref b715)]) (lenOf own_pd8 rfl) (rest := []) rfl rfl (Nat.le_of_eq rfl) (hb hby at_233) ?_
          intro _ T728 L728 X728 hQ728
          have c758 : (own_same own_tx0 [99, 104, 97, 114, 103, 101, 95, 121, 101, 110]) = (0 : Int32) := by decide +kernel
          have c759 : ¬ ((own_same own_tx1 [99, 104, 97, 114, 103, 101, 95, 121, 101, 110]) = (0 : Int32)) := by decide +kernel
          have ev760 : (own_nm [99, 104, 97, 114, 103, 101, 95, 121, 101, 110] r_USAGE r_CHARGE r_TAX r_GAS_PART) = (.ref r_CHARGE) := by unfold own_nm; rw [if_pos c758, if_neg c759]
          unfold Q_named_s at hQ728; rw [ev760] at hQ728
          obtain ⟨b728_0, rfl, N728q, K728, f728_0, f728_1⟩ := hQ728
          have N728 := Fr.app N722 N728q
          show oG p e below _ (T728.setTop (mkF m 236 #[.val (.int x0), .val (.int x1), .val (.int x2), .val (.int 1), .val (.int sh_), .val (.int c_), .val (.int mu_), .val (.ref r_CHARGE), .val (.ref b715), .val (.ref r_CHARGE), .val (.ref b711_0), .val (.int p_), .val (.int 1)] [(.ref b728_0)]))
          refine og (fun _ hr => XS.aconstNull X728.here hx rfl (hb hby at_236) hr) ?_
          show oG p e below _ (T728.setTop (mkF m 237 #[.val (.int x0), .val (.int x1), .val (.int x2), .val (.int 1), .val (.int sh_), .val (.int c_), .val (.int mu_), .val (.ref r_CHARGE), .val (.ref b715), .val (.ref r_CHARGE), .val (.ref b711_0), .val (.int p_), .val (.int 1)] [.null, (.ref b728_0)]))
          have Z762 := (Nat.le_trans Z757 K728.1)
          refine own_cv X728 hx hZ hown (notFace_of_selects (args := #[]) (mvT hZ (hw _ (own_m 91 rfl)))) (hw _ (own_m 88 rfl)) (hw _ (own_m 89 rfl)) (hw _ (own_m 91 rfl)) (hw _ (own_m 90 rfl)) (hw _ (own_m 73 rfl)) (hw _ (own_m 92 rfl)) (by decide) f728_0 (rm := { frames := 0, cells := 0, slots := 0, locals := 0 }) (rm_orElse_6 l Z a0 hw [] b728_0 r_CHARGE T728.heap n0 Z762 f728_1) (by decide) (W := 0) (by decide) (by decide) (by decide) rfl (by rw [hml]; rfl) (argsL := [.null]) (lenOf own_pd4 rfl) (rest := []) rfl rfl (Nat.le_of_eq rfl) (hb hby at_237) ?_
          intro _ T761 L761 X761 hQ761
          obtain ⟨rfl, N761q, e761⟩ := hQ761
          have N761 := Fr.app N728 N761q
          show oG p e below _ (T761.setTop (mkF m 240 #[.val (.int x0), .val (.int x1), .val (.int x2), .val (.int 1), .val (.int sh_), .val (.int c_), .val (.int mu_), .val (.ref r_CHARGE), .val (.ref b715), .val (.ref r_CHARGE), .val (.ref b711_0), .val (.int p_), .val (.int 1)] [(.ref r_CHARGE)]))
          have K763 := (K729.trans K728 all0)
          have f764 := (E_CHARGE.keep K763)
          obtain ⟨T765, X765, e765, st765⟩ := castY X761 hx hZ hown (hw _ (own_m 93 rfl)) e761 (Ins.self f764) (g := (mkF m 240 #[.val (.int x0), .val (.int x1), .val (.int x2), .val (.int 1), .val (.int sh_), .val (.int c_), .val (.int mu_), .val (.ref r_CHARGE), .val (.ref b715), .val (.ref r_CHARGE), .val (.ref b711_0), .val (.int p_), .val (.int 1)] [(.ref r_CHARGE)])) rfl rfl (hb hby at_240)
          refine og st765 ?_
          show oG p e below _ (T765.setTop (mkF m 243 #[.val (.int x0), .val (.int x1), .val (.int x2), .val (.int 1), .val (.int sh_), .val (.int c_), .val (.int mu_), .val (.ref r_CHARGE), .val (.ref b715), .val (.ref r_CHARGE), .val (.ref b711_0), .val (.int p_), .val (.int 1)] [(.ref r_CHARGE)]))
          refine og (fun _ hr => XS.astore X765.here hx rfl (hb hby at_243) rfl rfl (l' := #[.val (.int x0), .val (.int x1), .val (.int x2), .val (.int 1), .val (.int sh_), .val (.int c_), .val (.int mu_), .val (.ref r_CHARGE), .val (.ref b715), .val (.ref r_CHARGE), .val (.ref r_CHARGE), .val (.int p_), .val (.int 1)]) rfl (XS.aload X765.here hx rfl (hb hby at_245) rfl rfl (XS.aload X765.here hx rfl (hb hby at_247) rfl rfl hr))) ?_
          show oG p e below _ (T765.setTop (mkF m 249 #[.val (.int x0), .val (.int x1), .val (.int x2), .val (.int 1), .val (.int sh_), .val (.int c_), .val (.int mu_), .val (.ref r_CHARGE), .val (.ref b715), .val (.ref r_CHARGE), .val (.ref r_CHARGE), .val (.int p_), .val (.int 1)] [(.ref r_CHARGE), (.ref r_CHARGE)]))
          refine og (fun _ hr => Jvm.RoadKit.acmp X765 hx rfl rfl rfl (pc0 := 249) (pc' := 252) (same := true) rfl (hb hby at_249) rfl (decide_eq_true rfl) (by decide) (by decide) hr) ?_
          show oG p e below _ (T765.setTop (mkF m 252 #[.val (.int x0), .val (.int x1), .val (.int x2), .val (.int 1), .val (.int sh_), .val (.int c_), .val (.int mu_), .val (.ref r_CHARGE), .val (.ref b715), .val (.ref r_CHARGE), .val (.ref r_CHARGE), .val (.int p_), .val (.int 1)] []))
          refine og (fun _ hr => XS.iconst X765.here hx rfl (hb hby at_252) (XS.goto X765.here hx rfl (pc0 := 253) (pc' := 257) rfl (hb hby at_253) (by decide) (by decide) hr)) ?_
          show oG p e below _ (T765.setTop (mkF m 257 #[.val (.int x0), .val (.int x1), .val (.int x2), .val (.int 1), .val (.int sh_), .val (.int c_), .val (.int mu_), .val (.ref r_CHARGE), .val (.ref b715), .val (.ref r_CHARGE), .val (.ref r_CHARGE), .val (.int p_), .val (.int 1)] [(.int 1)]))
          have hk766 := (Nat.le_trans (Nat.le_trans (Nat.le_trans (Nat.le_trans hk K711.1) E715.1) K722.1) K728.1)
          have A767 := A0.trans (CHr.keep K711 sf0 A0.1)
          have A768 := A767.trans (CHr.ext E715 A767.1)
          have sf770 := (Safe.ext E715 A767.1 (Safe.new (Nat.le_of_eq g715.symm)))
          have A769 := A768.trans (CHr.keep K722 (sfS sf770 sf0) A768.1)
          have A771 := A769.trans (CHr.keep K728 sf0 A769.1)
          exact own_retNW X765 hx hlk Bd.returns hS hk766 hZ hEL hh e765 A771 (t := .boolean) (by simp) (hb hby at_257) (by decide) (by decide) ⟨rfl, N761⟩
        refine og (fun _ hr => XS.ifNo X711.here hx rfl (hb hby at_103) rfl ((if0 _ _).trans (feq c714).1) hr) ?_
        show oG p e below _ (T711.setTop (mkF m 106 #[.val (.int x0), .val (.int x1), .val (.int x2), .val (.int 1), .val (.int sh_), .val (.int c_), .val (.int mu_), .val (.ref r_CHARGE), .unset, .unset, .val (.ref b711_0), .val (.int p_), .val (.int 1)] []))
        have c772 : ¬ (p_ < (0 : Int32)) := by
          have q0 := rng32 x1
          have q1 := c_mask x1 (2147483647 : Int32) 31 (by decide) (by decide)
          have q2 := c_irem (x1 &&& (2147483647 : Int32)) (10 : Int32) 10 (by decide)
          have q3 := congrArg Int32.toInt hp_
          simp only [true_implies, Int32.lt_iff_toInt_lt, ← Int32.toInt_inj, Int32.reduceToInt, Int64.lt_iff_toInt_lt, ← Int64.toInt_inj, Int64.reduceToInt] at q0 q1 q2 q3 ⊢
          omega
        have c773 : p_ < (10 : Int32) := by
          have q0 := rng32 x1
          have q1 := c_mask x1 (2147483647 : Int32) 31 (by decide) (by decide)
          have q2 := c_irem (x1 &&& (2147483647 : Int32)) (10 : Int32) 10 (by decide)
          have q3 := congrArg Int32.toInt hp_
          have p0 := c772
          simp only [true_implies, Int32.lt_iff_toInt_lt, ← Int32.toInt_inj, Int32.reduceToInt, Int64.lt_iff_toInt_lt, ← Int64.toInt_inj, Int64.reduceToInt] at q0 q1 q2 q3 p0 ⊢
          omega
        refine og (fun _ hr => XS.aload X711.here hx rfl (hb hby at_106) rfl rfl (XS.iload X711.here hx rfl (hb hby at_108) rfl (own_caload X711 hx hZ rfl f711_1 p_ (.int (own_g1 p_)) ⟨c772, c773⟩ (own_get1 p_ c772 c773) rfl rfl (hb hby at_110) (XS.iload X711.here hx rfl (hb hby at_111) rfl hr)))) ?_
        show oG p e below _ (T711.setTop (mkF m 113 #[.val (.int x0), .val (.int x1), .val (.int x2), .val (.int 1), .val (.int sh_), .val (.int c_), .val (.int mu_), .val (.ref r_CHARGE), .unset, .unset, .val (.ref b711_0), .val (.int p_), .val (.int 1)] [(.int c_), (.int (own_g1 p_))]))
        rcases Classical.em ((own_g1 p_) = c_) with c774 | c774
        · skip
          refine og (fun _ hr => XS.icmpNo X711.here hx rfl (hb hby at_113) rfl (teq c774).2 hr) ?_
          show oG p e below _ (T711.setTop (mkF m 116 #[.val (.int x0), .val (.int x1), .val (.int x2), .val (.int 1), .val (.int sh_), .val (.int c_), .val (.int mu_), .val (.ref r_CHARGE), .unset, .unset, .val (.ref b711_0), .val (.int p_), .val (.int 1)] []))
          refine og (fun _ hr => XS.iconst X711.here hx rfl (hb hby at_116) (XS.goto X711.here hx rfl (pc0 := 117) (pc' := 121) rfl (hb hby at_117) (by decide) (by decide) (XS.istore X711.here hx rfl (hb hby at_121) rfl (l' := #[.val (.int x0), .val (.int x1), .val (.int x2), .val (.int 1), .val (.int sh_), .val (.int c_), .val (.int mu_), .val (.ref r_CHARGE), .unset, .unset, .val (.ref b711_0), .val (.int p_), .val (.int 1)]) rfl (XS.aload X711.here hx rfl (hb hby at_123) rfl rfl (XS.iload X711.here hx rfl (hb hby at_125) rfl (XS.iload X711.here hx rfl (hb hby at_127) rfl hr)))))) ?_
          show oG p e below _ (T711.setTop (mkF m 129 #[.val (.int x0), .val (.int x1), .val (.int x2), .val (.int 1), .val (.int sh_), .val (.int c_), .val (.int mu_), .val (.ref r_CHARGE), .unset, .unset, .val (.ref b711_0), .val (.int p_), .val (.int 1)] [(.int c_), (.int p_), (.ref b711_0)]))
          have c776 : (nar .char c_) = c_ := by
            have q0 := rng32 x1
            have q1 := c_mask x1 (2147483647 : Int32) 31 (by decide) (by decide)
            have q2 := c_irem (x1 &&& (2147483647 : Int32)) (10 : Int32) 10 (by decide)
            have q3 := congrArg Int32.toInt hp_
            have q4 := rng32 (own_g1 p_)
            have q5 := rng32 x2
            have q6 := c_mask x2 (255 : Int32) 8 (by decide) (by decide)
            have q7 := c_i2c (x2 &&& (255 : Int32))
            have q8 := congrArg Int32.toInt hc_
            have q9 := (show ((nar .char c_).toInt - c_.toInt) % 65536 = 0 ∧ 0 ≤ (nar .char c_).toInt ∧ (nar .char c_).toInt < 65536 from c_i2c c_)
            have p0 := c774
            have p1 := c772
            have p2 := c773
            simp only [true_implies, Int32.lt_iff_toInt_lt, ← Int32.toInt_inj, Int32.reduceToInt, Int64.lt_iff_toInt_lt, ← Int64.toInt_inj, Int64.reduceToInt] at q0 q1 q2 q3 q4 q5 q6 q7 q8 q9 p0 p1 p2 ⊢
            omega
          refine own_stC X711 hx hZ rfl f711_1 p_ c_ c_ (p_).toNatClampNeg ⟨c772, c773⟩ rfl (own_inl c772 c773 rfl) c776 ([(.int 99), (.int 104), (.int 97), (.int 114), (.int 103), (.int 101), (.int 95), (.int 121), (.int 101), (.int 110)].set (p_).toNatClampNeg (.int c_)) rfl N711 ge711_0 (hb hby at_129) ?_
          intro T775 h775 L775 X775 e775 W775 N775 f775
          show oG p e below _ (T775.setTop (mkF m 130 #[.val (.int x0), .val (.int x1), .val (.int x2), .val (.int 1), .val (.int sh_), .val (.int c_), .val (.int mu_), .val (.ref r_CHARGE), .unset, .unset, .val (.ref b711_0), .val (.int p_), .val (.int 1)] []))
          have f777 : Arv Z h775 b711_0 kb711_0 .char (10 : Int32) [(.int (own_pk p_ (0 : Int32) c_ (99 : Int32))), (.int (own_pk p_ (1 : Int32) c_ (104 : Int32))), (.int (own_pk p_ (2 : Int32) c_ (97 : Int32))), (.int (own_pk p_ (3 : Int32) c_ (114 : Int32))), (.int (own_pk p_ (4 : Int32) c_ (103 : Int32))), (.int (own_pk p_ (5 : Int32) c_ (101 : Int32))), (.int (own_pk p_ (6 : Int32) c_ (95 : Int32))), (.int (own_pk p_ (7 : Int32) c_ (121 : Int32))), (.int (own_pk p_ (8 : Int32) c_ (101 : Int32))), (.int (own_pk p_ (9 : Int32) c_ (110 : Int32)))] (.int 0) := own_set1 p_ c_ c772 c773 ▸ (show Arv Z h775 b711_0 kb711_0 .char (10 : Int32) (([.int 99, .int 104, .int 97, .int 114, .int 103, .int 101, .int 95, .int 121, .int 101, .int 110] : List Value).set p_.toNatClampNeg (.int c_)) (.int 0) from f775)
          obtain ⟨T778, h778, X778, e778, E778, A778, D778, -, st778⟩ := newO X775 hx hZ hown (hw _ (own_m 9 rfl)) (hw _ (own_m 10 rfl)) (hw _ (own_m 11 rfl)) e775 (g := (mkF m 130 #[.val (.int x0), .val (.int x1), .val (.int x2), .val (.int 1), .val (.int sh_), .val (.int c_), .val (.int mu_), .val (.ref r_CHARGE), .unset, .unset, .val (.ref b711_0), .val (.int p_), .val (.int 1)] [])) rfl (hb hby at_130) (by decide) (by decide)
          obtain ⟨b778, g778⟩ : ∃ z, z = h775.size := ⟨_, rfl⟩
          rw [← g778] at A778 D778 st778
          have Z779 := (Nat.le_trans (Nat.le_trans Z0 K711.1) (Nat.le_of_eq W775.size.symm))
          have ge780 : n0 ≤ b778 := Nat.le_trans Z779 (Nat.le_of_eq g778.symm)
          have K781 := ((K0.trans K711 all0).wr W775 (Or.inr sz712))
          have sz782 : h0.size ≤ b778 := Nat.le_trans K781.1 (Nat.le_of_eq g778.symm)
          refine og st778 ?_
          have f783 : Fld Z h778 b778 "java/lang/String" "coder" "B" (.int 0) := D778 (Or.inr (hw _ (own_m 35 rfl))) (ty := .byte) (by decide)
          have f784 : Fld Z h778 b778 "java/lang/String" "value" "[B" .null := D778 (Or.inr (hw _ (own_m 37 rfl))) (ty := (.array .byte)) (by decide)
          show oG p e below _ (T778.setTop (mkF m 133 #[.val (.int x0), .val (.int x1), .val (.int x2), .val (.int 1), .val (.int sh_), .val (.int c_), .val (.int mu_), .val (.ref r_CHARGE), .unset, .unset, .val (.ref b711_0), .val (.int p_), .val (.int 1)] [(.ref b778)]))
          refine og (fun _ hr => XS.dup X778.here hx rfl (hb hby at_133) rfl rfl (XS.aload X778.here hx rfl (hb hby at_134) rfl rfl hr)) ?_
          show oG p e below _ (T778.setTop (mkF m 136 #[.val (.int x0), .val (.int x1), .val (.int x2), .val (.int 1), .val (.int sh_), .val (.int c_), .val (.int mu_), .val (.ref r_CHARGE), .unset, .unset, .val (.ref b711_0), .val (.int p_), .val (.int 1)] [(.ref b711_0), (.ref b778), (.ref b778)]))
          have c786 : ¬ (c_ < (0 : Int32)) := by
            have q0 := rng32 x1
            have q1 := c_mask x1 (2147483647 : Int32) 31 (by decide) (by decide)
            have q2 := c_irem (x1 &&& (2147483647 : Int32)) (10 : Int32) 10 (by decide)
            have q3 := congrArg Int32.toInt hp_
            have q4 := rng32 (own_g1 p_)
            have q5 := rng32 x2
            have q6 := c_mask x2 (255 : Int32) 8 (by decide) (by decide)
            have q7 := c_i2c (x2 &&& (255 : Int32))
            have q8 := congrArg Int32.toInt hc_
            have q9 := (show ((nar .char c_).toInt - c_.toInt) % 65536 = 0 ∧ 0 ≤ (nar .char c_).toInt ∧ (nar .char c_).toInt < 65536 from c_i2c c_)
            have p0 := c774
            have p1 := c776
            have p2 := c772
            have p3 := c773
            simp only [true_implies, Int32.lt_iff_toInt_lt, ← Int32.toInt_inj, Int32.reduceToInt, Int64.lt_iff_toInt_lt, ← Int64.toInt_inj, Int64.reduceToInt] at q0 q1 q2 q3 q4 q5 q6 q7 q8 q9 p0 p1 p2 p3 ⊢
            omega
          have c787 : ¬ ((255 : Int32) < c_) := by
            have q0 := rng32 x1
            have q1 := c_mask x1 (2147483647 : Int32) 31 (by decide) (by decide)
            have q2 := c_irem (x1 &&& (2147483647 : Int32)) (10 : Int32) 10 (by decide)
            have q3 := congrArg Int32.toInt hp_
            have q4 := rng32 (own_g1 p_)
            have q5 := rng32 x2
            have q6 := c_mask x2 (255 : Int32) 8 (by decide) (by decide)
            have q7 := c_i2c (x2 &&& (255 : Int32))
            have q8 := congrArg Int32.toInt hc_
            have q9 := (show ((nar .char c_).toInt - c_.toInt) % 65536 = 0 ∧ 0 ≤ (nar .char c_).toInt ∧ (nar .char c_).toInt < 65536 from c_i2c c_)
            have p0 := c774
            have p1 := c776
            have p2 := c786
            have p3 := c772
            have p4 := c773
            simp only [true_implies, Int32.lt_iff_toInt_lt, ← Int32.toInt_inj, Int32.reduceToInt, Int64.lt_iff_toInt_lt, ← Int64.toInt_inj, Int64.reduceToInt] at q0 q1 q2 q3 q4 q5 q6 q7 q8 q9 p0 p1 p2 p3 p4 ⊢
            omega
          have hp785 : ∀ c ∈ ([(own_pk p_ (0 : Int32) c_ (99 : Int32)), (own_pk p_ (1 : Int32) c_ (104 : Int32)), (own_pk p_ (2 : Int32) c_ (97 : Int32)), (own_pk p_ (3 : Int32) c_ (114 : Int32)), (own_pk p_ (4 : Int32) c_ (103 : Int32)), (own_pk p_ (5 : Int32) c_ (101 : Int32)), (own_pk p_ (6 : Int32) c_ (95 : Int32)), (own_pk p_ (7 : Int32) c_ (121 : Int32)), (own_pk p_ (8 : Int32) c_ (101 : Int32)), (own_pk p_ (9 : Int32) c_ (110 : Int32))] : List Int32), ¬ c < 0 ∧ ¬ (255 : Int32) < c := (own_lc (own_pk_l ⟨c786, c787⟩ (by decide)) (own_lc (own_pk_l ⟨c786, c787⟩ (by decide)) (own_lc (own_pk_l ⟨c786, c787⟩ (by decide)) (own_lc (own_pk_l ⟨c786, c787⟩ (by decide)) (own_lc (own_pk_l ⟨c786, c787⟩ (by decide)) (own_lc (own_pk_l ⟨c786, c787⟩ (by decide)) (own_lc (own_pk_l ⟨c786, c787⟩ (by decide)) (own_lc (own_pk_l ⟨c786, c787⟩ (by decide)) (own_lc (own_pk_l ⟨c786, c787⟩ (by decide)) (own_lc (own_pk_l ⟨c786, c787⟩ (by decide)) own_ln))))))))))
          have f788 := (f777.ext E778)
          have K789 := (K781.ext E778)
          have f790 := (own_sta_keep S_COMPACT_STRINGS K789 all0)
          have Z791 := (Nat.le_trans Z779 E778.1)
          refine own_newS X778 hx hZ hown hw (hw _ (own_m 12 rfl)) (hw _ (own_m 13 rfl)) (hw _ (own_m 14 rfl)) (hw _ (own_m 10 rfl)) [(own_pk p_ (0 : Int32) c_ (99 : Int32)), (own_pk p_ (1 : Int32) c_ (104 : Int32)), (own_pk p_ (2 : Int32) c_ (97 : Int32)), (own_pk p_ (3 : Int32) c_ (114 : Int32)), (own_pk p_ (4 : Int32) c_ (103 : Int32)), (own_pk p_ (5 : Int32) c_ (101 : Int32)), (own_pk p_ (6 : Int32) c_ (95 : Int32)), (own_pk p_ (7 : Int32) c_ (121 : Int32)), (own_pk p_ (8 : Int32) c_ (101 : Int32)), (own_pk p_ (9 : Int32) c_ (110 : Int32))] ge780 Z791 A778 f784 f783 f788 f790 hs_COMPACT_STRINGS (n := 10) rfl rfl (by decide) (by decide) hp785 (by decide) (W := 1) (by decide) (by decide) (by decide) e778 (by rw [hml]; rfl) (Nat.le_of_eq rfl) (hb hby at_136) ?_
          intro T785 L785 b785_0 kb785_0 X785 N785q K785 f785_0 f785_1 ge785_0 sz785_0 ne785_0 f785_2 f785_3
          have N785 := Fr.app N775 N785q
          have sz792 : h0.size ≤ b785_0 := Nat.le_trans K789.1 sz785_0
          show oG p e below _ (T785.setTop (mkF m 139 #[.val (.int x0), .val (.int x1), .val (.int x2), .val (.int 1), .val (.int sh_), .val (.int c_), .val (.int mu_), .val (.ref r_CHARGE), .unset, .unset, .val (.ref b711_0), .val (.int p_), .val (.int 1)] [(.ref b778)]))
          refine og (fun _ hr => XS.astore X785.here hx rfl (hb hby at_139) rfl rfl (l' := #[.val (.int x0), .val (.int x1), .val (.int x2), .val (.int 1), .val (.int sh_), .val (.int c_), .val (.int mu_), .val (.ref r_CHARGE), .val (.ref b778), .unset, .val (.ref b711_0), .val (.int p_), .val (.int 1)]) rfl (XS.iload X785.here hx rfl (hb hby at_141) rfl (XS.ifNo X785.here hx rfl (hb hby at_143) rfl ((if0 _ _).trans (feq (by decide)).1) (XS.aload X785.here hx rfl (hb hby at_146) rfl rfl (XS.goto X785.here hx rfl (pc0 := 148) (pc' := 152) rfl (hb hby at_148) (by decide) (by decide) (XS.astore X785.here hx rfl (hb hby at_152) rfl rfl (l' := #[.val (.int x0), .val (.int x1), .val (.int x2), .val (.int 1), .val (.int sh_), .val (.int c_), .val (.int mu_), .val (.ref r_CHARGE), .val (.ref b778), .val (.ref r_CHARGE), .val (.ref b711_0), .val (.int p_), .val (.int 1)]) rfl (XS.goto X785.here hx rfl (pc0 := 154) (pc' := 231) rfl (hb hby at_154) (by decide) (by decide) (XS.aload X785.here hx rfl (hb hby at_231) rfl rfl hr)))))))) ?_
          show oG p e below _ (T785.setTop (mkF m 233 #[.val (.int x0), .val (.int x1), .val (.int x2), .val (.int 1), .val (.int sh_), .val (.int c_), .val (.int mu_), .val (.ref r_CHARGE), .val (.ref b778), .val (.ref r_CHARGE), .val (.ref b711_0), .val (.int p_), .val (.int 1)] [(.ref b778)]))
          have K794 := (K789.trans K785 (allS (Or.inr sz782) all0))
          have f795 := (own_sta_keep S__VALUES K794 all0)
          have f796 := (E__VALUES.keep K794)
          have f797 := (F_USAGE_header.keep K794 nin0)
          have f798 := (E_USAGE_header.keep K794)
          have f799 := (F_USAGE_header_coder.keep K794 nin0)
          have f800 := (F_USAGE_header_value.keep K794 nin0)
          have f801 := (F_CHARGE_header.keep K794 nin0)
          have f802 := (E_CHARGE_header.keep K794)
          have f803 := (F_CHARGE_header_coder.keep K794 nin0)
          have f804 := (F_CHARGE_header_value.keep K794 nin0)
          have f805 := (F_TAX_header.keep K794 nin0)
          have f806 := (E_TAX_header.keep K794)
          have f807 := (F_TAX_header_coder.keep K794 nin0)
          have f808 := (F_TAX_header_value.keep K794 nin0)
          have f809 := (F_GAS_PART_header.keep K794 nin0)
          have f810 := (E_GAS_PART_header.keep K794)
          have f811 := (F_GAS_PART_header_coder.keep K794 nin0)
          have f812 := (F_GAS_PART_header_value.keep K794 nin0)
          have f813 := (V__VALUES.keep K794 nin0)
          have f814 := (V_USAGE_header_value.keep K794 nin0)
          have f815 := (V_CHARGE_header_value.keep K794 nin0)
          have f816 := (V_TAX_header_value.keep K794 nin0)
          have f817 := (V_GAS_PART_header_value.keep K794 nin0)
          have f818 := (own_sta_keep f790 K785 (allS (own_ns_exa A778) all0))
          have f819 := (own_sta_keep S_EMPTY K794 all0)
          have f820 := (E_EMPTY.keep K794)
          have f821 := (F_EMPTY_value.keep K794 nin0)
          have Z822 := (Nat.le_trans Z791 K785.1)
          refine own_cs X785 hx hZ hown (hw _ (own_m 38 rfl)) (hw _ (own_m 39 rfl)) (hw _ (own_m 1 rfl)) (hw _ (own_m 40 rfl)) (by decide) (rm := { frames := 3, cells := 2, slots := 5, locals := 38 }) (rm_named_s l Z a0 hw [] b778 b785_0 kb785_0 (10 : Int32) [(own_pk p_ (0 : Int32) c_ (99 : Int32)), (own_pk p_ (1 : Int32) c_ (104 : Int32)), (own_pk p_ (2 : Int32) c_ (97 : Int32)), (own_pk p_ (3 : Int32) c_ (114 : Int32)), (own_pk p_ (4 : Int32) c_ (103 : Int32)), (own_pk p_ (5 : Int32) c_ (101 : Int32)), (own_pk p_ (6 : Int32) c_ (95 : Int32)), (own_pk p_ (7 : Int32) c_ (121 : Int32)), (own_pk p_ (8 : Int32) c_ (101 : Int32)), (own_pk p_ (9 : Int32) c_ (110 : Int32))] ((List.map StrChars.lo8 [(own_pk p_ (0 : Int32) c_ (99 : Int32)), (own_pk p_ (1 : Int32) c_ (104 : Int32)), (own_pk p_ (2 : Int32) c_ (97 : Int32)), (own_pk p_ (3 : Int32) c_ (114 : Int32)), (own_pk p_ (4 : Int32) c_ (103 : Int32)), (own_pk p_ (5 : Int32) c_ (101 : Int32)), (own_pk p_ (6 : Int32) c_ (95 : Int32)), (own_pk p_ (7 : Int32) c_ (121 : Int32)), (own_pk p_ (8 : Int32) c_ (101 : Int32)), (own_pk p_ (9 : Int32) c_ (110 : Int32))]).map Value.int) r_USAGE r__VALUES r_CHARGE r_TAX r_GAS_PART r_USAGE_header r_USAGE_header_value r_CHARGE_header r_CHARGE_header_value r_TAX_header r_TAX_header_value r_GAS_PART_header r_GAS_PART_header_value k__VALUES k_USAGE_header_value k_CHARGE_header_value k_TAX_header_value k_GAS_PART_header_value i_COMPACT_STRINGS v_SIOOBE_FORMATTER r_EMPTY T785.heap n0 Z822 f785_0 f785_1 f785_2 f785_3 (StrChars.Road.codOf (cs := [(own_pk p_ (0 : Int32) c_ (99 : Int32)), (own_pk p_ (1 : Int32) c_ (104 : Int32)), (own_pk p_ (2 : Int32) c_ (97 : Int32)), (own_pk p_ (3 : Int32) c_ (114 : Int32)), (own_pk p_ (4 : Int32) c_ (103 : Int32)), (own_pk p_ (5 : Int32) c_ (101 : Int32)), (own_pk p_ (6 : Int32) c_ (95 : Int32)), (own_pk p_ (7 : Int32) c_ (121 : Int32)), (own_pk p_ (8 : Int32) c_ (101 : Int32)), (own_pk p_ (9 : Int32) c_ (110 : Int32))]) (n := 10) rfl (fun c hc => (hp785 c hc).2)) (own_up hp785) (Nat.le_of_ble_eq_true rfl) f795 f796 f797 f798 f799 f800 f801 f802 f803 f804 f805 f806 f807 f808 f809 f810 f811 f812 f813 f814 f815 f816 f817 f818 f819 f820 f821 hs_COMPACT_STRINGS hv_SIOOBE_FORMATTER) (by decide) (W := 0) (by decide) (by decide) (by decide) rfl (by rw [hml]; rfl) (argsL := [(.ref b778)]) (lenOf own_pd8 rfl) (rest := []) rfl rfl (Nat.le_of_eq rfl) (hb hby at_233) ?_
          intro _ T793 L793 X793 hQ793
          have c823 : (own_same own_tx0 [(own_pk p_ (0 : Int32) c_ (99 : Int32)), (own_pk p_ (1 : Int32) c_ (104 : Int32)), (own_pk p_ (2 : Int32) c_ (97 : Int32)), (own_pk p_ (3 : Int32) c_ (114 : Int32)), (own_pk p_ (4 : Int32) c_ (103 : Int32)), (own_pk p_ (5 : Int32) c_ (101 : Int32)), (own_pk p_ (6 : Int32) c_ (95 : Int32)), (own_pk p_ (7 : Int32) c_ (121 : Int32)), (own_pk p_ (8 : Int32) c_ (101 : Int32)), (own_pk p_ (9 : Int32) c_ (110 : Int32))]) = (0 : Int32) := own_same_len (show (8 : Nat) ≠ 10 from by decide)
          have c824 : ¬ ((own_same own_tx1 [(own_pk p_ (0 : Int32) c_ (99 : Int32)), (own_pk p_ (1 : Int32) c_ (104 : Int32)), (own_pk p_ (2 : Int32) c_ (97 : Int32)), (own_pk p_ (3 : Int32) c_ (114 : Int32)), (own_pk p_ (4 : Int32) c_ (103 : Int32)), (own_pk p_ (5 : Int32) c_ (101 : Int32)), (own_pk p_ (6 : Int32) c_ (95 : Int32)), (own_pk p_ (7 : Int32) c_ (121 : Int32)), (own_pk p_ (8 : Int32) c_ (101 : Int32)), (own_pk p_ (9 : Int32) c_ (110 : Int32))]) = (0 : Int32)) := own_finT1 p_ c_ c772 c773 c774
          have ev825 : (own_nm [(own_pk p_ (0 : Int32) c_ (99 : Int32)), (own_pk p_ (1 : Int32) c_ (104 : Int32)), (own_pk p_ (2 : Int32) c_ (97 : Int32)), (own_pk p_ (3 : Int32) c_ (114 : Int32)), (own_pk p_ (4 : Int32) c_ (103 : Int32)), (own_pk p_ (5 : Int32) c_ (101 : Int32)), (own_pk p_ (6 : Int32) c_ (95 : Int32)), (own_pk p_ (7 : Int32) c_ (121 : Int32)), (own_pk p_ (8 : Int32) c_ (101 : Int32)), (own_pk p_ (9 : Int32) c_ (110 : Int32))] r_USAGE r_CHARGE r_TAX r_GAS_PART) = (.ref r_CHARGE) := by unfold own_nm; rw [if_pos c823, if_neg c824]
          unfold Q_named_s at hQ793; rw [ev825] at hQ793
          obtain ⟨b793_0, rfl, N793q, K793, f793_0, f793_1⟩ := hQ793
          have N793 := Fr.app N785 N793q
          show oG p e below _ (T793.setTop (mkF m 236 #[.val (.int x0), .val (.int x1), .val (.int x2), .val (.int 1), .val (.int sh_), .val (.int c_), .val (.int mu_), .val (.ref r_CHARGE), .val (.ref b778), .val (.ref r_CHARGE), .val (.ref b711_0), .val (.int p_), .val (.int 1)] [(.ref b793_0)]))
          refine og (fun _ hr => XS.aconstNull X793.here hx rfl (hb hby at_236) hr) ?_
          show oG p e below _ (T793.setTop (mkF m 237 #[.val (.int x0), .val (.int x1), .val (.int x2), .val (.int 1), .val (.int sh_), .val (.int c_), .val (.int mu_), .val (.ref r_CHARGE), .val (.ref b778), .val (.ref r_CHARGE), .val (.ref b711_0), .val (.int p_), .val (.int 1)] [.null, (.ref b793_0)]))
          have Z827 := (Nat.le_trans Z822 K793.1)
          refine own_cv X793 hx hZ hown (notFace_of_selects (args := #[]) (mvT hZ (hw _ (own_m 91 rfl)))) (hw _ (own_m 88 rfl)) (hw _ (own_m 89 rfl)) (hw _ (own_m 91 rfl)) (hw _ (own_m 90 rfl)) (hw _ (own_m 73 rfl)) (hw _ (own_m 92 rfl)) (by decide) f793_0 (rm := { frames := 0, cells := 0, slots := 0, locals := 0 }) (rm_orElse_6 l Z a0 hw [] b793_0 r_CHARGE T793.heap n0 Z827 f793_1) (by decide) (W := 0) (by decide) (by decide) (by decide) rfl (by rw [hml]; rfl) (argsL := [.null]) (lenOf own_pd4 rfl) (rest := []) rfl rfl (Nat.le_of_eq rfl) (hb hby at_237) ?_
          intro _ T826 L826 X826 hQ826
          obtain ⟨rfl, N826q, e826⟩ := hQ826
          have N826 := Fr.app N793 N826q
          show oG p e below _ (T826.setTop (mkF m 240 #[.val (.int x0), .val (.int x1), .val (.int x2), .val (.int 1), .val (.int sh_), .val (.int c_), .val (.int mu_), .val (.ref r_CHARGE), .val (.ref b778), .val (.ref r_CHARGE), .val (.ref b711_0), .val (.int p_), .val (.int 1)] [(.ref r_CHARGE)]))
          have K828 := (K794.trans K793 all0)
          have f829 := (E_CHARGE.keep K828)
          obtain ⟨T830, X830, e830, st830⟩ := castY X826 hx hZ hown (hw _ (own_m 93 rfl)) e826 (Ins.self f829) (g := (mkF m 240 #[.val (.int x0), .val (.int x1), .val (.int x2), .val (.int 1), .val (.int sh_), .val (.int c_), .val (.int mu_), .val (.ref r_CHARGE), .val (.ref b778), .val (.ref r_CHARGE), .val (.ref b711_0), .val (.int p_), .val (.int 1)] [(.ref r_CHARGE)])) rfl rfl (hb hby at_240)
          refine og st830 ?_
          show oG p e below _ (T830.setTop (mkF m 243 #[.val (.int x0), .val (.int x1), .val (.int x2), .val (.int 1), .val (.int sh_), .val (.int c_), .val (.int mu_), .val (.ref r_CHARGE), .val (.ref b778), .val (.ref r_CHARGE), .val (.ref b711_0), .val (.int p_), .val (.int 1)] [(.ref r_CHARGE)]))
          refine og (fun _ hr => XS.astore X830.here hx rfl (hb hby at_243) rfl rfl (l' := #[.val (.int x0), .val (.int x1), .val (.int x2), .val (.int 1), .val (.int sh_), .val (.int c_), .val (.int mu_), .val (.ref r_CHARGE), .val (.ref b778), .val (.ref r_CHARGE), .val (.ref r_CHARGE), .val (.int p_), .val (.int 1)]) rfl (XS.aload X830.here hx rfl (hb hby at_245) rfl rfl (XS.aload X830.here hx rfl (hb hby at_247) rfl rfl hr))) ?_
          show oG p e below _ (T830.setTop (mkF m 249 #[.val (.int x0), .val (.int x1), .val (.int x2), .val (.int 1), .val (.int sh_), .val (.int c_), .val (.int mu_), .val (.ref r_CHARGE), .val (.ref b778), .val (.ref r_CHARGE), .val (.ref r_CHARGE), .val (.int p_), .val (.int 1)] [(.ref r_CHARGE), (.ref r_CHARGE)]))
          refine og (fun _ hr => Jvm.RoadKit.acmp X830 hx rfl rfl rfl (pc0 := 249) (pc' := 252) (same := true) rfl (hb hby at_249) rfl (decide_eq_true rfl) (by decide) (by decide) hr) ?_
          show oG p e below _ (T830.setTop (mkF m 252 #[.val (.int x0), .val (.int x1), .val (.int x2), .val (.int 1), .val (.int sh_), .val (.int c_), .val (.int mu_), .val (.ref r_CHARGE), .val (.ref b778), .val (.ref r_CHARGE), .val (.ref r_CHARGE), .val (.int p_), .val (.int 1)] []))
          refine og (fun _ hr => XS.iconst X830.here hx rfl (hb hby at_252) (XS.goto X830.here hx rfl (pc0 := 253) (pc' := 257) rfl (hb hby at_253) (by decide) (by decide) hr)) ?_
          show oG p e below _ (T830.setTop (mkF m 257 #[.val (.int x0), .val (.int x1), .val (.int x2), .val (.int 1), .val (.int sh_), .val (.int c_), .val (.int mu_), .val (.ref r_CHARGE), .val (.ref b778), .val (.ref r_CHARGE), .val (.ref r_CHARGE), .val (.int p_), .val (.int 1)] [(.int 1)]))
          have hk831 := (Nat.le_trans (Nat.le_trans (Nat.le_trans (Nat.le_trans (Nat.le_trans hk K711.1) (Nat.le_of_eq W775.size.symm)) E778.1) K785.1) K793.1)
          have A832 := A0.trans (CHr.keep K711 sf0 A0.1)
          have sf834 := (Safe.keep K711 sf0 A0.1 (Safe.new sz711_0))
          have A833 := A832.trans (CHr.wr W775 sf834 A832.1)
          have A835 := A833.trans (CHr.ext E778 A833.1)
          have sf837 := (Safe.ext E778 A833.1 (Safe.new (Nat.le_of_eq g778.symm)))
          have A836 := A835.trans (CHr.keep K785 (sfS sf837 sf0) A835.1)
          have A838 := A836.trans (CHr.keep K793 sf0 A836.1)
          exact own_retNW X830 hx hlk Bd.returns hS hk831 hZ hEL hh e830 A838 (t := .boolean) (by simp) (hb hby at_257) (by decide) (by decide) ⟨rfl, N826⟩
        refine og (fun _ hr => XS.icmpYes X711.here hx rfl (pc0 := 113) (pc' := 120) rfl (hb hby at_113) rfl (feq c774).2 (by decide) (by decide) hr) ?_
        show oG p e below _ (T711.setTop (mkF m 120 #[.val (.int x0), .val (.int x1), .val (.int x2), .val (.int 1), .val (.int sh_), .val (.int c_), .val (.int mu_), .val (.ref r_CHARGE), .unset, .unset, .val (.ref b711_0), .val (.int p_), .val (.int 1)] []))
        refine og (fun _ hr => XS.iconst X711.here hx rfl (hb hby at_120) (XS.istore X711.here hx rfl (hb hby at_121) rfl (l' := #[.val (.int x0), .val (.int x1), .val (.int x2), .val (.int 1), .val (.int sh_), .val (.int c_), .val (.int mu_), .val (.ref r_CHARGE), .unset, .unset, .val (.ref b711_0), .val (.int p_), .val (.int 0)]) rfl (XS.aload X711.here hx rfl (hb hby at_123) rfl rfl (XS.iload X711.here hx rfl (hb hby at_125) rfl (XS.iload X711.here hx rfl (hb hby at_127) rfl hr))))) ?_
        show oG p e below _ (T711.setTop (mkF m 129 #[.val (.int x0), .val (.int x1), .val (.int x2), .val (.int 1), .val (.int sh_), .val (.int c_), .val (.int mu_), .val (.ref r_CHARGE), .unset, .unset, .val (.ref b711_0), .val (.int p_), .val (.int 0)] [(.int c_), (.int p_), (.ref b711_0)]))
        have c840 : (nar .char c_) = c_ := by
          have q0 := rng32 x1
          have q1 := c_mask x1 (2147483647 : Int32) 31 (by decide) (by decide)
          have q2 := c_irem (x1 &&& (2147483647 : Int32)) (10 : Int32) 10 (by decide)
          have q3 := congrArg Int32.toInt hp_
          have q4 := rng32 (own_g1 p_)
          have q5 := rng32 x2
          have q6 := c_mask x2 (255 : Int32) 8 (by decide) (by decide)
          have q7 := c_i2c (x2 &&& (255 : Int32))
          have q8 := congrArg Int32.toInt hc_
          have q9 := (show ((nar .char c_).toInt - c_.toInt) % 65536 = 0 ∧ 0 ≤ (nar .char c_).toInt ∧ (nar .char c_).toInt < 65536 from c_i2c c_)
          have p0 := c774
          have p1 := c772
          have p2 := c773
          simp only [true_implies, Int32.lt_iff_toInt_lt, ← Int32.toInt_inj, Int32.reduceToInt, Int64.lt_iff_toInt_lt, ← Int64.toInt_inj, Int64.reduceToInt] at q0 q1 q2 q3 q4 q5 q6 q7 q8 q9 p0 p1 p2 ⊢
          omega
        refine own_stC X711 hx hZ rfl f711_1 p_ c_ c_ (p_).toNatClampNeg ⟨c772, c773⟩ rfl (own_inl c772 c773 rfl) c840 ([(.int 99), (.int 104), (.int 97), (.int 114), (.int 103), (.int 101), (.int 95), (.int 121), (.int 101), (.int 110)].set (p_).toNatClampNeg (.int c_)) rfl N711 ge711_0 (hb hby at_129) ?_
        intro T839 h839 L839 X839 e839 W839 N839 f839
        show oG p e below _ (T839.setTop (mkF m 130 #[.val (.int x0), .val (.int x1), .val (.int x2), .val (.int 1), .val (.int sh_), .val (.int c_), .val (.int mu_), .val (.ref r_CHARGE), .unset, .unset, .val (.ref b711_0), .val (.int p_), .val (.int 0)] []))
        have f841 : Arv Z h839 b711_0 kb711_0 .char (10 : Int32) [(.int (own_pk p_ (0 : Int32) c_ (99 : Int32))), (.int (own_pk p_ (1 : Int32) c_ (104 : Int32))), (.int (own_pk p_ (2 : Int32) c_ (97 : Int32))), (.int (own_pk p_ (3 : Int32) c_ (114 : Int32))), (.int (own_pk p_ (4 : Int32) c_ (103 : Int32))), (.int (own_pk p_ (5 : Int32) c_ (101 : Int32))), (.int (own_pk p_ (6 : Int32) c_ (95 : Int32))), (.int (own_pk p_ (7 : Int32) c_ (121 : Int32))), (.int (own_pk p_ (8 : Int32) c_ (101 : Int32))), (.int (own_pk p_ (9 : Int32) c_ (110 : Int32)))] (.int 0) := own_set1 p_ c_ c772 c773 ▸ (show Arv Z h839 b711_0 kb711_0 .char (10 : Int32) (([.int 99, .int 104, .int 97, .int 114, .int 103, .int 101, .int 95, .int 121, .int 101, .int 110] : List Value).set p_.toNatClampNeg (.int c_)) (.int 0) from f839)
        obtain ⟨T842, h842, X842, e842, E842, A842, D842, -, st842⟩ := newO X839 hx hZ hown (hw _ (own_m 9 rfl)) (hw _ (own_m 10 rfl)) (hw _ (own_m 11 rfl)) e839 (g := (mkF m 130 #[.val (.int x0), .val (.int x1), .val (.int x2), .val (.int 1), .val (.int sh_), .val (.int c_), .val (.int mu_), .val (.ref r_CHARGE), .unset, .unset, .val (.ref b711_0), .val (.int p_), .val (.int 0)] [])) rfl (hb hby at_130) (by decide) (by decide)
        obtain ⟨b842, g842⟩ : ∃ z, z = h839.size := ⟨_, rfl⟩
        rw [← g842] at A842 D842 st842
        have Z843 := (Nat.le_trans (Nat.le_trans Z0 K711.1) (Nat.le_of_eq W839.size.symm))
        have ge844 : n0 ≤ b842 := Nat.le_trans Z843 (Nat.le_of_eq g842.symm)
        have K845 := ((K0.trans K711 all0).wr W839 (Or.inr sz712))
        have sz846 : h0.size ≤ b842 := Nat.le_trans K845.1 (Nat.le_of_eq g842.symm)
        refine og st842 ?_
        have f847 : Fld Z h842 b842 "java/lang/String" "coder" "B" (.int 0) := D842 (Or.inr (hw _ (own_m 35 rfl))) (ty := .byte) (by decide)
        have f848 : Fld Z h842 b842 "java/lang/String" "value" "[B" .null := D842 (Or.inr (hw _ (own_m 37 rfl))) (ty := (.array .byte)) (by decide)
        show oG p e below _ (T842.setTop (mkF m 133 #[.val (.int x0), .val (.int x1), .val (.int x2), .val (.int 1), .val (.int sh_), .val (.int c_), .val (.int mu_), .val (.ref r_CHARGE), .unset, .unset, .val (.ref b711_0), .val (.int p_), .val (.int 0)] [(.ref b842)]))
        refine og (fun _ hr => XS.dup X842.here hx rfl (hb hby at_133) rfl rfl (XS.aload X842.here hx rfl (hb hby at_134) rfl rfl hr)) ?_
        show oG p e below _ (T842.setTop (mkF m 136 #[.val (.int x0), .val (.int x1), .val (.int x2), .val (.int 1), .val (.int sh_), .val (.int c_), .val (.int mu_), .val (.ref r_CHARGE), .unset, .unset, .val (.ref b711_0), .val (.int p_), .val (.int 0)] [(.ref b711_0), (.ref b842), (.ref b842)]))
        have c850 : ¬ (c_ < (0 : Int32)) := by
          have q0 := rng32 x1
          have q1 := c_mask x1 (2147483647 : Int32) 31 (by decide) (by decide)
          have q2 := c_irem (x1 &&& (2147483647 : Int32)) (10 : Int32) 10 (by decide)
          have q3 := congrArg Int32.toInt hp_
          have q4 := rng32 (own_g1 p_)
          have q5 := rng32 x2
          have q6 := c_mask x2 (255 : Int32) 8 (by decide) (by decide)
          have q7 := c_i2c (x2 &&& (255 : Int32))
          have q8 := congrArg Int32.toInt hc_
          have q9 := (show ((nar .char c_).toInt - c_.toInt) % 65536 = 0 ∧ 0 ≤ (nar .char c_).toInt ∧ (nar .char c_).toInt < 65536 from c_i2c c_)
          have p0 := c774
          have p1 := c840
          have p2 := c772
          have p3 := c773
          simp only [true_implies, Int32.lt_iff_toInt_lt, ← Int32.toInt_inj, Int32.reduceToInt, Int64.lt_iff_toInt_lt, ← Int64.toInt_inj, Int64.reduceToInt] at q0 q1 q2 q3 q4 q5 q6 q7 q8 q9 p0 p1 p2 p3 ⊢
          omega
        have c851 : ¬ ((255 : Int32) < c_) := by
          have q0 := rng32 x1
          have q1 := c_mask x1 (2147483647 : Int32) 31 (by decide) (by decide)
          have q2 := c_irem (x1 &&& (2147483647 : Int32)) (10 : Int32) 10 (by decide)
          have q3 := congrArg Int32.toInt hp_
          have q4 := rng32 (own_g1 p_)
          have q5 := rng32 x2
          have q6 := c_mask x2 (255 : Int32) 8 (by decide) (by decide)
          have q7 := c_i2c (x2 &&& (255 : Int32))
          have q8 := congrArg Int32.toInt hc_
          have q9 := (show ((nar .char c_).toInt - c_.toInt) % 65536 = 0 ∧ 0 ≤ (nar .char c_).toInt ∧ (nar .char c_).toInt < 65536 from c_i2c c_)
          have p0 := c774
          have p1 := c840
          have p2 := c850
          have p3 := c772
          have p4 := c773
          simp only [true_implies, Int32.lt_iff_toInt_lt, ← Int32.toInt_inj, Int32.reduceToInt, Int64.lt_iff_toInt_lt, ← Int64.toInt_inj, Int64.reduceToInt] at q0 q1 q2 q3 q4 q5 q6 q7 q8 q9 p0 p1 p2 p3 p4 ⊢
          omega
        have hp849 : ∀ c ∈ ([(own_pk p_ (0 : Int32) c_ (99 : Int32)), (own_pk p_ (1 : Int32) c_ (104 : Int32)), (own_pk p_ (2 : Int32) c_ (97 : Int32)), (own_pk p_ (3 : Int32) c_ (114 : Int32)), (own_pk p_ (4 : Int32) c_ (103 : Int32)), (own_pk p_ (5 : Int32) c_ (101 : Int32)), (own_pk p_ (6 : Int32) c_ (95 : Int32)), (own_pk p_ (7 : Int32) c_ (121 : Int32)), (own_pk p_ (8 : Int32) c_ (101 : Int32)), (own_pk p_ (9 : Int32) c_ (110 : Int32))] : List Int32), ¬ c < 0 ∧ ¬ (255 : Int32) < c := (own_lc (own_pk_l ⟨c850, c851⟩ (by decide)) (own_lc (own_pk_l ⟨c850, c851⟩ (by decide)) (own_lc (own_pk_l ⟨c850, c851⟩ (by decide)) (own_lc (own_pk_l ⟨c850, c851⟩ (by decide)) (own_lc (own_pk_l ⟨c850, c851⟩ (by decide)) (own_lc (own_pk_l ⟨c850, c851⟩ (by decide)) (own_lc (own_pk_l ⟨c850, c851⟩ (by decide)) (own_lc (own_pk_l ⟨c850, c851⟩ (by decide)) (own_lc (own_pk_l ⟨c850, c851⟩ (by decide)) (own_lc (own_pk_l ⟨c850, c851⟩ (by decide)) own_ln))))))))))
        have f852 := (f841.ext E842)
        have K853 := (K845.ext E842)
        have f854 := (own_sta_keep S_COMPACT_STRINGS K853 all0)
        have Z855 := (Nat.le_trans Z843 E842.1)
        refine own_newS X842 hx hZ hown hw (hw _ (own_m 12 rfl)) (hw _ (own_m 13 rfl)) (hw _ (own_m 14 rfl)) (hw _ (own_m 10 rfl)) [(own_pk p_ (0 : Int32) c_ (99 : Int32)), (own_pk p_ (1 : Int32) c_ (104 : Int32)), (own_pk p_ (2 : Int32) c_ (97 : Int32)), (own_pk p_ (3 : Int32) c_ (114 : Int32)), (own_pk p_ (4 : Int32) c_ (103 : Int32)), (own_pk p_ (5 : Int32) c_ (101 : Int32)), (own_pk p_ (6 : Int32) c_ (95 : Int32)), (own_pk p_ (7 : Int32) c_ (121 : Int32)), (own_pk p_ (8 : Int32) c_ (101 : Int32)), (own_pk p_ (9 : Int32) c_ (110 : Int32))] ge844 Z855 A842 f848 f847 f852 f854 hs_COMPACT_STRINGS (n := 10) rfl rfl (by decide) (by decide) hp849 (by decide) (W := 1) (by decide) (by decide) (by decide) e842 (by rw [hml]; rfl) (Nat.le_of_eq rfl) (hb hby at_136) ?_
        intro T849 L849 b849_0 kb849_0 X849 N849q K849 f849_0 f849_1 ge849_0 sz849_0 ne849_0 f849_2 f849_3
        have N849 := Fr.app N839 N849q
        have sz856 : h0.size ≤ b849_0 := Nat.le_trans K853.1 sz849_0
        show oG p e below _ (T849.setTop (mkF m 139 #[.val (.int x0), .val (.int x1), .val (.int x2), .val (.int 1), .val (.int sh_), .val (.int c_), .val (.int mu_), .val (.ref r_CHARGE), .unset, .unset, .val (.ref b711_0), .val (.int p_), .val (.int 0)] [(.ref b842)]))
        refine og (fun _ hr => XS.astore X849.here hx rfl (hb hby at_139) rfl rfl (l' := #[.val (.int x0), .val (.int x1), .val (.int x2), .val (.int 1), .val (.int sh_), .val (.int c_), .val (.int mu_), .val (.ref r_CHARGE), .val (.ref b842), .unset, .val (.ref b711_0), .val (.int p_), .val (.int 0)]) rfl (XS.iload X849.here hx rfl (hb hby at_141) rfl (XS.ifYes X849.here hx rfl (pc0 := 143) (pc' := 151) rfl (hb hby at_143) rfl ((if0 _ _).trans (teq (by decide)).1) (by decide) (by decide) (XS.aconstNull X849.here hx rfl (hb hby at_151) (XS.astore X849.here hx rfl (hb hby at_152) rfl rfl (l' := #[.val (.int x0), .val (.int x1), .val (.int x2), .val (.int 1), .val (.int sh_), .val (.int c_), .val (.int mu_), .val (.ref r_CHARGE), .val (.ref b842), .val .null, .val (.ref b711_0), .val (.int p_), .val (.int 0)]) rfl (XS.goto X849.here hx rfl (pc0 := 154) (pc' := 231) rfl (hb hby at_154) (by decide) (by decide) (XS.aload X849.here hx rfl (hb hby at_231) rfl rfl hr))))))) ?_
        show oG p e below _ (T849.setTop (mkF m 233 #[.val (.int x0), .val (.int x1), .val (.int x2), .val (.int 1), .val (.int sh_), .val (.int c_), .val (.int mu_), .val (.ref r_CHARGE), .val (.ref b842), .val .null, .val (.ref b711_0), .val (.int p_), .val (.int 0)] [(.ref b842)]))
        have K858 := (K853.trans K849 (allS (Or.inr sz846) all0))
        have f859 := (own_sta_keep S__VALUES K858 all0)
        have f860 := (E__VALUES.keep K858)
        have f861 := (F_USAGE_header.keep K858 nin0)
        have f862 := (E_USAGE_header.keep K858)
        have f863 := (F_USAGE_header_coder.keep K858 nin0)
        have f864 := (F_USAGE_header_value.keep K858 nin0)
        have f865 := (F_CHARGE_header.keep K858 nin0)
        have f866 := (E_CHARGE_header.keep K858)
        have f867 := (F_CHARGE_header_coder.keep K858 nin0)
        have f868 := (F_CHARGE_header_value.keep K858 nin0)
        have f869 := (F_TAX_header.keep K858 nin0)
        have f870 := (E_TAX_header.keep K858)
        have f871 := (F_TAX_header_coder.keep K858 nin0)
        have f872 := (F_TAX_header_value.keep K858 nin0)
        have f873 := (F_GAS_PART_header.keep K858 nin0)
        have f874 := (E_GAS_PART_header.keep K858)
        have f875 := (F_GAS_PART_header_coder.keep K858 nin0)
        have f876 := (F_GAS_PART_header_value.keep K858 nin0)
        have f877 := (V__VALUES.keep K858 nin0)
        have f878 := (V_USAGE_header_value.keep K858 nin0)
        have f879 := (V_CHARGE_header_value.keep K858 nin0)
        have f880 := (V_TAX_header_value.keep K858 nin0)
        have f881 := (V_GAS_PART_header_value.keep K858 nin0)
        have f882 := (own_sta_keep f854 K849 (allS (own_ns_exa A842) all0))
        have f883 := (own_sta_keep S_EMPTY K858 all0)
        have f884 := (E_EMPTY.keep K858)
        have f885 := (F_EMPTY_value.keep K858 nin0)
        have Z886 := (Nat.le_trans Z855 K849.1)
        refine own_cs X849 hx hZ hown (hw _ (own_m 38 rfl)) (hw _ (own_m 39 rfl)) (hw _ (own_m 1 rfl)) (hw _ (own_m 40 rfl)) (by decide) (rm := { frames := 3, cells := 2, slots := 5, locals := 38 }) (rm_named_s l Z a0 hw [] b842 b849_0 kb849_0 (10 : Int32) [(own_pk p_ (0 : Int32) c_ (99 : Int32)), (own_pk p_ (1 : Int32) c_ (104 : Int32)), (own_pk p_ (2 : Int32) c_ (97 : Int32)), (own_pk p_ (3 : Int32) c_ (114 : Int32)), (own_pk p_ (4 : Int32) c_ (103 : Int32)), (own_pk p_ (5 : Int32) c_ (101 : Int32)), (own_pk p_ (6 : Int32) c_ (95 : Int32)), (own_pk p_ (7 : Int32) c_ (121 : Int32)), (own_pk p_ (8 : Int32) c_ (101 : Int32)), (own_pk p_ (9 : Int32) c_ (110 : Int32))] ((List.map StrChars.lo8 [(own_pk p_ (0 : Int32) c_ (99 : Int32)), (own_pk p_ (1 : Int32) c_ (104 : Int32)), (own_pk p_ (2 : Int32) c_ (97 : Int32)), (own_pk p_ (3 : Int32) c_ (114 : Int32)), (own_pk p_ (4 : Int32) c_ (103 : Int32)), (own_pk p_ (5 : Int32) c_ (101 : Int32)), (own_pk p_ (6 : Int32) c_ (95 : Int32)), (own_pk p_ (7 : Int32) c_ (121 : Int32)), (own_pk p_ (8 : Int32) c_ (101 : Int32)), (own_pk p_ (9 : Int32) c_ (110 : Int32))]).map Value.int) r_USAGE r__VALUES r_CHARGE r_TAX r_GAS_PART r_USAGE_header r_USAGE_header_value r_CHARGE_header r_CHARGE_header_value r_TAX_header r_TAX_header_value r_GAS_PART_header r_GAS_PART_header_value k__VALUES k_USAGE_header_value k_CHARGE_header_value k_TAX_header_value k_GAS_PART_header_value i_COMPACT_STRINGS v_SIOOBE_FORMATTER r_EMPTY T849.heap n0 Z886 f849_0 f849_1 f849_2 f849_3 (StrChars.Road.codOf (cs := [(own_pk p_ (0 : Int32) c_ (99 : Int32)), (own_pk p_ (1 : Int32) c_ (104 : Int32)), (own_pk p_ (2 : Int32) c_ (97 : Int32)), (own_pk p_ (3 : Int32) c_ (114 : Int32)), (own_pk p_ (4 : Int32) c_ (103 : Int32)), (own_pk p_ (5 : Int32) c_ (101 : Int32)), (own_pk p_ (6 : Int32) c_ (95 : Int32)), (own_pk p_ (7 : Int32) c_ (121 : Int32)), (own_pk p_ (8 : Int32) c_ (101 : Int32)), (own_pk p_ (9 : Int32) c_ (110 : Int32))]) (n := 10) rfl (fun c hc => (hp849 c hc).2)) (own_up hp849) (Nat.le_of_ble_eq_true rfl) f859 f860 f861 f862 f863 f864 f865 f866 f867 f868 f869 f870 f871 f872 f873 f874 f875 f876 f877 f878 f879 f880 f881 f882 f883 f884 f885 hs_COMPACT_STRINGS hv_SIOOBE_FORMATTER) (by decide) (W := 0) (by decide) (by decide) (by decide) rfl (by rw [hml]; rfl) (argsL := [(.ref b842)]) (lenOf own_pd8 rfl) (rest := []) rfl rfl (Nat.le_of_eq rfl) (hb hby at_233) ?_
        intro _ T857 L857 X857 hQ857
        have c887 : (own_same own_tx0 [(own_pk p_ (0 : Int32) c_ (99 : Int32)), (own_pk p_ (1 : Int32) c_ (104 : Int32)), (own_pk p_ (2 : Int32) c_ (97 : Int32)), (own_pk p_ (3 : Int32) c_ (114 : Int32)), (own_pk p_ (4 : Int32) c_ (103 : Int32)), (own_pk p_ (5 : Int32) c_ (101 : Int32)), (own_pk p_ (6 : Int32) c_ (95 : Int32)), (own_pk p_ (7 : Int32) c_ (121 : Int32)), (own_pk p_ (8 : Int32) c_ (101 : Int32)), (own_pk p_ (9 : Int32) c_ (110 : Int32))]) = (0 : Int32) := own_same_len (show (8 : Nat) ≠ 10 from by decide)
        have c888 : (own_same own_tx1 [(own_pk p_ (0 : Int32) c_ (99 : Int32)), (own_pk p_ (1 : Int32) c_ (104 : Int32)), (own_pk p_ (2 : Int32) c_ (97 : Int32)), (own_pk p_ (3 : Int32) c_ (114 : Int32)), (own_pk p_ (4 : Int32) c_ (103 : Int32)), (own_pk p_ (5 : Int32) c_ (101 : Int32)), (own_pk p_ (6 : Int32) c_ (95 : Int32)), (own_pk p_ (7 : Int32) c_ (121 : Int32)), (own_pk p_ (8 : Int32) c_ (101 : Int32)), (own_pk p_ (9 : Int32) c_ (110 : Int32))]) = (0 : Int32) := own_finF1 p_ c_ c772 c773 c774
        have c889 : (own_same own_tx2 [(own_pk p_ (0 : Int32) c_ (99 : Int32)), (own_pk p_ (1 : Int32) c_ (104 : Int32)), (own_pk p_ (2 : Int32) c_ (97 : Int32)), (own_pk p_ (3 : Int32) c_ (114 : Int32)), (own_pk p_ (4 : Int32) c_ (103 : Int32)), (own_pk p_ (5 : Int32) c_ (101 : Int32)), (own_pk p_ (6 : Int32) c_ (95 : Int32)), (own_pk p_ (7 : Int32) c_ (121 : Int32)), (own_pk p_ (8 : Int32) c_ (101 : Int32)), (own_pk p_ (9 : Int32) c_ (110 : Int32))]) = (0 : Int32) := own_same_len (show (7 : Nat) ≠ 10 from by decide)
        have c890 : (own_same own_tx3 [(own_pk p_ (0 : Int32) c_ (99 : Int32)), (own_pk p_ (1 : Int32) c_ (104 : Int32)), (own_pk p_ (2 : Int32) c_ (97 : Int32)), (own_pk p_ (3 : Int32) c_ (114 : Int32)), (own_pk p_ (4 : Int32) c_ (103 : Int32)), (own_pk p_ (5 : Int32) c_ (101 : Int32)), (own_pk p_ (6 : Int32) c_ (95 : Int32)), (own_pk p_ (7 : Int32) c_ (121 : Int32)), (own_pk p_ (8 : Int32) c_ (101 : Int32)), (own_pk p_ (9 : Int32) c_ (110 : Int32))]) = (0 : Int32) := own_same_len (show (12 : Nat) ≠ 10 from by decide)
        have ev891 : (own_nm [(own_pk p_ (0 : Int32) c_ (99 : Int32)), (own_pk p_ (1 : Int32) c_ (104 : Int32)), (own_pk p_ (2 : Int32) c_ (97 : Int32)), (own_pk p_ (3 : Int32) c_ (114 : Int32)), (own_pk p_ (4 : Int32) c_ (103 : Int32)), (own_pk p_ (5 : Int32) c_ (101 : Int32)), (own_pk p_ (6 : Int32) c_ (95 : Int32)), (own_pk p_ (7 : Int32) c_ (121 : Int32)), (own_pk p_ (8 : Int32) c_ (101 : Int32)), (own_pk p_ (9 : Int32) c_ (110 : Int32))] r_USAGE r_CHARGE r_TAX r_GAS_PART) = .null := by unfold own_nm; rw [if_pos c887, if_pos c888, if_pos c889, if_pos c890]
        unfold Q_named_s at hQ857; rw [ev891] at hQ857
        obtain ⟨b857_0, rfl, N857q, K857, f857_0, f857_1⟩ := hQ857
        have N857 := Fr.app N849 N857q
        show oG p e below _ (T857.setTop (mkF m 236 #[.val (.int x0), .val (.int x1), .val (.int x2), .val (.int 1), .val (.int sh_), .val (.int c_), .val (.int mu_), .val (.ref r_CHARGE), .val (.ref b842), .val .null, .val (.ref b711_0), .val (.int p_), .val (.int 0)] [(.ref b857_0)]))
        refine og (fun _ hr => XS.aconstNull X857.here hx rfl (hb hby at_236) hr) ?_
        show oG p e below _ (T857.setTop (mkF m 237 #[.val (.int x0), .val (.int x1), .val (.int x2), .val (.int 1), .val (.int sh_), .val (.int c_), .val (.int mu_), .val (.ref r_CHARGE), .val (.ref b842), .val .null, .val (.ref b711_0), .val (.int p_), .val (.int 0)] [.null, (.ref b857_0)]))
        have Z893 := (Nat.le_trans Z886 K857.1)
        refine own_cv X857 hx hZ hown (notFace_of_selects (args := #[]) (mvT hZ (hw _ (own_m 91 rfl)))) (hw _ (own_m 88 rfl)) (hw _ (own_m 89 rfl)) (hw _ (own_m 91 rfl)) (hw _ (own_m 90 rfl)) (hw _ (own_m 73 rfl)) (hw _ (own_m 92 rfl)) (by decide) f857_0 (rm := { frames := 0, cells := 0, slots := 0, locals := 0 }) (rm_orElse_7 l Z a0 hw [] b857_0 T857.heap n0 Z893 f857_1) (by decide) (W := 0) (by decide) (by decide) (by decide) rfl (by rw [hml]; rfl) (argsL := [.null]) (lenOf own_pd4 rfl) (rest := []) rfl rfl (Nat.le_of_eq rfl) (hb hby at_237) ?_
        intro _ T892 L892 X892 hQ892
        obtain ⟨rfl, N892q, e892⟩ := hQ892
        have N892 := Fr.app N857 N892q
        show oG p e below _ (T892.setTop (mkF m 240 #[.val (.int x0), .val (.int x1), .val (.int x2), .val (.int 1), .val (.int sh_), .val (.int c_), .val (.int mu_), .val (.ref r_CHARGE), .val (.ref b842), .val .null, .val (.ref b711_0), .val (.int p_), .val (.int 0)] [.null]))
        refine og (X892.checkcastNull hx (g := (mkF m 240 #[.val (.int x0), .val (.int x1), .val (.int x2), .val (.int 1), .val (.int sh_), .val (.int c_), .val (.int mu_), .val (.ref r_CHARGE), .val (.ref b842), .val .null, .val (.ref b711_0), .val (.int p_), .val (.int 0)] [.null])) rfl rfl (hb hby at_240)) ?_
        show oG p e below _ (T892.setTop (mkF m 243 #[.val (.int x0), .val (.int x1), .val (.int x2), .val (.int 1), .val (.int sh_), .val (.int c_), .val (.int mu_), .val (.ref r_CHARGE), .val (.ref b842), .val .null, .val (.ref b711_0), .val (.int p_), .val (.int 0)] [.null]))
        refine og (fun _ hr => XS.astore X892.here hx rfl (hb hby at_243) rfl rfl (l' := #[.val (.int x0), .val (.int x1), .val (.int x2), .val (.int 1), .val (.int sh_), .val (.int c_), .val (.int mu_), .val (.ref r_CHARGE), .val (.ref b842), .val .null, .val .null, .val (.int p_), .val (.int 0)]) rfl (XS.aload X892.here hx rfl (hb hby at_245) rfl rfl (XS.aload X892.here hx rfl (hb hby at_247) rfl rfl hr))) ?_
        show oG p e below _ (T892.setTop (mkF m 249 #[.val (.int x0), .val (.int x1), .val (.int x2), .val (.int 1), .val (.int sh_), .val (.int c_), .val (.int mu_), .val (.ref r_CHARGE), .val (.ref b842), .val .null, .val .null, .val (.int p_), .val (.int 0)] [.null, .null]))
        refine og (fun _ hr => Jvm.RoadKit.acmp X892 hx rfl rfl rfl (pc0 := 249) (pc' := 252) (same := true) rfl (hb hby at_249) rfl (decide_eq_true rfl) (by decide) (by decide) hr) ?_
        show oG p e below _ (T892.setTop (mkF m 252 #[.val (.int x0), .val (.int x1), .val (.int x2), .val (.int 1), .val (.int sh_), .val (.int c_), .val (.int mu_), .val (.ref r_CHARGE), .val (.ref b842), .val .null, .val .null, .val (.int p_), .val (.int 0)] []))
        refine og (fun _ hr => XS.iconst X892.here hx rfl (hb hby at_252) (XS.goto X892.here hx rfl (pc0 := 253) (pc' := 257) rfl (hb hby at_253) (by decide) (by decide) hr)) ?_
        show oG p e below _ (T892.setTop (mkF m 257 #[.val (.int x0), .val (.int x1), .val (.int x2), .val (.int 1), .val (.int sh_), .val (.int c_), .val (.int mu_), .val (.ref r_CHARGE), .val (.ref b842), .val .null, .val .null, .val (.int p_), .val (.int 0)] [(.int 1)]))
        have hk894 := (Nat.le_trans (Nat.le_trans (Nat.le_trans (Nat.le_trans (Nat.le_trans hk K711.1) (Nat.le_of_eq W839.size.symm)) E842.1) K849.1) K857.1)
        have A895 := A0.trans (CHr.keep K711 sf0 A0.1)
        have sf897 := (Safe.keep K711 sf0 A0.1 (Safe.new sz711_0))
        have A896 := A895.trans (CHr.wr W839 sf897 A895.1)
        have A898 := A896.trans (CHr.ext E842 A896.1)
        have sf900 := (Safe.ext E842 A896.1 (Safe.new (Nat.le_of_eq g842.symm)))
        have A899 := A898.trans (CHr.keep K849 (sfS sf900 sf0) A898.1)
        have A901 := A899.trans (CHr.keep K857 sf0 A899.1)
        exact own_retNW X892 hx hlk Bd.returns hS hk894 hZ hEL hh e892 A901 (t := .boolean) (by simp) (hb hby at_257) (by decide) (by decide) ⟨rfl, N892⟩
      refine og (fun _ hr => XS.ifYes X709.here hx rfl (pc0 := 79) (pc' := 157) rfl (hb hby at_79) rfl ((if0 _ _).trans (feq c710).2) (by decide) (by decide) hr) ?_
      show oG p e below _ (T709.setTop (mkF m 157 #[.val (.int x0), .val (.int x1), .val (.int x2), .val (.int 1), .val (.int sh_), .val (.int c_), .val (.int mu_), .val (.ref r_CHARGE), .unset, .unset, .unset, .unset, .unset] []))
      refine og (fun _ hr => XS.iload X709.here hx rfl (hb hby at_157) rfl (XS.iconst X709.here hx rfl (hb hby at_159) hr)) ?_
      show oG p e below _ (T709.setTop (mkF m 160 #[.val (.int x0), .val (.int x1), .val (.int x2), .val (.int 1), .val (.int sh_), .val (.int c_), .val (.int mu_), .val (.ref r_CHARGE), .unset, .unset, .unset, .unset, .unset] [(.int 1), (.int sh_)]))
      rcases Classical.em (sh_ = (1 : Int32)) with c902 | c902
      · skip
        refine og (fun _ hr => XS.icmpNo X709.here hx rfl (hb hby at_160) rfl (teq c902).2 hr) ?_
        show oG p e below _ (T709.setTop (mkF m 163 #[.val (.int x0), .val (.int x1), .val (.int x2), .val (.int 1), .val (.int sh_), .val (.int c_), .val (.int mu_), .val (.ref r_CHARGE), .unset, .unset, .unset, .unset, .unset] []))
        refine og (fun _ hr => XS.iloadN X709.here hx rfl (hb hby at_163) rfl hr) ?_
        show oG p e below _ (T709.setTop (mkF m 164 #[.val (.int x0), .val (.int x1), .val (.int x2), .val (.int 1), .val (.int sh_), .val (.int c_), .val (.int mu_), .val (.ref r_CHARGE), .unset, .unset, .unset, .unset, .unset] [(.int 1)]))
        refine own_cs X709 hx hZ hown (hw _ (own_m 96 rfl)) (hw _ (own_m 97 rfl)) (hw _ (own_m 5 rfl)) (hw _ (own_m 98 rfl)) (by decide) (rm := { frames := 0, cells := 1, slots := 11, locals := 0 }) (rm_longer_16 l Z a0 hw []  h0 n0 Z0 ) (by decide) (W := 0) (by decide) (by decide) (by decide) e709 (by rw [hml]; rfl) (argsL := [(.int 1)]) (lenOf own_pd7 rfl) (rest := []) rfl rfl (Nat.le_of_eq rfl) (hb hby at_164) ?_
        intro _ T903 L903 X903 hQ903
        obtain ⟨b903_0, kb903_0, rfl, N903q, K903, ge903_0, sz903_0, f903_0, f903_1⟩ := hQ903
        have N903 := Fr.app N0 N903q
        have sz904 : h0.size ≤ b903_0 := Nat.le_trans K0.1 sz903_0
        show oG p e below _ (T903.setTop (mkF m 167 #[.val (.int x0), .val (.int x1), .val (.int x2), .val (.int 1), .val (.int sh_), .val (.int c_), .val (.int mu_), .val (.ref r_CHARGE), .unset, .unset, .unset, .unset, .unset] [(.ref b903_0)]))
        refine og (fun _ hr => XS.astore X903.here hx rfl (hb hby at_167) rfl rfl (l' := #[.val (.int x0), .val (.int x1), .val (.int x2), .val (.int 1), .val (.int sh_), .val (.int c_), .val (.int mu_), .val (.ref r_CHARGE), .unset, .unset, .val (.ref b903_0), .unset, .unset]) rfl (XS.aload X903.here hx rfl (hb hby at_169) rfl rfl (XS.aload X903.here hx rfl (hb hby at_171) rfl rfl (own_alen X903 hx hZ rfl f903_1 rfl rfl (hb hby at_173) (XS.iconst X903.here hx rfl (hb hby at_174) (XS.isub X903.here hx rfl (hb hby at_175) rfl (XS.iload X903.here hx rfl (hb hby at_176) rfl hr))))))) ?_
        show oG p e below _ (T903.setTop (mkF m 178 #[.val (.int x0), .val (.int x1), .val (.int x2), .val (.int 1), .val (.int sh_), .val (.int c_), .val (.int mu_), .val (.ref r_CHARGE), .unset, .unset, .val (.ref b903_0), .unset, .unset] [(.int c_), (.int 10), (.ref b903_0)]))
        have c906 : (nar .char c_) = c_ := by
          have q0 := rng32 x2
          have q1 := c_mask x2 (255 : Int32) 8 (by decide) (by decide)
          have q2 := c_i2c (x2 &&& (255 : Int32))
          have q3 := congrArg Int32.toInt hc_
          have q4 := (show ((nar .char c_).toInt - c_.toInt) % 65536 = 0 ∧ 0 ≤ (nar .char c_).toInt ∧ (nar .char c_).toInt < 65536 from c_i2c c_)
          simp only [true_implies, Int32.lt_iff_toInt_lt, ← Int32.toInt_inj, Int32.reduceToInt, Int64.lt_iff_toInt_lt, ← Int64.toInt_inj, Int64.reduceToInt] at q0 q1 q2 q3 q4 ⊢
          omega
        refine own_stC X903 hx hZ rfl f903_1 (10 : Int32) c_ c_ 10 ⟨by decide, by decide⟩ rfl (Nat.le_of_ble_eq_true rfl) c906 [(.int 99), (.int 104), (.int 97), (.int 114), (.int 103), (.int 101), (.int 95), (.int 121), (.int 101), (.int 110), (.int c_)] rfl N903 ge903_0 (hb hby at_178) ?_
        intro T905 h905 L905 X905 e905 W905 N905 f905
        show oG p e below _ (T905.setTop (mkF m 179 #[.val (.int x0), .val (.int x1), .val (.int x2), .val (.int 1), .val (.int sh_), .val (.int c_), .val (.int mu_), .val (.ref r_CHARGE), .unset, .unset, .val (.ref b903_0), .unset, .unset] []))
        obtain ⟨T907, h907, X907, e907, E907, A907, D907, -, st907⟩ := newO X905 hx hZ hown (hw _ (own_m 9 rfl)) (hw _ (own_m 10 rfl)) (hw _ (own_m 11 rfl)) e905 (g := (mkF m 179 #[.val (.int x0), .val (.int x1), .val (.int x2), .val (.int 1), .val (.int sh_), .val (.int c_), .val (.int mu_), .val (.ref r_CHARGE), .unset, .unset, .val (.ref b903_0), .unset, .unset] [])) rfl (hb hby at_179) (by decide) (by decide)
        obtain ⟨b907, g907⟩ : ∃ z, z = h905.size := ⟨_, rfl⟩
        rw [← g907] at A907 D907 st907
        have Z908 := (Nat.le_trans (Nat.le_trans Z0 K903.1) (Nat.le_of_eq W905.size.symm))
        have ge909 : n0 ≤ b907 := Nat.le_trans Z908 (Nat.le_of_eq g907.symm)
        have K910 := ((K0.trans K903 all0).wr W905 (Or.inr sz904))
        have sz911 : h0.size ≤ b907 := Nat.le_trans K910.1 (Nat.le_of_eq g907.symm)
        refine og st907 ?_
        have f912 : Fld Z h907 b907 "java/lang/String" "coder" "B" (.int 0) := D907 (Or.inr (hw _ (own_m 35 rfl))) (ty := .byte) (by decide)
        have f913 : Fld Z h907 b907 "java/lang/String" "value" "[B" .null := D907 (Or.inr (hw _ (own_m 37 rfl))) (ty := (.array .byte)) (by decide)
        show oG p e below _ (T907.setTop (mkF m 182 #[.val (.int x0), .val (.int x1), .val (.int x2), .val (.int 1), .val (.int sh_), .val (.int c_), .val (.int mu_), .val (.ref r_CHARGE), .unset, .unset, .val (.ref b903_0), .unset, .unset] [(.ref b907)]))
        refine og (fun _ hr => XS.dup X907.here hx rfl (hb hby at_182) rfl rfl (XS.aload X907.here hx rfl (hb hby at_183) rfl rfl hr)) ?_
        show oG p e below _ (T907.setTop (mkF m 185 #[.val (.int x0), .val (.int x1), .val (.int x2), .val (.int 1), .val (.int sh_), .val (.int c_), .val (.int mu_), .val (.ref r_CHARGE), .unset, .unset, .val (.ref b903_0), .unset, .unset] [(.ref b903_0), (.ref b907), (.ref b907)]))
        have c915 : ¬ (c_ < (0 : Int32)) := by
          have q0 := rng32 x2
          have q1 := c_mask x2 (255 : Int32) 8 (by decide) (by decide)
          have q2 := c_i2c (x2 &&& (255 : Int32))
          have q3 := congrArg Int32.toInt hc_
          have q4 := (show ((nar .char c_).toInt - c_.toInt) % 65536 = 0 ∧ 0 ≤ (nar .char c_).toInt ∧ (nar .char c_).toInt < 65536 from c_i2c c_)
          have p0 := c906
          simp only [true_implies, Int32.lt_iff_toInt_lt, ← Int32.toInt_inj, Int32.reduceToInt, Int64.lt_iff_toInt_lt, ← Int64.toInt_inj, Int64.reduceToInt] at q0 q1 q2 q3 q4 p0 ⊢
          omega
        have c916 : ¬ ((255 : Int32) < c_) := by
          have q0 := rng32 x2
          have q1 := c_mask x2 (255 : Int32) 8 (by decide) (by decide)
          have q2 := c_i2c (x2 &&& (255 : Int32))
          have q3 := congrArg Int32.toInt hc_
          have q4 := (show ((nar .char c_).toInt - c_.toInt) % 65536 = 0 ∧ 0 ≤ (nar .char c_).toInt ∧ (nar .char c_).toInt < 65536 from c_i2c c_)
          have p0 := c906
          have p1 := c915
          simp only [true_implies, Int32.lt_iff_toInt_lt, ← Int32.toInt_inj, Int32.reduceToInt, Int64.lt_iff_toInt_lt, ← Int64.toInt_inj, Int64.reduceToInt] at q0 q1 q2 q3 q4 p0 p1 ⊢
          omega
        have hp914 : ∀ c ∈ ([99, 104, 97, 114, 103, 101, 95, 121, 101, 110, c_] : List Int32), ¬ c < 0 ∧ ¬ (255 : Int32) < c := (own_lc (by decide) (own_lc (by decide) (own_lc (by decide) (own_lc (by decide) (own_lc (by decide) (own_lc (by decide) (own_lc (by decide) (own_lc (by decide) (own_lc (by decide) (own_lc (by decide) (own_lc ⟨c915, c916⟩ own_ln)))))))))))
        have f917 := (f905.ext E907)
        have K918 := (K910.ext E907)
        have f919 := (own_sta_keep S_COMPACT_STRINGS K918 all0)
        have Z920 := (Nat.le_trans Z908 E907.1)
        refine own_newS X907 hx hZ hown hw (hw _ (own_m 12 rfl)) (hw _ (own_m 13 rfl)) (hw _ (own_m 14 rfl)) (hw _ (own_m 10 rfl)) [99, 104, 97, 114, 103, 101, 95, 121, 101, 110, c_] ge909 Z920 A907 f913 f912 f917 f919 hs_COMPACT_STRINGS (n := 11) rfl rfl (by decide) (by decide) hp914 (by decide) (W := 1) (by decide) (by decide) (by decide) e907 (by rw [hml]; rfl) (Nat.le_of_eq rfl) (hb hby at_185) ?_
        intro T914 L914 b914_0 kb914_0 X914 N914q K914 f914_0 f914_1 ge914_0 sz914_0 ne914_0 f914_2 f914_3
        have N914 := Fr.app N905 N914q
        have sz921 : h0.size ≤ b914_0 := Nat.le_trans K918.1 sz914_0
        show oG p e below _ (T914.setTop (mkF m 188 #[.val (.int x0), .val (.int x1), .val (.int x2), .val (.int 1), .val (.int sh_), .val (.int c_), .val (.int mu_), .val (.ref r_CHARGE), .unset, .unset, .val (.ref b903_0), .unset, .unset] [(.ref b907)]))
        refine og (fun _ hr => XS.astore X914.here hx rfl (hb hby at_188) rfl rfl (l' := #[.val (.int x0), .val (.int x1), .val (.int x2), .val (.int 1), .val (.int sh_), .val (.int c_), .val (.int mu_), .val (.ref r_CHARGE), .val (.ref b907), .unset, .val (.ref b903_0), .unset, .unset]) rfl (XS.aconstNull X914.here hx rfl (hb hby at_190) (XS.astore X914.here hx rfl (hb hby at_191) rfl rfl (l' := #[.val (.int x0), .val (.int x1), .val (.int x2), .val (.int 1), .val (.int sh_), .val (.int c_), .val (.int mu_), .val (.ref r_CHARGE), .val (.ref b907), .val .null, .val (.ref b903_0), .unset, .unset]) rfl (XS.goto X914.here hx rfl (pc0 := 193) (pc' := 231) rfl (hb hby at_193) (by decide) (by decide) (XS.aload X914.here hx rfl (hb hby at_231) rfl rfl hr))))) ?_
        show oG p e below _ (T914.setTop (mkF m 233 #[.val (.int x0), .val (.int x1), .val (.int x2), .val (.int 1), .val (.int sh_), .val (.int c_), .val (.int mu_), .val (.ref r_CHARGE), .val (.ref b907), .val .null, .val (.ref b903_0), .unset, .unset] [(.ref b907)]))
        have K923 := (K918.trans K914 (allS (Or.inr sz911) all0))
        have f924 := (own_sta_keep S__VALUES K923 all0)
        have f925 := (E__VALUES.keep K923)
        have f926 := (F_USAGE_header.keep K923 nin0)
        have f927 := (E_USAGE_header.keep K923)
        have f928 := (F_USAGE_header_coder.keep K923 nin0)
        have f929 := (F_USAGE_header_value.keep K923 nin0)
        have f930 := (F_CHARGE_header.keep K923 nin0)
        have f931 := (E_CHARGE_header.keep K923)
        have f932 := (F_CHARGE_header_coder.keep K923 nin0)
        have f933 := (F_CHARGE_header_value.keep K923 nin0)
        have f934 := (F_TAX_header.keep K923 nin0)
        have f935 := (E_TAX_header.keep K923)
        have f936 := (F_TAX_header_coder.keep K923 nin0)
        have f937 := (F_TAX_header_value.keep K923 nin0)
        have f938 := (F_GAS_PART_header.keep K923 nin0)
        have f939 := (E_GAS_PART_header.keep K923)
        have f940 := (F_GAS_PART_header_coder.keep K923 nin0)
        have f941 := (F_GAS_PART_header_value.keep K923 nin0)
        have f942 := (V__VALUES.keep K923 nin0)
        have f943 := (V_USAGE_header_value.keep K923 nin0)
        have f944 := (V_CHARGE_header_value.keep K923 nin0)
        have f945 := (V_TAX_header_value.keep K923 nin0)
        have f946 := (V_GAS_PART_header_value.keep K923 nin0)
        have f947 := (own_sta_keep f919 K914 (allS (own_ns_exa A907) all0))
        have f948 := (own_sta_keep S_EMPTY K923 all0)
        have f949 := (E_EMPTY.keep K923)
        have f950 := (F_EMPTY_value.keep K923 nin0)
        have Z951 := (Nat.le_trans Z920 K914.1)
        refine own_cs X914 hx hZ hown (hw _ (own_m 38 rfl)) (hw _ (own_m 39 rfl)) (hw _ (own_m 1 rfl)) (hw _ (own_m 40 rfl)) (by decide) (rm := { frames := 3, cells := 2, slots := 5, locals := 38 }) (rm_named_s l Z a0 hw [] b907 b914_0 kb914_0 (11 : Int32) [99, 104, 97, 114, 103, 101, 95, 121, 101, 110, c_] ((List.map StrChars.lo8 [99, 104, 97, 114, 103, 101, 95, 121, 101, 110, c_]).map Value.int) r_USAGE r__VALUES r_CHARGE r_TAX r_GAS_PART r_USAGE_header r_USAGE_header_value r_CHARGE_header r_CHARGE_header_value r_TAX_header r_TAX_header_value r_GAS_PART_header r_GAS_PART_header_value k__VALUES k_USAGE_header_value k_CHARGE_header_value k_TAX_header_value k_GAS_PART_header_value i_COMPACT_STRINGS v_SIOOBE_FORMATTER r_EMPTY T914.heap n0 Z951 f914_0 f914_1 f914_2 f914_3 (StrChars.Road.codOf (cs := [99, 104, 97, 114, 103, 101, 95, 121, 101, 110, c_]) (n := 11) rfl (fun c hc => (hp914 c hc).2)) (own_up hp914) (Nat.le_of_ble_eq_true rfl) f924 f925 f926 f927 f928 f929 f930 f931 f932 f933 f934 f935 f936 f937 f938 f939 f940 f941 f942 f943 f944 f945 f946 f947 f948 f949 f950 hs_COMPACT_STRINGS hv_SIOOBE_FORMATTER) (by decide) (W := 0) (by decide) (by decide) (by decide) rfl (by rw [hml]; rfl) (argsL := [(.ref b907)]) (lenOf own_pd8 rfl) (rest := []) rfl rfl (Nat.le_of_eq rfl) (hb hby at_233) ?_
        intro _ T922 L922 X922 hQ922
        have c952 : (own_same own_tx0 [99, 104, 97, 114, 103, 101, 95, 121, 101, 110, c_]) = (0 : Int32) := own_same_len (show (8 : Nat) ≠ 11 from by decide)
        have c953 : (own_same own_tx1 [99, 104, 97, 114, 103, 101, 95, 121, 101, 110, c_]) = (0 : Int32) := own_same_len (show (10 : Nat) ≠ 11 from by decide)
        have c954 : (own_same own_tx2 [99, 104, 97, 114, 103, 101, 95, 121, 101, 110, c_]) = (0 : Int32) := own_same_len (show (7 : Nat) ≠ 11 from by decide)
        have c955 : (own_same own_tx3 [99, 104, 97, 114, 103, 101, 95, 121, 101, 110, c_]) = (0 : Int32) := own_same_len (show (12 : Nat) ≠ 11 from by decide)
        have ev956 : (own_nm [99, 104, 97, 114, 103, 101, 95, 121, 101, 110, c_] r_USAGE r_CHARGE r_TAX r_GAS_PART) = .null := by unfold own_nm; rw [if_pos c952, if_pos c953, if_pos c954, if_pos c955]
        unfold Q_named_s at hQ922; rw [ev956] at hQ922
        obtain ⟨b922_0, rfl, N922q, K922, f922_0, f922_1⟩ := hQ922
        have N922 := Fr.app N914 N922q
        show oG p e below _ (T922.setTop (mkF m 236 #[.val (.int x0), .val (.int x1), .val (.int x2), .val (.int 1), .val (.int sh_), .val (.int c_), .val (.int mu_), .val (.ref r_CHARGE), .val (.ref b907), .val .null, .val (.ref b903_0), .unset, .unset] [(.ref b922_0)]))
        refine og (fun _ hr => XS.aconstNull X922.here hx rfl (hb hby at_236) hr) ?_
        show oG p e below _ (T922.setTop (mkF m 237 #[.val (.int x0), .val (.int x1), .val (.int x2), .val (.int 1), .val (.int sh_), .val (.int c_), .val (.int mu_), .val (.ref r_CHARGE), .val (.ref b907), .val .null, .val (.ref b903_0), .unset, .unset] [.null, (.ref b922_0)]))
        have Z958 := (Nat.le_trans Z951 K922.1)
        refine own_cv X922 hx hZ hown (notFace_of_selects (args := #[]) (mvT hZ (hw _ (own_m 91 rfl)))) (hw _ (own_m 88 rfl)) (hw _ (own_m 89 rfl)) (hw _ (own_m 91 rfl)) (hw _ (own_m 90 rfl)) (hw _ (own_m 73 rfl)) (hw _ (own_m 92 rfl)) (by decide) f922_0 (rm := { frames := 0, cells := 0, slots := 0, locals := 0 }) (rm_orElse_7 l Z a0 hw [] b922_0 T922.heap n0 Z958 f922_1) (by decide) (W := 0) (by decide) (by decide) (by decide) rfl (by rw [hml]; rfl) (argsL := [.null]) (lenOf own_pd4 rfl) (rest := []) rfl rfl (Nat.le_of_eq rfl) (hb hby at_237) ?_
        intro _ T957 L957 X957 hQ957
        obtain ⟨rfl, N957q, e957⟩ := hQ957
        have N957 := Fr.app N922 N957q
        show oG p e below _ (T957.setTop (mkF m 240 #[.val (.int x0), .val (.int x1), .val (.int x2), .val (.int 1), .val (.int sh_), .val (.int c_), .val (.int mu_), .val (.ref r_CHARGE), .val (.ref b907), .val .null, .val (.ref b903_0), .unset, .unset] [.null]))
        refine og (X957.checkcastNull hx (g := (mkF m 240 #[.val (.int x0), .val (.int x1), .val (.int x2), .val (.int 1), .val (.int sh_), .val (.int c_), .val (.int mu_), .val (.ref r_CHARGE), .val (.ref b907), .val .null, .val (.ref b903_0), .unset, .unset] [.null])) rfl rfl (hb hby at_240)) ?_
        show oG p e below _ (T957.setTop (mkF m 243 #[.val (.int x0), .val (.int x1), .val (.int x2), .val (.int 1), .val (.int sh_), .val (.int c_), .val (.int mu_), .val (.ref r_CHARGE), .val (.ref b907), .val .null, .val (.ref b903_0), .unset, .unset] [.null]))
        refine og (fun _ hr => XS.astore X957.here hx rfl (hb hby at_243) rfl rfl (l' := #[.val (.int x0), .val (.int x1), .val (.int x2), .val (.int 1), .val (.int sh_), .val (.int c_), .val (.int mu_), .val (.ref r_CHARGE), .val (.ref b907), .val .null, .val .null, .unset, .unset]) rfl (XS.aload X957.here hx rfl (hb hby at_245) rfl rfl (XS.aload X957.here hx rfl (hb hby at_247) rfl rfl hr))) ?_
        show oG p e below _ (T957.setTop (mkF m 249 #[.val (.int x0), .val (.int x1), .val (.int x2), .val (.int 1), .val (.int sh_), .val (.int c_), .val (.int mu_), .val (.ref r_CHARGE), .val (.ref b907), .val .null, .val .null, .unset, .unset] [.null, .null]))
        refine og (fun _ hr => Jvm.RoadKit.acmp X957 hx rfl rfl rfl (pc0 := 249) (pc' := 252) (same := true) rfl (hb hby at_249) rfl (decide_eq_true rfl) (by decide) (by decide) hr) ?_
        show oG p e below _ (T957.setTop (mkF m 252 #[.val (.int x0), .val (.int x1), .val (.int x2), .val (.int 1), .val (.int sh_), .val (.int c_), .val (.int mu_), .val (.ref r_CHARGE), .val (.ref b907), .val .null, .val .null, .unset, .unset] []))
        refine og (fun _ hr => XS.iconst X957.here hx rfl (hb hby at_252) (XS.goto X957.here hx rfl (pc0 := 253) (pc' := 257) rfl (hb hby at_253) (by decide) (by decide) hr)) ?_
        show oG p e below _ (T957.setTop (mkF m 257 #[.val (.int x0), .val (.int x1), .val (.int x2), .val (.int 1), .val (.int sh_), .val (.int c_), .val (.int mu_), .val (.ref r_CHARGE), .val (.ref b907), .val .null, .val .null, .unset, .unset] [(.int 1)]))
        have hk959 := (Nat.le_trans (Nat.le_trans (Nat.le_trans (Nat.le_trans (Nat.le_trans hk K903.1) (Nat.le_of_eq W905.size.symm)) E907.1) K914.1) K922.1)
        have A960 := A0.trans (CHr.keep K903 sf0 A0.1)
        have sf962 := (Safe.keep K903 sf0 A0.1 (Safe.new sz903_0))
        have A961 := A960.trans (CHr.wr W905 sf962 A960.1)
        have A963 := A961.trans (CHr.ext E907 A961.1)
        have sf965 := (Safe.ext E907 A961.1 (Safe.new (Nat.le_of_eq g907.symm)))
        have A964 := A963.trans (CHr.keep K914 (sfS sf965 sf0) A963.1)
        have A966 := A964.trans (CHr.keep K922 sf0 A964.1)
        exact own_retNW X957 hx hlk Bd.returns hS hk959 hZ hEL hh e957 A966 (t := .boolean) (by simp) (hb hby at_257) (by decide) (by decide) ⟨rfl, N957⟩
      refine og (fun _ hr => XS.icmpYes X709.here hx rfl (pc0 := 160) (pc' := 196) rfl (hb hby at_160) rfl (feq c902).2 (by decide) (by decide) hr) ?_
      show oG p e below _ (T709.setTop (mkF m 196 #[.val (.int x0), .val (.int x1), .val (.int x2), .val (.int 1), .val (.int sh_), .val (.int c_), .val (.int mu_), .val (.ref r_CHARGE), .unset, .unset, .unset, .unset, .unset] []))
      refine og (fun _ hr => XS.iload X709.here hx rfl (hb hby at_196) rfl (XS.iconst X709.here hx rfl (hb hby at_198) hr)) ?_
      show oG p e below _ (T709.setTop (mkF m 199 #[.val (.int x0), .val (.int x1), .val (.int x2), .val (.int 1), .val (.int sh_), .val (.int c_), .val (.int mu_), .val (.ref r_CHARGE), .unset, .unset, .unset, .unset, .unset] [(.int 2), (.int sh_)]))
      rcases Classical.em (sh_ = (2 : Int32)) with c967 | c967
      · skip
        refine og (fun _ hr => XS.icmpNo X709.here hx rfl (hb hby at_199) rfl (teq c967).2 hr) ?_
        show oG p e below _ (T709.setTop (mkF m 202 #[.val (.int x0), .val (.int x1), .val (.int x2), .val (.int 1), .val (.int sh_), .val (.int c_), .val (.int mu_), .val (.ref r_CHARGE), .unset, .unset, .unset, .unset, .unset] []))
        refine og (fun _ hr => XS.iloadN X709.here hx rfl (hb hby at_202) rfl hr) ?_
        show oG p e below _ (T709.setTop (mkF m 203 #[.val (.int x0), .val (.int x1), .val (.int x2), .val (.int 1), .val (.int sh_), .val (.int c_), .val (.int mu_), .val (.ref r_CHARGE), .unset, .unset, .unset, .unset, .unset] [(.int 1)]))
        have hZo969 := hZ
        refine own_csW X709 hx hZ hown (hw _ (own_m 104 rfl)) (hw _ (own_m 105 rfl)) (hw _ (own_m 5 rfl)) (hw _ (own_m 106 rfl)) (by decide) (rm := { frames := 0, cells := 2, slots := 40, locals := 0 }) (rm_shorter_17 l Z a0 hw []  h0 n0 Z0 ) (by decide) (W := 0) (by decide) (by decide) (by decide) e709 hEL A0.1 hS hk (by rw [hml]; rfl) (argsL := [(.int 1)]) (lenOf own_pd9 rfl) (rest := []) rfl rfl (Nat.le_of_eq rfl) (hb hby at_203) ?_
        intro _ T968 L968 X968 hQ968 Ac968 hS hZ hown
        obtain ⟨b968_0, b968_1, kb968_0, rfl, N968q, K968, f968_0, f968_1, f968_2, f968_3⟩ := hQ968
        have N968 := Fr.app N0 N968q
        show oG p e below _ (T968.setTop (mkF m 206 #[.val (.int x0), .val (.int x1), .val (.int x2), .val (.int 1), .val (.int sh_), .val (.int c_), .val (.int mu_), .val (.ref r_CHARGE), .unset, .unset, .unset, .unset, .unset] [(.ref b968_0)]))
        refine og (fun _ hr => XS.astore X968.here hx rfl (hb hby at_206) rfl rfl (l' := #[.val (.int x0), .val (.int x1), .val (.int x2), .val (.int 1), .val (.int sh_), .val (.int c_), .val (.int mu_), .val (.ref r_CHARGE), .val (.ref b968_0), .unset, .unset, .unset, .unset]) rfl (XS.aconstNull X968.here hx rfl (hb hby at_208) (XS.astore X968.here hx rfl (hb hby at_209) rfl rfl (l' := #[.val (.int x0), .val (.int x1), .val (.int x2), .val (.int 1), .val (.int sh_), .val (.int c_), .val (.int mu_), .val (.ref r_CHARGE), .val (.ref b968_0), .val .null, .unset, .unset, .unset]) rfl (XS.goto X968.here hx rfl (pc0 := 211) (pc' := 231) rfl (hb hby at_211) (by decide) (by decide) (XS.aload X968.here hx rfl (hb hby at_231) rfl rfl hr))))) ?_
        show oG p e below _ (T968.setTop (mkF m 233 #[.val (.int x0), .val (.int x1), .val (.int x2), .val (.int 1), .val (.int sh_), .val (.int c_), .val (.int mu_), .val (.ref r_CHARGE), .val (.ref b968_0), .val .null, .unset, .unset, .unset] [(.ref b968_0)]))
        have f971 := (own_sta_keep S__VALUES K968 all0)
        have f972 := (E__VALUES.keep K968)
        have f973 := (F_USAGE_header.keep K968 nin0)
        have f974 := (E_USAGE_header.keep K968)
        have f975 := (F_USAGE_header_coder.keep K968 nin0)
        have f976 := (F_USAGE_header_value.keep K968 nin0)
        have f977 := (F_CHARGE_header.keep K968 nin0)
        have f978 := (E_CHARGE_header.keep K968)
        have f979 := (F_CHARGE_header_coder.keep K968 nin0)
        have f980 := (F_CHARGE_header_value.keep K968 nin0)
        have f981 := (F_TAX_header.keep K968 nin0)
        have f982 := (E_TAX_header.keep K968)
        have f983 := (F_TAX_header_coder.keep K968 nin0)
        have f984 := (F_TAX_header_value.keep K968 nin0)
        have f985 := (F_GAS_PART_header.keep K968 nin0)
        have f986 := (E_GAS_PART_header.keep K968)
        have f987 := (F_GAS_PART_header_coder.keep K968 nin0)
        have f988 := (F_GAS_PART_header_value.keep K968 nin0)
        have f989 := (V__VALUES.keep K968 nin0)
        have f990 := (V_USAGE_header_value.keep K968 nin0)
        have f991 := (V_CHARGE_header_value.keep K968 nin0)
        have f992 := (V_TAX_header_value.keep K968 nin0)
        have f993 := (V_GAS_PART_header_value.keep K968 nin0)
        have f994 := (own_sta_keep S_COMPACT_STRINGS K968 all0)
        have f995 := (own_sta_keep S_EMPTY K968 all0)
        have f996 := (E_EMPTY.keep K968)
        have f997 := (F_EMPTY_value.keep K968 nin0)
        have Z998 := (Nat.le_trans Z0 K968.1)
        refine own_cs X968 hx hZ hown (hw _ (own_m 38 rfl)) (hw _ (own_m 39 rfl)) (hw _ (own_m 1 rfl)) (hw _ (own_m 40 rfl)) (by decide) (rm := { frames := 3, cells := 2, slots := 5, locals := 38 }) (rm_named_s l Z a0 hw [] b968_0 b968_1 kb968_0 (9 : Int32) own_tx7 [(.int 99), (.int 104), (.int 97), (.int 114), (.int 103), (.int 101), (.int 95), (.int 121), (.int 101)] r_USAGE r__VALUES r_CHARGE r_TAX r_GAS_PART r_USAGE_header r_USAGE_header_value r_CHARGE_header r_CHARGE_header_value r_TAX_header r_TAX_header_value r_GAS_PART_header r_GAS_PART_header_value k__VALUES k_USAGE_header_value k_CHARGE_header_value k_TAX_header_value k_GAS_PART_header_value i_COMPACT_STRINGS v_SIOOBE_FORMATTER r_EMPTY T968.heap n0 Z998 f968_0 f968_1 f968_2 f968_3 own_cod7 own_hb7 (by decide) f971 f972 f973 f974 f975 f976 f977 f978 f979 f980 f981 f982 f983 f984 f985 f986 f987 f988 f989 f990 f991 f992 f993 f994 f995 f996 f997 hs_COMPACT_STRINGS hv_SIOOBE_FORMATTER) (by decide) (W := 0) (by decide) (by decide) (by decide) rfl (by rw [hml]; rfl) (argsL := [(.ref b968_0)]) (lenOf own_pd8 rfl) (rest := []) rfl rfl (Nat.le_of_eq rfl) (hb hby at_233) ?_
        intro _ T970 L970 X970 hQ970
        have c999 : (own_same own_tx0 own_tx7) = (0 : Int32) := by decide +kernel
        have c1000 : (own_same own_tx1 own_tx7) = (0 : Int32) := by decide +kernel
        have c1001 : (own_same own_tx2 own_tx7) = (0 : Int32) := by decide +kernel
        have c1002 : (own_same own_tx3 own_tx7) = (0 : Int32) := by decide +kernel
        have ev1003 : (own_nm own_tx7 r_USAGE r_CHARGE r_TAX r_GAS_PART) = .null := by unfold own_nm; rw [if_pos c999, if_pos c1000, if_pos c1001, if_pos c1002]
        unfold Q_named_s at hQ970; rw [ev1003] at hQ970
        obtain ⟨b970_0, rfl, N970q, K970, f970_0, f970_1⟩ := hQ970
        have N970 := Fr.app N968 N970q
        show oG p e below _ (T970.setTop (mkF m 236 #[.val (.int x0), .val (.int x1), .val (.int x2), .val (.int 1), .val (.int sh_), .val (.int c_), .val (.int mu_), .val (.ref r_CHARGE), .val (.ref b968_0), .val .null, .unset, .unset, .unset] [(.ref b970_0)]))
        refine og (fun _ hr => XS.aconstNull X970.here hx rfl (hb hby at_236) hr) ?_
        show oG p e below _ (T970.setTop (mkF m 237 #[.val (.int x0), .val (.int x1), .val (.int x2), .val (.int 1), .val (.int sh_), .val (.int c_), .val (.int mu_), .val (.ref r_CHARGE), .val (.ref b968_0), .val .null, .unset, .unset, .unset] [.null, (.ref b970_0)]))
        have Z1005 := (Nat.le_trans Z998 K970.1)
        refine own_cv X970 hx hZ hown (notFace_of_selects (args := #[]) (mvT hZ (hw _ (own_m 91 rfl)))) (hw _ (own_m 88 rfl)) (hw _ (own_m 89 rfl)) (hw _ (own_m 91 rfl)) (hw _ (own_m 90 rfl)) (hw _ (own_m 73 rfl)) (hw _ (own_m 92 rfl)) (by decide) f970_0 (rm := { frames := 0, cells := 0, slots := 0, locals := 0 }) (rm_orElse_7 l Z a0 hw [] b970_0 T970.heap n0 Z1005 f970_1) (by decide) (W := 0) (by decide) (by decide) (by decide) rfl (by rw [hml]; rfl) (argsL := [.null]) (lenOf own_pd4 rfl) (rest := []) rfl rfl (Nat.le_of_eq rfl) (hb hby at_237) ?_
        intro _ T1004 L1004 X1004 hQ1004
        obtain ⟨rfl, N1004q, e1004⟩ := hQ1004
        have N1004 := Fr.app N970 N1004q
        show oG p e below _ (T1004.setTop (mkF m 240 #[.val (.int x0), .val (.int x1), .val (.int x2), .val (.int 1), .val (.int sh_), .val (.int c_), .val (.int mu_), .val (.ref r_CHARGE), .val (.ref b968_0), .val .null, .unset, .unset, .unset] [.null]))
        refine og (X1004.checkcastNull hx (g := (mkF m 240 #[.val (.int x0), .val (.int x1), .val (.int x2), .val (.int 1), .val (.int sh_), .val (.int c_), .val (.int mu_), .val (.ref r_CHARGE), .val (.ref b968_0), .val .null, .unset, .unset, .unset] [.null])) rfl rfl (hb hby at_240)) ?_
        show oG p e below _ (T1004.setTop (mkF m 243 #[.val (.int x0), .val (.int x1), .val (.int x2), .val (.int 1), .val (.int sh_), .val (.int c_), .val (.int mu_), .val (.ref r_CHARGE), .val (.ref b968_0), .val .null, .unset, .unset, .unset] [.null]))
        refine og (fun _ hr => XS.astore X1004.here hx rfl (hb hby at_243) rfl rfl (l' := #[.val (.int x0), .val (.int x1), .val (.int x2), .val (.int 1), .val (.int sh_), .val (.int c_), .val (.int mu_), .val (.ref r_CHARGE), .val (.ref b968_0), .val .null, .val .null, .unset, .unset]) rfl (XS.aload X1004.here hx rfl (hb hby at_245) rfl rfl (XS.aload X1004.here hx rfl (hb hby at_247) rfl rfl hr))) ?_
        show oG p e below _ (T1004.setTop (mkF m 249 #[.val (.int x0), .val (.int x1), .val (.int x2), .val (.int 1), .val (.int sh_), .val (.int c_), .val (.int mu_), .val (.ref r_CHARGE), .val (.ref b968_0), .val .null, .val .null, .unset, .unset] [.null, .null]))
        refine og (fun _ hr => Jvm.RoadKit.acmp X1004 hx rfl rfl rfl (pc0 := 249) (pc' := 252) (same := true) rfl (hb hby at_249) rfl (decide_eq_true rfl) (by decide) (by decide) hr) ?_
        show oG p e below _ (T1004.setTop (mkF m 252 #[.val (.int x0), .val (.int x1), .val (.int x2), .val (.int 1), .val (.int sh_), .val (.int c_), .val (.int mu_), .val (.ref r_CHARGE), .val (.ref b968_0), .val .null, .val .null, .unset, .unset] []))
        refine og (fun _ hr => XS.iconst X1004.here hx rfl (hb hby at_252) (XS.goto X1004.here hx rfl (pc0 := 253) (pc' := 257) rfl (hb hby at_253) (by decide) (by decide) hr)) ?_
        show oG p e below _ (T1004.setTop (mkF m 257 #[.val (.int x0), .val (.int x1), .val (.int x2), .val (.int 1), .val (.int sh_), .val (.int c_), .val (.int mu_), .val (.ref r_CHARGE), .val (.ref b968_0), .val .null, .val .null, .unset, .unset] [(.int 1)]))
        have hk1006 := (Nat.le_trans (Nat.le_refl _) K970.1)
        have A1007 := A0.trans Ac968
        have A1008 := A1007.trans (CHr.keep K970 sf0 A1007.1)
        exact own_retNW X1004 hx hlk Bd.returns hS hk1006 hZ hEL hh e1004 A1008 (t := .boolean) (by simp) (hb hby at_257) (by decide) (by decide) ⟨rfl, N1004⟩
      refine og (fun _ hr => XS.icmpYes X709.here hx rfl (pc0 := 199) (pc' := 214) rfl (hb hby at_199) rfl (feq c967).2 (by decide) (by decide) hr) ?_
      show oG p e below _ (T709.setTop (mkF m 214 #[.val (.int x0), .val (.int x1), .val (.int x2), .val (.int 1), .val (.int sh_), .val (.int c_), .val (.int mu_), .val (.ref r_CHARGE), .unset, .unset, .unset, .unset, .unset] []))
      refine og (fun _ hr => XS.iloadN X709.here hx rfl (hb hby at_214) rfl (XS.iconst X709.here hx rfl (hb hby at_215) (XS.iand X709.here hx rfl (hb hby at_216) rfl hr))) ?_
      show oG p e below _ (T709.setTop (mkF m 217 #[.val (.int x0), .val (.int x1), .val (.int x2), .val (.int 1), .val (.int sh_), .val (.int c_), .val (.int mu_), .val (.ref r_CHARGE), .unset, .unset, .unset, .unset, .unset] [(.int (x1 &&& (1 : Int32)))]))
      rcases Classical.em ((x1 &&& (1 : Int32)) = (0 : Int32)) with c1009 | c1009
      · skip
        refine og (fun _ hr => XS.ifNo X709.here hx rfl (hb hby at_217) rfl ((if0 _ _).trans (teq c1009).2) hr) ?_
        show oG p e below _ (T709.setTop (mkF m 220 #[.val (.int x0), .val (.int x1), .val (.int x2), .val (.int 1), .val (.int sh_), .val (.int c_), .val (.int mu_), .val (.ref r_CHARGE), .unset, .unset, .unset, .unset, .unset] []))
        refine og (fun _ hr => XS.aconstNull X709.here hx rfl (hb hby at_220) (XS.goto X709.here hx rfl (pc0 := 221) (pc' := 226) rfl (hb hby at_221) (by decide) (by decide) (XS.astore X709.here hx rfl (hb hby at_226) rfl rfl (l' := #[.val (.int x0), .val (.int x1), .val (.int x2), .val (.int 1), .val (.int sh_), .val (.int c_), .val (.int mu_), .val (.ref r_CHARGE), .val .null, .unset, .unset, .unset, .unset]) rfl (XS.aconstNull X709.here hx rfl (hb hby at_228) (XS.astore X709.here hx rfl (hb hby at_229) rfl rfl (l' := #[.val (.int x0), .val (.int x1), .val (.int x2), .val (.int 1), .val (.int sh_), .val (.int c_), .val (.int mu_), .val (.ref r_CHARGE), .val .null, .val .null, .unset, .unset, .unset]) rfl (XS.aload X709.here hx rfl (hb hby at_231) rfl rfl hr)))))) ?_
        show oG p e below _ (T709.setTop (mkF m 233 #[.val (.int x0), .val (.int x1), .val (.int x2), .val (.int 1), .val (.int sh_), .val (.int c_), .val (.int mu_), .val (.ref r_CHARGE), .val .null, .val .null, .unset, .unset, .unset] [.null]))
        refine own_cs X709 hx hZ hown (hw _ (own_m 38 rfl)) (hw _ (own_m 39 rfl)) (hw _ (own_m 1 rfl)) (hw _ (own_m 40 rfl)) (by decide) (rm := { frames := 2, cells := 1, slots := 4, locals := 25 }) (rm_named_11 l Z a0 hw [] r__VALUES r_USAGE r_CHARGE r_TAX r_GAS_PART k__VALUES r_USAGE_header r_CHARGE_header r_TAX_header r_GAS_PART_header r_EMPTY h0 n0 Z0 S__VALUES V__VALUES E__VALUES F_USAGE_header E_USAGE_header F_CHARGE_header E_CHARGE_header F_TAX_header E_TAX_header F_GAS_PART_header E_GAS_PART_header S_EMPTY) (by decide) (W := 0) (by decide) (by decide) (by decide) e709 (by rw [hml]; rfl) (argsL := [.null]) (lenOf own_pd8 rfl) (rest := []) rfl rfl (Nat.le_of_eq rfl) (hb hby at_233) ?_
        intro _ T1010 L1010 X1010 hQ1010
        obtain ⟨rfl, N1010q, K1010⟩ := hQ1010
        have N1010 := Fr.app N0 N1010q
        show oG p e below _ (T1010.setTop (mkF m 236 #[.val (.int x0), .val (.int x1), .val (.int x2), .val (.int 1), .val (.int sh_), .val (.int c_), .val (.int mu_), .val (.ref r_CHARGE), .val .null, .val .null, .unset, .unset, .unset] [(.ref r_EMPTY)]))
        refine og (fun _ hr => XS.aconstNull X1010.here hx rfl (hb hby at_236) hr) ?_
        show oG p e below _ (T1010.setTop (mkF m 237 #[.val (.int x0), .val (.int x1), .val (.int x2), .val (.int 1), .val (.int sh_), .val (.int c_), .val (.int mu_), .val (.ref r_CHARGE), .val .null, .val .null, .unset, .unset, .unset] [.null, (.ref r_EMPTY)]))
        have f1012 := (F_EMPTY_value.keep K1010 nin0)
        have Z1013 := (Nat.le_trans Z0 K1010.1)
        have f1014 := (E_EMPTY.keep K1010)
        refine own_cv X1010 hx hZ hown (notFace_of_selects (args := #[]) (mvT hZ (hw _ (own_m 91 rfl)))) (hw _ (own_m 88 rfl)) (hw _ (own_m 89 rfl)) (hw _ (own_m 91 rfl)) (hw _ (own_m 90 rfl)) (hw _ (own_m 73 rfl)) (hw _ (own_m 92 rfl)) (by decide) f1014 (rm := { frames := 0, cells := 0, slots := 0, locals := 0 }) (rm_orElse_7 l Z a0 hw [] r_EMPTY T1010.heap n0 Z1013 f1012) (by decide) (W := 0) (by decide) (by decide) (by decide) rfl (by rw [hml]; rfl) (argsL := [.null]) (lenOf own_pd4 rfl) (rest := []) rfl rfl (Nat.le_of_eq rfl) (hb hby at_237) ?_
        intro _ T1011 L1011 X1011 hQ1011
        obtain ⟨rfl, N1011q, e1011⟩ := hQ1011
        have N1011 := Fr.app N1010 N1011q
        show oG p e below _ (T1011.setTop (mkF m 240 #[.val (.int x0), .val (.int x1), .val (.int x2), .val (.int 1), .val (.int sh_), .val (.int c_), .val (.int mu_), .val (.ref r_CHARGE), .val .null, .val .null, .unset, .unset, .unset] [.null]))
        refine og (X1011.checkcastNull hx (g := (mkF m 240 #[.val (.int x0), .val (.int x1), .val (.int x2), .val (.int 1), .val (.int sh_), .val (.int c_), .val (.int mu_), .val (.ref r_CHARGE), .val .null, .val .null, .unset, .unset, .unset] [.null])) rfl rfl (hb hby at_240)) ?_
        show oG p e below _ (T1011.setTop (mkF m 243 #[.val (.int x0), .val (.int x1), .val (.int x2), .val (.int 1), .val (.int sh_), .val (.int c_), .val (.int mu_), .val (.ref r_CHARGE), .val .null, .val .null, .unset, .unset, .unset] [.null]))
        refine og (fun _ hr => XS.astore X1011.here hx rfl (hb hby at_243) rfl rfl (l' := #[.val (.int x0), .val (.int x1), .val (.int x2), .val (.int 1), .val (.int sh_), .val (.int c_), .val (.int mu_), .val (.ref r_CHARGE), .val .null, .val .null, .val .null, .unset, .unset]) rfl (XS.aload X1011.here hx rfl (hb hby at_245) rfl rfl (XS.aload X1011.here hx rfl (hb hby at_247) rfl rfl hr))) ?_
        show oG p e below _ (T1011.setTop (mkF m 249 #[.val (.int x0), .val (.int x1), .val (.int x2), .val (.int 1), .val (.int sh_), .val (.int c_), .val (.int mu_), .val (.ref r_CHARGE), .val .null, .val .null, .val .null, .unset, .unset] [.null, .null]))
        refine og (fun _ hr => Jvm.RoadKit.acmp X1011 hx rfl rfl rfl (pc0 := 249) (pc' := 252) (same := true) rfl (hb hby at_249) rfl (decide_eq_true rfl) (by decide) (by decide) hr) ?_
        show oG p e below _ (T1011.setTop (mkF m 252 #[.val (.int x0), .val (.int x1), .val (.int x2), .val (.int 1), .val (.int sh_), .val (.int c_), .val (.int mu_), .val (.ref r_CHARGE), .val .null, .val .null, .val .null, .unset, .unset] []))
        refine og (fun _ hr => XS.iconst X1011.here hx rfl (hb hby at_252) (XS.goto X1011.here hx rfl (pc0 := 253) (pc' := 257) rfl (hb hby at_253) (by decide) (by decide) hr)) ?_
        show oG p e below _ (T1011.setTop (mkF m 257 #[.val (.int x0), .val (.int x1), .val (.int x2), .val (.int 1), .val (.int sh_), .val (.int c_), .val (.int mu_), .val (.ref r_CHARGE), .val .null, .val .null, .val .null, .unset, .unset] [(.int 1)]))
        have hk1015 := (Nat.le_trans hk K1010.1)
        have A1016 := A0.trans (CHr.keep K1010 sf0 A0.1)
        exact own_retNW X1011 hx hlk Bd.returns hS hk1015 hZ hEL hh e1011 A1016 (t := .boolean) (by simp) (hb hby at_257) (by decide) (by decide) ⟨rfl, N1011⟩
      refine og (fun _ hr => XS.ifYes X709.here hx rfl (pc0 := 217) (pc' := 224) rfl (hb hby at_217) rfl ((if0 _ _).trans (feq c1009).2) (by decide) (by decide) hr) ?_
      show oG p e below _ (T709.setTop (mkF m 224 #[.val (.int x0), .val (.int x1), .val (.int x2), .val (.int 1), .val (.int sh_), .val (.int c_), .val (.int mu_), .val (.ref r_CHARGE), .unset, .unset, .unset, .unset, .unset] []))
      have hZo1018 := hZ
      obtain ⟨a1017, T1017, h1017, k11017, b1017, k1017, X1017, e1017, E1017, hS, hk1017, hZ, hown, EA1017, FC1017, FV1017, AV1017, -, -, Al1017, -, ne1017, st1017⟩ := ldcCH X709 hx hZ hown (hw _ (own_m 112 rfl)) (own_ws hw) e709 hS hk hEL (by simp [own_EL]) A0.1 (vs := []) (z := (0 : Int32)) ⟨by decide, by decide⟩ (by decide) (by decide) (g := (mkF m 224 #[.val (.int x0), .val (.int x1), .val (.int x2), .val (.int 1), .val (.int sh_), .val (.int c_), .val (.int mu_), .val (.ref r_CHARGE), .unset, .unset, .unset, .unset, .unset] [])) rfl (hb hby at_224) (n := 0) (by decide) (by decide) (by decide) (by decide)
      refine og st1017 ?_
      show oG p e below _ (T1017.setTop (mkF m 226 #[.val (.int x0), .val (.int x1), .val (.int x2), .val (.int 1), .val (.int sh_), .val (.int c_), .val (.int mu_), .val (.ref r_CHARGE), .unset, .unset, .unset, .unset, .unset] [(.ref a1017)]))
      refine og (fun _ hr => XS.astore X1017.here hx rfl (hb hby at_226) rfl rfl (l' := #[.val (.int x0), .val (.int x1), .val (.int x2), .val (.int 1), .val (.int sh_), .val (.int c_), .val (.int mu_), .val (.ref r_CHARGE), .val (.ref a1017), .unset, .unset, .unset, .unset]) rfl (XS.aconstNull X1017.here hx rfl (hb hby at_228) (XS.astore X1017.here hx rfl (hb hby at_229) rfl rfl (l' := #[.val (.int x0), .val (.int x1), .val (.int x2), .val (.int 1), .val (.int sh_), .val (.int c_), .val (.int mu_), .val (.ref r_CHARGE), .val (.ref a1017), .val .null, .unset, .unset, .unset]) rfl (XS.aload X1017.here hx rfl (hb hby at_231) rfl rfl hr)))) ?_
      show oG p e below _ (T1017.setTop (mkF m 233 #[.val (.int x0), .val (.int x1), .val (.int x2), .val (.int 1), .val (.int sh_), .val (.int c_), .val (.int mu_), .val (.ref r_CHARGE), .val (.ref a1017), .val .null, .unset, .unset, .unset] [(.ref a1017)]))
      have f1020 := (S__VALUES.ext E1017)
      have f1021 := (E__VALUES.ext E1017)
      have f1022 := (F_USAGE_header.ext E1017)
      have f1023 := (E_USAGE_header.ext E1017)
      have f1024 := (F_USAGE_header_coder.ext E1017)
      have f1025 := (F_USAGE_header_value.ext E1017)
      have f1026 := (F_CHARGE_header.ext E1017)
      have f1027 := (E_CHARGE_header.ext E1017)
      have f1028 := (F_CHARGE_header_coder.ext E1017)
      have f1029 := (F_CHARGE_header_value.ext E1017)
      have f1030 := (F_TAX_header.ext E1017)
      have f1031 := (E_TAX_header.ext E1017)
      have f1032 := (F_TAX_header_coder.ext E1017)
      have f1033 := (F_TAX_header_value.ext E1017)
      have f1034 := (F_GAS_PART_header.ext E1017)
      have f1035 := (E_GAS_PART_header.ext E1017)
      have f1036 := (F_GAS_PART_header_coder.ext E1017)
      have f1037 := (F_GAS_PART_header_value.ext E1017)
      have f1038 := (V__VALUES.ext E1017)
      have f1039 := (V_USAGE_header_value.ext E1017)
      have f1040 := (V_CHARGE_header_value.ext E1017)
      have f1041 := (V_TAX_header_value.ext E1017)
      have f1042 := (V_GAS_PART_header_value.ext E1017)
      have f1043 := (S_COMPACT_STRINGS.ext E1017)
      have f1044 := (S_EMPTY.ext E1017)
      have f1045 := (E_EMPTY.ext E1017)
      have f1046 := (F_EMPTY_value.ext E1017)
      have Z1047 := (Nat.le_trans Z0 E1017.1)
      refine own_cs X1017 hx hZ hown (hw _ (own_m 38 rfl)) (hw _ (own_m 39 rfl)) (hw _ (own_m 1 rfl)) (hw _ (own_m 40 rfl)) (by decide) (rm := { frames := 3, cells := 2, slots := 5, locals := 38 }) (rm_named_s l Z a0 hw [] a1017 b1017 k1017 (0 : Int32) own_tx5 [] r_USAGE r__VALUES r_CHARGE r_TAX r_GAS_PART r_USAGE_header r_USAGE_header_value r_CHARGE_header r_CHARGE_header_value r_TAX_header r_TAX_header_value r_GAS_PART_header r_GAS_PART_header_value k__VALUES k_USAGE_header_value k_CHARGE_header_value k_TAX_header_value k_GAS_PART_header_value i_COMPACT_STRINGS v_SIOOBE_FORMATTER r_EMPTY h1017 n0 Z1047 EA1017 FC1017 FV1017 AV1017 own_cod5 own_hb5 (by decide) f1020 f1021 f1022 f1023 f1024 f1025 f1026 f1027 f1028 f1029 f1030 f1031 f1032 f1033 f1034 f1035 f1036 f1037 f1038 f1039 f1040 f1041 f1042 f1043 f1044 f1045 f1046 hs_COMPACT_STRINGS hv_SIOOBE_FORMATTER) (by decide) (W := 0) (by decide) (by decide) (by decide) e1017 (by rw [hml]; rfl) (argsL := [(.ref a1017)]) (lenOf own_pd8 rfl) (rest := []) rfl rfl (Nat.le_of_eq rfl) (hb hby at_233) ?_
      intro _ T1019 L1019 X1019 hQ1019
      have c1048 : (own_same own_tx0 own_tx5) = (0 : Int32) := by decide +kernel
      have c1049 : (own_same own_tx1 own_tx5) = (0 : Int32) := by decide +kernel
      have c1050 : (own_same own_tx2 own_tx5) = (0 : Int32) := by decide +kernel
      have c1051 : (own_same own_tx3 own_tx5) = (0 : Int32) := by decide +kernel
      have ev1052 : (own_nm own_tx5 r_USAGE r_CHARGE r_TAX r_GAS_PART) = .null := by unfold own_nm; rw [if_pos c1048, if_pos c1049, if_pos c1050, if_pos c1051]
      unfold Q_named_s at hQ1019; rw [ev1052] at hQ1019
      obtain ⟨b1019_0, rfl, N1019q, K1019, f1019_0, f1019_1⟩ := hQ1019
      have N1019 := Fr.app N0 N1019q
      show oG p e below _ (T1019.setTop (mkF m 236 #[.val (.int x0), .val (.int x1), .val (.int x2), .val (.int 1), .val (.int sh_), .val (.int c_), .val (.int mu_), .val (.ref r_CHARGE), .val (.ref a1017), .val .null, .unset, .unset, .unset] [(.ref b1019_0)]))
      refine og (fun _ hr => XS.aconstNull X1019.here hx rfl (hb hby at_236) hr) ?_
      show oG p e below _ (T1019.setTop (mkF m 237 #[.val (.int x0), .val (.int x1), .val (.int x2), .val (.int 1), .val (.int sh_), .val (.int c_), .val (.int mu_), .val (.ref r_CHARGE), .val (.ref a1017), .val .null, .unset, .unset, .unset] [.null, (.ref b1019_0)]))
      have Z1054 := (Nat.le_trans Z1047 K1019.1)
      refine own_cv X1019 hx hZ hown (notFace_of_selects (args := #[]) (mvT hZ (hw _ (own_m 91 rfl)))) (hw _ (own_m 88 rfl)) (hw _ (own_m 89 rfl)) (hw _ (own_m 91 rfl)) (hw _ (own_m 90 rfl)) (hw _ (own_m 73 rfl)) (hw _ (own_m 92 rfl)) (by decide) f1019_0 (rm := { frames := 0, cells := 0, slots := 0, locals := 0 }) (rm_orElse_7 l Z a0 hw [] b1019_0 T1019.heap n0 Z1054 f1019_1) (by decide) (W := 0) (by decide) (by decide) (by decide) rfl (by rw [hml]; rfl) (argsL := [.null]) (lenOf own_pd4 rfl) (rest := []) rfl rfl (Nat.le_of_eq rfl) (hb hby at_237) ?_
      intro _ T1053 L1053 X1053 hQ1053
      obtain ⟨rfl, N1053q, e1053⟩ := hQ1053
      have N1053 := Fr.app N1019 N1053q
      show oG p e below _ (T1053.setTop (mkF m 240 #[.val (.int x0), .val (.int x1), .val (.int x2), .val (.int 1), .val (.int sh_), .val (.int c_), .val (.int mu_), .val (.ref r_CHARGE), .val (.ref a1017), .val .null, .unset, .unset, .unset] [.null]))
      refine og (X1053.checkcastNull hx (g := (mkF m 240 #[.val (.int x0), .val (.int x1), .val (.int x2), .val (.int 1), .val (.int sh_), .val (.int c_), .val (.int mu_), .val (.ref r_CHARGE), .val (.ref a1017), .val .null, .unset, .unset, .unset] [.null])) rfl rfl (hb hby at_240)) ?_
      show oG p e below _ (T1053.setTop (mkF m 243 #[.val (.int x0), .val (.int x1), .val (.int x2), .val (.int 1), .val (.int sh_), .val (.int c_), .val (.int mu_), .val (.ref r_CHARGE), .val (.ref a1017), .val .null, .unset, .unset, .unset] [.null]))
      refine og (fun _ hr => XS.astore X1053.here hx rfl (hb hby at_243) rfl rfl (l' := #[.val (.int x0), .val (.int x1), .val (.int x2), .val (.int 1), .val (.int sh_), .val (.int c_), .val (.int mu_), .val (.ref r_CHARGE), .val (.ref a1017), .val .null, .val .null, .unset, .unset]) rfl (XS.aload X1053.here hx rfl (hb hby at_245) rfl rfl (XS.aload X1053.here hx rfl (hb hby at_247) rfl rfl hr))) ?_
      show oG p e below _ (T1053.setTop (mkF m 249 #[.val (.int x0), .val (.int x1), .val (.int x2), .val (.int 1), .val (.int sh_), .val (.int c_), .val (.int mu_), .val (.ref r_CHARGE), .val (.ref a1017), .val .null, .val .null, .unset, .unset] [.null, .null]))
      refine og (fun _ hr => Jvm.RoadKit.acmp X1053 hx rfl rfl rfl (pc0 := 249) (pc' := 252) (same := true) rfl (hb hby at_249) rfl (decide_eq_true rfl) (by decide) (by decide) hr) ?_
      show oG p e below _ (T1053.setTop (mkF m 252 #[.val (.int x0), .val (.int x1), .val (.int x2), .val (.int 1), .val (.int sh_), .val (.int c_), .val (.int mu_), .val (.ref r_CHARGE), .val (.ref a1017), .val .null, .val .null, .unset, .unset] []))
      refine og (fun _ hr => XS.iconst X1053.here hx rfl (hb hby at_252) (XS.goto X1053.here hx rfl (pc0 := 253) (pc' := 257) rfl (hb hby at_253) (by decide) (by decide) hr)) ?_
      show oG p e below _ (T1053.setTop (mkF m 257 #[.val (.int x0), .val (.int x1), .val (.int x2), .val (.int 1), .val (.int sh_), .val (.int c_), .val (.int mu_), .val (.ref r_CHARGE), .val (.ref a1017), .val .null, .val .null, .unset, .unset] [(.int 1)]))
      have hk1055 := (Nat.le_trans hk1017 K1019.1)
      have A1056 := A0.trans Al1017
      have A1057 := A1056.trans (CHr.keep K1019 sf0 A1056.1)
      exact own_retNW X1053 hx hlk Bd.returns hS hk1055 hZ hEL hh e1053 A1057 (t := .boolean) (by simp) (hb hby at_257) (by decide) (by decide) ⟨rfl, N1053⟩
    have c1058 : k_ = (0 : Int32) := by
      have q0 := rng32 x0
      have q1 := c_mask x0 (3 : Int32) 2 (by decide) (by decide)
      have q2 := congrArg Int32.toInt hk_
      have p0 := c2
      have p1 := c356
      have p2 := c708
      simp only [true_implies, Int32.lt_iff_toInt_lt, ← Int32.toInt_inj, Int32.reduceToInt, Int64.lt_iff_toInt_lt, ← Int64.toInt_inj, Int64.reduceToInt] at q0 q1 q2 p0 p1 p2 ⊢
      omega
    rw [c1058]
    show oG p e below _ (s₁.setTop (mkF m 34 #[.val (.int x0), .val (.int x1), .val (.int x2), .val (.int 0), .val (.int sh_), .val (.int c_), .val (.int mu_), .unset, .unset, .unset, .unset, .unset, .unset] []))
    refine og (fun _ hr => XS.iloadN X0.here hx rfl (hb hby at_34) rfl (XS.ifNo X0.here hx rfl (hb hby at_35) rfl ((if0 _ _).trans (teq (by decide)).2) hr)) ?_
    show oG p e below _ (s₁.setTop (mkF m 38 #[.val (.int x0), .val (.int x1), .val (.int x2), .val (.int 0), .val (.int sh_), .val (.int c_), .val (.int mu_), .unset, .unset, .unset, .unset, .unset, .unset] []))
    obtain ⟨T1059, X1059, e1059, st1059⟩ := getS2 X0 hx hZ hown (host := "") (Or.inl (hw _ (own_m 0 rfl))) Via.refl e0 S_USAGE (g := (mkF m 38 #[.val (.int x0), .val (.int x1), .val (.int x2), .val (.int 0), .val (.int sh_), .val (.int c_), .val (.int mu_), .unset, .unset, .unset, .unset, .unset, .unset] [])) rfl (hb hby at_38)
    refine og st1059 ?_
    show oG p e below _ (T1059.setTop (mkF m 41 #[.val (.int x0), .val (.int x1), .val (.int x2), .val (.int 0), .val (.int sh_), .val (.int c_), .val (.int mu_), .unset, .unset, .unset, .unset, .unset, .unset] [(.ref r_USAGE)]))
    refine og (fun _ hr => XS.astore X1059.here hx rfl (hb hby at_41) rfl rfl (l' := #[.val (.int x0), .val (.int x1), .val (.int x2), .val (.int 0), .val (.int sh_), .val (.int c_), .val (.int mu_), .val (.ref r_USAGE), .unset, .unset, .unset, .unset, .unset]) rfl (XS.goto X1059.here hx rfl (pc0 := 43) (pc' := 77) rfl (hb hby at_43) (by decide) (by decide) (XS.iload X1059.here hx rfl (hb hby at_77) rfl hr))) ?_
    show oG p e below _ (T1059.setTop (mkF m 79 #[.val (.int x0), .val (.int x1), .val (.int x2), .val (.int 0), .val (.int sh_), .val (.int c_), .val (.int mu_), .val (.ref r_USAGE), .unset, .unset, .unset, .unset, .unset] [(.int sh_)]))
    rcases Classical.em (sh_ = (0 : Int32)) with c1060 | c1060
    · skip
      refine og (fun _ hr => XS.ifNo X1059.here hx rfl (hb hby at_79) rfl ((if0 _ _).trans (teq c1060).2) hr) ?_
      show oG p e below _ (T1059.setTop (mkF m 82 #[.val (.int x0), .val (.int x1), .val (.int x2), .val (.int 0), .val (.int sh_), .val (.int c_), .val (.int mu_), .val (.ref r_USAGE), .unset, .unset, .unset, .unset, .unset] []))
      refine og (fun _ hr => XS.iloadN X1059.here hx rfl (hb hby at_82) rfl hr) ?_
      show oG p e below _ (T1059.setTop (mkF m 83 #[.val (.int x0), .val (.int x1), .val (.int x2), .val (.int 0), .val (.int sh_), .val (.int c_), .val (.int mu_), .val (.ref r_USAGE), .unset, .unset, .unset, .unset, .unset] [(.int 0)]))
      refine own_cs X1059 hx hZ hown (hw _ (own_m 3 rfl)) (hw _ (own_m 4 rfl)) (hw _ (own_m 5 rfl)) (hw _ (own_m 6 rfl)) (by decide) (rm := { frames := 0, cells := 1, slots := 8, locals := 0 }) (rm_exact_18 l Z a0 hw []  h0 n0 Z0 ) (by decide) (W := 0) (by decide) (by decide) (by decide) e1059 (by rw [hml]; rfl) (argsL := [(.int 0)]) (lenOf own_pd7 rfl) (rest := []) rfl rfl (Nat.le_of_eq rfl) (hb hby at_83) ?_
      intro _ T1061 L1061 X1061 hQ1061
      obtain ⟨b1061_0, kb1061_0, rfl, N1061q, K1061, ge1061_0, sz1061_0, f1061_0, f1061_1⟩ := hQ1061
      have N1061 := Fr.app N0 N1061q
      have sz1062 : h0.size ≤ b1061_0 := Nat.le_trans K0.1 sz1061_0
      show oG p e below _ (T1061.setTop (mkF m 86 #[.val (.int x0), .val (.int x1), .val (.int x2), .val (.int 0), .val (.int sh_), .val (.int c_), .val (.int mu_), .val (.ref r_USAGE), .unset, .unset, .unset, .unset, .unset] [(.ref b1061_0)]))
      refine og (fun _ hr => XS.astore X1061.here hx rfl (hb hby at_86) rfl rfl (l' := #[.val (.int x0), .val (.int x1), .val (.int x2), .val (.int 0), .val (.int sh_), .val (.int c_), .val (.int mu_), .val (.ref r_USAGE), .unset, .unset, .val (.ref b1061_0), .unset, .unset]) rfl (XS.iloadN X1061.here hx rfl (hb hby at_88) rfl hr)) ?_
      show oG p e below _ (T1061.setTop (mkF m 89 #[.val (.int x0), .val (.int x1), .val (.int x2), .val (.int 0), .val (.int sh_), .val (.int c_), .val (.int mu_), .val (.ref r_USAGE), .unset, .unset, .val (.ref b1061_0), .unset, .unset] [(.int x1)]))
      refine og (X1061.ldcInt hx hown (mvT hZ (hw _ (own_m 8 rfl))) rfl (hb hby at_89)) ?_
      show oG p e below _ (T1061.setTop (mkF m 91 #[.val (.int x0), .val (.int x1), .val (.int x2), .val (.int 0), .val (.int sh_), .val (.int c_), .val (.int mu_), .val (.ref r_USAGE), .unset, .unset, .val (.ref b1061_0), .unset, .unset] [(.int 2147483647), (.int x1)]))
      refine og (fun _ hr => XS.iand X1061.here hx rfl (hb hby at_91) rfl (XS.aload X1061.here hx rfl (hb hby at_92) rfl rfl (own_alen X1061 hx hZ rfl f1061_1 rfl rfl (hb hby at_94) hr))) ?_
      show oG p e below _ (T1061.setTop (mkF m 95 #[.val (.int x0), .val (.int x1), .val (.int x2), .val (.int 0), .val (.int sh_), .val (.int c_), .val (.int mu_), .val (.ref r_USAGE), .unset, .unset, .val (.ref b1061_0), .unset, .unset] [(.int 8), (.int (x1 &&& (2147483647 : Int32)))]))
      have nz1063 : (8 : Int32) ≠ (0 : Int32) := by decide
      refine og (fun _ hr => iremM X1061 hx rfl (hb hby at_95) rfl nz1063 hr) ?_
      show oG p e below _ (T1061.setTop (mkF m 96 #[.val (.int x0), .val (.int x1), .val (.int x2), .val (.int 0), .val (.int sh_), .val (.int c_), .val (.int mu_), .val (.ref r_USAGE), .unset, .unset, .val (.ref b1061_0), .unset, .unset] [(.int ((x1 &&& (2147483647 : Int32)) % (8 : Int32)))]))
      refine og (fun _ hr => XS.istore X1061.here hx rfl (hb hby at_96) rfl (l' := #[.val (.int x0), .val (.int x1), .val (.int x2), .val (.int 0), .val (.int sh_), .val (.int c_), .val (.int mu_), .val (.ref r_USAGE), .unset, .unset, .val (.ref b1061_0), .val (.int ((x1 &&& (2147483647 : Int32)) % (8 : Int32))), .unset]) rfl hr) ?_
      show oG p e below _ (T1061.setTop (mkF m 98 #[.val (.int x0), .val (.int x1), .val (.int x2), .val (.int 0), .val (.int sh_), .val (.int c_), .val (.int mu_), .val (.ref r_USAGE), .unset, .unset, .val (.ref b1061_0), .val (.int ((x1 &&& (2147483647 : Int32)) % (8 : Int32))), .unset] []))
      generalize hp_ : ((x1 &&& (2147483647 : Int32)) % (8 : Int32)) = p_
      refine og (fun _ hr => XS.iconst X1061.here hx rfl (hb hby at_98) (XS.istore X1061.here hx rfl (hb hby at_99) rfl (l' := #[.val (.int x0), .val (.int x1), .val (.int x2), .val (.int 0), .val (.int sh_), .val (.int c_), .val (.int mu_), .val (.ref r_USAGE), .unset, .unset, .val (.ref b1061_0), .val (.int p_), .val (.int 1)]) rfl (XS.iload X1061.here hx rfl (hb hby at_101) rfl hr))) ?_
      show oG p e below _ (T1061.setTop (mkF m 103 #[.val (.int x0), .val (.int x1), .val (.int x2), .val (.int 0), .val (.int sh_), .val (.int c_), .val (.int mu_), .val (.ref r_USAGE), .unset, .unset, .val (.ref b1061_0), .val (.int p_), .val (.int 1)] [(.int mu_)]))
      rcases Classical.em (mu_ = (0 : Int32)) with c1064 | c1064
      · skip
        refine og (fun _ hr => XS.ifYes X1061.here hx rfl (pc0 := 103) (pc' := 130) rfl (hb hby at_103) rfl ((if0 _ _).trans (teq c1064).1) (by decide) (by decide) hr) ?_
        show oG p e below _ (T1061.setTop (mkF m 130 #[.val (.int x0), .val (.int x1), .val (.int x2), .val (.int 0), .val (.int sh_), .val (.int c_), .val (.int mu_), .val (.ref r_USAGE), .unset, .unset, .val (.ref b1061_0), .val (.int p_), .val (.int 1)] []))
        obtain ⟨T1065, h1065, X1065, e1065, E1065, A1065, D1065, -, st1065⟩ := newO X1061 hx hZ hown (hw _ (own_m 9 rfl)) (hw _ (own_m 10 rfl)) (hw _ (own_m 11 rfl)) rfl (g := (mkF m 130 #[.val (.int x0), .val (.int x1), .val (.int x2), .val (.int 0), .val (.int sh_), .val (.int c_), .val (.int mu_), .val (.ref r_USAGE), .unset, .unset, .val (.ref b1061_0), .val (.int p_), .val (.int 1)] [])) rfl (hb hby at_130) (by decide) (by decide)
        obtain ⟨b1065, g1065⟩ : ∃ z, z = T1061.heap.size := ⟨_, rfl⟩
        rw [← g1065] at A1065 D1065 st1065
        have Z1066 := (Nat.le_trans Z0 K1061.1)
        have ge1067 : n0 ≤ b1065 := Nat.le_trans Z1066 (Nat.le_of_eq g1065.symm)
        have K1068 := (K0.trans K1061 all0)
        have sz1069 : h0.size ≤ b1065 := Nat.le_trans K1068.1 (Nat.le_of_eq g1065.symm)
        refine og st1065 ?_
        have f1070 : Fld Z h1065 b1065 "java/lang/String" "coder" "B" (.int 0) := D1065 (Or.inr (hw _ (own_m 35 rfl))) (ty := .byte) (by decide)
        have f1071 : Fld Z h1065 b1065 "java/lang/String" "value" "[B" .null := D1065 (Or.inr (hw _ (own_m 37 rfl))) (ty := (.array .byte)) (by decide)
        show oG p e below _ (T1065.setTop (mkF m 133 #[.val (.int x0), .val (.int x1), .val (.int x2), .val (.int 0), .val (.int sh_), .val (.int c_), .val (.int mu_), .val (.ref r_USAGE), .unset, .unset, .val (.ref b1061_0), .val (.int p_), .val (.int 1)] [(.ref b1065)]))
        refine og (fun _ hr => XS.dup X1065.here hx rfl (hb hby at_133) rfl rfl (XS.aload X1065.here hx rfl (hb hby at_134) rfl rfl hr)) ?_
        show oG p e below _ (T1065.setTop (mkF m 136 #[.val (.int x0), .val (.int x1), .val (.int x2), .val (.int 0), .val (.int sh_), .val (.int c_), .val (.int mu_), .val (.ref r_USAGE), .unset, .unset, .val (.ref b1061_0), .val (.int p_), .val (.int 1)] [(.ref b1061_0), (.ref b1065), (.ref b1065)]))
        have hp1072 : ∀ c ∈ ([117, 115, 97, 103, 101, 95, 109, 51] : List Int32), ¬ c < 0 ∧ ¬ (255 : Int32) < c := (own_lc (by decide) (own_lc (by decide) (own_lc (by decide) (own_lc (by decide) (own_lc (by decide) (own_lc (by decide) (own_lc (by decide) (own_lc (by decide) own_ln))))))))
        have f1073 := (f1061_1.ext E1065)
        have f1074 := ((own_sta_keep S_COMPACT_STRINGS K1061 all0).ext E1065)
        have Z1075 := (Nat.le_trans Z1066 E1065.1)
        refine own_newS X1065 hx hZ hown hw (hw _ (own_m 12 rfl)) (hw _ (own_m 13 rfl)) (hw _ (own_m 14 rfl)) (hw _ (own_m 10 rfl)) [117, 115, 97, 103, 101, 95, 109, 51] ge1067 Z1075 A1065 f1071 f1070 f1073 f1074 hs_COMPACT_STRINGS (n := 8) rfl rfl (by decide) (by decide) hp1072 (by decide) (W := 1) (by decide) (by decide) (by decide) e1065 (by rw [hml]; rfl) (Nat.le_of_eq rfl) (hb hby at_136) ?_
        intro T1072 L1072 b1072_0 kb1072_0 X1072 N1072q K1072 f1072_0 f1072_1 ge1072_0 sz1072_0 ne1072_0 f1072_2 f1072_3
        have N1072 := Fr.app N1061 N1072q
        have K1077 := (K1068.ext E1065)
        have sz1076 : h0.size ≤ b1072_0 := Nat.le_trans K1077.1 sz1072_0
        show oG p e below _ (T1072.setTop (mkF m 139 #[.val (.int x0), .val (.int x1), .val (.int x2), .val (.int 0), .val (.int sh_), .val (.int c_), .val (.int mu_), .val (.ref r_USAGE), .unset, .unset, .val (.ref b1061_0), .val (.int p_), .val (.int 1)] [(.ref b1065)]))
        refine og (fun _ hr => XS.astore X1072.here hx rfl (hb hby at_139) rfl rfl (l' := #[.val (.int x0), .val (.int x1), .val (.int x2), .val (.int 0), .val (.int sh_), .val (.int c_), .val (.int mu_), .val (.ref r_USAGE), .val (.ref b1065), .unset, .val (.ref b1061_0), .val (.int p_), .val (.int 1)]) rfl (XS.iload X1072.here hx rfl (hb hby at_141) rfl (XS.ifNo X1072.here hx rfl (hb hby at_143) rfl ((if0 _ _).trans (feq (by decide)).1) (XS.aload X1072.here hx rfl (hb hby at_146) rfl rfl (XS.goto X1072.here hx rfl (pc0 := 148) (pc' := 152) rfl (hb hby at_148) (by decide) (by decide) (XS.astore X1072.here hx rfl (hb hby at_152) rfl rfl (l' := #[.val (.int x0), .val (.int x1), .val (.int x2), .val (.int 0), .val (.int sh_), .val (.int c_), .val (.int mu_), .val (.ref r_USAGE), .val (.ref b1065), .val (.ref r_USAGE), .val (.ref b1061_0), .val (.int p_), .val (.int 1)]) rfl (XS.goto X1072.here hx rfl (pc0 := 154) (pc' := 231) rfl (hb hby at_154) (by decide) (by decide) (XS.aload X1072.here hx rfl (hb hby at_231) rfl rfl hr)))))))) ?_
        show oG p e below _ (T1072.setTop (mkF m 233 #[.val (.int x0), .val (.int x1), .val (.int x2), .val (.int 0), .val (.int sh_), .val (.int c_), .val (.int mu_), .val (.ref r_USAGE), .val (.ref b1065), .val (.ref r_USAGE), .val (.ref b1061_0), .val (.int p_), .val (.int 1)] [(.ref b1065)]))
        have K1079 := (K1077.trans K1072 (allS (Or.inr sz1069) all0))
        have f1080 := (own_sta_keep S__VALUES K1079 all0)
        have f1081 := (E__VALUES.keep K1079)
        have f1082 := (F_USAGE_header.keep K1079 nin0)
        have f1083 := (E_USAGE_header.keep K1079)
        have f1084 := (F_USAGE_header_coder.keep K1079 nin0)
        have f1085 := (F_USAGE_header_value.keep K1079 nin0)
        have f1086 := (F_CHARGE_header.keep K1079 nin0)
        have f1087 := (E_CHARGE_header.keep K1079)
        have f1088 := (F_CHARGE_header_coder.keep K1079 nin0)
        have f1089 := (F_CHARGE_header_value.keep K1079 nin0)
        have f1090 := (F_TAX_header.keep K1079 nin0)
        have f1091 := (E_TAX_header.keep K1079)
        have f1092 := (F_TAX_header_coder.keep K1079 nin0)
        have f1093 := (F_TAX_header_value.keep K1079 nin0)
        have f1094 := (F_GAS_PART_header.keep K1079 nin0)
        have f1095 := (E_GAS_PART_header.keep K1079)
        have f1096 := (F_GAS_PART_header_coder.keep K1079 nin0)
        have f1097 := (F_GAS_PART_header_value.keep K1079 nin0)
        have f1098 := (V__VALUES.keep K1079 nin0)
        have f1099 := (V_USAGE_header_value.keep K1079 nin0)
        have f1100 := (V_CHARGE_header_value.keep K1079 nin0)
        have f1101 := (V_TAX_header_value.keep K1079 nin0)
        have f1102 := (V_GAS_PART_header_value.keep K1079 nin0)
        have f1103 := (own_sta_keep f1074 K1072 (allS (own_ns_exa A1065) all0))
        have f1104 := (own_sta_keep S_EMPTY K1079 all0)
        have f1105 := (E_EMPTY.keep K1079)
        have f1106 := (F_EMPTY_value.keep K1079 nin0)
        have Z1107 := (Nat.le_trans Z1075 K1072.1)
        refine own_cs X1072 hx hZ hown (hw _ (own_m 38 rfl)) (hw _ (own_m 39 rfl)) (hw _ (own_m 1 rfl)) (hw _ (own_m 40 rfl)) (by decide) (rm := { frames := 3, cells := 2, slots := 5, locals := 38 }) (rm_named_s l Z a0 hw [] b1065 b1072_0 kb1072_0 (8 : Int32) [117, 115, 97, 103, 101, 95, 109, 51] ((List.map StrChars.lo8 [117, 115, 97, 103, 101, 95, 109, 51]).map Value.int) r_USAGE r__VALUES r_CHARGE r_TAX r_GAS_PART r_USAGE_header r_USAGE_header_value r_CHARGE_header r_CHARGE_header_value r_TAX_header r_TAX_header_value r_GAS_PART_header r_GAS_PART_header_value k__VALUES k_USAGE_header_value k_CHARGE_header_value k_TAX_header_value k_GAS_PART_header_value i_COMPACT_STRINGS v_SIOOBE_FORMATTER r_EMPTY T1072.heap n0 Z1107 f1072_0 f1072_1 f1072_2 f1072_3 (StrChars.Road.codOf (cs := [117, 115, 97, 103, 101, 95, 109, 51]) (n := 8) rfl (fun c hc => (hp1072 c hc).2)) (own_up hp1072) (Nat.le_of_ble_eq_true rfl) f1080 f1081 f1082 f1083 f1084 f1085 f1086 f1087 f1088 f1089 f1090 f1091 f1092 f1093 f1094 f1095 f1096 f1097 f1098 f1099 f1100 f1101 f1102 f1103 f1104 f1105 f1106 hs_COMPACT_STRINGS hv_SIOOBE_FORMATTER) (by decide) (W := 0) (by decide) (by decide) (by decide) rfl (by rw [hml]; rfl) (argsL := [(.ref b1065)]) (lenOf own_pd8 rfl) (rest := []) rfl rfl (Nat.le_of_eq rfl) (hb hby at_233) ?_
        intro _ T1078 L1078 X1078 hQ1078
        have c1108 : ¬ ((own_same own_tx0 [117, 115, 97, 103, 101, 95, 109, 51]) = (0 : Int32)) := by decide +kernel
        have ev1109 : (own_nm [117, 115, 97, 103, 101, 95, 109, 51] r_USAGE r_CHARGE r_TAX r_GAS_PART) = (.ref r_USAGE) := by unfold own_nm; rw [if_neg c1108]
        unfold Q_named_s at hQ1078; rw [ev1109] at hQ1078
        obtain ⟨b1078_0, rfl, N1078q, K1078, f1078_0, f1078_1⟩ := hQ1078
        have N1078 := Fr.app N1072 N1078q
        show oG p e below _ (T1078.setTop (mkF m 236 #[.val (.int x0), .val (.int x1), .val (.int x2), .val (.int 0), .val (.int sh_), .val (.int c_), .val (.int mu_), .val (.ref r_USAGE), .val (.ref b1065), .val (.ref r_USAGE), .val (.ref b1061_0), .val (.int p_), .val (.int 1)] [(.ref b1078_0)]))
        refine og (fun _ hr => XS.aconstNull X1078.here hx rfl (hb hby at_236) hr) ?_
        show oG p e below _ (T1078.setTop (mkF m 237 #[.val (.int x0), .val (.int x1), .val (.int x2), .val (.int 0), .val (.int sh_), .val (.int c_), .val (.int mu_), .val (.ref r_USAGE), .val (.ref b1065), .val (.ref r_USAGE), .val (.ref b1061_0), .val (.int p_), .val (.int 1)] [.null, (.ref b1078_0)]))
        have Z1111 := (Nat.le_trans Z1107 K1078.1)
        refine own_cv X1078 hx hZ hown (notFace_of_selects (args := #[]) (mvT hZ (hw _ (own_m 91 rfl)))) (hw _ (own_m 88 rfl)) (hw _ (own_m 89 rfl)) (hw _ (own_m 91 rfl)) (hw _ (own_m 90 rfl)) (hw _ (own_m 73 rfl)) (hw _ (own_m 92 rfl)) (by decide) f1078_0 (rm := { frames := 0, cells := 0, slots := 0, locals := 0 }) (rm_orElse_6 l Z a0 hw [] b1078_0 r_USAGE T1078.heap n0 Z1111 f1078_1) (by decide) (W := 0) (by decide) (by decide) (by decide) rfl (by rw [hml]; rfl) (argsL := [.null]) (lenOf own_pd4 rfl) (rest := []) rfl rfl (Nat.le_of_eq rfl) (hb hby at_237) ?_
        intro _ T1110 L1110 X1110 hQ1110
        obtain ⟨rfl, N1110q, e1110⟩ := hQ1110
        have N1110 := Fr.app N1078 N1110q
        show oG p e below _ (T1110.setTop (mkF m 240 #[.val (.int x0), .val (.int x1), .val (.int x2), .val (.int 0), .val (.int sh_), .val (.int c_), .val (.int mu_), .val (.ref r_USAGE), .val (.ref b1065), .val (.ref r_USAGE), .val (.ref b1061_0), .val (.int p_), .val (.int 1)] [(.ref r_USAGE)]))
        have K1112 := (K1079.trans K1078 all0)
        have f1113 := (E_USAGE.keep K1112)
        obtain ⟨T1114, X1114, e1114, st1114⟩ := castY X1110 hx hZ hown (hw _ (own_m 93 rfl)) e1110 (Ins.self f1113) (g := (mkF m 240 #[.val (.int x0), .val (.int x1), .val (.int x2), .val (.int 0), .val (.int sh_), .val (.int c_), .val (.int mu_), .val (.ref r_USAGE), .val (.ref b1065), .val (.ref r_USAGE), .val (.ref b1061_0), .val (.int p_), .val (.int 1)] [(.ref r_USAGE)])) rfl rfl (hb hby at_240)
        refine og st1114 ?_
        show oG p e below _ (T1114.setTop (mkF m 243 #[.val (.int x0), .val (.int x1), .val (.int x2), .val (.int 0), .val (.int sh_), .val (.int c_), .val (.int mu_), .val (.ref r_USAGE), .val (.ref b1065), .val (.ref r_USAGE), .val (.ref b1061_0), .val (.int p_), .val (.int 1)] [(.ref r_USAGE)]))
        refine og (fun _ hr => XS.astore X1114.here hx rfl (hb hby at_243) rfl rfl (l' := #[.val (.int x0), .val (.int x1), .val (.int x2), .val (.int 0), .val (.int sh_), .val (.int c_), .val (.int mu_), .val (.ref r_USAGE), .val (.ref b1065), .val (.ref r_USAGE), .val (.ref r_USAGE), .val (.int p_), .val (.int 1)]) rfl (XS.aload X1114.here hx rfl (hb hby at_245) rfl rfl (XS.aload X1114.here hx rfl (hb hby at_247) rfl rfl hr))) ?_
        show oG p e below _ (T1114.setTop (mkF m 249 #[.val (.int x0), .val (.int x1), .val (.int x2), .val (.int 0), .val (.int sh_), .val (.int c_), .val (.int mu_), .val (.ref r_USAGE), .val (.ref b1065), .val (.ref r_USAGE), .val (.ref r_USAGE), .val (.int p_), .val (.int 1)] [(.ref r_USAGE), (.ref r_USAGE)]))
        refine og (fun _ hr => Jvm.RoadKit.acmp X1114 hx rfl rfl rfl (pc0 := 249) (pc' := 252) (same := true) rfl (hb hby at_249) rfl (decide_eq_true rfl) (by decide) (by decide) hr) ?_
        show oG p e below _ (T1114.setTop (mkF m 252 #[.val (.int x0), .val (.int x1), .val (.int x2), .val (.int 0), .val (.int sh_), .val (.int c_), .val (.int mu_), .val (.ref r_USAGE), .val (.ref b1065), .val (.ref r_USAGE), .val (.ref r_USAGE), .val (.int p_), .val (.int 1)] []))
        refine og (fun _ hr => XS.iconst X1114.here hx rfl (hb hby at_252) (XS.goto X1114.here hx rfl (pc0 := 253) (pc' := 257) rfl (hb hby at_253) (by decide) (by decide) hr)) ?_
        show oG p e below _ (T1114.setTop (mkF m 257 #[.val (.int x0), .val (.int x1), .val (.int x2), .val (.int 0), .val (.int sh_), .val (.int c_), .val (.int mu_), .val (.ref r_USAGE), .val (.ref b1065), .val (.ref r_USAGE), .val (.ref r_USAGE), .val (.int p_), .val (.int 1)] [(.int 1)]))
        have hk1115 := (Nat.le_trans (Nat.le_trans (Nat.le_trans (Nat.le_trans hk K1061.1) E1065.1) K1072.1) K1078.1)
        have A1116 := A0.trans (CHr.keep K1061 sf0 A0.1)
        have A1117 := A1116.trans (CHr.ext E1065 A1116.1)
        have sf1119 := (Safe.ext E1065 A1116.1 (Safe.new (Nat.le_of_eq g1065.symm)))
        have A1118 := A1117.trans (CHr.keep K1072 (sfS sf1119 sf0) A1117.1)
        have A1120 := A1118.trans (CHr.keep K1078 sf0 A1118.1)
        exact own_retNW X1114 hx hlk Bd.returns hS hk1115 hZ hEL hh e1114 A1120 (t := .boolean) (by simp) (hb hby at_257) (by decide) (by decide) ⟨rfl, N1110⟩
      refine og (fun _ hr => XS.ifNo X1061.here hx rfl (hb hby at_103) rfl ((if0 _ _).trans (feq c1064).1) hr) ?_
      show oG p e below _ (T1061.setTop (mkF m 106 #[.val (.int x0), .val (.int x1), .val (.int x2), .val (.int 0), .val (.int sh_), .val (.int c_), .val (.int mu_), .val (.ref r_USAGE), .unset, .unset, .val (.ref b1061_0), .val (.int p_), .val (.int 1)] []))
      have c1121 : ¬ (p_ < (0 : Int32)) := by
        have q0 := rng32 x1
        have q1 := c_mask x1 (2147483647 : Int32) 31 (by decide) (by decide)
        have q2 := c_irem (x1 &&& (2147483647 : Int32)) (8 : Int32) 8 (by decide)
        have q3 := congrArg Int32.toInt hp_
        simp only [true_implies, Int32.lt_iff_toInt_lt, ← Int32.toInt_inj, Int32.reduceToInt, Int64.lt_iff_toInt_lt, ← Int64.toInt_inj, Int64.reduceToInt] at q0 q1 q2 q3 ⊢
        omega
      have c1122 : p_ < (8 : Int32) := by
        have q0 := rng32 x1
        have q1 := c_mask x1 (2147483647 : Int32) 31 (by decide) (by decide)
        have q2 := c_irem (x1 &&& (2147483647 : Int32)) (8 : Int32) 8 (by decide)
        have q3 := congrArg Int32.toInt hp_
        have p0 := c1121
        simp only [true_implies, Int32.lt_iff_toInt_lt, ← Int32.toInt_inj, Int32.reduceToInt, Int64.lt_iff_toInt_lt, ← Int64.toInt_inj, Int64.reduceToInt] at q0 q1 q2 q3 p0 ⊢
        omega
      refine og (fun _ hr => XS.aload X1061.here hx rfl (hb hby at_106) rfl rfl (XS.iload X1061.here hx rfl (hb hby at_108) rfl (own_caload X1061 hx hZ rfl f1061_1 p_ (.int (own_g0 p_)) ⟨c1121, c1122⟩ (own_get0 p_ c1121 c1122) rfl rfl (hb hby at_110) (XS.iload X1061.here hx rfl (hb hby at_111) rfl hr)))) ?_
      show oG p e below _ (T1061.setTop (mkF m 113 #[.val (.int x0), .val (.int x1), .val (.int x2), .val (.int 0), .val (.int sh_), .val (.int c_), .val (.int mu_), .val (.ref r_USAGE), .unset, .unset, .val (.ref b1061_0), .val (.int p_), .val (.int 1)] [(.int c_), (.int (own_g0 p_))]))
      rcases Classical.em ((own_g0 p_) = c_) with c1123 | c1123
      · skip
        refine og (fun _ hr => XS.icmpNo X1061.here hx rfl (hb hby at_113) rfl (teq c1123).2 hr) ?_
        show oG p e below _ (T1061.setTop (mkF m 116 #[.val (.int x0), .val (.int x1), .val (.int x2), .val (.int 0), .val (.int sh_), .val (.int c_), .val (.int mu_), .val (.ref r_USAGE), .unset, .unset, .val (.ref b1061_0), .val (.int p_), .val (.int 1)] []))
        refine og (fun _ hr => XS.iconst X1061.here hx rfl (hb hby at_116) (XS.goto X1061.here hx rfl (pc0 := 117) (pc' := 121) rfl (hb hby at_117) (by decide) (by decide) (XS.istore X1061.here hx rfl (hb hby at_121) rfl (l' := #[.val (.int x0), .val (.int x1), .val (.int x2), .val (.int 0), .val (.int sh_), .val (.int c_), .val (.int mu_), .val (.ref r_USAGE), .unset, .unset, .val (.ref b1061_0), .val (.int p_), .val (.int 1)]) rfl (XS.aload X1061.here hx rfl (hb hby at_123) rfl rfl (XS.iload X1061.here hx rfl (hb hby at_125) rfl (XS.iload X1061.here hx rfl (hb hby at_127) rfl hr)))))) ?_
        show oG p e below _ (T1061.setTop (mkF m 129 #[.val (.int x0), .val (.int x1), .val (.int x2), .val (.int 0), .val (.int sh_), .val (.int c_), .val (.int mu_), .val (.ref r_USAGE), .unset, .unset, .val (.ref b1061_0), .val (.int p_), .val (.int 1)] [(.int c_), (.int p_), (.ref b1061_0)]))
        have c1125 : (nar .char c_) = c_ := by
          have q0 := rng32 x1
          have q1 := c_mask x1 (2147483647 : Int32) 31 (by decide) (by decide)
          have q2 := c_irem (x1 &&& (2147483647 : Int32)) (8 : Int32) 8 (by decide)
          have q3 := congrArg Int32.toInt hp_
          have q4 := rng32 (own_g0 p_)
          have q5 := rng32 x2
          have q6 := c_mask x2 (255 : Int32) 8 (by decide) (by decide)
          have q7 := c_i2c (x2 &&& (255 : Int32))
          have q8 := congrArg Int32.toInt hc_
          have q9 := (show ((nar .char c_).toInt - c_.toInt) % 65536 = 0 ∧ 0 ≤ (nar .char c_).toInt ∧ (nar .char c_).toInt < 65536 from c_i2c c_)
          have p0 := c1123
          have p1 := c1121
          have p2 := c1122
          simp only [true_implies, Int32.lt_iff_toInt_lt, ← Int32.toInt_inj, Int32.reduceToInt, Int64.lt_iff_toInt_lt, ← Int64.toInt_inj, Int64.reduceToInt] at q0 q1 q2 q3 q4 q5 q6 q7 q8 q9 p0 p1 p2 ⊢
          omega
        refine own_stC X1061 hx hZ rfl f1061_1 p_ c_ c_ (p_).toNatClampNeg ⟨c1121, c1122⟩ rfl (own_inl c1121 c1122 rfl) c1125 ([(.int 117), (.int 115), (.int 97), (.int 103), (.int 101), (.int 95), (.int 109), (.int 51)].set (p_).toNatClampNeg (.int c_)) rfl N1061 ge1061_0 (hb hby at_129) ?_
        intro T1124 h1124 L1124 X1124 e1124 W1124 N1124 f1124
        show oG p e below _ (T1124.setTop (mkF m 130 #[.val (.int x0), .val (.int x1), .val (.int x2), .val (.int 0), .val (.int sh_), .val (.int c_), .val (.int mu_), .val (.ref r_USAGE), .unset, .unset, .val (.ref b1061_0), .val (.int p_), .val (.int 1)] []))
        have f1126 : Arv Z h1124 b1061_0 kb1061_0 .char (8 : Int32) [(.int (own_pk p_ (0 : Int32) c_ (117 : Int32))), (.int (own_pk p_ (1 : Int32) c_ (115 : Int32))), (.int (own_pk p_ (2 : Int32) c_ (97 : Int32))), (.int (own_pk p_ (3 : Int32) c_ (103 : Int32))), (.int (own_pk p_ (4 : Int32) c_ (101 : Int32))), (.int (own_pk p_ (5 : Int32) c_ (95 : Int32))), (.int (own_pk p_ (6 : Int32) c_ (109 : Int32))), (.int (own_pk p_ (7 : Int32) c_ (51 : Int32)))] (.int 0) := own_set0 p_ c_ c1121 c1122 ▸ (show Arv Z h1124 b1061_0 kb1061_0 .char (8 : Int32) (([.int 117, .int 115, .int 97, .int 103, .int 101, .int 95, .int 109, .int 51] : List Value).set p_.toNatClampNeg (.int c_)) (.int 0) from f1124)
        obtain ⟨T1127, h1127, X1127, e1127, E1127, A1127, D1127, -, st1127⟩ := newO X1124 hx hZ hown (hw _ (own_m 9 rfl)) (hw _ (own_m 10 rfl)) (hw _ (own_m 11 rfl)) e1124 (g := (mkF m 130 #[.val (.int x0), .val (.int x1), .val (.int x2), .val (.int 0), .val (.int sh_), .val (.int c_), .val (.int mu_), .val (.ref r_USAGE), .unset, .unset, .val (.ref b1061_0), .val (.int p_), .val (.int 1)] [])) rfl (hb hby at_130) (by decide) (by decide)
        obtain ⟨b1127, g1127⟩ : ∃ z, z = h1124.size := ⟨_, rfl⟩
        rw [← g1127] at A1127 D1127 st1127
        have Z1128 := (Nat.le_trans (Nat.le_trans Z0 K1061.1) (Nat.le_of_eq W1124.size.symm))
        have ge1129 : n0 ≤ b1127 := Nat.le_trans Z1128 (Nat.le_of_eq g1127.symm)
        have K1130 := ((K0.trans K1061 all0).wr W1124 (Or.inr sz1062))
        have sz1131 : h0.size ≤ b1127 := Nat.le_trans K1130.1 (Nat.le_of_eq g1127.symm)
        refine og st1127 ?_
        have f1132 : Fld Z h1127 b1127 "java/lang/String" "coder" "B" (.int 0) := D1127 (Or.inr (hw _ (own_m 35 rfl))) (ty := .byte) (by decide)
        have f1133 : Fld Z h1127 b1127 "java/lang/String" "value" "[B" .null := D1127 (Or.inr (hw _ (own_m 37 rfl))) (ty := (.array .byte)) (by decide)
        show oG p e below _ (T1127.setTop (mkF m 133 #[.val (.int x0), .val (.int x1), .val (.int x2), .val (.int 0), .val (.int sh_), .val (.int c_), .val (.int mu_), .val (.ref r_USAGE), .unset, .unset, .val (.ref b1061_0), .val (.int p_), .val (.int 1)] [(.ref b1127)]))
        refine og (fun _ hr => XS.dup X1127.here hx rfl (hb hby at_133) rfl rfl (XS.aload X1127.here hx rfl (hb hby at_134) rfl rfl hr)) ?_
        show oG p e below _ (T1127.setTop (mkF m 136 #[.val (.int x0), .val (.int x1), .val (.int x2), .val (.int 0), .val (.int sh_), .val (.int c_), .val (.int mu_), .val (.ref r_USAGE), .unset, .unset, .val (.ref b1061_0), .val (.int p_), .val (.int 1)] [(.ref b1061_0), (.ref b1127), (.ref b1127)]))
        have c1135 : ¬ (c_ < (0 : Int32)) := by
          have q0 := rng32 x1
          have q1 := c_mask x1 (2147483647 : Int32) 31 (by decide) (by decide)
          have q2 := c_irem (x1 &&& (2147483647 : Int32)) (8 : Int32) 8 (by decide)
          have q3 := congrArg Int32.toInt hp_
          have q4 := rng32 (own_g0 p_)
          have q5 := rng32 x2
          have q6 := c_mask x2 (255 : Int32) 8 (by decide) (by decide)
          have q7 := c_i2c (x2 &&& (255 : Int32))
          have q8 := congrArg Int32.toInt hc_
          have q9 := (show ((nar .char c_).toInt - c_.toInt) % 65536 = 0 ∧ 0 ≤ (nar .char c_).toInt ∧ (nar .char c_).toInt < 65536 from c_i2c c_)
          have p0 := c1123
          have p1 := c1125
          have p2 := c1121
          have p3 := c1122
          simp only [true_implies, Int32.lt_iff_toInt_lt, ← Int32.toInt_inj, Int32.reduceToInt, Int64.lt_iff_toInt_lt, ← Int64.toInt_inj, Int64.reduceToInt] at q0 q1 q2 q3 q4 q5 q6 q7 q8 q9 p0 p1 p2 p3 ⊢
          omega
        have c1136 : ¬ ((255 : Int32) < c_) := by
          have q0 := rng32 x1
          have q1 := c_mask x1 (2147483647 : Int32) 31 (by decide) (by decide)
          have q2 := c_irem (x1 &&& (2147483647 : Int32)) (8 : Int32) 8 (by decide)
          have q3 := congrArg Int32.toInt hp_
          have q4 := rng32 (own_g0 p_)
          have q5 := rng32 x2
          have q6 := c_mask x2 (255 : Int32) 8 (by decide) (by decide)
          have q7 := c_i2c (x2 &&& (255 : Int32))
          have q8 := congrArg Int32.toInt hc_
          have q9 := (show ((nar .char c_).toInt - c_.toInt) % 65536 = 0 ∧ 0 ≤ (nar .char c_).toInt ∧ (nar .char c_).toInt < 65536 from c_i2c c_)
          have p0 := c1123
          have p1 := c1125
          have p2 := c1135
          have p3 := c1121
          have p4 := c1122
          simp only [true_implies, Int32.lt_iff_toInt_lt, ← Int32.toInt_inj, Int32.reduceToInt, Int64.lt_iff_toInt_lt, ← Int64.toInt_inj, Int64.reduceToInt] at q0 q1 q2 q3 q4 q5 q6 q7 q8 q9 p0 p1 p2 p3 p4 ⊢
          omega
        have hp1134 : ∀ c ∈ ([(own_pk p_ (0 : Int32) c_ (117 : Int32)), (own_pk p_ (1 : Int32) c_ (115 : Int32)), (own_pk p_ (2 : Int32) c_ (97 : Int32)), (own_pk p_ (3 : Int32) c_ (103 : Int32)), (own_pk p_ (4 : Int32) c_ (101 : Int32)), (own_pk p_ (5 : Int32) c_ (95 : Int32)), (own_pk p_ (6 : Int32) c_ (109 : Int32)), (own_pk p_ (7 : Int32) c_ (51 : Int32))] : List Int32), ¬ c < 0 ∧ ¬ (255 : Int32) < c := (own_lc (own_pk_l ⟨c1135, c1136⟩ (by decide)) (own_lc (own_pk_l ⟨c1135, c1136⟩ (by decide)) (own_lc (own_pk_l ⟨c1135, c1136⟩ (by decide)) (own_lc (own_pk_l ⟨c1135, c1136⟩ (by decide)) (own_lc (own_pk_l ⟨c1135, c1136⟩ (by decide)) (own_lc (own_pk_l ⟨c1135, c1136⟩ (by decide)) (own_lc (own_pk_l ⟨c1135, c1136⟩ (by decide)) (own_lc (own_pk_l ⟨c1135, c1136⟩ (by decide)) own_ln))))))))
        have f1137 := (f1126.ext E1127)
        have K1138 := (K1130.ext E1127)
        have f1139 := (own_sta_keep S_COMPACT_STRINGS K1138 all0)
        have Z1140 := (Nat.le_trans Z1128 E1127.1)
        refine own_newS X1127 hx hZ hown hw (hw _ (own_m 12 rfl)) (hw _ (own_m 13 rfl)) (hw _ (own_m 14 rfl)) (hw _ (own_m 10 rfl)) [(own_pk p_ (0 : Int32) c_ (117 : Int32)), (own_pk p_ (1 : Int32) c_ (115 : Int32)), (own_pk p_ (2 : Int32) c_ (97 : Int32)), (own_pk p_ (3 : Int32) c_ (103 : Int32)), (own_pk p_ (4 : Int32) c_ (101 : Int32)), (own_pk p_ (5 : Int32) c_ (95 : Int32)), (own_pk p_ (6 : Int32) c_ (109 : Int32)), (own_pk p_ (7 : Int32) c_ (51 : Int32))] ge1129 Z1140 A1127 f1133 f1132 f1137 f1139 hs_COMPACT_STRINGS (n := 8) rfl rfl (by decide) (by decide) hp1134 (by decide) (W := 1) (by decide) (by decide) (by decide) e1127 (by rw [hml]; rfl) (Nat.le_of_eq rfl) (hb hby at_136) ?_
        intro T1134 L1134 b1134_0 kb1134_0 X1134 N1134q K1134 f1134_0 f1134_1 ge1134_0 sz1134_0 ne1134_0 f1134_2 f1134_3
        have N1134 := Fr.app N1124 N1134q
        have sz1141 : h0.size ≤ b1134_0 := Nat.le_trans K1138.1 sz1134_0
        show oG p e below _ (T1134.setTop (mkF m 139 #[.val (.int x0), .val (.int x1), .val (.int x2), .val (.int 0), .val (.int sh_), .val (.int c_), .val (.int mu_), .val (.ref r_USAGE), .unset, .unset, .val (.ref b1061_0), .val (.int p_), .val (.int 1)] [(.ref b1127)]))
        refine og (fun _ hr => XS.astore X1134.here hx rfl (hb hby at_139) rfl rfl (l' := #[.val (.int x0), .val (.int x1), .val (.int x2), .val (.int 0), .val (.int sh_), .val (.int c_), .val (.int mu_), .val (.ref r_USAGE), .val (.ref b1127), .unset, .val (.ref b1061_0), .val (.int p_), .val (.int 1)]) rfl (XS.iload X1134.here hx rfl (hb hby at_141) rfl (XS.ifNo X1134.here hx rfl (hb hby at_143) rfl ((if0 _ _).trans (feq (by decide)).1) (XS.aload X1134.here hx rfl (hb hby at_146) rfl rfl (XS.goto X1134.here hx rfl (pc0 := 148) (pc' := 152) rfl (hb hby at_148) (by decide) (by decide) (XS.astore X1134.here hx rfl (hb hby at_152) rfl rfl (l' := #[.val (.int x0), .val (.int x1), .val (.int x2), .val (.int 0), .val (.int sh_), .val (.int c_), .val (.int mu_), .val (.ref r_USAGE), .val (.ref b1127), .val (.ref r_USAGE), .val (.ref b1061_0), .val (.int p_), .val (.int 1)]) rfl (XS.goto X1134.here hx rfl (pc0 := 154) (pc' := 231) rfl (hb hby at_154) (by decide) (by decide) (XS.aload X1134.here hx rfl (hb hby at_231) rfl rfl hr)))))))) ?_
        show oG p e below _ (T1134.setTop (mkF m 233 #[.val (.int x0), .val (.int x1), .val (.int x2), .val (.int 0), .val (.int sh_), .val (.int c_), .val (.int mu_), .val (.ref r_USAGE), .val (.ref b1127), .val (.ref r_USAGE), .val (.ref b1061_0), .val (.int p_), .val (.int 1)] [(.ref b1127)]))
        have K1143 := (K1138.trans K1134 (allS (Or.inr sz1131) all0))
        have f1144 := (own_sta_keep S__VALUES K1143 all0)
        have f1145 := (E__VALUES.keep K1143)
        have f1146 := (F_USAGE_header.keep K1143 nin0)
        have f1147 := (E_USAGE_header.keep K1143)
        have f1148 := (F_USAGE_header_coder.keep K1143 nin0)
        have f1149 := (F_USAGE_header_value.keep K1143 nin0)
        have f1150 := (F_CHARGE_header.keep K1143 nin0)
        have f1151 := (E_CHARGE_header.keep K1143)
        have f1152 := (F_CHARGE_header_coder.keep K1143 nin0)
        have f1153 := (F_CHARGE_header_value.keep K1143 nin0)
        have f1154 := (F_TAX_header.keep K1143 nin0)
        have f1155 := (E_TAX_header.keep K1143)
        have f1156 := (F_TAX_header_coder.keep K1143 nin0)
        have f1157 := (F_TAX_header_value.keep K1143 nin0)
        have f1158 := (F_GAS_PART_header.keep K1143 nin0)
        have f1159 := (E_GAS_PART_header.keep K1143)
        have f1160 := (F_GAS_PART_header_coder.keep K1143 nin0)
        have f1161 := (F_GAS_PART_header_value.keep K1143 nin0)
        have f1162 := (V__VALUES.keep K1143 nin0)
        have f1163 := (V_USAGE_header_value.keep K1143 nin0)
        have f1164 := (V_CHARGE_header_value.keep K1143 nin0)
        have f1165 := (V_TAX_header_value.keep K1143 nin0)
        have f1166 := (V_GAS_PART_header_value.keep K1143 nin0)
        have f1167 := (own_sta_keep f1139 K1134 (allS (own_ns_exa A1127) all0))
        have f1168 := (own_sta_keep S_EMPTY K1143 all0)
        have f1169 := (E_EMPTY.keep K1143)
        have f1170 := (F_EMPTY_value.keep K1143 nin0)
        have Z1171 := (Nat.le_trans Z1140 K1134.1)
        refine own_cs X1134 hx hZ hown (hw _ (own_m 38 rfl)) (hw _ (own_m 39 rfl)) (hw _ (own_m 1 rfl)) (hw _ (own_m 40 rfl)) (by decide) (rm := { frames := 3, cells := 2, slots := 5, locals := 38 }) (rm_named_s l Z a0 hw [] b1127 b1134_0 kb1134_0 (8 : Int32) [(own_pk p_ (0 : Int32) c_ (117 : Int32)), (own_pk p_ (1 : Int32) c_ (115 : Int32)), (own_pk p_ (2 : Int32) c_ (97 : Int32)), (own_pk p_ (3 : Int32) c_ (103 : Int32)), (own_pk p_ (4 : Int32) c_ (101 : Int32)), (own_pk p_ (5 : Int32) c_ (95 : Int32)), (own_pk p_ (6 : Int32) c_ (109 : Int32)), (own_pk p_ (7 : Int32) c_ (51 : Int32))] ((List.map StrChars.lo8 [(own_pk p_ (0 : Int32) c_ (117 : Int32)), (own_pk p_ (1 : Int32) c_ (115 : Int32)), (own_pk p_ (2 : Int32) c_ (97 : Int32)), (own_pk p_ (3 : Int32) c_ (103 : Int32)), (own_pk p_ (4 : Int32) c_ (101 : Int32)), (own_pk p_ (5 : Int32) c_ (95 : Int32)), (own_pk p_ (6 : Int32) c_ (109 : Int32)), (own_pk p_ (7 : Int32) c_ (51 : Int32))]).map Value.int) r_USAGE r__VALUES r_CHARGE r_TAX r_GAS_PART r_USAGE_header r_USAGE_header_value r_CHARGE_header r_CHARGE_header_value r_TAX_header r_TAX_header_value r_GAS_PART_header r_GAS_PART_header_value k__VALUES k_USAGE_header_value k_CHARGE_header_value k_TAX_header_value k_GAS_PART_header_value i_COMPACT_STRINGS v_SIOOBE_FORMATTER r_EMPTY T1134.heap n0 Z1171 f1134_0 f1134_1 f1134_2 f1134_3 (StrChars.Road.codOf (cs := [(own_pk p_ (0 : Int32) c_ (117 : Int32)), (own_pk p_ (1 : Int32) c_ (115 : Int32)), (own_pk p_ (2 : Int32) c_ (97 : Int32)), (own_pk p_ (3 : Int32) c_ (103 : Int32)), (own_pk p_ (4 : Int32) c_ (101 : Int32)), (own_pk p_ (5 : Int32) c_ (95 : Int32)), (own_pk p_ (6 : Int32) c_ (109 : Int32)), (own_pk p_ (7 : Int32) c_ (51 : Int32))]) (n := 8) rfl (fun c hc => (hp1134 c hc).2)) (own_up hp1134) (Nat.le_of_ble_eq_true rfl) f1144 f1145 f1146 f1147 f1148 f1149 f1150 f1151 f1152 f1153 f1154 f1155 f1156 f1157 f1158 f1159 f1160 f1161 f1162 f1163 f1164 f1165 f1166 f1167 f1168 f1169 f1170 hs_COMPACT_STRINGS hv_SIOOBE_FORMATTER) (by decide) (W := 0) (by decide) (by decide) (by decide) rfl (by rw [hml]; rfl) (argsL := [(.ref b1127)]) (lenOf own_pd8 rfl) (rest := []) rfl rfl (Nat.le_of_eq rfl) (hb hby at_233) ?_
        intro _ T1142 L1142 X1142 hQ1142
        have c1172 : ¬ ((own_same own_tx0 [(own_pk p_ (0 : Int32) c_ (117 : Int32)), (own_pk p_ (1 : Int32) c_ (115 : Int32)), (own_pk p_ (2 : Int32) c_ (97 : Int32)), (own_pk p_ (3 : Int32) c_ (103 : Int32)), (own_pk p_ (4 : Int32) c_ (101 : Int32)), (own_pk p_ (5 : Int32) c_ (95 : Int32)), (own_pk p_ (6 : Int32) c_ (109 : Int32)), (own_pk p_ (7 : Int32) c_ (51 : Int32))]) = (0 : Int32)) := own_finT0 p_ c_ c1121 c1122 c1123
        have ev1173 : (own_nm [(own_pk p_ (0 : Int32) c_ (117 : Int32)), (own_pk p_ (1 : Int32) c_ (115 : Int32)), (own_pk p_ (2 : Int32) c_ (97 : Int32)), (own_pk p_ (3 : Int32) c_ (103 : Int32)), (own_pk p_ (4 : Int32) c_ (101 : Int32)), (own_pk p_ (5 : Int32) c_ (95 : Int32)), (own_pk p_ (6 : Int32) c_ (109 : Int32)), (own_pk p_ (7 : Int32) c_ (51 : Int32))] r_USAGE r_CHARGE r_TAX r_GAS_PART) = (.ref r_USAGE) := by unfold own_nm; rw [if_neg c1172]
        unfold Q_named_s at hQ1142; rw [ev1173] at hQ1142
        obtain ⟨b1142_0, rfl, N1142q, K1142, f1142_0, f1142_1⟩ := hQ1142
        have N1142 := Fr.app N1134 N1142q
        show oG p e below _ (T1142.setTop (mkF m 236 #[.val (.int x0), .val (.int x1), .val (.int x2), .val (.int 0), .val (.int sh_), .val (.int c_), .val (.int mu_), .val (.ref r_USAGE), .val (.ref b1127), .val (.ref r_USAGE), .val (.ref b1061_0), .val (.int p_), .val (.int 1)] [(.ref b1142_0)]))
        refine og (fun _ hr => XS.aconstNull X1142.here hx rfl (hb hby at_236) hr) ?_
        show oG p e below _ (T1142.setTop (mkF m 237 #[.val (.int x0), .val (.int x1), .val (.int x2), .val (.int 0), .val (.int sh_), .val (.int c_), .val (.int mu_), .val (.ref r_USAGE), .val (.ref b1127), .val (.ref r_USAGE), .val (.ref b1061_0), .val (.int p_), .val (.int 1)] [.null, (.ref b1142_0)]))
        have Z1175 := (Nat.le_trans Z1171 K1142.1)
        refine own_cv X1142 hx hZ hown (notFace_of_selects (args := #[]) (mvT hZ (hw _ (own_m 91 rfl)))) (hw _ (own_m 88 rfl)) (hw _ (own_m 89 rfl)) (hw _ (own_m 91 rfl)) (hw _ (own_m 90 rfl)) (hw _ (own_m 73 rfl)) (hw _ (own_m 92 rfl)) (by decide) f1142_0 (rm := { frames := 0, cells := 0, slots := 0, locals := 0 }) (rm_orElse_6 l Z a0 hw [] b1142_0 r_USAGE T1142.heap n0 Z1175 f1142_1) (by decide) (W := 0) (by decide) (by decide) (by decide) rfl (by rw [hml]; rfl) (argsL := [.null]) (lenOf own_pd4 rfl) (rest := []) rfl rfl (Nat.le_of_eq rfl) (hb hby at_237) ?_
        intro _ T1174 L1174 X1174 hQ1174
        obtain ⟨rfl, N1174q, e1174⟩ := hQ1174
        have N1174 := Fr.app N1142 N1174q
        show oG p e below _ (T1174.setTop (mkF m 240 #[.val (.int x0), .val (.int x1), .val (.int x2), .val (.int 0), .val (.int sh_), .val (.int c_), .val (.int mu_), .val (.ref r_USAGE), .val (.ref b1127), .val (.ref r_USAGE), .val (.ref b1061_0), .val (.int p_), .val (.int 1)] [(.ref r_USAGE)]))
        have K1176 := (K1143.trans K1142 all0)
        have f1177 := (E_USAGE.keep K1176)
        obtain ⟨T1178, X1178, e1178, st1178⟩ := castY X1174 hx hZ hown (hw _ (own_m 93 rfl)) e1174 (Ins.self f1177) (g := (mkF m 240 #[.val (.int x0), .val (.int x1), .val (.int x2), .val (.int 0), .val (.int sh_), .val (.int c_), .val (.int mu_), .val (.ref r_USAGE), .val (.ref b1127), .val (.ref r_USAGE), .val (.ref b1061_0), .val (.int p_), .val (.int 1)] [(.ref r_USAGE)])) rfl rfl (hb hby at_240)
        refine og st1178 ?_
        show oG p e below _ (T1178.setTop (mkF m 243 #[.val (.int x0), .val (.int x1), .val (.int x2), .val (.int 0), .val (.int sh_), .val (.int c_), .val (.int mu_), .val (.ref r_USAGE), .val (.ref b1127), .val (.ref r_USAGE), .val (.ref b1061_0), .val (.int p_), .val (.int 1)] [(.ref r_USAGE)]))
        refine og (fun _ hr => XS.astore X1178.here hx rfl (hb hby at_243) rfl rfl (l' := #[.val (.int x0), .val (.int x1), .val (.int x2), .val (.int 0), .val (.int sh_), .val (.int c_), .val (.int mu_), .val (.ref r_USAGE), .val (.ref b1127), .val (.ref r_USAGE), .val (.ref r_USAGE), .val (.int p_), .val (.int 1)]) rfl (XS.aload X1178.here hx rfl (hb hby at_245) rfl rfl (XS.aload X1178.here hx rfl (hb hby at_247) rfl rfl hr))) ?_
        show oG p e below _ (T1178.setTop (mkF m 249 #[.val (.int x0), .val (.int x1), .val (.int x2), .val (.int 0), .val (.int sh_), .val (.int c_), .val (.int mu_), .val (.ref r_USAGE), .val (.ref b1127), .val (.ref r_USAGE), .val (.ref r_USAGE), .val (.int p_), .val (.int 1)] [(.ref r_USAGE), (.ref r_USAGE)]))
        refine og (fun _ hr => Jvm.RoadKit.acmp X1178 hx rfl rfl rfl (pc0 := 249) (pc' := 252) (same := true) rfl (hb hby at_249) rfl (decide_eq_true rfl) (by decide) (by decide) hr) ?_
        show oG p e below _ (T1178.setTop (mkF m 252 #[.val (.int x0), .val (.int x1), .val (.int x2), .val (.int 0), .val (.int sh_), .val (.int c_), .val (.int mu_), .val (.ref r_USAGE), .val (.ref b1127), .val (.ref r_USAGE), .val (.ref r_USAGE), .val (.int p_), .val (.int 1)] []))
        refine og (fun _ hr => XS.iconst X1178.here hx rfl (hb hby at_252) (XS.goto X1178.here hx rfl (pc0 := 253) (pc' := 257) rfl (hb hby at_253) (by decide) (by decide) hr)) ?_
        show oG p e below _ (T1178.setTop (mkF m 257 #[.val (.int x0), .val (.int x1), .val (.int x2), .val (.int 0), .val (.int sh_), .val (.int c_), .val (.int mu_), .val (.ref r_USAGE), .val (.ref b1127), .val (.ref r_USAGE), .val (.ref r_USAGE), .val (.int p_), .val (.int 1)] [(.int 1)]))
        have hk1179 := (Nat.le_trans (Nat.le_trans (Nat.le_trans (Nat.le_trans (Nat.le_trans hk K1061.1) (Nat.le_of_eq W1124.size.symm)) E1127.1) K1134.1) K1142.1)
        have A1180 := A0.trans (CHr.keep K1061 sf0 A0.1)
        have sf1182 := (Safe.keep K1061 sf0 A0.1 (Safe.new sz1061_0))
        have A1181 := A1180.trans (CHr.wr W1124 sf1182 A1180.1)
        have A1183 := A1181.trans (CHr.ext E1127 A1181.1)
        have sf1185 := (Safe.ext E1127 A1181.1 (Safe.new (Nat.le_of_eq g1127.symm)))
        have A1184 := A1183.trans (CHr.keep K1134 (sfS sf1185 sf0) A1183.1)
        have A1186 := A1184.trans (CHr.keep K1142 sf0 A1184.1)
        exact own_retNW X1178 hx hlk Bd.returns hS hk1179 hZ hEL hh e1178 A1186 (t := .boolean) (by simp) (hb hby at_257) (by decide) (by decide) ⟨rfl, N1174⟩
      refine og (fun _ hr => XS.icmpYes X1061.here hx rfl (pc0 := 113) (pc' := 120) rfl (hb hby at_113) rfl (feq c1123).2 (by decide) (by decide) hr) ?_
      show oG p e below _ (T1061.setTop (mkF m 120 #[.val (.int x0), .val (.int x1), .val (.int x2), .val (.int 0), .val (.int sh_), .val (.int c_), .val (.int mu_), .val (.ref r_USAGE), .unset, .unset, .val (.ref b1061_0), .val (.int p_), .val (.int 1)] []))
      refine og (fun _ hr => XS.iconst X1061.here hx rfl (hb hby at_120) (XS.istore X1061.here hx rfl (hb hby at_121) rfl (l' := #[.val (.int x0), .val (.int x1), .val (.int x2), .val (.int 0), .val (.int sh_), .val (.int c_), .val (.int mu_), .val (.ref r_USAGE), .unset, .unset, .val (.ref b1061_0), .val (.int p_), .val (.int 0)]) rfl (XS.aload X1061.here hx rfl (hb hby at_123) rfl rfl (XS.iload X1061.here hx rfl (hb hby at_125) rfl (XS.iload X1061.here hx rfl (hb hby at_127) rfl hr))))) ?_
      show oG p e below _ (T1061.setTop (mkF m 129 #[.val (.int x0), .val (.int x1), .val (.int x2), .val (.int 0), .val (.int sh_), .val (.int c_), .val (.int mu_), .val (.ref r_USAGE), .unset, .unset, .val (.ref b1061_0), .val (.int p_), .val (.int 0)] [(.int c_), (.int p_), (.ref b1061_0)]))
      have c1188 : (nar .char c_) = c_ := by
        have q0 := rng32 x1
        have q1 := c_mask x1 (2147483647 : Int32) 31 (by decide) (by decide)
        have q2 := c_irem (x1 &&& (2147483647 : Int32)) (8 : Int32) 8 (by decide)
        have q3 := congrArg Int32.toInt hp_
        have q4 := rng32 (own_g0 p_)
        have q5 := rng32 x2
        have q6 := c_mask x2 (255 : Int32) 8 (by decide) (by decide)
        have q7 := c_i2c (x2 &&& (255 : Int32))
        have q8 := congrArg Int32.toInt hc_
        have q9 := (show ((nar .char c_).toInt - c_.toInt) % 65536 = 0 ∧ 0 ≤ (nar .char c_).toInt ∧ (nar .char c_).toInt < 65536 from c_i2c c_)
        have p0 := c1123
        have p1 := c1121
        have p2 := c1122
        simp only [true_implies, Int32.lt_iff_toInt_lt, ← Int32.toInt_inj, Int32.reduceToInt, Int64.lt_iff_toInt_lt, ← Int64.toInt_inj, Int64.reduceToInt] at q0 q1 q2 q3 q4 q5 q6 q7 q8 q9 p0 p1 p2 ⊢
        omega
      refine own_stC X1061 hx hZ rfl f1061_1 p_ c_ c_ (p_).toNatClampNeg ⟨c1121, c1122⟩ rfl (own_inl c1121 c1122 rfl) c1188 ([(.int 117), (.int 115), (.int 97), (.int 103), (.int 101), (.int 95), (.int 109), (.int 51)].set (p_).toNatClampNeg (.int c_)) rfl N1061 ge1061_0 (hb hby at_129) ?_
      intro T1187 h1187 L1187 X1187 e1187 W1187 N1187 f1187
      show oG p e below _ (T1187.setTop (mkF m 130 #[.val (.int x0), .val (.int x1), .val (.int x2), .val (.int 0), .val (.int sh_), .val (.int c_), .val (.int mu_), .val (.ref r_USAGE), .unset, .unset, .val (.ref b1061_0), .val (.int p_), .val (.int 0)] []))
      have f1189 : Arv Z h1187 b1061_0 kb1061_0 .char (8 : Int32) [(.int (own_pk p_ (0 : Int32) c_ (117 : Int32))), (.int (own_pk p_ (1 : Int32) c_ (115 : Int32))), (.int (own_pk p_ (2 : Int32) c_ (97 : Int32))), (.int (own_pk p_ (3 : Int32) c_ (103 : Int32))), (.int (own_pk p_ (4 : Int32) c_ (101 : Int32))), (.int (own_pk p_ (5 : Int32) c_ (95 : Int32))), (.int (own_pk p_ (6 : Int32) c_ (109 : Int32))), (.int (own_pk p_ (7 : Int32) c_ (51 : Int32)))] (.int 0) := own_set0 p_ c_ c1121 c1122 ▸ (show Arv Z h1187 b1061_0 kb1061_0 .char (8 : Int32) (([.int 117, .int 115, .int 97, .int 103, .int 101, .int 95, .int 109, .int 51] : List Value).set p_.toNatClampNeg (.int c_)) (.int 0) from f1187)
      obtain ⟨T1190, h1190, X1190, e1190, E1190, A1190, D1190, -, st1190⟩ := newO X1187 hx hZ hown (hw _ (own_m 9 rfl)) (hw _ (own_m 10 rfl)) (hw _ (own_m 11 rfl)) e1187 (g := (mkF m 130 #[.val (.int x0), .val (.int x1), .val (.int x2), .val (.int 0), .val (.int sh_), .val (.int c_), .val (.int mu_), .val (.ref r_USAGE), .unset, .unset, .val (.ref b1061_0), .val (.int p_), .val (.int 0)] [])) rfl (hb hby at_130) (by decide) (by decide)
      obtain ⟨b1190, g1190⟩ : ∃ z, z = h1187.size := ⟨_, rfl⟩
      rw [← g1190] at A1190 D1190 st1190
      have Z1191 := (Nat.le_trans (Nat.le_trans Z0 K1061.1) (Nat.le_of_eq W1187.size.symm))
      have ge1192 : n0 ≤ b1190 := Nat.le_trans Z1191 (Nat.le_of_eq g1190.symm)
      have K1193 := ((K0.trans K1061 all0).wr W1187 (Or.inr sz1062))
      have sz1194 : h0.size ≤ b1190 := Nat.le_trans K1193.1 (Nat.le_of_eq g1190.symm)
      refine og st1190 ?_
      have f1195 : Fld Z h1190 b1190 "java/lang/String" "coder" "B" (.int 0) := D1190 (Or.inr (hw _ (own_m 35 rfl))) (ty := .byte) (by decide)
      have f1196 : Fld Z h1190 b1190 "java/lang/String" "value" "[B" .null := D1190 (Or.inr (hw _ (own_m 37 rfl))) (ty := (.array .byte)) (by decide)
      show oG p e below _ (T1190.setTop (mkF m 133 #[.val (.int x0), .val (.int x1), .val (.int x2), .val (.int 0), .val (.int sh_), .val (.int c_), .val (.int mu_), .val (.ref r_USAGE), .unset, .unset, .val (.ref b1061_0), .val (.int p_), .val (.int 0)] [(.ref b1190)]))
      refine og (fun _ hr => XS.dup X1190.here hx rfl (hb hby at_133) rfl rfl (XS.aload X1190.here hx rfl (hb hby at_134) rfl rfl hr)) ?_
      show oG p e below _ (T1190.setTop (mkF m 136 #[.val (.int x0), .val (.int x1), .val (.int x2), .val (.int 0), .val (.int sh_), .val (.int c_), .val (.int mu_), .val (.ref r_USAGE), .unset, .unset, .val (.ref b1061_0), .val (.int p_), .val (.int 0)] [(.ref b1061_0), (.ref b1190), (.ref b1190)]))
      have c1198 : ¬ (c_ < (0 : Int32)) := by
        have q0 := rng32 x1
        have q1 := c_mask x1 (2147483647 : Int32) 31 (by decide) (by decide)
        have q2 := c_irem (x1 &&& (2147483647 : Int32)) (8 : Int32) 8 (by decide)
        have q3 := congrArg Int32.toInt hp_
        have q4 := rng32 (own_g0 p_)
        have q5 := rng32 x2
        have q6 := c_mask x2 (255 : Int32) 8 (by decide) (by decide)
        have q7 := c_i2c (x2 &&& (255 : Int32))
        have q8 := congrArg Int32.toInt hc_
        have q9 := (show ((nar .char c_).toInt - c_.toInt) % 65536 = 0 ∧ 0 ≤ (nar .char c_).toInt ∧ (nar .char c_).toInt < 65536 from c_i2c c_)
        have p0 := c1123
        have p1 := c1188
        have p2 := c1121
        have p3 := c1122
        simp only [true_implies, Int32.lt_iff_toInt_lt, ← Int32.toInt_inj, Int32.reduceToInt, Int64.lt_iff_toInt_lt, ← Int64.toInt_inj, Int64.reduceToInt] at q0 q1 q2 q3 q4 q5 q6 q7 q8 q9 p0 p1 p2 p3 ⊢
        omega
      have c1199 : ¬ ((255 : Int32) < c_) := by
        have q0 := rng32 x1
        have q1 := c_mask x1 (2147483647 : Int32) 31 (by decide) (by decide)
        have q2 := c_irem (x1 &&& (2147483647 : Int32)) (8 : Int32) 8 (by decide)
        have q3 := congrArg Int32.toInt hp_
        have q4 := rng32 (own_g0 p_)
        have q5 := rng32 x2
        have q6 := c_mask x2 (255 : Int32) 8 (by decide) (by decide)
        have q7 := c_i2c (x2 &&& (255 : Int32))
        have q8 := congrArg Int32.toInt hc_
        have q9 := (show ((nar .char c_).toInt - c_.toInt) % 65536 = 0 ∧ 0 ≤ (nar .char c_).toInt ∧ (nar .char c_).toInt < 65536 from c_i2c c_)
        have p0 := c1123
        have p1 := c1188
        have p2 := c1198
        have p3 := c1121
        have p4 := c1122
        simp only [true_implies, Int32.lt_iff_toInt_lt, ← Int32.toInt_inj, Int32.reduceToInt, Int64.lt_iff_toInt_lt, ← Int64.toInt_inj, Int64.reduceToInt] at q0 q1 q2 q3 q4 q5 q6 q7 q8 q9 p0 p1 p2 p3 p4 ⊢
        omega
      have hp1197 : ∀ c ∈ ([(own_pk p_ (0 : Int32) c_ (117 : Int32)), (own_pk p_ (1 : Int32) c_ (115 : Int32)), (own_pk p_ (2 : Int32) c_ (97 : Int32)), (own_pk p_ (3 : Int32) c_ (103 : Int32)), (own_pk p_ (4 : Int32) c_ (101 : Int32)), (own_pk p_ (5 : Int32) c_ (95 : Int32)), (own_pk p_ (6 : Int32) c_ (109 : Int32)), (own_pk p_ (7 : Int32) c_ (51 : Int32))] : List Int32), ¬ c < 0 ∧ ¬ (255 : Int32) < c := (own_lc (own_pk_l ⟨c1198, c1199⟩ (by decide)) (own_lc (own_pk_l ⟨c1198, c1199⟩ (by decide)) (own_lc (own_pk_l ⟨c1198, c1199⟩ (by decide)) (own_lc (own_pk_l ⟨c1198, c1199⟩ (by decide)) (own_lc (own_pk_l ⟨c1198, c1199⟩ (by decide)) (own_lc (own_pk_l ⟨c1198, c1199⟩ (by decide)) (own_lc (own_pk_l ⟨c1198, c1199⟩ (by decide)) (own_lc (own_pk_l ⟨c1198, c1199⟩ (by decide)) own_ln))))))))
      have f1200 := (f1189.ext E1190)
      have K1201 := (K1193.ext E1190)
      have f1202 := (own_sta_keep S_COMPACT_STRINGS K1201 all0)
      have Z1203 := (Nat.le_trans Z1191 E1190.1)
      refine own_newS X1190 hx hZ hown hw (hw _ (own_m 12 rfl)) (hw _ (own_m 13 rfl)) (hw _ (own_m 14 rfl)) (hw _ (own_m 10 rfl)) [(own_pk p_ (0 : Int32) c_ (117 : Int32)), (own_pk p_ (1 : Int32) c_ (115 : Int32)), (own_pk p_ (2 : Int32) c_ (97 : Int32)), (own_pk p_ (3 : Int32) c_ (103 : Int32)), (own_pk p_ (4 : Int32) c_ (101 : Int32)), (own_pk p_ (5 : Int32) c_ (95 : Int32)), (own_pk p_ (6 : Int32) c_ (109 : Int32)), (own_pk p_ (7 : Int32) c_ (51 : Int32))] ge1192 Z1203 A1190 f1196 f1195 f1200 f1202 hs_COMPACT_STRINGS (n := 8) rfl rfl (by decide) (by decide) hp1197 (by decide) (W := 1) (by decide) (by decide) (by decide) e1190 (by rw [hml]; rfl) (Nat.le_of_eq rfl) (hb hby at_136) ?_
      intro T1197 L1197 b1197_0 kb1197_0 X1197 N1197q K1197 f1197_0 f1197_1 ge1197_0 sz1197_0 ne1197_0 f1197_2 f1197_3
      have N1197 := Fr.app N1187 N1197q
      have sz1204 : h0.size ≤ b1197_0 := Nat.le_trans K1201.1 sz1197_0
      show oG p e below _ (T1197.setTop (mkF m 139 #[.val (.int x0), .val (.int x1), .val (.int x2), .val (.int 0), .val (.int sh_), .val (.int c_), .val (.int mu_), .val (.ref r_USAGE), .unset, .unset, .val (.ref b1061_0), .val (.int p_), .val (.int 0)] [(.ref b1190)]))
      refine og (fun _ hr => XS.astore X1197.here hx rfl (hb hby at_139) rfl rfl (l' := #[.val (.int x0), .val (.int x1), .val (.int x2), .val (.int 0), .val (.int sh_), .val (.int c_), .val (.int mu_), .val (.ref r_USAGE), .val (.ref b1190), .unset, .val (.ref b1061_0), .val (.int p_), .val (.int 0)]) rfl (XS.iload X1197.here hx rfl (hb hby at_141) rfl (XS.ifYes X1197.here hx rfl (pc0 := 143) (pc' := 151) rfl (hb hby at_143) rfl ((if0 _ _).trans (teq (by decide)).1) (by decide) (by decide) (XS.aconstNull X1197.here hx rfl (hb hby at_151) (XS.astore X1197.here hx rfl (hb hby at_152) rfl rfl (l' := #[.val (.int x0), .val (.int x1), .val (.int x2), .val (.int 0), .val (.int sh_), .val (.int c_), .val (.int mu_), .val (.ref r_USAGE), .val (.ref b1190), .val .null, .val (.ref b1061_0), .val (.int p_), .val (.int 0)]) rfl (XS.goto X1197.here hx rfl (pc0 := 154) (pc' := 231) rfl (hb hby at_154) (by decide) (by decide) (XS.aload X1197.here hx rfl (hb hby at_231) rfl rfl hr))))))) ?_
      show oG p e below _ (T1197.setTop (mkF m 233 #[.val (.int x0), .val (.int x1), .val (.int x2), .val (.int 0), .val (.int sh_), .val (.int c_), .val (.int mu_), .val (.ref r_USAGE), .val (.ref b1190), .val .null, .val (.ref b1061_0), .val (.int p_), .val (.int 0)] [(.ref b1190)]))
      have K1206 := (K1201.trans K1197 (allS (Or.inr sz1194) all0))
      have f1207 := (own_sta_keep S__VALUES K1206 all0)
      have f1208 := (E__VALUES.keep K1206)
      have f1209 := (F_USAGE_header.keep K1206 nin0)
      have f1210 := (E_USAGE_header.keep K1206)
      have f1211 := (F_USAGE_header_coder.keep K1206 nin0)
      have f1212 := (F_USAGE_header_value.keep K1206 nin0)
      have f1213 := (F_CHARGE_header.keep K1206 nin0)
      have f1214 := (E_CHARGE_header.keep K1206)
      have f1215 := (F_CHARGE_header_coder.keep K1206 nin0)
      have f1216 := (F_CHARGE_header_value.keep K1206 nin0)
      have f1217 := (F_TAX_header.keep K1206 nin0)
      have f1218 := (E_TAX_header.keep K1206)
      have f1219 := (F_TAX_header_coder.keep K1206 nin0)
      have f1220 := (F_TAX_header_value.keep K1206 nin0)
      have f1221 := (F_GAS_PART_header.keep K1206 nin0)
      have f1222 := (E_GAS_PART_header.keep K1206)
      have f1223 := (F_GAS_PART_header_coder.keep K1206 nin0)
      have f1224 := (F_GAS_PART_header_value.keep K1206 nin0)
      have f1225 := (V__VALUES.keep K1206 nin0)
      have f1226 := (V_USAGE_header_value.keep K1206 nin0)
      have f1227 := (V_CHARGE_header_value.keep K1206 nin0)
      have f1228 := (V_TAX_header_value.keep K1206 nin0)
      have f1229 := (V_GAS_PART_header_value.keep K1206 nin0)
      have f1230 := (own_sta_keep f1202 K1197 (allS (own_ns_exa A1190) all0))
      have f1231 := (own_sta_keep S_EMPTY K1206 all0)
      have f1232 := (E_EMPTY.keep K1206)
      have f1233 := (F_EMPTY_value.keep K1206 nin0)
      have Z1234 := (Nat.le_trans Z1203 K1197.1)
      refine own_cs X1197 hx hZ hown (hw _ (own_m 38 rfl)) (hw _ (own_m 39 rfl)) (hw _ (own_m 1 rfl)) (hw _ (own_m 40 rfl)) (by decide) (rm := { frames := 3, cells := 2, slots := 5, locals := 38 }) (rm_named_s l Z a0 hw [] b1190 b1197_0 kb1197_0 (8 : Int32) [(own_pk p_ (0 : Int32) c_ (117 : Int32)), (own_pk p_ (1 : Int32) c_ (115 : Int32)), (own_pk p_ (2 : Int32) c_ (97 : Int32)), (own_pk p_ (3 : Int32) c_ (103 : Int32)), (own_pk p_ (4 : Int32) c_ (101 : Int32)), (own_pk p_ (5 : Int32) c_ (95 : Int32)), (own_pk p_ (6 : Int32) c_ (109 : Int32)), (own_pk p_ (7 : Int32) c_ (51 : Int32))] ((List.map StrChars.lo8 [(own_pk p_ (0 : Int32) c_ (117 : Int32)), (own_pk p_ (1 : Int32) c_ (115 : Int32)), (own_pk p_ (2 : Int32) c_ (97 : Int32)), (own_pk p_ (3 : Int32) c_ (103 : Int32)), (own_pk p_ (4 : Int32) c_ (101 : Int32)), (own_pk p_ (5 : Int32) c_ (95 : Int32)), (own_pk p_ (6 : Int32) c_ (109 : Int32)), (own_pk p_ (7 : Int32) c_ (51 : Int32))]).map Value.int) r_USAGE r__VALUES r_CHARGE r_TAX r_GAS_PART r_USAGE_header r_USAGE_header_value r_CHARGE_header r_CHARGE_header_value r_TAX_header r_TAX_header_value r_GAS_PART_header r_GAS_PART_header_value k__VALUES k_USAGE_header_value k_CHARGE_header_value k_TAX_header_value k_GAS_PART_header_value i_COMPACT_STRINGS v_SIOOBE_FORMATTER r_EMPTY T1197.heap n0 Z1234 f1197_0 f1197_1 f1197_2 f1197_3 (StrChars.Road.codOf (cs := [(own_pk p_ (0 : Int32) c_ (117 : Int32)), (own_pk p_ (1 : Int32) c_ (115 : Int32)), (own_pk p_ (2 : Int32) c_ (97 : Int32)), (own_pk p_ (3 : Int32) c_ (103 : Int32)), (own_pk p_ (4 : Int32) c_ (101 : Int32)), (own_pk p_ (5 : Int32) c_ (95 : Int32)), (own_pk p_ (6 : Int32) c_ (109 : Int32)), (own_pk p_ (7 : Int32) c_ (51 : Int32))]) (n := 8) rfl (fun c hc => (hp1197 c hc).2)) (own_up hp1197) (Nat.le_of_ble_eq_true rfl) f1207 f1208 f1209 f1210 f1211 f1212 f1213 f1214 f1215 f1216 f1217 f1218 f1219 f1220 f1221 f1222 f1223 f1224 f1225 f1226 f1227 f1228 f1229 f1230 f1231 f1232 f1233 hs_COMPACT_STRINGS hv_SIOOBE_FORMATTER) (by decide) (W := 0) (by decide) (by decide) (by decide) rfl (by rw [hml]; rfl) (argsL := [(.ref b1190)]) (lenOf own_pd8 rfl) (rest := []) rfl rfl (Nat.le_of_eq rfl) (hb hby at_233) ?_
      intro _ T1205 L1205 X1205 hQ1205
      have c1235 : (own_same own_tx0 [(own_pk p_ (0 : Int32) c_ (117 : Int32)), (own_pk p_ (1 : Int32) c_ (115 : Int32)), (own_pk p_ (2 : Int32) c_ (97 : Int32)), (own_pk p_ (3 : Int32) c_ (103 : Int32)), (own_pk p_ (4 : Int32) c_ (101 : Int32)), (own_pk p_ (5 : Int32) c_ (95 : Int32)), (own_pk p_ (6 : Int32) c_ (109 : Int32)), (own_pk p_ (7 : Int32) c_ (51 : Int32))]) = (0 : Int32) := own_finF0 p_ c_ c1121 c1122 c1123
      have c1236 : (own_same own_tx1 [(own_pk p_ (0 : Int32) c_ (117 : Int32)), (own_pk p_ (1 : Int32) c_ (115 : Int32)), (own_pk p_ (2 : Int32) c_ (97 : Int32)), (own_pk p_ (3 : Int32) c_ (103 : Int32)), (own_pk p_ (4 : Int32) c_ (101 : Int32)), (own_pk p_ (5 : Int32) c_ (95 : Int32)), (own_pk p_ (6 : Int32) c_ (109 : Int32)), (own_pk p_ (7 : Int32) c_ (51 : Int32))]) = (0 : Int32) := own_same_len (show (10 : Nat) ≠ 8 from by decide)
      have c1237 : (own_same own_tx2 [(own_pk p_ (0 : Int32) c_ (117 : Int32)), (own_pk p_ (1 : Int32) c_ (115 : Int32)), (own_pk p_ (2 : Int32) c_ (97 : Int32)), (own_pk p_ (3 : Int32) c_ (103 : Int32)), (own_pk p_ (4 : Int32) c_ (101 : Int32)), (own_pk p_ (5 : Int32) c_ (95 : Int32)), (own_pk p_ (6 : Int32) c_ (109 : Int32)), (own_pk p_ (7 : Int32) c_ (51 : Int32))]) = (0 : Int32) := own_same_len (show (7 : Nat) ≠ 8 from by decide)
      have c1238 : (own_same own_tx3 [(own_pk p_ (0 : Int32) c_ (117 : Int32)), (own_pk p_ (1 : Int32) c_ (115 : Int32)), (own_pk p_ (2 : Int32) c_ (97 : Int32)), (own_pk p_ (3 : Int32) c_ (103 : Int32)), (own_pk p_ (4 : Int32) c_ (101 : Int32)), (own_pk p_ (5 : Int32) c_ (95 : Int32)), (own_pk p_ (6 : Int32) c_ (109 : Int32)), (own_pk p_ (7 : Int32) c_ (51 : Int32))]) = (0 : Int32) := own_same_len (show (12 : Nat) ≠ 8 from by decide)
      have ev1239 : (own_nm [(own_pk p_ (0 : Int32) c_ (117 : Int32)), (own_pk p_ (1 : Int32) c_ (115 : Int32)), (own_pk p_ (2 : Int32) c_ (97 : Int32)), (own_pk p_ (3 : Int32) c_ (103 : Int32)), (own_pk p_ (4 : Int32) c_ (101 : Int32)), (own_pk p_ (5 : Int32) c_ (95 : Int32)), (own_pk p_ (6 : Int32) c_ (109 : Int32)), (own_pk p_ (7 : Int32) c_ (51 : Int32))] r_USAGE r_CHARGE r_TAX r_GAS_PART) = .null := by unfold own_nm; rw [if_pos c1235, if_pos c1236, if_pos c1237, if_pos c1238]
      unfold Q_named_s at hQ1205; rw [ev1239] at hQ1205
      obtain ⟨b1205_0, rfl, N1205q, K1205, f1205_0, f1205_1⟩ := hQ1205
      have N1205 := Fr.app N1197 N1205q
      show oG p e below _ (T1205.setTop (mkF m 236 #[.val (.int x0), .val (.int x1), .val (.int x2), .val (.int 0), .val (.int sh_), .val (.int c_), .val (.int mu_), .val (.ref r_USAGE), .val (.ref b1190), .val .null, .val (.ref b1061_0), .val (.int p_), .val (.int 0)] [(.ref b1205_0)]))
      refine og (fun _ hr => XS.aconstNull X1205.here hx rfl (hb hby at_236) hr) ?_
      show oG p e below _ (T1205.setTop (mkF m 237 #[.val (.int x0), .val (.int x1), .val (.int x2), .val (.int 0), .val (.int sh_), .val (.int c_), .val (.int mu_), .val (.ref r_USAGE), .val (.ref b1190), .val .null, .val (.ref b1061_0), .val (.int p_), .val (.int 0)] [.null, (.ref b1205_0)]))
      have Z1241 := (Nat.le_trans Z1234 K1205.1)
      refine own_cv X1205 hx hZ hown (notFace_of_selects (args := #[]) (mvT hZ (hw _ (own_m 91 rfl)))) (hw _ (own_m 88 rfl)) (hw _ (own_m 89 rfl)) (hw _ (own_m 91 rfl)) (hw _ (own_m 90 rfl)) (hw _ (own_m 73 rfl)) (hw _ (own_m 92 rfl)) (by decide) f1205_0 (rm := { frames := 0, cells := 0, slots := 0, locals := 0 }) (rm_orElse_7 l Z a0 hw [] b1205_0 T1205.heap n0 Z1241 f1205_1) (by decide) (W := 0) (by decide) (by decide) (by decide) rfl (by rw [hml]; rfl) (argsL := [.null]) (lenOf own_pd4 rfl) (rest := []) rfl rfl (Nat.le_of_eq rfl) (hb hby at_237) ?_
      intro _ T1240 L1240 X1240 hQ1240
      obtain ⟨rfl, N1240q, e1240⟩ := hQ1240
      have N1240 := Fr.app N1205 N1240q
      show oG p e below _ (T1240.setTop (mkF m 240 #[.val (.int x0), .val (.int x1), .val (.int x2), .val (.int 0), .val (.int sh_), .val (.int c_), .val (.int mu_), .val (.ref r_USAGE), .val (.ref b1190), .val .null, .val (.ref b1061_0), .val (.int p_), .val (.int 0)] [.null]))
      refine og (X1240.checkcastNull hx (g := (mkF m 240 #[.val (.int x0), .val (.int x1), .val (.int x2), .val (.int 0), .val (.int sh_), .val (.int c_), .val (.int mu_), .val (.ref r_USAGE), .val (.ref b1190), .val .null, .val (.ref b1061_0), .val (.int p_), .val (.int 0)] [.null])) rfl rfl (hb hby at_240)) ?_
      show oG p e below _ (T1240.setTop (mkF m 243 #[.val (.int x0), .val (.int x1), .val (.int x2), .val (.int 0), .val (.int sh_), .val (.int c_), .val (.int mu_), .val (.ref r_USAGE), .val (.ref b1190), .val .null, .val (.ref b1061_0), .val (.int p_), .val (.int 0)] [.null]))
      refine og (fun _ hr => XS.astore X1240.here hx rfl (hb hby at_243) rfl rfl (l' := #[.val (.int x0), .val (.int x1), .val (.int x2), .val (.int 0), .val (.int sh_), .val (.int c_), .val (.int mu_), .val (.ref r_USAGE), .val (.ref b1190), .val .null, .val .null, .val (.int p_), .val (.int 0)]) rfl (XS.aload X1240.here hx rfl (hb hby at_245) rfl rfl (XS.aload X1240.here hx rfl (hb hby at_247) rfl rfl hr))) ?_
      show oG p e below _ (T1240.setTop (mkF m 249 #[.val (.int x0), .val (.int x1), .val (.int x2), .val (.int 0), .val (.int sh_), .val (.int c_), .val (.int mu_), .val (.ref r_USAGE), .val (.ref b1190), .val .null, .val .null, .val (.int p_), .val (.int 0)] [.null, .null]))
      refine og (fun _ hr => Jvm.RoadKit.acmp X1240 hx rfl rfl rfl (pc0 := 249) (pc' := 252) (same := true) rfl (hb hby at_249) rfl (decide_eq_true rfl) (by decide) (by decide) hr) ?_
      show oG p e below _ (T1240.setTop (mkF m 252 #[.val (.int x0), .val (.int x1), .val (.int x2), .val (.int 0), .val (.int sh_), .val (.int c_), .val (.int mu_), .val (.ref r_USAGE), .val (.ref b1190), .val .null, .val .null, .val (.int p_), .val (.int 0)] []))
      refine og (fun _ hr => XS.iconst X1240.here hx rfl (hb hby at_252) (XS.goto X1240.here hx rfl (pc0 := 253) (pc' := 257) rfl (hb hby at_253) (by decide) (by decide) hr)) ?_
      show oG p e below _ (T1240.setTop (mkF m 257 #[.val (.int x0), .val (.int x1), .val (.int x2), .val (.int 0), .val (.int sh_), .val (.int c_), .val (.int mu_), .val (.ref r_USAGE), .val (.ref b1190), .val .null, .val .null, .val (.int p_), .val (.int 0)] [(.int 1)]))
      have hk1242 := (Nat.le_trans (Nat.le_trans (Nat.le_trans (Nat.le_trans (Nat.le_trans hk K1061.1) (Nat.le_of_eq W1187.size.symm)) E1190.1) K1197.1) K1205.1)
      have A1243 := A0.trans (CHr.keep K1061 sf0 A0.1)
      have sf1245 := (Safe.keep K1061 sf0 A0.1 (Safe.new sz1061_0))
      have A1244 := A1243.trans (CHr.wr W1187 sf1245 A1243.1)
      have A1246 := A1244.trans (CHr.ext E1190 A1244.1)
      have sf1248 := (Safe.ext E1190 A1244.1 (Safe.new (Nat.le_of_eq g1190.symm)))
      have A1247 := A1246.trans (CHr.keep K1197 (sfS sf1248 sf0) A1246.1)
      have A1249 := A1247.trans (CHr.keep K1205 sf0 A1247.1)
      exact own_retNW X1240 hx hlk Bd.returns hS hk1242 hZ hEL hh e1240 A1249 (t := .boolean) (by simp) (hb hby at_257) (by decide) (by decide) ⟨rfl, N1240⟩
    refine og (fun _ hr => XS.ifYes X1059.here hx rfl (pc0 := 79) (pc' := 157) rfl (hb hby at_79) rfl ((if0 _ _).trans (feq c1060).2) (by decide) (by decide) hr) ?_
    show oG p e below _ (T1059.setTop (mkF m 157 #[.val (.int x0), .val (.int x1), .val (.int x2), .val (.int 0), .val (.int sh_), .val (.int c_), .val (.int mu_), .val (.ref r_USAGE), .unset, .unset, .unset, .unset, .unset] []))
    refine og (fun _ hr => XS.iload X1059.here hx rfl (hb hby at_157) rfl (XS.iconst X1059.here hx rfl (hb hby at_159) hr)) ?_
    show oG p e below _ (T1059.setTop (mkF m 160 #[.val (.int x0), .val (.int x1), .val (.int x2), .val (.int 0), .val (.int sh_), .val (.int c_), .val (.int mu_), .val (.ref r_USAGE), .unset, .unset, .unset, .unset, .unset] [(.int 1), (.int sh_)]))
    rcases Classical.em (sh_ = (1 : Int32)) with c1250 | c1250
    · skip
      refine og (fun _ hr => XS.icmpNo X1059.here hx rfl (hb hby at_160) rfl (teq c1250).2 hr) ?_
      show oG p e below _ (T1059.setTop (mkF m 163 #[.val (.int x0), .val (.int x1), .val (.int x2), .val (.int 0), .val (.int sh_), .val (.int c_), .val (.int mu_), .val (.ref r_USAGE), .unset, .unset, .unset, .unset, .unset] []))
      refine og (fun _ hr => XS.iloadN X1059.here hx rfl (hb hby at_163) rfl hr) ?_
      show oG p e below _ (T1059.setTop (mkF m 164 #[.val (.int x0), .val (.int x1), .val (.int x2), .val (.int 0), .val (.int sh_), .val (.int c_), .val (.int mu_), .val (.ref r_USAGE), .unset, .unset, .unset, .unset, .unset] [(.int 0)]))
      refine own_cs X1059 hx hZ hown (hw _ (own_m 96 rfl)) (hw _ (own_m 97 rfl)) (hw _ (own_m 5 rfl)) (hw _ (own_m 98 rfl)) (by decide) (rm := { frames := 0, cells := 1, slots := 9, locals := 0 }) (rm_longer_19 l Z a0 hw []  h0 n0 Z0 ) (by decide) (W := 0) (by decide) (by decide) (by decide) e1059 (by rw [hml]; rfl) (argsL := [(.int 0)]) (lenOf own_pd7 rfl) (rest := []) rfl rfl (Nat.le_of_eq rfl) (hb hby at_164) ?_
      intro _ T1251 L1251 X1251 hQ1251
      obtain ⟨b1251_0, kb1251_0, rfl, N1251q, K1251, ge1251_0, sz1251_0, f1251_0, f1251_1⟩ := hQ1251
      have N1251 := Fr.app N0 N1251q
      have sz1252 : h0.size ≤ b1251_0 := Nat.le_trans K0.1 sz1251_0
      show oG p e below _ (T1251.setTop (mkF m 167 #[.val (.int x0), .val (.int x1), .val (.int x2), .val (.int 0), .val (.int sh_), .val (.int c_), .val (.int mu_), .val (.ref r_USAGE), .unset, .unset, .unset, .unset, .unset] [(.ref b1251_0)]))
      refine og (fun _ hr => XS.astore X1251.here hx rfl (hb hby at_167) rfl rfl (l' := #[.val (.int x0), .val (.int x1), .val (.int x2), .val (.int 0), .val (.int sh_), .val (.int c_), .val (.int mu_), .val (.ref r_USAGE), .unset, .unset, .val (.ref b1251_0), .unset, .unset]) rfl (XS.aload X1251.here hx rfl (hb hby at_169) rfl rfl (XS.aload X1251.here hx rfl (hb hby at_171) rfl rfl (own_alen X1251 hx hZ rfl f1251_1 rfl rfl (hb hby at_173) (XS.iconst X1251.here hx rfl (hb hby at_174) (XS.isub X1251.here hx rfl (hb hby at_175) rfl (XS.iload X1251.here hx rfl (hb hby at_176) rfl hr))))))) ?_
      show oG p e below _ (T1251.setTop (mkF m 178 #[.val (.int x0), .val (.int x1), .val (.int x2), .val (.int 0), .val (.int sh_), .val (.int c_), .val (.int mu_), .val (.ref r_USAGE), .unset, .unset, .val (.ref b1251_0), .unset, .unset] [(.int c_), (.int 8), (.ref b1251_0)]))
      have c1254 : (nar .char c_) = c_ := by
        have q0 := rng32 x2
        have q1 := c_mask x2 (255 : Int32) 8 (by decide) (by decide)
        have q2 := c_i2c (x2 &&& (255 : Int32))
        have q3 := congrArg Int32.toInt hc_
        have q4 := (show ((nar .char c_).toInt - c_.toInt) % 65536 = 0 ∧ 0 ≤ (nar .char c_).toInt ∧ (nar .char c_).toInt < 65536 from c_i2c c_)
        simp only [true_implies, Int32.lt_iff_toInt_lt, ← Int32.toInt_inj, Int32.reduceToInt, Int64.lt_iff_toInt_lt, ← Int64.toInt_inj, Int64.reduceToInt] at q0 q1 q2 q3 q4 ⊢
        omega
      refine own_stC X1251 hx hZ rfl f1251_1 (8 : Int32) c_ c_ 8 ⟨by decide, by decide⟩ rfl (Nat.le_of_ble_eq_true rfl) c1254 [(.int 117), (.int 115), (.int 97), (.int 103), (.int 101), (.int 95), (.int 109), (.int 51), (.int c_)] rfl N1251 ge1251_0 (hb hby at_178) ?_
      intro T1253 h1253 L1253 X1253 e1253 W1253 N1253 f1253
      show oG p e below _ (T1253.setTop (mkF m 179 #[.val (.int x0), .val (.int x1), .val (.int x2), .val (.int 0), .val (.int sh_), .val (.int c_), .val (.int mu_), .val (.ref r_USAGE), .unset, .unset, .val (.ref b1251_0), .unset, .unset] []))
      obtain ⟨T1255, h1255, X1255, e1255, E1255, A1255, D1255, -, st1255⟩ := newO X1253 hx hZ hown (hw _ (own_m 9 rfl)) (hw _ (own_m 10 rfl)) (hw _ (own_m 11 rfl)) e1253 (g := (mkF m 179 #[.val (.int x0), .val (.int x1), .val (.int x2), .val (.int 0), .val (.int sh_), .val (.int c_), .val (.int mu_), .val (.ref r_USAGE), .unset, .unset, .val (.ref b1251_0), .unset, .unset] [])) rfl (hb hby at_179) (by decide) (by decide)
      obtain ⟨b1255, g1255⟩ : ∃ z, z = h1253.size := ⟨_, rfl⟩
      rw [← g1255] at A1255 D1255 st1255
      have Z1256 := (Nat.le_trans (Nat.le_trans Z0 K1251.1) (Nat.le_of_eq W1253.size.symm))
      have ge1257 : n0 ≤ b1255 := Nat.le_trans Z1256 (Nat.le_of_eq g1255.symm)
      have K1258 := ((K0.trans K1251 all0).wr W1253 (Or.inr sz1252))
      have sz1259 : h0.size ≤ b1255 := Nat.le_trans K1258.1 (Nat.le_of_eq g1255.symm)
      refine og st1255 ?_
      have f1260 : Fld Z h1255 b1255 "java/lang/String" "coder" "B" (.int 0) := D1255 (Or.inr (hw _ (own_m 35 rfl))) (ty := .byte) (by decide)
      have f1261 : Fld Z h1255 b1255 "java/lang/String" "value" "[B" .null := D1255 (Or.inr (hw _ (own_m 37 rfl))) (ty := (.array .byte)) (by decide)
      show oG p e below _ (T1255.setTop (mkF m 182 #[.val (.int x0), .val (.int x1), .val (.int x2), .val (.int 0), .val (.int sh_), .val (.int c_), .val (.int mu_), .val (.ref r_USAGE), .unset, .unset, .val (.ref b1251_0), .unset, .unset] [(.ref b1255)]))
      refine og (fun _ hr => XS.dup X1255.here hx rfl (hb hby at_182) rfl rfl (XS.aload X1255.here hx rfl (hb hby at_183) rfl rfl hr)) ?_
      show oG p e below _ (T1255.setTop (mkF m 185 #[.val (.int x0), .val (.int x1), .val (.int x2), .val (.int 0), .val (.int sh_), .val (.int c_), .val (.int mu_), .val (.ref r_USAGE), .unset, .unset, .val (.ref b1251_0), .unset, .unset] [(.ref b1251_0), (.ref b1255), (.ref b1255)]))
      have c1263 : ¬ (c_ < (0 : Int32)) := by
        have q0 := rng32 x2
        have q1 := c_mask x2 (255 : Int32) 8 (by decide) (by decide)
        have q2 := c_i2c (x2 &&& (255 : Int32))
        have q3 := congrArg Int32.toInt hc_
        have q4 := (show ((nar .char c_).toInt - c_.toInt) % 65536 = 0 ∧ 0 ≤ (nar .char c_).toInt ∧ (nar .char c_).toInt < 65536 from c_i2c c_)
        have p0 := c1254
        simp only [true_implies, Int32.lt_iff_toInt_lt, ← Int32.toInt_inj, Int32.reduceToInt, Int64.lt_iff_toInt_lt, ← Int64.toInt_inj, Int64.reduceToInt] at q0 q1 q2 q3 q4 p0 ⊢
        omega
      have c1264 : ¬ ((255 : Int32) < c_) := by
        have q0 := rng32 x2
        have q1 := c_mask x2 (255 : Int32) 8 (by decide) (by decide)
        have q2 := c_i2c (x2 &&& (255 : Int32))
        have q3 := congrArg Int32.toInt hc_
        have q4 := (show ((nar .char c_).toInt - c_.toInt) % 65536 = 0 ∧ 0 ≤ (nar .char c_).toInt ∧ (nar .char c_).toInt < 65536 from c_i2c c_)
        have p0 := c1254
        have p1 := c1263
        simp only [true_implies, Int32.lt_iff_toInt_lt, ← Int32.toInt_inj, Int32.reduceToInt, Int64.lt_iff_toInt_lt, ← Int64.toInt_inj, Int64.reduceToInt] at q0 q1 q2 q3 q4 p0 p1 ⊢
        omega
      have hp1262 : ∀ c ∈ ([117, 115, 97, 103, 101, 95, 109, 51, c_] : List Int32), ¬ c < 0 ∧ ¬ (255 : Int32) < c := (own_lc (by decide) (own_lc (by decide) (own_lc (by decide) (own_lc (by decide) (own_lc (by decide) (own_lc (by decide) (own_lc (by decide) (own_lc (by decide) (own_lc ⟨c1263, c1264⟩ own_ln)))))))))
      have f1265 := (f1253.ext E1255)
      have K1266 := (K1258.ext E1255)
      have f1267 := (own_sta_keep S_COMPACT_STRINGS K1266 all0)
      have Z1268 := (Nat.le_trans Z1256 E1255.1)
      refine own_newS X1255 hx hZ hown hw (hw _ (own_m 12 rfl)) (hw _ (own_m 13 rfl)) (hw _ (own_m 14 rfl)) (hw _ (own_m 10 rfl)) [117, 115, 97, 103, 101, 95, 109, 51, c_] ge1257 Z1268 A1255 f1261 f1260 f1265 f1267 hs_COMPACT_STRINGS (n := 9) rfl rfl (by decide) (by decide) hp1262 (by decide) (W := 1) (by decide) (by decide) (by decide) e1255 (by rw [hml]; rfl) (Nat.le_of_eq rfl) (hb hby at_185) ?_
      intro T1262 L1262 b1262_0 kb1262_0 X1262 N1262q K1262 f1262_0 f1262_1 ge1262_0 sz1262_0 ne1262_0 f1262_2 f1262_3
      have N1262 := Fr.app N1253 N1262q
      have sz1269 : h0.size ≤ b1262_0 := Nat.le_trans K1266.1 sz1262_0
      show oG p e below _ (T1262.setTop (mkF m 188 #[.val (.int x0), .val (.int x1), .val (.int x2), .val (.int 0), .val (.int sh_), .val (.int c_), .val (.int mu_), .val (.ref r_USAGE), .unset, .unset, .val (.ref b1251_0), .unset, .unset] [(.ref b1255)]))
      refine og (fun _ hr => XS.astore X1262.here hx rfl (hb hby at_188) rfl rfl (l' := #[.val (.int x0), .val (.int x1), .val (.int x2), .val (.int 0), .val (.int sh_), .val (.int c_), .val (.int mu_), .val (.ref r_USAGE), .val (.ref b1255), .unset, .val (.ref b1251_0), .unset, .unset]) rfl (XS.aconstNull X1262.here hx rfl (hb hby at_190) (XS.astore X1262.here hx rfl (hb hby at_191) rfl rfl (l' := #[.val (.int x0), .val (.int x1), .val (.int x2), .val (.int 0), .val (.int sh_), .val (.int c_), .val (.int mu_), .val (.ref r_USAGE), .val (.ref b1255), .val .null, .val (.ref b1251_0), .unset, .unset]) rfl (XS.goto X1262.here hx rfl (pc0 := 193) (pc' := 231) rfl (hb hby at_193) (by decide) (by decide) (XS.aload X1262.here hx rfl (hb hby at_231) rfl rfl hr))))) ?_
      show oG p e below _ (T1262.setTop (mkF m 233 #[.val (.int x0), .val (.int x1), .val (.int x2), .val (.int 0), .val (.int sh_), .val (.int c_), .val (.int mu_), .val (.ref r_USAGE), .val (.ref b1255), .val .null, .val (.ref b1251_0), .unset, .unset] [(.ref b1255)]))
      have K1271 := (K1266.trans K1262 (allS (Or.inr sz1259) all0))
      have f1272 := (own_sta_keep S__VALUES K1271 all0)
      have f1273 := (E__VALUES.keep K1271)
      have f1274 := (F_USAGE_header.keep K1271 nin0)
      have f1275 := (E_USAGE_header.keep K1271)
      have f1276 := (F_USAGE_header_coder.keep K1271 nin0)
      have f1277 := (F_USAGE_header_value.keep K1271 nin0)
      have f1278 := (F_CHARGE_header.keep K1271 nin0)
      have f1279 := (E_CHARGE_header.keep K1271)
      have f1280 := (F_CHARGE_header_coder.keep K1271 nin0)
      have f1281 := (F_CHARGE_header_value.keep K1271 nin0)
      have f1282 := (F_TAX_header.keep K1271 nin0)
      have f1283 := (E_TAX_header.keep K1271)
      have f1284 := (F_TAX_header_coder.keep K1271 nin0)
      have f1285 := (F_TAX_header_value.keep K1271 nin0)
      have f1286 := (F_GAS_PART_header.keep K1271 nin0)
      have f1287 := (E_GAS_PART_header.keep K1271)
      have f1288 := (F_GAS_PART_header_coder.keep K1271 nin0)
      have f1289 := (F_GAS_PART_header_value.keep K1271 nin0)
      have f1290 := (V__VALUES.keep K1271 nin0)
      have f1291 := (V_USAGE_header_value.keep K1271 nin0)
      have f1292 := (V_CHARGE_header_value.keep K1271 nin0)
      have f1293 := (V_TAX_header_value.keep K1271 nin0)
      have f1294 := (V_GAS_PART_header_value.keep K1271 nin0)
      have f1295 := (own_sta_keep f1267 K1262 (allS (own_ns_exa A1255) all0))
      have f1296 := (own_sta_keep S_EMPTY K1271 all0)
      have f1297 := (E_EMPTY.keep K1271)
      have f1298 := (F_EMPTY_value.keep K1271 nin0)
      have Z1299 := (Nat.le_trans Z1268 K1262.1)
      refine own_cs X1262 hx hZ hown (hw _ (own_m 38 rfl)) (hw _ (own_m 39 rfl)) (hw _ (own_m 1 rfl)) (hw _ (own_m 40 rfl)) (by decide) (rm := { frames := 3, cells := 2, slots := 5, locals := 38 }) (rm_named_s l Z a0 hw [] b1255 b1262_0 kb1262_0 (9 : Int32) [117, 115, 97, 103, 101, 95, 109, 51, c_] ((List.map StrChars.lo8 [117, 115, 97, 103, 101, 95, 109, 51, c_]).map Value.int) r_USAGE r__VALUES r_CHARGE r_TAX r_GAS_PART r_USAGE_header r_USAGE_header_value r_CHARGE_header r_CHARGE_header_value r_TAX_header r_TAX_header_value r_GAS_PART_header r_GAS_PART_header_value k__VALUES k_USAGE_header_value k_CHARGE_header_value k_TAX_header_value k_GAS_PART_header_value i_COMPACT_STRINGS v_SIOOBE_FORMATTER r_EMPTY T1262.heap n0 Z1299 f1262_0 f1262_1 f1262_2 f1262_3 (StrChars.Road.codOf (cs := [117, 115, 97, 103, 101, 95, 109, 51, c_]) (n := 9) rfl (fun c hc => (hp1262 c hc).2)) (own_up hp1262) (Nat.le_of_ble_eq_true rfl) f1272 f1273 f1274 f1275 f1276 f1277 f1278 f1279 f1280 f1281 f1282 f1283 f1284 f1285 f1286 f1287 f1288 f1289 f1290 f1291 f1292 f1293 f1294 f1295 f1296 f1297 f1298 hs_COMPACT_STRINGS hv_SIOOBE_FORMATTER) (by decide) (W := 0) (by decide) (by decide) (by decide) rfl (by rw [hml]; rfl) (argsL := [(.ref b1255)]) (lenOf own_pd8 rfl) (rest := []) rfl rfl (Nat.le_of_eq rfl) (hb hby at_233) ?_
      intro _ T1270 L1270 X1270 hQ1270
      have c1300 : (own_same own_tx0 [117, 115, 97, 103, 101, 95, 109, 51, c_]) = (0 : Int32) := own_same_len (show (8 : Nat) ≠ 9 from by decide)
      have c1301 : (own_same own_tx1 [117, 115, 97, 103, 101, 95, 109, 51, c_]) = (0 : Int32) := own_same_len (show (10 : Nat) ≠ 9 from by decide)
      have c1302 : (own_same own_tx2 [117, 115, 97, 103, 101, 95, 109, 51, c_]) = (0 : Int32) := own_same_len (show (7 : Nat) ≠ 9 from by decide)
      have c1303 : (own_same own_tx3 [117, 115, 97, 103, 101, 95, 109, 51, c_]) = (0 : Int32) := own_same_len (show (12 : Nat) ≠ 9 from by decide)
      have ev1304 : (own_nm [117, 115, 97, 103, 101, 95, 109, 51, c_] r_USAGE r_CHARGE r_TAX r_GAS_PART) = .null := by unfold own_nm; rw [if_pos c1300, if_pos c1301, if_pos c1302, if_pos c1303]
      unfold Q_named_s at hQ1270; rw [ev1304] at hQ1270
      obtain ⟨b1270_0, rfl, N1270q, K1270, f1270_0, f1270_1⟩ := hQ1270
      have N1270 := Fr.app N1262 N1270q
      show oG p e below _ (T1270.setTop (mkF m 236 #[.val (.int x0), .val (.int x1), .val (.int x2), .val (.int 0), .val (.int sh_), .val (.int c_), .val (.int mu_), .val (.ref r_USAGE), .val (.ref b1255), .val .null, .val (.ref b1251_0), .unset, .unset] [(.ref b1270_0)]))
      refine og (fun _ hr => XS.aconstNull X1270.here hx rfl (hb hby at_236) hr) ?_
      show oG p e below _ (T1270.setTop (mkF m 237 #[.val (.int x0), .val (.int x1), .val (.int x2), .val (.int 0), .val (.int sh_), .val (.int c_), .val (.int mu_), .val (.ref r_USAGE), .val (.ref b1255), .val .null, .val (.ref b1251_0), .unset, .unset] [.null, (.ref b1270_0)]))
      have Z1306 := (Nat.le_trans Z1299 K1270.1)
      refine own_cv X1270 hx hZ hown (notFace_of_selects (args := #[]) (mvT hZ (hw _ (own_m 91 rfl)))) (hw _ (own_m 88 rfl)) (hw _ (own_m 89 rfl)) (hw _ (own_m 91 rfl)) (hw _ (own_m 90 rfl)) (hw _ (own_m 73 rfl)) (hw _ (own_m 92 rfl)) (by decide) f1270_0 (rm := { frames := 0, cells := 0, slots := 0, locals := 0 }) (rm_orElse_7 l Z a0 hw [] b1270_0 T1270.heap n0 Z1306 f1270_1) (by decide) (W := 0) (by decide) (by decide) (by decide) rfl (by rw [hml]; rfl) (argsL := [.null]) (lenOf own_pd4 rfl) (rest := []) rfl rfl (Nat.le_of_eq rfl) (hb hby at_237) ?_
      intro _ T1305 L1305 X1305 hQ1305
      obtain ⟨rfl, N1305q, e1305⟩ := hQ1305
      have N1305 := Fr.app N1270 N1305q
      show oG p e below _ (T1305.setTop (mkF m 240 #[.val (.int x0), .val (.int x1), .val (.int x2), .val (.int 0), .val (.int sh_), .val (.int c_), .val (.int mu_), .val (.ref r_USAGE), .val (.ref b1255), .val .null, .val (.ref b1251_0), .unset, .unset] [.null]))
      refine og (X1305.checkcastNull hx (g := (mkF m 240 #[.val (.int x0), .val (.int x1), .val (.int x2), .val (.int 0), .val (.int sh_), .val (.int c_), .val (.int mu_), .val (.ref r_USAGE), .val (.ref b1255), .val .null, .val (.ref b1251_0), .unset, .unset] [.null])) rfl rfl (hb hby at_240)) ?_
      show oG p e below _ (T1305.setTop (mkF m 243 #[.val (.int x0), .val (.int x1), .val (.int x2), .val (.int 0), .val (.int sh_), .val (.int c_), .val (.int mu_), .val (.ref r_USAGE), .val (.ref b1255), .val .null, .val (.ref b1251_0), .unset, .unset] [.null]))
      refine og (fun _ hr => XS.astore X1305.here hx rfl (hb hby at_243) rfl rfl (l' := #[.val (.int x0), .val (.int x1), .val (.int x2), .val (.int 0), .val (.int sh_), .val (.int c_), .val (.int mu_), .val (.ref r_USAGE), .val (.ref b1255), .val .null, .val .null, .unset, .unset]) rfl (XS.aload X1305.here hx rfl (hb hby at_245) rfl rfl (XS.aload X1305.here hx rfl (hb hby at_247) rfl rfl hr))) ?_
      show oG p e below _ (T1305.setTop (mkF m 249 #[.val (.int x0), .val (.int x1), .val (.int x2), .val (.int 0), .val (.int sh_), .val (.int c_), .val (.int mu_), .val (.ref r_USAGE), .val (.ref b1255), .val .null, .val .null, .unset, .unset] [.null, .null]))
      refine og (fun _ hr => Jvm.RoadKit.acmp X1305 hx rfl rfl rfl (pc0 := 249) (pc' := 252) (same := true) rfl (hb hby at_249) rfl (decide_eq_true rfl) (by decide) (by decide) hr) ?_
      show oG p e below _ (T1305.setTop (mkF m 252 #[.val (.int x0), .val (.int x1), .val (.int x2), .val (.int 0), .val (.int sh_), .val (.int c_), .val (.int mu_), .val (.ref r_USAGE), .val (.ref b1255), .val .null, .val .null, .unset, .unset] []))
      refine og (fun _ hr => XS.iconst X1305.here hx rfl (hb hby at_252) (XS.goto X1305.here hx rfl (pc0 := 253) (pc' := 257) rfl (hb hby at_253) (by decide) (by decide) hr)) ?_
      show oG p e below _ (T1305.setTop (mkF m 257 #[.val (.int x0), .val (.int x1), .val (.int x2), .val (.int 0), .val (.int sh_), .val (.int c_), .val (.int mu_), .val (.ref r_USAGE), .val (.ref b1255), .val .null, .val .null, .unset, .unset] [(.int 1)]))
      have hk1307 := (Nat.le_trans (Nat.le_trans (Nat.le_trans (Nat.le_trans (Nat.le_trans hk K1251.1) (Nat.le_of_eq W1253.size.symm)) E1255.1) K1262.1) K1270.1)
      have A1308 := A0.trans (CHr.keep K1251 sf0 A0.1)
      have sf1310 := (Safe.keep K1251 sf0 A0.1 (Safe.new sz1251_0))
      have A1309 := A1308.trans (CHr.wr W1253 sf1310 A1308.1)
      have A1311 := A1309.trans (CHr.ext E1255 A1309.1)
      have sf1313 := (Safe.ext E1255 A1309.1 (Safe.new (Nat.le_of_eq g1255.symm)))
      have A1312 := A1311.trans (CHr.keep K1262 (sfS sf1313 sf0) A1311.1)
      have A1314 := A1312.trans (CHr.keep K1270 sf0 A1312.1)
      exact own_retNW X1305 hx hlk Bd.returns hS hk1307 hZ hEL hh e1305 A1314 (t := .boolean) (by simp) (hb hby at_257) (by decide) (by decide) ⟨rfl, N1305⟩
    refine og (fun _ hr => XS.icmpYes X1059.here hx rfl (pc0 := 160) (pc' := 196) rfl (hb hby at_160) rfl (feq c1250).2 (by decide) (by decide) hr) ?_
    show oG p e below _ (T1059.setTop (mkF m 196 #[.val (.int x0), .val (.int x1), .val (.int x2), .val (.int 0), .val (.int sh_), .val (.int c_), .val (.int mu_), .val (.ref r_USAGE), .unset, .unset, .unset, .unset, .unset] []))
    refine og (fun _ hr => XS.iload X1059.here hx rfl (hb hby at_196) rfl (XS.iconst X1059.here hx rfl (hb hby at_198) hr)) ?_
    show oG p e below _ (T1059.setTop (mkF m 199 #[.val (.int x0), .val (.int x1), .val (.int x2), .val (.int 0), .val (.int sh_), .val (.int c_), .val (.int mu_), .val (.ref r_USAGE), .unset, .unset, .unset, .unset, .unset] [(.int 2), (.int sh_)]))
    rcases Classical.em (sh_ = (2 : Int32)) with c1315 | c1315
    · skip
      refine og (fun _ hr => XS.icmpNo X1059.here hx rfl (hb hby at_199) rfl (teq c1315).2 hr) ?_
      show oG p e below _ (T1059.setTop (mkF m 202 #[.val (.int x0), .val (.int x1), .val (.int x2), .val (.int 0), .val (.int sh_), .val (.int c_), .val (.int mu_), .val (.ref r_USAGE), .unset, .unset, .unset, .unset, .unset] []))
      refine og (fun _ hr => XS.iloadN X1059.here hx rfl (hb hby at_202) rfl hr) ?_
      show oG p e below _ (T1059.setTop (mkF m 203 #[.val (.int x0), .val (.int x1), .val (.int x2), .val (.int 0), .val (.int sh_), .val (.int c_), .val (.int mu_), .val (.ref r_USAGE), .unset, .unset, .unset, .unset, .unset] [(.int 0)]))
      have hZo1317 := hZ
      refine own_csW X1059 hx hZ hown (hw _ (own_m 104 rfl)) (hw _ (own_m 105 rfl)) (hw _ (own_m 5 rfl)) (hw _ (own_m 106 rfl)) (by decide) (rm := { frames := 0, cells := 2, slots := 32, locals := 0 }) (rm_shorter_20 l Z a0 hw []  h0 n0 Z0 ) (by decide) (W := 0) (by decide) (by decide) (by decide) e1059 hEL A0.1 hS hk (by rw [hml]; rfl) (argsL := [(.int 0)]) (lenOf own_pd9 rfl) (rest := []) rfl rfl (Nat.le_of_eq rfl) (hb hby at_203) ?_
      intro _ T1316 L1316 X1316 hQ1316 Ac1316 hS hZ hown
      obtain ⟨b1316_0, b1316_1, kb1316_0, rfl, N1316q, K1316, f1316_0, f1316_1, f1316_2, f1316_3⟩ := hQ1316
      have N1316 := Fr.app N0 N1316q
      show oG p e below _ (T1316.setTop (mkF m 206 #[.val (.int x0), .val (.int x1), .val (.int x2), .val (.int 0), .val (.int sh_), .val (.int c_), .val (.int mu_), .val (.ref r_USAGE), .unset, .unset, .unset, .unset, .unset] [(.ref b1316_0)]))
      refine og (fun _ hr => XS.astore X1316.here hx rfl (hb hby at_206) rfl rfl (l' := #[.val (.int x0), .val (.int x1), .val (.int x2), .val (.int 0), .val (.int sh_), .val (.int c_), .val (.int mu_), .val (.ref r_USAGE), .val (.ref b1316_0), .unset, .unset, .unset, .unset]) rfl (XS.aconstNull X1316.here hx rfl (hb hby at_208) (XS.astore X1316.here hx rfl (hb hby at_209) rfl rfl (l' := #[.val (.int x0), .val (.int x1), .val (.int x2), .val (.int 0), .val (.int sh_), .val (.int c_), .val (.int mu_), .val (.ref r_USAGE), .val (.ref b1316_0), .val .null, .unset, .unset, .unset]) rfl (XS.goto X1316.here hx rfl (pc0 := 211) (pc' := 231) rfl (hb hby at_211) (by decide) (by decide) (XS.aload X1316.here hx rfl (hb hby at_231) rfl rfl hr))))) ?_
      show oG p e below _ (T1316.setTop (mkF m 233 #[.val (.int x0), .val (.int x1), .val (.int x2), .val (.int 0), .val (.int sh_), .val (.int c_), .val (.int mu_), .val (.ref r_USAGE), .val (.ref b1316_0), .val .null, .unset, .unset, .unset] [(.ref b1316_0)]))
      have f1319 := (own_sta_keep S__VALUES K1316 all0)
      have f1320 := (E__VALUES.keep K1316)
      have f1321 := (F_USAGE_header.keep K1316 nin0)
      have f1322 := (E_USAGE_header.keep K1316)
      have f1323 := (F_USAGE_header_coder.keep K1316 nin0)
      have f1324 := (F_USAGE_header_value.keep K1316 nin0)
      have f1325 := (F_CHARGE_header.keep K1316 nin0)
      have f1326 := (E_CHARGE_header.keep K1316)
      have f1327 := (F_CHARGE_header_coder.keep K1316 nin0)
      have f1328 := (F_CHARGE_header_value.keep K1316 nin0)
      have f1329 := (F_TAX_header.keep K1316 nin0)
      have f1330 := (E_TAX_header.keep K1316)
      have f1331 := (F_TAX_header_coder.keep K1316 nin0)
      have f1332 := (F_TAX_header_value.keep K1316 nin0)
      have f1333 := (F_GAS_PART_header.keep K1316 nin0)
      have f1334 := (E_GAS_PART_header.keep K1316)
      have f1335 := (F_GAS_PART_header_coder.keep K1316 nin0)
      have f1336 := (F_GAS_PART_header_value.keep K1316 nin0)
      have f1337 := (V__VALUES.keep K1316 nin0)
      have f1338 := (V_USAGE_header_value.keep K1316 nin0)
      have f1339 := (V_CHARGE_header_value.keep K1316 nin0)
      have f1340 := (V_TAX_header_value.keep K1316 nin0)
      have f1341 := (V_GAS_PART_header_value.keep K1316 nin0)
      have f1342 := (own_sta_keep S_COMPACT_STRINGS K1316 all0)
      have f1343 := (own_sta_keep S_EMPTY K1316 all0)
      have f1344 := (E_EMPTY.keep K1316)
      have f1345 := (F_EMPTY_value.keep K1316 nin0)
      have Z1346 := (Nat.le_trans Z0 K1316.1)
      refine own_cs X1316 hx hZ hown (hw _ (own_m 38 rfl)) (hw _ (own_m 39 rfl)) (hw _ (own_m 1 rfl)) (hw _ (own_m 40 rfl)) (by decide) (rm := { frames := 3, cells := 2, slots := 5, locals := 38 }) (rm_named_s l Z a0 hw [] b1316_0 b1316_1 kb1316_0 (7 : Int32) own_tx8 [(.int 117), (.int 115), (.int 97), (.int 103), (.int 101), (.int 95), (.int 109)] r_USAGE r__VALUES r_CHARGE r_TAX r_GAS_PART r_USAGE_header r_USAGE_header_value r_CHARGE_header r_CHARGE_header_value r_TAX_header r_TAX_header_value r_GAS_PART_header r_GAS_PART_header_value k__VALUES k_USAGE_header_value k_CHARGE_header_value k_TAX_header_value k_GAS_PART_header_value i_COMPACT_STRINGS v_SIOOBE_FORMATTER r_EMPTY T1316.heap n0 Z1346 f1316_0 f1316_1 f1316_2 f1316_3 own_cod8 own_hb8 (by decide) f1319 f1320 f1321 f1322 f1323 f1324 f1325 f1326 f1327 f1328 f1329 f1330 f1331 f1332 f1333 f1334 f1335 f1336 f1337 f1338 f1339 f1340 f1341 f1342 f1343 f1344 f1345 hs_COMPACT_STRINGS hv_SIOOBE_FORMATTER) (by decide) (W := 0) (by decide) (by decide) (by decide) rfl (by rw [hml]; rfl) (argsL := [(.ref b1316_0)]) (lenOf own_pd8 rfl) (rest := []) rfl rfl (Nat.le_of_eq rfl) (hb hby at_233) ?_
      intro _ T1318 L1318 X1318 hQ1318
      have c1347 : (own_same own_tx0 own_tx8) = (0 : Int32) := by decide +kernel
      have c1348 : (own_same own_tx1 own_tx8) = (0 : Int32) := by decide +kernel
      have c1349 : (own_same own_tx2 own_tx8) = (0 : Int32) := by decide +kernel
      have c1350 : (own_same own_tx3 own_tx8) = (0 : Int32) := by decide +kernel
      have ev1351 : (own_nm own_tx8 r_USAGE r_CHARGE r_TAX r_GAS_PART) = .null := by unfold own_nm; rw [if_pos c1347, if_pos c1348, if_pos c1349, if_pos c1350]
      unfold Q_named_s at hQ1318; rw [ev1351] at hQ1318
      obtain ⟨b1318_0, rfl, N1318q, K1318, f1318_0, f1318_1⟩ := hQ1318
      have N1318 := Fr.app N1316 N1318q
      show oG p e below _ (T1318.setTop (mkF m 236 #[.val (.int x0), .val (.int x1), .val (.int x2), .val (.int 0), .val (.int sh_), .val (.int c_), .val (.int mu_), .val (.ref r_USAGE), .val (.ref b1316_0), .val .null, .unset, .unset, .unset] [(.ref b1318_0)]))
      refine og (fun _ hr => XS.aconstNull X1318.here hx rfl (hb hby at_236) hr) ?_
      show oG p e below _ (T1318.setTop (mkF m 237 #[.val (.int x0), .val (.int x1), .val (.int x2), .val (.int 0), .val (.int sh_), .val (.int c_), .val (.int mu_), .val (.ref r_USAGE), .val (.ref b1316_0), .val .null, .unset, .unset, .unset] [.null, (.ref b1318_0)]))
      have Z1353 := (Nat.le_trans Z1346 K1318.1)
      refine own_cv X1318 hx hZ hown (notFace_of_selects (args := #[]) (mvT hZ (hw _ (own_m 91 rfl)))) (hw _ (own_m 88 rfl)) (hw _ (own_m 89 rfl)) (hw _ (own_m 91 rfl)) (hw _ (own_m 90 rfl)) (hw _ (own_m 73 rfl)) (hw _ (own_m 92 rfl)) (by decide) f1318_0 (rm := { frames := 0, cells := 0, slots := 0, locals := 0 }) (rm_orElse_7 l Z a0 hw [] b1318_0 T1318.heap n0 Z1353 f1318_1) (by decide) (W := 0) (by decide) (by decide) (by decide) rfl (by rw [hml]; rfl) (argsL := [.null]) (lenOf own_pd4 rfl) (rest := []) rfl rfl (Nat.le_of_eq rfl) (hb hby at_237) ?_
      intro _ T1352 L1352 X1352 hQ1352
      obtain ⟨rfl, N1352q, e1352⟩ := hQ1352
      have N1352 := Fr.app N1318 N1352q
      show oG p e below _ (T1352.setTop (mkF m 240 #[.val (.int x0), .val (.int x1), .val (.int x2), .val (.int 0), .val (.int sh_), .val (.int c_), .val (.int mu_), .val (.ref r_USAGE), .val (.ref b1316_0), .val .null, .unset, .unset, .unset] [.null]))
      refine og (X1352.checkcastNull hx (g := (mkF m 240 #[.val (.int x0), .val (.int x1), .val (.int x2), .val (.int 0), .val (.int sh_), .val (.int c_), .val (.int mu_), .val (.ref r_USAGE), .val (.ref b1316_0), .val .null, .unset, .unset, .unset] [.null])) rfl rfl (hb hby at_240)) ?_
      show oG p e below _ (T1352.setTop (mkF m 243 #[.val (.int x0), .val (.int x1), .val (.int x2), .val (.int 0), .val (.int sh_), .val (.int c_), .val (.int mu_), .val (.ref r_USAGE), .val (.ref b1316_0), .val .null, .unset, .unset, .unset] [.null]))
      refine og (fun _ hr => XS.astore X1352.here hx rfl (hb hby at_243) rfl rfl (l' := #[.val (.int x0), .val (.int x1), .val (.int x2), .val (.int 0), .val (.int sh_), .val (.int c_), .val (.int mu_), .val (.ref r_USAGE), .val (.ref b1316_0), .val .null, .val .null, .unset, .unset]) rfl (XS.aload X1352.here hx rfl (hb hby at_245) rfl rfl (XS.aload X1352.here hx rfl (hb hby at_247) rfl rfl hr))) ?_
      show oG p e below _ (T1352.setTop (mkF m 249 #[.val (.int x0), .val (.int x1), .val (.int x2), .val (.int 0), .val (.int sh_), .val (.int c_), .val (.int mu_), .val (.ref r_USAGE), .val (.ref b1316_0), .val .null, .val .null, .unset, .unset] [.null, .null]))
      refine og (fun _ hr => Jvm.RoadKit.acmp X1352 hx rfl rfl rfl (pc0 := 249) (pc' := 252) (same := true) rfl (hb hby at_249) rfl (decide_eq_true rfl) (by decide) (by decide) hr) ?_
      show oG p e below _ (T1352.setTop (mkF m 252 #[.val (.int x0), .val (.int x1), .val (.int x2), .val (.int 0), .val (.int sh_), .val (.int c_), .val (.int mu_), .val (.ref r_USAGE), .val (.ref b1316_0), .val .null, .val .null, .unset, .unset] []))
      refine og (fun _ hr => XS.iconst X1352.here hx rfl (hb hby at_252) (XS.goto X1352.here hx rfl (pc0 := 253) (pc' := 257) rfl (hb hby at_253) (by decide) (by decide) hr)) ?_
      show oG p e below _ (T1352.setTop (mkF m 257 #[.val (.int x0), .val (.int x1), .val (.int x2), .val (.int 0), .val (.int sh_), .val (.int c_), .val (.int mu_), .val (.ref r_USAGE), .val (.ref b1316_0), .val .null, .val .null, .unset, .unset] [(.int 1)]))
      have hk1354 := (Nat.le_trans (Nat.le_refl _) K1318.1)
      have A1355 := A0.trans Ac1316
      have A1356 := A1355.trans (CHr.keep K1318 sf0 A1355.1)
      exact own_retNW X1352 hx hlk Bd.returns hS hk1354 hZ hEL hh e1352 A1356 (t := .boolean) (by simp) (hb hby at_257) (by decide) (by decide) ⟨rfl, N1352⟩
    refine og (fun _ hr => XS.icmpYes X1059.here hx rfl (pc0 := 199) (pc' := 214) rfl (hb hby at_199) rfl (feq c1315).2 (by decide) (by decide) hr) ?_
    show oG p e below _ (T1059.setTop (mkF m 214 #[.val (.int x0), .val (.int x1), .val (.int x2), .val (.int 0), .val (.int sh_), .val (.int c_), .val (.int mu_), .val (.ref r_USAGE), .unset, .unset, .unset, .unset, .unset] []))
    refine og (fun _ hr => XS.iloadN X1059.here hx rfl (hb hby at_214) rfl (XS.iconst X1059.here hx rfl (hb hby at_215) (XS.iand X1059.here hx rfl (hb hby at_216) rfl hr))) ?_
    show oG p e below _ (T1059.setTop (mkF m 217 #[.val (.int x0), .val (.int x1), .val (.int x2), .val (.int 0), .val (.int sh_), .val (.int c_), .val (.int mu_), .val (.ref r_USAGE), .unset, .unset, .unset, .unset, .unset] [(.int (x1 &&& (1 : Int32)))]))
    rcases Classical.em ((x1 &&& (1 : Int32)) = (0 : Int32)) with c1357 | c1357
    · skip
      refine og (fun _ hr => XS.ifNo X1059.here hx rfl (hb hby at_217) rfl ((if0 _ _).trans (teq c1357).2) hr) ?_
      show oG p e below _ (T1059.setTop (mkF m 220 #[.val (.int x0), .val (.int x1), .val (.int x2), .val (.int 0), .val (.int sh_), .val (.int c_), .val (.int mu_), .val (.ref r_USAGE), .unset, .unset, .unset, .unset, .unset] []))
      refine og (fun _ hr => XS.aconstNull X1059.here hx rfl (hb hby at_220) (XS.goto X1059.here hx rfl (pc0 := 221) (pc' := 226) rfl (hb hby at_221) (by decide) (by decide) (XS.astore X1059.here hx rfl (hb hby at_226) rfl rfl (l' := #[.val (.int x0), .val (.int x1), .val (.int x2), .val (.int 0), .val (.int sh_), .val (.int c_), .val (.int mu_), .val (.ref r_USAGE), .val .null, .unset, .unset, .unset, .unset]) rfl (XS.aconstNull X1059.here hx rfl (hb hby at_228) (XS.astore X1059.here hx rfl (hb hby at_229) rfl rfl (l' := #[.val (.int x0), .val (.int x1), .val (.int x2), .val (.int 0), .val (.int sh_), .val (.int c_), .val (.int mu_), .val (.ref r_USAGE), .val .null, .val .null, .unset, .unset, .unset]) rfl (XS.aload X1059.here hx rfl (hb hby at_231) rfl rfl hr)))))) ?_
      show oG p e below _ (T1059.setTop (mkF m 233 #[.val (.int x0), .val (.int x1), .val (.int x2), .val (.int 0), .val (.int sh_), .val (.int c_), .val (.int mu_), .val (.ref r_USAGE), .val .null, .val .null, .unset, .unset, .unset] [.null]))
      refine own_cs X1059 hx hZ hown (hw _ (own_m 38 rfl)) (hw _ (own_m 39 rfl)) (hw _ (own_m 1 rfl)) (hw _ (own_m 40 rfl)) (by decide) (rm := { frames := 2, cells := 1, slots := 4, locals := 25 }) (rm_named_11 l Z a0 hw [] r__VALUES r_USAGE r_CHARGE r_TAX r_GAS_PART k__VALUES r_USAGE_header r_CHARGE_header r_TAX_header r_GAS_PART_header r_EMPTY h0 n0 Z0 S__VALUES V__VALUES E__VALUES F_USAGE_header E_USAGE_header F_CHARGE_header E_CHARGE_header F_TAX_header E_TAX_header F_GAS_PART_header E_GAS_PART_header S_EMPTY) (by decide) (W := 0) (by decide) (by decide) (by decide) e1059 (by rw [hml]; rfl) (argsL := [.null]) (lenOf own_pd8 rfl) (rest := []) rfl rfl (Nat.le_of_eq rfl) (hb hby at_233) ?_
      intro _ T1358 L1358 X1358 hQ1358
      obtain ⟨rfl, N1358q, K1358⟩ := hQ1358
      have N1358 := Fr.app N0 N1358q
      show oG p e below _ (T1358.setTop (mkF m 236 #[.val (.int x0), .val (.int x1), .val (.int x2), .val (.int 0), .val (.int sh_), .val (.int c_), .val (.int mu_), .val (.ref r_USAGE), .val .null, .val .null, .unset, .unset, .unset] [(.ref r_EMPTY)]))
      refine og (fun _ hr => XS.aconstNull X1358.here hx rfl (hb hby at_236) hr) ?_
      show oG p e below _ (T1358.setTop (mkF m 237 #[.val (.int x0), .val (.int x1), .val (.int x2), .val (.int 0), .val (.int sh_), .val (.int c_), .val (.int mu_), .val (.ref r_USAGE), .val .null, .val .null, .unset, .unset, .unset] [.null, (.ref r_EMPTY)]))
      have f1360 := (F_EMPTY_value.keep K1358 nin0)
      have Z1361 := (Nat.le_trans Z0 K1358.1)
      have f1362 := (E_EMPTY.keep K1358)
      refine own_cv X1358 hx hZ hown (notFace_of_selects (args := #[]) (mvT hZ (hw _ (own_m 91 rfl)))) (hw _ (own_m 88 rfl)) (hw _ (own_m 89 rfl)) (hw _ (own_m 91 rfl)) (hw _ (own_m 90 rfl)) (hw _ (own_m 73 rfl)) (hw _ (own_m 92 rfl)) (by decide) f1362 (rm := { frames := 0, cells := 0, slots := 0, locals := 0 }) (rm_orElse_7 l Z a0 hw [] r_EMPTY T1358.heap n0 Z1361 f1360) (by decide) (W := 0) (by decide) (by decide) (by decide) rfl (by rw [hml]; rfl) (argsL := [.null]) (lenOf own_pd4 rfl) (rest := []) rfl rfl (Nat.le_of_eq rfl) (hb hby at_237) ?_
      intro _ T1359 L1359 X1359 hQ1359
      obtain ⟨rfl, N1359q, e1359⟩ := hQ1359
      have N1359 := Fr.app N1358 N1359q
      show oG p e below _ (T1359.setTop (mkF m 240 #[.val (.int x0), .val (.int x1), .val (.int x2), .val (.int 0), .val (.int sh_), .val (.int c_), .val (.int mu_), .val (.ref r_USAGE), .val .null, .val .null, .unset, .unset, .unset] [.null]))
      refine og (X1359.checkcastNull hx (g := (mkF m 240 #[.val (.int x0), .val (.int x1), .val (.int x2), .val (.int 0), .val (.int sh_), .val (.int c_), .val (.int mu_), .val (.ref r_USAGE), .val .null, .val .null, .unset, .unset, .unset] [.null])) rfl rfl (hb hby at_240)) ?_
      show oG p e below _ (T1359.setTop (mkF m 243 #[.val (.int x0), .val (.int x1), .val (.int x2), .val (.int 0), .val (.int sh_), .val (.int c_), .val (.int mu_), .val (.ref r_USAGE), .val .null, .val .null, .unset, .unset, .unset] [.null]))
      refine og (fun _ hr => XS.astore X1359.here hx rfl (hb hby at_243) rfl rfl (l' := #[.val (.int x0), .val (.int x1), .val (.int x2), .val (.int 0), .val (.int sh_), .val (.int c_), .val (.int mu_), .val (.ref r_USAGE), .val .null, .val .null, .val .null, .unset, .unset]) rfl (XS.aload X1359.here hx rfl (hb hby at_245) rfl rfl (XS.aload X1359.here hx rfl (hb hby at_247) rfl rfl hr))) ?_
      show oG p e below _ (T1359.setTop (mkF m 249 #[.val (.int x0), .val (.int x1), .val (.int x2), .val (.int 0), .val (.int sh_), .val (.int c_), .val (.int mu_), .val (.ref r_USAGE), .val .null, .val .null, .val .null, .unset, .unset] [.null, .null]))
      refine og (fun _ hr => Jvm.RoadKit.acmp X1359 hx rfl rfl rfl (pc0 := 249) (pc' := 252) (same := true) rfl (hb hby at_249) rfl (decide_eq_true rfl) (by decide) (by decide) hr) ?_
      show oG p e below _ (T1359.setTop (mkF m 252 #[.val (.int x0), .val (.int x1), .val (.int x2), .val (.int 0), .val (.int sh_), .val (.int c_), .val (.int mu_), .val (.ref r_USAGE), .val .null, .val .null, .val .null, .unset, .unset] []))
      refine og (fun _ hr => XS.iconst X1359.here hx rfl (hb hby at_252) (XS.goto X1359.here hx rfl (pc0 := 253) (pc' := 257) rfl (hb hby at_253) (by decide) (by decide) hr)) ?_
      show oG p e below _ (T1359.setTop (mkF m 257 #[.val (.int x0), .val (.int x1), .val (.int x2), .val (.int 0), .val (.int sh_), .val (.int c_), .val (.int mu_), .val (.ref r_USAGE), .val .null, .val .null, .val .null, .unset, .unset] [(.int 1)]))
      have hk1363 := (Nat.le_trans hk K1358.1)
      have A1364 := A0.trans (CHr.keep K1358 sf0 A0.1)
      exact own_retNW X1359 hx hlk Bd.returns hS hk1363 hZ hEL hh e1359 A1364 (t := .boolean) (by simp) (hb hby at_257) (by decide) (by decide) ⟨rfl, N1359⟩
    refine og (fun _ hr => XS.ifYes X1059.here hx rfl (pc0 := 217) (pc' := 224) rfl (hb hby at_217) rfl ((if0 _ _).trans (feq c1357).2) (by decide) (by decide) hr) ?_
    show oG p e below _ (T1059.setTop (mkF m 224 #[.val (.int x0), .val (.int x1), .val (.int x2), .val (.int 0), .val (.int sh_), .val (.int c_), .val (.int mu_), .val (.ref r_USAGE), .unset, .unset, .unset, .unset, .unset] []))
    have hZo1366 := hZ
    obtain ⟨a1365, T1365, h1365, k11365, b1365, k1365, X1365, e1365, E1365, hS, hk1365, hZ, hown, EA1365, FC1365, FV1365, AV1365, -, -, Al1365, -, ne1365, st1365⟩ := ldcCH X1059 hx hZ hown (hw _ (own_m 112 rfl)) (own_ws hw) e1059 hS hk hEL (by simp [own_EL]) A0.1 (vs := []) (z := (0 : Int32)) ⟨by decide, by decide⟩ (by decide) (by decide) (g := (mkF m 224 #[.val (.int x0), .val (.int x1), .val (.int x2), .val (.int 0), .val (.int sh_), .val (.int c_), .val (.int mu_), .val (.ref r_USAGE), .unset, .unset, .unset, .unset, .unset] [])) rfl (hb hby at_224) (n := 0) (by decide) (by decide) (by decide) (by decide)
    refine og st1365 ?_
    show oG p e below _ (T1365.setTop (mkF m 226 #[.val (.int x0), .val (.int x1), .val (.int x2), .val (.int 0), .val (.int sh_), .val (.int c_), .val (.int mu_), .val (.ref r_USAGE), .unset, .unset, .unset, .unset, .unset] [(.ref a1365)]))
    refine og (fun _ hr => XS.astore X1365.here hx rfl (hb hby at_226) rfl rfl (l' := #[.val (.int x0), .val (.int x1), .val (.int x2), .val (.int 0), .val (.int sh_), .val (.int c_), .val (.int mu_), .val (.ref r_USAGE), .val (.ref a1365), .unset, .unset, .unset, .unset]) rfl (XS.aconstNull X1365.here hx rfl (hb hby at_228) (XS.astore X1365.here hx rfl (hb hby at_229) rfl rfl (l' := #[.val (.int x0), .val (.int x1), .val (.int x2), .val (.int 0), .val (.int sh_), .val (.int c_), .val (.int mu_), .val (.ref r_USAGE), .val (.ref a1365), .val .null, .unset, .unset, .unset]) rfl (XS.aload X1365.here hx rfl (hb hby at_231) rfl rfl hr)))) ?_
    show oG p e below _ (T1365.setTop (mkF m 233 #[.val (.int x0), .val (.int x1), .val (.int x2), .val (.int 0), .val (.int sh_), .val (.int c_), .val (.int mu_), .val (.ref r_USAGE), .val (.ref a1365), .val .null, .unset, .unset, .unset] [(.ref a1365)]))
    have f1368 := (S__VALUES.ext E1365)
    have f1369 := (E__VALUES.ext E1365)
    have f1370 := (F_USAGE_header.ext E1365)
    have f1371 := (E_USAGE_header.ext E1365)
    have f1372 := (F_USAGE_header_coder.ext E1365)
    have f1373 := (F_USAGE_header_value.ext E1365)
    have f1374 := (F_CHARGE_header.ext E1365)
    have f1375 := (E_CHARGE_header.ext E1365)
    have f1376 := (F_CHARGE_header_coder.ext E1365)
    have f1377 := (F_CHARGE_header_value.ext E1365)
    have f1378 := (F_TAX_header.ext E1365)
    have f1379 := (E_TAX_header.ext E1365)
    have f1380 := (F_TAX_header_coder.ext E1365)
    have f1381 := (F_TAX_header_value.ext E1365)
    have f1382 := (F_GAS_PART_header.ext E1365)
    have f1383 := (E_GAS_PART_header.ext E1365)
    have f1384 := (F_GAS_PART_header_coder.ext E1365)
    have f1385 := (F_GAS_PART_header_value.ext E1365)
    have f1386 := (V__VALUES.ext E1365)
    have f1387 := (V_USAGE_header_value.ext E1365)
    have f1388 := (V_CHARGE_header_value.ext E1365)
    have f1389 := (V_TAX_header_value.ext E1365)
    have f1390 := (V_GAS_PART_header_value.ext E1365)
    have f1391 := (S_COMPACT_STRINGS.ext E1365)
    have f1392 := (S_EMPTY.ext E1365)
    have f1393 := (E_EMPTY.ext E1365)
    have f1394 := (F_EMPTY_value.ext E1365)
    have Z1395 := (Nat.le_trans Z0 E1365.1)
    refine own_cs X1365 hx hZ hown (hw _ (own_m 38 rfl)) (hw _ (own_m 39 rfl)) (hw _ (own_m 1 rfl)) (hw _ (own_m 40 rfl)) (by decide) (rm := { frames := 3, cells := 2, slots := 5, locals := 38 }) (rm_named_s l Z a0 hw [] a1365 b1365 k1365 (0 : Int32) own_tx5 [] r_USAGE r__VALUES r_CHARGE r_TAX r_GAS_PART r_USAGE_header r_USAGE_header_value r_CHARGE_header r_CHARGE_header_value r_TAX_header r_TAX_header_value r_GAS_PART_header r_GAS_PART_header_value k__VALUES k_USAGE_header_value k_CHARGE_header_value k_TAX_header_value k_GAS_PART_header_value i_COMPACT_STRINGS v_SIOOBE_FORMATTER r_EMPTY h1365 n0 Z1395 EA1365 FC1365 FV1365 AV1365 own_cod5 own_hb5 (by decide) f1368 f1369 f1370 f1371 f1372 f1373 f1374 f1375 f1376 f1377 f1378 f1379 f1380 f1381 f1382 f1383 f1384 f1385 f1386 f1387 f1388 f1389 f1390 f1391 f1392 f1393 f1394 hs_COMPACT_STRINGS hv_SIOOBE_FORMATTER) (by decide) (W := 0) (by decide) (by decide) (by decide) e1365 (by rw [hml]; rfl) (argsL := [(.ref a1365)]) (lenOf own_pd8 rfl) (rest := []) rfl rfl (Nat.le_of_eq rfl) (hb hby at_233) ?_
    intro _ T1367 L1367 X1367 hQ1367
    have c1396 : (own_same own_tx0 own_tx5) = (0 : Int32) := by decide +kernel
    have c1397 : (own_same own_tx1 own_tx5) = (0 : Int32) := by decide +kernel
    have c1398 : (own_same own_tx2 own_tx5) = (0 : Int32) := by decide +kernel
    have c1399 : (own_same own_tx3 own_tx5) = (0 : Int32) := by decide +kernel
    have ev1400 : (own_nm own_tx5 r_USAGE r_CHARGE r_TAX r_GAS_PART) = .null := by unfold own_nm; rw [if_pos c1396, if_pos c1397, if_pos c1398, if_pos c1399]
    unfold Q_named_s at hQ1367; rw [ev1400] at hQ1367
    obtain ⟨b1367_0, rfl, N1367q, K1367, f1367_0, f1367_1⟩ := hQ1367
    have N1367 := Fr.app N0 N1367q
    show oG p e below _ (T1367.setTop (mkF m 236 #[.val (.int x0), .val (.int x1), .val (.int x2), .val (.int 0), .val (.int sh_), .val (.int c_), .val (.int mu_), .val (.ref r_USAGE), .val (.ref a1365), .val .null, .unset, .unset, .unset] [(.ref b1367_0)]))
    refine og (fun _ hr => XS.aconstNull X1367.here hx rfl (hb hby at_236) hr) ?_
    show oG p e below _ (T1367.setTop (mkF m 237 #[.val (.int x0), .val (.int x1), .val (.int x2), .val (.int 0), .val (.int sh_), .val (.int c_), .val (.int mu_), .val (.ref r_USAGE), .val (.ref a1365), .val .null, .unset, .unset, .unset] [.null, (.ref b1367_0)]))
    have Z1402 := (Nat.le_trans Z1395 K1367.1)
    refine own_cv X1367 hx hZ hown (notFace_of_selects (args := #[]) (mvT hZ (hw _ (own_m 91 rfl)))) (hw _ (own_m 88 rfl)) (hw _ (own_m 89 rfl)) (hw _ (own_m 91 rfl)) (hw _ (own_m 90 rfl)) (hw _ (own_m 73 rfl)) (hw _ (own_m 92 rfl)) (by decide) f1367_0 (rm := { frames := 0, cells := 0, slots := 0, locals := 0 }) (rm_orElse_7 l Z a0 hw [] b1367_0 T1367.heap n0 Z1402 f1367_1) (by decide) (W := 0) (by decide) (by decide) (by decide) rfl (by rw [hml]; rfl) (argsL := [.null]) (lenOf own_pd4 rfl) (rest := []) rfl rfl (Nat.le_of_eq rfl) (hb hby at_237) ?_
    intro _ T1401 L1401 X1401 hQ1401
    obtain ⟨rfl, N1401q, e1401⟩ := hQ1401
    have N1401 := Fr.app N1367 N1401q
    show oG p e below _ (T1401.setTop (mkF m 240 #[.val (.int x0), .val (.int x1), .val (.int x2), .val (.int 0), .val (.int sh_), .val (.int c_), .val (.int mu_), .val (.ref r_USAGE), .val (.ref a1365), .val .null, .unset, .unset, .unset] [.null]))
    refine og (X1401.checkcastNull hx (g := (mkF m 240 #[.val (.int x0), .val (.int x1), .val (.int x2), .val (.int 0), .val (.int sh_), .val (.int c_), .val (.int mu_), .val (.ref r_USAGE), .val (.ref a1365), .val .null, .unset, .unset, .unset] [.null])) rfl rfl (hb hby at_240)) ?_
    show oG p e below _ (T1401.setTop (mkF m 243 #[.val (.int x0), .val (.int x1), .val (.int x2), .val (.int 0), .val (.int sh_), .val (.int c_), .val (.int mu_), .val (.ref r_USAGE), .val (.ref a1365), .val .null, .unset, .unset, .unset] [.null]))
    refine og (fun _ hr => XS.astore X1401.here hx rfl (hb hby at_243) rfl rfl (l' := #[.val (.int x0), .val (.int x1), .val (.int x2), .val (.int 0), .val (.int sh_), .val (.int c_), .val (.int mu_), .val (.ref r_USAGE), .val (.ref a1365), .val .null, .val .null, .unset, .unset]) rfl (XS.aload X1401.here hx rfl (hb hby at_245) rfl rfl (XS.aload X1401.here hx rfl (hb hby at_247) rfl rfl hr))) ?_
    show oG p e below _ (T1401.setTop (mkF m 249 #[.val (.int x0), .val (.int x1), .val (.int x2), .val (.int 0), .val (.int sh_), .val (.int c_), .val (.int mu_), .val (.ref r_USAGE), .val (.ref a1365), .val .null, .val .null, .unset, .unset] [.null, .null]))
    refine og (fun _ hr => Jvm.RoadKit.acmp X1401 hx rfl rfl rfl (pc0 := 249) (pc' := 252) (same := true) rfl (hb hby at_249) rfl (decide_eq_true rfl) (by decide) (by decide) hr) ?_
    show oG p e below _ (T1401.setTop (mkF m 252 #[.val (.int x0), .val (.int x1), .val (.int x2), .val (.int 0), .val (.int sh_), .val (.int c_), .val (.int mu_), .val (.ref r_USAGE), .val (.ref a1365), .val .null, .val .null, .unset, .unset] []))
    refine og (fun _ hr => XS.iconst X1401.here hx rfl (hb hby at_252) (XS.goto X1401.here hx rfl (pc0 := 253) (pc' := 257) rfl (hb hby at_253) (by decide) (by decide) hr)) ?_
    show oG p e below _ (T1401.setTop (mkF m 257 #[.val (.int x0), .val (.int x1), .val (.int x2), .val (.int 0), .val (.int sh_), .val (.int c_), .val (.int mu_), .val (.ref r_USAGE), .val (.ref a1365), .val .null, .val .null, .unset, .unset] [(.int 1)]))
    have hk1403 := (Nat.le_trans hk1365 K1367.1)
    have A1404 := A0.trans Al1365
    have A1405 := A1404.trans (CHr.keep K1367 sf0 A1404.1)
    exact own_retNW X1401 hx hlk Bd.returns hS hk1403 hZ hEL hh e1401 A1405 (t := .boolean) (by simp) (hb hby at_257) (by decide) (by decide) ⟨rfl, N1401⟩
  rcases Classical.em ((x2 &&& (256 : Int32)) = (0 : Int32)) with c1406 | c1406
  · skip
    refine og (fun _ hr => XS.ifYes X0.here hx rfl (pc0 := 24) (pc' := 31) rfl (hb hby at_24) rfl ((if0 _ _).trans (teq c1406).1) (by decide) (by decide) hr) ?_
    show oG p e below _ (s₁.setTop (mkF m 31 #[.val (.int x0), .val (.int x1), .val (.int x2), .val (.int k_), .val (.int sh_), .val (.int c_), .unset, .unset, .unset, .unset, .unset, .unset, .unset] []))
    refine og (fun _ hr => XS.iconst X0.here hx rfl (hb hby at_31) (XS.istore X0.here hx rfl (hb hby at_32) rfl (l' := #[.val (.int x0), .val (.int x1), .val (.int x2), .val (.int k_), .val (.int sh_), .val (.int c_), .val (.int 0), .unset, .unset, .unset, .unset, .unset, .unset]) rfl hr)) ?_
    show oG p e below _ (s₁.setTop (mkF m 34 #[.val (.int x0), .val (.int x1), .val (.int x2), .val (.int k_), .val (.int sh_), .val (.int c_), .val (.int 0), .unset, .unset, .unset, .unset, .unset, .unset] []))
    exact j1 (0 : Int32) (by trivial)
  refine og (fun _ hr => XS.ifNo X0.here hx rfl (hb hby at_24) rfl ((if0 _ _).trans (feq c1406).1) hr) ?_
  show oG p e below _ (s₁.setTop (mkF m 27 #[.val (.int x0), .val (.int x1), .val (.int x2), .val (.int k_), .val (.int sh_), .val (.int c_), .unset, .unset, .unset, .unset, .unset, .unset, .unset] []))
  refine og (fun _ hr => XS.iconst X0.here hx rfl (hb hby at_27) (XS.goto X0.here hx rfl (pc0 := 28) (pc' := 32) rfl (hb hby at_28) (by decide) (by decide) (XS.istore X0.here hx rfl (hb hby at_32) rfl (l' := #[.val (.int x0), .val (.int x1), .val (.int x2), .val (.int k_), .val (.int sh_), .val (.int c_), .val (.int 1), .unset, .unset, .unset, .unset, .unset, .unset]) rfl hr))) ?_
  show oG p e below _ (s₁.setTop (mkF m 34 #[.val (.int x0), .val (.int x1), .val (.int x2), .val (.int k_), .val (.int sh_), .val (.int c_), .val (.int 1), .unset, .unset, .unset, .unset, .unset, .unset] []))
  exact j1 (1 : Int32) (by trivial)
theorem own_elsub : ∀ p ∈ own_EL, p ∈ consts_1 := by simp [own_EL, consts_1]
set_option maxRecDepth 65536 in
set_option maxHeartbeats 40000000 in
theorem comes_1 {Post : Tables → Env → Array Value → State → Outcome → State → Prop} (hpost : ∀ tb e args s v u, (limb_1_1.after args s (.returned v) u = true ∧ limb_1_2.after args s (.returned v) u = true ∧ True) → FramedW s (.returned v) u (Jvm.fieldLocs frame_1_writes args s ++ Jvm.arrayLocs frame_1_arrays args s ++ Jvm.staticLocs frame_1_statics s) 32 5312 → Post tb e args s (.returned v) u) :
    ArmFor flags0 classFile x code maxLocals ret World_1 tables_1 room_1 Calls_1 rest_1 Pre_1 Post := by
  intro l hfl _ _ p e ha hc hk s m args below hf hA hF happ hP
  obtain ⟨hcalls, hrest, hpre⟩ := hP
  obtain ⟨-, -, -, hnamed, -, -, -, hat⟩ := (Spec.applies_iff hf).mp happ
  obtain ⟨hg, hn⟩ := and_e (Cond.before_iff.mp (show (Jvm.Cond.and given_1 narrow_1).before args s = true from hpre))
  obtain ⟨g1, g2⟩ := and_e hg
  obtain ⟨g3, g4⟩ := and_e g2
  obtain ⟨g5, g6⟩ := and_e g4
  obtain ⟨w0, w1, w2, rfl⟩ : ∃ w0 w1 w2 : Value, args = #[w0, w1, w2] := by
    have hs : args.size = 3 := by simpa [Cond.value, given_1] using g1
    obtain ⟨L⟩ := args
    match L, hs with
    | [w0, w1, w2], _ => exact ⟨w0, w1, w2, rfl⟩
  have hw := fun d (hd : d ∈ tables_1) => atoms_spec (ws := Jvm.Cond.code x code maxLocals ret :: tables_1) hat d (List.mem_cons_of_mem _ hd)
  have hfit : Fit s := fun {y c} hc i hi => by
    obtain ⟨ha, rfl⟩ := Array.getElem?_eq_some_iff.mp hc
    have q := List.all_eq_true.mp ((Array.all_eq_true_iff_forall_mem.mp hF) _ (Array.getElem_mem ha)) i (List.mem_range.mpr hi)
    simpa [Array.getElem?_eq_getElem hi] using q
  obtain ⟨hsets, hown0⟩ := atoms_of _ (rest_1_c_eq ▸ (show rest_1_c.before _ s = true from hrest))
  have hr0 := Cond.before_iff.mp hown0
  obtain ⟨i0, ei0⟩ := is_v g3
  obtain rfl : w0 = (.int i0) := Option.some.inj ei0
  obtain ⟨i1, ei1⟩ := is_v g5
  obtain rfl : w1 = (.int i1) := Option.some.inj ei1
  obtain ⟨i2, ei2⟩ := is_v g6
  obtain rfl : w2 = (.int i2) := Option.some.inj ei2
  obtain ⟨g1001, g1002⟩ := and_e hn
  obtain ⟨g1003, g1004⟩ := and_e g1002
  obtain ⟨g1005, g1006⟩ := and_e g1004
  obtain ⟨g1007, g1008⟩ := and_e g1006
  obtain ⟨g1009, g1010⟩ := and_e g1008
  obtain ⟨g1011, g1012⟩ := and_e g1010
  obtain ⟨g1013, g1014⟩ := and_e g1012
  obtain ⟨g1015, g1016⟩ := and_e g1014
  obtain ⟨g1017, g1018⟩ := and_e g1016
  obtain ⟨g1019, g1020⟩ := and_e g1018
  obtain ⟨g1021, g1022⟩ := and_e g1020
  obtain ⟨g1023, g1024⟩ := and_e g1022
  obtain ⟨g1025, g1026⟩ := and_e g1024
  obtain ⟨g1027, g1028⟩ := and_e g1026
  obtain ⟨g1029, g1030⟩ := and_e g1028
  obtain ⟨g1031, g1032⟩ := and_e g1030
  obtain ⟨g1033, g1034⟩ := and_e g1032
  obtain ⟨g1035, g1036⟩ := and_e g1034
  obtain ⟨g1037, g1038⟩ := and_e g1036
  obtain ⟨g1039, g1040⟩ := and_e g1038
  obtain ⟨g1041, g1042⟩ := and_e g1040
  obtain ⟨g1043, g1044⟩ := and_e g1042
  obtain ⟨g1045, g1046⟩ := and_e g1044
  obtain ⟨g1047, g1048⟩ := and_e g1046
  obtain ⟨g1049, g1050⟩ := and_e g1048
  obtain ⟨g1051, g1052⟩ := and_e g1050
  obtain ⟨g1053, g1054⟩ := and_e g1052
  obtain ⟨g1055, g1056⟩ := and_e g1054
  obtain ⟨g1057, g1058⟩ := and_e g1056
  obtain ⟨g1059, g1060⟩ := and_e g1058
  obtain ⟨g1061, g1062⟩ := and_e g1060
  obtain ⟨g1063, g1064⟩ := and_e g1062
  obtain ⟨g1065, g1066⟩ := and_e g1064
  obtain ⟨g1067, g1068⟩ := and_e g1066
  obtain ⟨g1069, g1070⟩ := and_e g1068
  obtain ⟨g1071, g1072⟩ := and_e g1070
  obtain ⟨g1073, g1074⟩ := and_e g1072
  obtain ⟨g1075, g1076⟩ := and_e g1074
  obtain ⟨g1077, g1078⟩ := and_e g1076
  obtain ⟨g1079, g1080⟩ := and_e g1078
  obtain ⟨g1081, g1082⟩ := and_e g1080
  obtain ⟨g1083, g1084⟩ := and_e g1082
  obtain ⟨g1085, g1086⟩ := and_e g1084
  obtain ⟨g1087, g1088⟩ := and_e g1086
  obtain ⟨g1089, g1090⟩ := and_e g1088
  obtain ⟨g1091, g1092⟩ := and_e g1090
  obtain ⟨g1093, g1094⟩ := and_e g1092
  obtain ⟨g1095, g1096⟩ := and_e g1094
  obtain ⟨g1097, g1098⟩ := and_e g1096
  obtain ⟨g1099, g1100⟩ := and_e g1098
  obtain ⟨g1101, g1102⟩ := and_e g1100
  obtain ⟨g1103, g1104⟩ := and_e g1102
  obtain ⟨g1105, g1106⟩ := and_e g1104
  obtain ⟨g1107, g1108⟩ := and_e g1106
  obtain ⟨g1109, g1110⟩ := and_e g1108
  obtain ⟨g1111, g1112⟩ := and_e g1110
  obtain ⟨g1113, g1114⟩ := and_e g1112
  obtain ⟨g1115, g1116⟩ := and_e g1114
  obtain ⟨g1117, g1118⟩ := and_e g1116
  obtain ⟨g1119, g1120⟩ := and_e g1118
  obtain ⟨g1121, g1122⟩ := and_e g1120
  obtain ⟨g1123, g1124⟩ := and_e g1122
  obtain ⟨g1125, g1126⟩ := and_e g1124
  obtain ⟨r_USAGE, er_USAGE⟩ := exa_v g1001
  have S_USAGE := Sta.start er_USAGE (Or.inr ⟨(hw _ (own_m 1 rfl)), (hw _ (own_m 2 rfl))⟩)
  have E_USAGE := Exa.start er_USAGE g1001
  obtain ⟨r__VALUES, er__VALUES⟩ := arr_v g1003
  have S__VALUES := Sta.start er__VALUES (Or.inr ⟨(hw _ (own_m 1 rfl)), (hw _ (own_m 45 rfl))⟩)
  obtain ⟨c__VALUES, A__VALUES⟩ := Arr.start er__VALUES g1003
  have E__VALUES := Exa.start er__VALUES g1005
  obtain ⟨r_CHARGE, er_CHARGE⟩ := exa_v g1011
  have S_CHARGE := Sta.start er_CHARGE (Or.inr ⟨(hw _ (own_m 1 rfl)), (hw _ (own_m 53 rfl))⟩)
  have E_CHARGE := Exa.start er_CHARGE g1011
  obtain ⟨r_TAX, er_TAX⟩ := exa_v g1015
  have S_TAX := Sta.start er_TAX (Or.inr ⟨(hw _ (own_m 1 rfl)), (hw _ (own_m 54 rfl))⟩)
  have E_TAX := Exa.start er_TAX g1015
  obtain ⟨r_GAS_PART, er_GAS_PART⟩ := exa_v g1019
  have S_GAS_PART := Sta.start er_GAS_PART (Or.inr ⟨(hw _ (own_m 1 rfl)), (hw _ (own_m 55 rfl))⟩)
  have E_GAS_PART := Exa.start er_GAS_PART g1019
  obtain ⟨r_USAGE_header, er_USAGE_header⟩ := exa_v g1023
  have F_USAGE_header := Fld.start ((fld_at er_USAGE).symm.trans er_USAGE_header)
  have E_USAGE_header := Exa.start er_USAGE_header g1023
  have F_USAGE_header_coder := Fld.start ((fld_at er_USAGE_header).symm.trans (own_eq_int g1025))
  obtain ⟨r_USAGE_header_value, er_USAGE_header_value⟩ := arr_v g1027
  have F_USAGE_header_value := Fld.start ((fld_at er_USAGE_header).symm.trans er_USAGE_header_value)
  obtain ⟨c_USAGE_header_value, A_USAGE_header_value⟩ := Arr.start er_USAGE_header_value g1027
  obtain ⟨r_CHARGE_header, er_CHARGE_header⟩ := exa_v g1031
  have F_CHARGE_header := Fld.start ((fld_at er_CHARGE).symm.trans er_CHARGE_header)
  have E_CHARGE_header := Exa.start er_CHARGE_header g1031
  have F_CHARGE_header_coder := Fld.start ((fld_at er_CHARGE_header).symm.trans (own_eq_int g1033))
  obtain ⟨r_CHARGE_header_value, er_CHARGE_header_value⟩ := arr_v g1035
  have F_CHARGE_header_value := Fld.start ((fld_at er_CHARGE_header).symm.trans er_CHARGE_header_value)
  obtain ⟨c_CHARGE_header_value, A_CHARGE_header_value⟩ := Arr.start er_CHARGE_header_value g1035
  obtain ⟨r_TAX_header, er_TAX_header⟩ := exa_v g1039
  have F_TAX_header := Fld.start ((fld_at er_TAX).symm.trans er_TAX_header)
  have E_TAX_header := Exa.start er_TAX_header g1039
  have F_TAX_header_coder := Fld.start ((fld_at er_TAX_header).symm.trans (own_eq_int g1041))
  obtain ⟨r_TAX_header_value, er_TAX_header_value⟩ := arr_v g1043
  have F_TAX_header_value := Fld.start ((fld_at er_TAX_header).symm.trans er_TAX_header_value)
  obtain ⟨c_TAX_header_value, A_TAX_header_value⟩ := Arr.start er_TAX_header_value g1043
  obtain ⟨r_GAS_PART_header, er_GAS_PART_header⟩ := exa_v g1047
  have F_GAS_PART_header := Fld.start ((fld_at er_GAS_PART).symm.trans er_GAS_PART_header)
  have E_GAS_PART_header := Exa.start er_GAS_PART_header g1047
  have F_GAS_PART_header_coder := Fld.start ((fld_at er_GAS_PART_header).symm.trans (own_eq_int g1049))
  obtain ⟨r_GAS_PART_header_value, er_GAS_PART_header_value⟩ := arr_v g1051
  have F_GAS_PART_header_value := Fld.start ((fld_at er_GAS_PART_header).symm.trans er_GAS_PART_header_value)
  obtain ⟨c_GAS_PART_header_value, A_GAS_PART_header_value⟩ := Arr.start er_GAS_PART_header_value g1051
  obtain ⟨k__VALUES, ek__VALUES⟩ : ∃ z, z = c__VALUES.cls := ⟨_, rfl⟩
  have V__VALUES : Arv s s.heap r__VALUES k__VALUES (.object "com/example/strict_tariff/stricttariff/pricing/Column") (4 : Int32) [(.ref r_USAGE), (.ref r_CHARGE), (.ref r_TAX), (.ref r_GAS_PART)] .null := ek__VALUES ▸ own_arv hfit er__VALUES A__VALUES (own_eq_int g1007) (by decide) (by first | decide | rfl) ⟨(elem_in (own_eq_ref er_USAGE g1009) er__VALUES (Term.int_eval _) A__VALUES.1).2, (elem_in (own_eq_ref er_CHARGE g1013) er__VALUES (Term.int_eval _) A__VALUES.1).2, (elem_in (own_eq_ref er_TAX g1017) er__VALUES (Term.int_eval _) A__VALUES.1).2, (elem_in (own_eq_ref er_GAS_PART g1021) er__VALUES (Term.int_eval _) A__VALUES.1).2, trivial⟩
  obtain ⟨k_USAGE_header_value, ek_USAGE_header_value⟩ : ∃ z, z = c_USAGE_header_value.cls := ⟨_, rfl⟩
  have V_USAGE_header_value : Arv s s.heap r_USAGE_header_value k_USAGE_header_value .byte (8 : Int32) [(.int 117), (.int 115), (.int 97), (.int 103), (.int 101), (.int 95), (.int 109), (.int 51)] (.int 0) := ek_USAGE_header_value ▸ own_arv hfit er_USAGE_header_value A_USAGE_header_value (own_eq_int g1029) (by decide) (by first | decide | rfl) ⟨(elem_in (own_eq_int g1055) er_USAGE_header_value (Term.int_eval _) A_USAGE_header_value.1).2, (elem_in (own_eq_int g1057) er_USAGE_header_value (Term.int_eval _) A_USAGE_header_value.1).2, (elem_in (own_eq_int g1059) er_USAGE_header_value (Term.int_eval _) A_USAGE_header_value.1).2, (elem_in (own_eq_int g1061) er_USAGE_header_value (Term.int_eval _) A_USAGE_header_value.1).2, (elem_in (own_eq_int g1063) er_USAGE_header_value (Term.int_eval _) A_USAGE_header_value.1).2, (elem_in (own_eq_int g1065) er_USAGE_header_value (Term.int_eval _) A_USAGE_header_value.1).2, (elem_in (own_eq_int g1067) er_USAGE_header_value (Term.int_eval _) A_USAGE_header_value.1).2, (elem_in (own_eq_int g1069) er_USAGE_header_value (Term.int_eval _) A_USAGE_header_value.1).2, trivial⟩
  obtain ⟨k_CHARGE_header_value, ek_CHARGE_header_value⟩ : ∃ z, z = c_CHARGE_header_value.cls := ⟨_, rfl⟩
  have V_CHARGE_header_value : Arv s s.heap r_CHARGE_header_value k_CHARGE_header_value .byte (10 : Int32) [(.int 99), (.int 104), (.int 97), (.int 114), (.int 103), (.int 101), (.int 95), (.int 121), (.int 101), (.int 110)] (.int 0) := ek_CHARGE_header_value ▸ own_arv hfit er_CHARGE_header_value A_CHARGE_header_value (own_eq_int g1037) (by decide) (by first | decide | rfl) ⟨(elem_in (own_eq_int g1071) er_CHARGE_header_value (Term.int_eval _) A_CHARGE_header_value.1).2, (elem_in (own_eq_int g1073) er_CHARGE_header_value (Term.int_eval _) A_CHARGE_header_value.1).2, (elem_in (own_eq_int g1075) er_CHARGE_header_value (Term.int_eval _) A_CHARGE_header_value.1).2, (elem_in (own_eq_int g1077) er_CHARGE_header_value (Term.int_eval _) A_CHARGE_header_value.1).2, (elem_in (own_eq_int g1079) er_CHARGE_header_value (Term.int_eval _) A_CHARGE_header_value.1).2, (elem_in (own_eq_int g1081) er_CHARGE_header_value (Term.int_eval _) A_CHARGE_header_value.1).2, (elem_in (own_eq_int g1083) er_CHARGE_header_value (Term.int_eval _) A_CHARGE_header_value.1).2, (elem_in (own_eq_int g1085) er_CHARGE_header_value (Term.int_eval _) A_CHARGE_header_value.1).2, (elem_in (own_eq_int g1087) er_CHARGE_header_value (Term.int_eval _) A_CHARGE_header_value.1).2, (elem_in (own_eq_int g1089) er_CHARGE_header_value (Term.int_eval _) A_CHARGE_header_value.1).2, trivial⟩
  obtain ⟨k_TAX_header_value, ek_TAX_header_value⟩ : ∃ z, z = c_TAX_header_value.cls := ⟨_, rfl⟩
  have V_TAX_header_value : Arv s s.heap r_TAX_header_value k_TAX_header_value .byte (7 : Int32) [(.int 116), (.int 97), (.int 120), (.int 95), (.int 121), (.int 101), (.int 110)] (.int 0) := ek_TAX_header_value ▸ own_arv hfit er_TAX_header_value A_TAX_header_value (own_eq_int g1045) (by decide) (by first | decide | rfl) ⟨(elem_in (own_eq_int g1091) er_TAX_header_value (Term.int_eval _) A_TAX_header_value.1).2, (elem_in (own_eq_int g1093) er_TAX_header_value (Term.int_eval _) A_TAX_header_value.1).2, (elem_in (own_eq_int g1095) er_TAX_header_value (Term.int_eval _) A_TAX_header_value.1).2, (elem_in (own_eq_int g1097) er_TAX_header_value (Term.int_eval _) A_TAX_header_value.1).2, (elem_in (own_eq_int g1099) er_TAX_header_value (Term.int_eval _) A_TAX_header_value.1).2, (elem_in (own_eq_int g1101) er_TAX_header_value (Term.int_eval _) A_TAX_header_value.1).2, (elem_in (own_eq_int g1103) er_TAX_header_value (Term.int_eval _) A_TAX_header_value.1).2, trivial⟩
  obtain ⟨k_GAS_PART_header_value, ek_GAS_PART_header_value⟩ : ∃ z, z = c_GAS_PART_header_value.cls := ⟨_, rfl⟩
  have V_GAS_PART_header_value : Arv s s.heap r_GAS_PART_header_value k_GAS_PART_header_value .byte (12 : Int32) [(.int 103), (.int 97), (.int 115), (.int 95), (.int 112), (.int 97), (.int 114), (.int 116), (.int 95), (.int 121), (.int 101), (.int 110)] (.int 0) := ek_GAS_PART_header_value ▸ own_arv hfit er_GAS_PART_header_value A_GAS_PART_header_value (own_eq_int g1053) (by decide) (by first | decide | rfl) ⟨(elem_in (own_eq_int g1105) er_GAS_PART_header_value (Term.int_eval _) A_GAS_PART_header_value.1).2, (elem_in (own_eq_int g1107) er_GAS_PART_header_value (Term.int_eval _) A_GAS_PART_header_value.1).2, (elem_in (own_eq_int g1109) er_GAS_PART_header_value (Term.int_eval _) A_GAS_PART_header_value.1).2, (elem_in (own_eq_int g1111) er_GAS_PART_header_value (Term.int_eval _) A_GAS_PART_header_value.1).2, (elem_in (own_eq_int g1113) er_GAS_PART_header_value (Term.int_eval _) A_GAS_PART_header_value.1).2, (elem_in (own_eq_int g1115) er_GAS_PART_header_value (Term.int_eval _) A_GAS_PART_header_value.1).2, (elem_in (own_eq_int g1117) er_GAS_PART_header_value (Term.int_eval _) A_GAS_PART_header_value.1).2, (elem_in (own_eq_int g1119) er_GAS_PART_header_value (Term.int_eval _) A_GAS_PART_header_value.1).2, (elem_in (own_eq_int g1121) er_GAS_PART_header_value (Term.int_eval _) A_GAS_PART_header_value.1).2, (elem_in (own_eq_int g1123) er_GAS_PART_header_value (Term.int_eval _) A_GAS_PART_header_value.1).2, (elem_in (own_eq_int g1125) er_GAS_PART_header_value (Term.int_eval _) A_GAS_PART_header_value.1).2, (elem_in (own_eq_int g1126) er_GAS_PART_header_value (Term.int_eval _) A_GAS_PART_header_value.1).2, trivial⟩
  obtain ⟨i_COMPACT_STRINGS, ei_COMPACT_STRINGS⟩ := is_v (Cond.before_iff.mp (hsets _ (List.mem_of_getElem? (i := 1) rfl)))
  have S_COMPACT_STRINGS := Sta.start ei_COMPACT_STRINGS (Or.inl (hsets _ (List.mem_of_getElem? (i := 0) rfl)))
  have hs_COMPACT_STRINGS : ¬ (i_COMPACT_STRINGS = (0 : Int32)) := gotF (Cond.eq_ints ei_COMPACT_STRINGS (Term.int_eval _)) (not_v (Cond.before_iff.mp (hsets _ (List.mem_of_getElem? (i := 2) rfl))))
  obtain ⟨v_SIOOBE_FORMATTER, ev_SIOOBE_FORMATTER, hv_SIOOBE_FORMATTER⟩ := isR_v (Cond.before_iff.mp (hsets _ (List.mem_of_getElem? (i := 8) rfl)))
  have S_SIOOBE_FORMATTER := Sta.start ev_SIOOBE_FORMATTER (Or.inl (hsets _ (List.mem_of_getElem? (i := 7) rfl)))
  obtain ⟨r_EMPTY, er_EMPTY⟩ := exa_v (Cond.before_iff.mp (hsets _ (List.mem_of_getElem? (i := 11) rfl)))
  have S_EMPTY := Sta.start er_EMPTY (Or.inl (hsets _ (List.mem_of_getElem? (i := 10) rfl)))
  have E_EMPTY := Exa.start er_EMPTY (Cond.before_iff.mp (hsets _ (List.mem_of_getElem? (i := 11) rfl)))
  have F_EMPTY_value := Fld.start ((fld_at er_EMPTY).symm.trans (null_v (Cond.before_iff.mp (hsets _ (List.mem_of_getElem? (i := 12) rfl)))))
  obtain ⟨n, o, h1, h2, h3, _, L, rfl, ⟨rfl, N⟩, -, hq⟩ := rm_law l s _ hw tables_1 i0 i1 i2 r_USAGE r__VALUES r_CHARGE r_TAX r_GAS_PART r_USAGE_header r_USAGE_header_value r_CHARGE_header r_CHARGE_header_value r_TAX_header r_TAX_header_value r_GAS_PART_header r_GAS_PART_header_value k__VALUES k_USAGE_header_value k_CHARGE_header_value k_TAX_header_value k_GAS_PART_header_value i_COMPACT_STRINGS v_SIOOBE_FORMATTER r_EMPTY s.heap s.heap.size (Nat.le_refl _) S_USAGE E_USAGE S__VALUES E__VALUES S_CHARGE E_CHARGE S_TAX E_TAX S_GAS_PART E_GAS_PART F_USAGE_header E_USAGE_header F_USAGE_header_coder F_USAGE_header_value F_CHARGE_header E_CHARGE_header F_CHARGE_header_coder F_CHARGE_header_value F_TAX_header E_TAX_header F_TAX_header_coder F_TAX_header_value F_GAS_PART_header E_GAS_PART_header F_GAS_PART_header_coder F_GAS_PART_header_value V__VALUES V_USAGE_header_value V_CHARGE_header_value V_TAX_header_value V_GAS_PART_header_value S_COMPACT_STRINGS S_SIOOBE_FORMATTER S_EMPTY E_EMPTY F_EMPTY_value hs_COMPACT_STRINGS hv_SIOOBE_FORMATTER p e ha hc hk s m _ below hf ((Spec.applies_iff_loose hf).mp happ).1 ⟨rfl, State.Warmed39.refl s, rfl, CHv.start (own_ew hw) (fun p hp => hcalls.1 p (own_elsub p hp)) (hsets _ (List.mem_of_getElem? (i := 2) rfl)) (hw _ (own_m 27 rfl)) (hw _ (own_m 10 rfl))⟩ trivial
  refine ⟨n, _, h1, h2, h3, hpost _ _ _ _ _ _ ⟨Cond.after_iff.mpr rfl, Cond.after_iff.mpr (eq_i res_at (Term.int_eval (1)) rfl), trivial⟩ ⟨hq.1, hq.2.1, hq.2.2.1, (hq.2.2.2.sift fun y hy => Or.inr (N y hy)).mono (by decide) (by decide)⟩⟩
theorem main_1_1 : Claimed_1_1 := comes_1 fun _ _ _ _ _ _ h hF => ⟨h.1, hF⟩
theorem main_1_2 : Claimed_1_2 := comes_1 fun _ _ _ _ _ _ h hF => ⟨h.2.1, hF⟩
end Jvm.Pilot.@@N@@
namespace Jvm.Pilot.@@N@@
open Jvm Jvm.ClassFile Sem Op Lib Jvm.Free Jvm.Stand Jvm.Pilot.@@N@@.Jvm.D
/-! MADE BY PROGRAM (witnessworld.py) out of the Statement's table words and the real class files: 24 classes; the members and pool entries that the words name. The judged class is class 1, her method 4. -/
namespace start1
open Jvm.ClassFile
def u (s : String) : CpInfo := .utf8 (stringToUtf16 s)
/-- a pool by its gaps: so many unusable entries, then the entry; so many at the end -/
def gap : Nat → List CpInfo → List CpInfo
  | 0, r => r
  | n + 1, r => .unusable :: gap n r
def poolList (es : List (Nat × CpInfo)) (last : Nat) : List CpInfo := es.foldr (fun e r => gap e.1 (e.2 :: r)) (gap last [])
def pool (es : List (Nat × CpInfo)) (last : Nat) : Array CpInfo := ⟨poolList es last⟩
def fileOf (pool : Array CpInfo) (this : Nat) (attrs : Array Attribute := #[]) (ms : Array MethodInfo := #[]) (fl : Nat := 33) (sup : Nat := 0) (ifs : Array Nat := #[]) (fds : Array FieldInfo := #[]) : ClassFile where
  minorVersion := 0
  majorVersion := 65
  constantPool := pool
  accessFlags := fl
  thisClass := this
  superClass := sup
  interfaces := ifs
  fields := fds
  methods := ms
  attributes := attrs
def plain (name : String) (sup : Option ClassId) : Class where
  name := name
  kind := .ordinary
  loader := none
  accessFlags := 33
  super := sup
  interfaces := #[]
  cf := none
  fields := #[]
  methods := #[]
  instanceTypes := #[]
  staticTypes := #[]
  resolved := #[]
  callSites := []
  init := .initialized
  statics := none
  mirror := none

def pool0 : Array CpInfo := pool [(5, u "<init>"), (0, u "()V"), (1, .class_ 10), (1, u "java/lang/Object"), (85, u "clone"), (0, u "()Ljava/lang/Object;")] 26

def k0c0 : Code := { maxStack := 0, maxLocals := 1, code := object_method_1_code, exceptionTable := #[], attributes := #[] }
def k0m0 : Method := { name := "<init>", desc := "()V", sig := { parameters := [], returnType := none }, accessFlags := 1, code := some k0c0 }
def k0m1 : Method := { name := "clone", desc := "()Ljava/lang/Object;", sig := { parameters := [], returnType := some (.object "java/lang/Object") }, accessFlags := 260, code := none }
/-- java/lang/Object -/
def k0 : Class := { plain "java/lang/Object" none with
  accessFlags := 33
  interfaces := #[]
  cf := some (fileOf pool0 8 #[] #[{ accessFlags := 1, nameIndex := 5, descriptorIndex := 6, attributes := #[] }, { accessFlags := 260, nameIndex := 96, descriptorIndex := 97, attributes := #[] }] 33 0 #[] #[])
  fields := #[]
  methods := #[k0m0, k0m1]
  instanceTypes := #[]
  staticTypes := #[]
  resolved := Array.replicate 124 none
  statics := none }

def pool1 : Array CpInfo := pool [(2, .class_ 4), (1, u "java/lang/Object"), (0, u "<init>"), (0, u "()V"), (0, .string 8), (0, u "usage_m"), (0, .string 10), (0, u "charge_ye"), (0, .string 12), (0, u "tax_ye"), (0, .string 14), (0, u "gas_part_ye"), (0, .fieldref 16 17), (0, .class_ 18), (0, .nameAndType 19 20), (0, u "com/example/strict_tariff/stricttariff/pricing/Column"), (0, u "USAGE"), (0, u "Lcom/example/strict_tariff/stricttariff/pricing/Column;"), (0, .fieldref 16 22), (0, .nameAndType 23 20), (0, u "CHARGE"), (0, .fieldref 16 25), (0, .nameAndType 26 20), (0, u "TAX"), (0, .fieldref 16 28), (0, .nameAndType 29 20), (0, u "GAS_PART"), (0, .methodref 31 32), (0, .class_ 33), (0, .nameAndType 34 35), (0, u "com/example/strict_tariff/stricttariff/pricing/ColumnNamedPinLaw"), (0, u "exact"), (0, u "(I)[C"), (0, .integer 2147483647), (0, .class_ 38), (0, u "java/lang/String"), (0, .methodref 37 40), (0, .nameAndType 5 41), (0, u "([C)V"), (0, .methodref 31 43), (0, .nameAndType 44 35), (0, u "longer"), (0, .methodref 31 46), (0, .nameAndType 47 48), (0, u "shorter"), (0, u "(I)Ljava/lang/String;"), (0, .string 50), (0, u ""), (0, .methodref 16 52), (0, .nameAndType 53 54), (0, u "named"), (0, u "(Ljava/lang/String;)Ljava/util/Optional;"), (0, .methodref 56 57), (0, .class_ 58), (0, .nameAndType 59 60), (0, u "java/util/Optional"), (0, u "orElse"), (0, u "(Ljava/lang/Object;)Ljava/lang/Object;"), (3, u "law"), (0, u "(III)Z")] 4

def k1m0 : Method := { name := "<init>", desc := "()V", sig := { parameters := [], returnType := none }, accessFlags := 2, code := none }
def k1c1 : Code := { maxStack := 4, maxLocals := 1, code := method_2_code, exceptionTable := #[], attributes := #[] }
def k1m1 : Method := { name := "exact", desc := "(I)[C", sig := { parameters := [.int], returnType := some (.array .char) }, accessFlags := 10, code := some k1c1 }
def k1c2 : Code := { maxStack := 4, maxLocals := 1, code := method_3_code, exceptionTable := #[], attributes := #[] }
def k1m2 : Method := { name := "longer", desc := "(I)[C", sig := { parameters := [.int], returnType := some (.array .char) }, accessFlags := 10, code := some k1c2 }
def k1c3 : Code := { maxStack := 2, maxLocals := 1, code := method_4_code, exceptionTable := #[], attributes := #[] }
def k1m3 : Method := { name := "shorter", desc := "(I)Ljava/lang/String;", sig := { parameters := [.int], returnType := some (.object "java/lang/String") }, accessFlags := 10, code := some k1c3 }
def k1c4 : Code := { maxStack := 3, maxLocals := 13, code := code, exceptionTable := #[], attributes := #[] }
def k1m4 : Method := { name := "law", desc := "(III)Z", sig := { parameters := [.int, .int, .int], returnType := some .boolean }, accessFlags := 9, code := some k1c4 }
/-- com/example/strict_tariff/stricttariff/pricing/ColumnNamedPinLaw -/
def k1 : Class := { plain "com/example/strict_tariff/stricttariff/pricing/ColumnNamedPinLaw" (some 0) with
  accessFlags := 49
  interfaces := #[]
  cf := some (fileOf pool1 31 #[] #[{ accessFlags := 2, nameIndex := 5, descriptorIndex := 6, attributes := #[] }, { accessFlags := 10, nameIndex := 34, descriptorIndex := 35, attributes := #[] }, { accessFlags := 10, nameIndex := 44, descriptorIndex := 35, attributes := #[] }, { accessFlags := 10, nameIndex := 47, descriptorIndex := 48, attributes := #[] }, { accessFlags := 9, nameIndex := 64, descriptorIndex := 65, attributes := #[] }] 49 2 #[] #[])
  fields := #[]
  methods := #[k1m0, k1m1, k1m2, k1m3, k1m4]
  instanceTypes := #[]
  staticTypes := #[]
  resolved := Array.replicate 70 none
  statics := none }

def pool2 : Array CpInfo := pool [(1, .class_ 2), (0, u "java/lang/constant/Constable"), (0, .class_ 4), (0, u "java/lang/Object")] 6

/-- java/lang/constant/Constable -/
def k2 : Class := { plain "java/lang/constant/Constable" (some 0) with
  accessFlags := 1537
  interfaces := #[]
  cf := some (fileOf pool2 1 #[] #[] 1537 3 #[] #[])
  fields := #[]
  methods := #[]
  instanceTypes := #[]
  staticTypes := #[]
  resolved := Array.replicate 11 none
  statics := none }

def pool3 : Array CpInfo := pool [(1, .class_ 2), (0, u "java/lang/Comparable"), (0, .class_ 4), (0, u "java/lang/Object")] 7

/-- java/lang/Comparable -/
def k3 : Class := { plain "java/lang/Comparable" (some 0) with
  accessFlags := 1537
  interfaces := #[]
  cf := some (fileOf pool3 1 #[] #[] 1537 3 #[] #[])
  fields := #[]
  methods := #[]
  instanceTypes := #[]
  staticTypes := #[]
  resolved := Array.replicate 12 none
  statics := none }

def pool4 : Array CpInfo := pool [(1, .class_ 2), (0, u "java/io/Serializable"), (0, .class_ 4), (0, u "java/lang/Object")] 2

/-- java/io/Serializable -/
def k4 : Class := { plain "java/io/Serializable" (some 0) with
  accessFlags := 1537
  interfaces := #[]
  cf := some (fileOf pool4 1 #[] #[] 1537 3 #[] #[])
  fields := #[]
  methods := #[]
  instanceTypes := #[]
  staticTypes := #[]
  resolved := Array.replicate 7 none
  statics := none }

def pool5 : Array CpInfo := pool [(2, .class_ 4), (1, u "java/lang/Enum"), (0, u "name"), (0, u "Ljava/lang/String;"), (2, u "ordinal"), (0, u "I"), (1, .class_ 14), (1, u "java/lang/Object"), (4, u "hash"), (86, .class_ 108), (1, u "java/lang/Enum$EnumDesc"), (2, .class_ 112), (0, u "java/lang/constant/Constable"), (0, .class_ 114), (0, u "java/lang/Comparable"), (0, .class_ 116), (0, u "java/io/Serializable")] 87

/-- java/lang/Enum -/
def k5 : Class := { plain "java/lang/Enum" (some 0) with
  accessFlags := 1057
  interfaces := #[2, 3, 4]
  cf := some (fileOf pool5 2 #[.nestMembers #[106]] #[] 1057 12 #[111, 113, 115] #[{ accessFlags := 18, nameIndex := 5, descriptorIndex := 6, attributes := #[] }, { accessFlags := 18, nameIndex := 9, descriptorIndex := 10, attributes := #[] }, { accessFlags := 2, nameIndex := 19, descriptorIndex := 10, attributes := #[] }])
  fields := #[{ name := "name", type := (.object "java/lang/String"), accessFlags := 18, slot := 0, constantValue := 0 }, { name := "ordinal", type := .int, accessFlags := 18, slot := 1, constantValue := 0 }, { name := "hash", type := .int, accessFlags := 2, slot := 2, constantValue := 0 }]
  methods := #[]
  instanceTypes := #[(.object "java/lang/String"), .int, .int]
  staticTypes := #[]
  resolved := Array.replicate 204 none
  statics := none }

def pool6 : Array CpInfo := pool [(1, .class_ 2), (0, u "com/example/strict_tariff/stricttariff/pricing/Column"), (2, u "USAGE"), (0, u "Lcom/example/strict_tariff/stricttariff/pricing/Column;"), (2, u "CHARGE"), (2, u "TAX"), (2, u "GAS_PART"), (0, .fieldref 1 17), (0, .nameAndType 18 19), (0, u "$VALUES"), (0, u "[Lcom/example/strict_tariff/stricttariff/pricing/Column;"), (0, .methodref 21 22), (0, .class_ 19), (0, .nameAndType 23 24), (0, u "clone"), (0, u "()Ljava/lang/Object;"), (1, .class_ 28), (1, u "java/lang/Enum"), (6, .fieldref 1 36), (0, .nameAndType 37 38), (0, u "header"), (0, u "Ljava/lang/String;"), (2, u "value"), (0, u "Ljava/util/function/Function;"), (8, .methodref 1 52), (0, .nameAndType 53 54), (0, u "values"), (0, u "()[Lcom/example/strict_tariff/stricttariff/pricing/Column;"), (0, .methodref 56 57), (0, .class_ 58), (0, .nameAndType 59 60), (0, u "java/lang/String"), (0, u "equals"), (0, u "(Ljava/lang/Object;)Z"), (0, .methodref 62 63), (0, .class_ 64), (0, .nameAndType 65 66), (0, u "java/util/Optional"), (0, u "of"), (0, u "(Ljava/lang/Object;)Ljava/util/Optional;"), (0, .methodref 62 68), (0, .nameAndType 69 70), (0, u "empty"), (0, u "()Ljava/util/Optional;"), (35, u "named"), (0, u "(Ljava/lang/String;)Ljava/util/Optional;")] 132

def k6c0 : Code := { maxStack := 1, maxLocals := 0, code := prog_4_method_1_code, exceptionTable := #[], attributes := #[] }
def k6m0 : Method := { name := "values", desc := "()[Lcom/example/strict_tariff/stricttariff/pricing/Column;", sig := { parameters := [], returnType := some (.array (.object "com/example/strict_tariff/stricttariff/pricing/Column")) }, accessFlags := 9, code := some k6c0 }
def k6c1 : Code := { maxStack := 2, maxLocals := 5, code := prog_4_method_7_code, exceptionTable := #[], attributes := #[] }
def k6m1 : Method := { name := "named", desc := "(Ljava/lang/String;)Ljava/util/Optional;", sig := { parameters := [(.object "java/lang/String")], returnType := some (.object "java/util/Optional") }, accessFlags := 9, code := some k6c1 }
/-- com/example/strict_tariff/stricttariff/pricing/Column -/
def k6 : Class := { plain "com/example/strict_tariff/stricttariff/pricing/Column" (some 5) with
  accessFlags := 16433
  interfaces := #[]
  cf := some (fileOf pool6 1 #[] #[{ accessFlags := 9, nameIndex := 53, descriptorIndex := 54, attributes := #[] }, { accessFlags := 9, nameIndex := 106, descriptorIndex := 107, attributes := #[] }] 16433 26 #[] #[{ accessFlags := 16409, nameIndex := 5, descriptorIndex := 6, attributes := #[] }, { accessFlags := 16409, nameIndex := 9, descriptorIndex := 6, attributes := #[] }, { accessFlags := 16409, nameIndex := 12, descriptorIndex := 6, attributes := #[] }, { accessFlags := 16409, nameIndex := 15, descriptorIndex := 6, attributes := #[] }, { accessFlags := 18, nameIndex := 37, descriptorIndex := 38, attributes := #[] }, { accessFlags := 18, nameIndex := 41, descriptorIndex := 42, attributes := #[] }, { accessFlags := 4122, nameIndex := 18, descriptorIndex := 19, attributes := #[] }])
  fields := #[{ name := "USAGE", type := (.object "com/example/strict_tariff/stricttariff/pricing/Column"), accessFlags := 16409, slot := 0, constantValue := 0 }, { name := "CHARGE", type := (.object "com/example/strict_tariff/stricttariff/pricing/Column"), accessFlags := 16409, slot := 1, constantValue := 0 }, { name := "TAX", type := (.object "com/example/strict_tariff/stricttariff/pricing/Column"), accessFlags := 16409, slot := 2, constantValue := 0 }, { name := "GAS_PART", type := (.object "com/example/strict_tariff/stricttariff/pricing/Column"), accessFlags := 16409, slot := 3, constantValue := 0 }, { name := "header", type := (.object "java/lang/String"), accessFlags := 18, slot := 3, constantValue := 0 }, { name := "value", type := (.object "java/util/function/Function"), accessFlags := 18, slot := 4, constantValue := 0 }, { name := "$VALUES", type := (.array (.object "com/example/strict_tariff/stricttariff/pricing/Column")), accessFlags := 4122, slot := 4, constantValue := 0 }]
  methods := #[k6m0, k6m1]
  instanceTypes := #[(.object "java/lang/String"), .int, .int, (.object "java/lang/String"), (.object "java/util/function/Function")]
  staticTypes := #[(.object "com/example/strict_tariff/stricttariff/pricing/Column"), (.object "com/example/strict_tariff/stricttariff/pricing/Column"), (.object "com/example/strict_tariff/stricttariff/pricing/Column"), (.object "com/example/strict_tariff/stricttariff/pricing/Column"), (.array (.object "com/example/strict_tariff/stricttariff/pricing/Column"))]
  resolved := Array.replicate 240 none
  statics := some 0 }

def pool7 : Array CpInfo := pool [(2, .class_ 4), (1, u "java/lang/CharSequence"), (42, .class_ 48), (0, u "java/lang/CharSequence$1CodePointIterator"), (10, .class_ 60), (0, u "java/lang/CharSequence$1CharIterator"), (5, .class_ 67), (0, u "java/lang/Object")] 63

/-- java/lang/CharSequence -/
def k7 : Class := { plain "java/lang/CharSequence" (some 0) with
  accessFlags := 1537
  interfaces := #[]
  cf := some (fileOf pool7 2 #[.nestMembers #[47, 59]] #[] 1537 66 #[] #[])
  fields := #[]
  methods := #[]
  instanceTypes := #[]
  staticTypes := #[]
  resolved := Array.replicate 131 none
  statics := none }

def pool8 : Array CpInfo := pool [(1, .class_ 2), (0, u "java/lang/constant/ConstantDesc"), (0, .class_ 4), (0, u "java/lang/Object")] 32

/-- java/lang/constant/ConstantDesc -/
def k8 : Class := { plain "java/lang/constant/ConstantDesc" (some 0) with
  accessFlags := 1537
  interfaces := #[]
  cf := some (fileOf pool8 1 #[] #[] 1537 3 #[] #[])
  fields := #[]
  methods := #[]
  instanceTypes := #[]
  staticTypes := #[]
  resolved := Array.replicate 37 none
  statics := none }

def pool9 : Array CpInfo := pool [(1, .methodref 2 3), (0, .class_ 4), (0, .nameAndType 5 6), (0, u "java/lang/Object"), (0, u "<init>"), (0, u "()V"), (2, .fieldref 10 11), (0, .class_ 12), (0, .nameAndType 13 14), (0, u "java/lang/String"), (0, u "value"), (0, u "[B"), (0, .fieldref 10 16), (0, .nameAndType 17 18), (0, u "coder"), (0, u "B"), (2, u "hash"), (0, u "I"), (2, u "hashIsZero"), (0, u "Z"), (0, .methodref 10 28), (0, .nameAndType 5 29), (0, u "([CIILjava/lang/Void;)V"), (8, .fieldref 10 39), (0, .nameAndType 40 26), (0, u "COMPACT_STRINGS"), (1, .class_ 44), (1, u "java/lang/StringUTF16"), (0, u "compress"), (1, .methodref 42 48), (0, .nameAndType 49 50), (0, u "coderFromArrayLen"), (0, u "([BI)B"), (56, .class_ 109), (1, u "java/lang/StringLatin1"), (67, .methodref 42 178), (0, .nameAndType 45 179), (0, u "([CII)[B"), (361, .methodref 107 542), (0, .nameAndType 543 544), (0, u "equals"), (0, u "([B[B)Z"), (28, u "(Ljava/lang/Object;)Z"), (1, .class_ 576), (0, u "java/lang/CharSequence"), (22, u "CASE_INSENSITIVE_ORDER"), (0, u "Ljava/util/Comparator;"), (409, u "([C)V"), (90, u "serialPersistentFields"), (0, u "[Ljava/io/ObjectStreamField;"), (0, .class_ 1104), (0, u "java/lang/String$CaseInsensitiveComparator"), (1, .class_ 1107), (0, u "java/io/Serializable"), (0, .class_ 1109), (0, u "java/lang/Comparable"), (0, .class_ 1111), (0, u "java/lang/constant/Constable"), (0, .class_ 1113), (0, u "java/lang/constant/ConstantDesc"), (2, u "serialVersionUID"), (0, u "J"), (3, u "REPL"), (0, u "C"), (2, u "LATIN1"), (1, u "UTF16")] 323

def k9m0 : Method := { name := "<init>", desc := "()V", sig := { parameters := [], returnType := none }, accessFlags := 1, code := none }
def k9c1 : Code := { maxStack := 5, maxLocals := 2, code := jdk_42_method_3_code, exceptionTable := #[], attributes := #[] }
def k9m1 : Method := { name := "<init>", desc := "([C)V", sig := { parameters := [(.array .char)], returnType := none }, accessFlags := 1, code := some k9c1 }
def k9c2 : Code := { maxStack := 2, maxLocals := 3, code := jdk_42_method_66_code, exceptionTable := #[], attributes := #[] }
def k9m2 : Method := { name := "equals", desc := "(Ljava/lang/Object;)Z", sig := { parameters := [(.object "java/lang/Object")], returnType := some .boolean }, accessFlags := 1, code := some k9c2 }
def k9c3 : Code := { maxStack := 4, maxLocals := 6, code := jdk_42_method_149_code, exceptionTable := #[], attributes := #[] }
def k9m3 : Method := { name := "<init>", desc := "([CIILjava/lang/Void;)V", sig := { parameters := [(.array .char), .int, .int, (.object "java/lang/Void")], returnType := none }, accessFlags := 2, code := some k9c3 }
/-- java/lang/String -/
def k9 : Class := { plain "java/lang/String" (some 0) with
  accessFlags := 49
  interfaces := #[4, 3, 7, 2, 8]
  cf := some (fileOf pool9 10 #[.nestMembers #[1103]] #[{ accessFlags := 1, nameIndex := 5, descriptorIndex := 6, attributes := #[] }, { accessFlags := 1, nameIndex := 5, descriptorIndex := 1010, attributes := #[] }, { accessFlags := 1, nameIndex := 543, descriptorIndex := 573, attributes := #[] }, { accessFlags := 2, nameIndex := 5, descriptorIndex := 29, attributes := #[] }] 49 2 #[1106, 1108, 575, 1110, 1112] #[{ accessFlags := 18, nameIndex := 13, descriptorIndex := 14, attributes := #[] }, { accessFlags := 18, nameIndex := 17, descriptorIndex := 18, attributes := #[] }, { accessFlags := 2, nameIndex := 21, descriptorIndex := 22, attributes := #[] }, { accessFlags := 2, nameIndex := 25, descriptorIndex := 26, attributes := #[] }, { accessFlags := 26, nameIndex := 1116, descriptorIndex := 1117, attributes := #[] }, { accessFlags := 24, nameIndex := 40, descriptorIndex := 26, attributes := #[] }, { accessFlags := 26, nameIndex := 1101, descriptorIndex := 1102, attributes := #[] }, { accessFlags := 26, nameIndex := 1121, descriptorIndex := 1122, attributes := #[] }, { accessFlags := 25, nameIndex := 599, descriptorIndex := 600, attributes := #[] }, { accessFlags := 24, nameIndex := 1125, descriptorIndex := 18, attributes := #[] }, { accessFlags := 24, nameIndex := 1127, descriptorIndex := 18, attributes := #[] }])
  fields := #[{ name := "value", type := (.array .byte), accessFlags := 18, slot := 0, constantValue := 0 }, { name := "coder", type := .byte, accessFlags := 18, slot := 1, constantValue := 0 }, { name := "hash", type := .int, accessFlags := 2, slot := 2, constantValue := 0 }, { name := "hashIsZero", type := .boolean, accessFlags := 2, slot := 3, constantValue := 0 }, { name := "serialVersionUID", type := .long, accessFlags := 26, slot := 0, constantValue := 0 }, { name := "COMPACT_STRINGS", type := .boolean, accessFlags := 24, slot := 1, constantValue := 0 }, { name := "serialPersistentFields", type := (.array (.object "java/io/ObjectStreamField")), accessFlags := 26, slot := 2, constantValue := 0 }, { name := "REPL", type := .char, accessFlags := 26, slot := 3, constantValue := 0 }, { name := "CASE_INSENSITIVE_ORDER", type := (.object "java/util/Comparator"), accessFlags := 25, slot := 4, constantValue := 0 }, { name := "LATIN1", type := .byte, accessFlags := 24, slot := 5, constantValue := 0 }, { name := "UTF16", type := .byte, accessFlags := 24, slot := 6, constantValue := 0 }]
  methods := #[k9m0, k9m1, k9m2, k9m3]
  instanceTypes := #[(.array .byte), .byte, .int, .boolean]
  staticTypes := #[.long, .boolean, (.array (.object "java/io/ObjectStreamField")), .char, (.object "java/util/Comparator"), .byte, .byte]
  resolved := Array.replicate 1451 none
  statics := some 1 }

def pool10 : Array CpInfo := pool [(6, .class_ 8), (1, u "java/lang/Object"), (0, u "<init>"), (0, u "()V"), (1, .class_ 14), (1, u "java/lang/StringUTF16"), (31, u "$assertionsDisabled"), (0, u "Z"), (13, u "HI_BYTE_SHIFT"), (0, u "I"), (2, u "LO_BYTE_SHIFT"), (49, .methodref 12 116), (0, .nameAndType 117 118), (0, u "compress"), (0, u "([CI[BII)I"), (3, u "([CII)[B"), (138, u "coderFromArrayLen"), (0, u "([BI)B"), (106, .class_ 371), (1, u "java/lang/StringUTF16$LinesSpliterator"), (58, u "MAX_LENGTH"), (196, .class_ 628), (0, u "java/lang/StringUTF16$CodePointsSpliterator"), (0, .class_ 630), (0, u "java/lang/StringUTF16$CharsSpliterator")] 4

def k10m0 : Method := { name := "<init>", desc := "()V", sig := { parameters := [], returnType := none }, accessFlags := 0, code := none }
def k10c1 : Code := { maxStack := 2, maxLocals := 2, code := jdk_52_method_15_code, exceptionTable := #[], attributes := #[] }
def k10m1 : Method := { name := "coderFromArrayLen", desc := "([BI)B", sig := { parameters := [(.array .byte), .int], returnType := some .byte }, accessFlags := 8, code := some k10c1 }
def k10c2 : Code := { maxStack := 5, maxLocals := 6, code := jdk_52_method_16_code, exceptionTable := #[], attributes := #[] }
def k10m2 : Method := { name := "compress", desc := "([CII)[B", sig := { parameters := [(.array .char), .int, .int], returnType := some (.array .byte) }, accessFlags := 9, code := some k10c2 }
def k10c3 : Code := { maxStack := 3, maxLocals := 7, code := jdk_52_method_21_code, exceptionTable := #[], attributes := #[] }
def k10m3 : Method := { name := "compress", desc := "([CI[BII)I", sig := { parameters := [(.array .char), .int, (.array .byte), .int, .int], returnType := some .int }, accessFlags := 9, code := some k10c3 }
/-- java/lang/StringUTF16 -/
def k10 : Class := { plain "java/lang/StringUTF16" (some 0) with
  accessFlags := 48
  interfaces := #[]
  cf := some (fileOf pool10 12 #[.nestMembers #[627, 629, 369]] #[{ accessFlags := 0, nameIndex := 9, descriptorIndex := 10, attributes := #[] }, { accessFlags := 8, nameIndex := 261, descriptorIndex := 262, attributes := #[] }, { accessFlags := 9, nameIndex := 117, descriptorIndex := 122, attributes := #[] }, { accessFlags := 9, nameIndex := 117, descriptorIndex := 118, attributes := #[] }] 48 6 #[] #[{ accessFlags := 26, nameIndex := 61, descriptorIndex := 62, attributes := #[] }, { accessFlags := 26, nameIndex := 65, descriptorIndex := 62, attributes := #[] }, { accessFlags := 24, nameIndex := 430, descriptorIndex := 62, attributes := #[] }, { accessFlags := 4120, nameIndex := 46, descriptorIndex := 47, attributes := #[] }])
  fields := #[{ name := "HI_BYTE_SHIFT", type := .int, accessFlags := 26, slot := 0, constantValue := 0 }, { name := "LO_BYTE_SHIFT", type := .int, accessFlags := 26, slot := 1, constantValue := 0 }, { name := "MAX_LENGTH", type := .int, accessFlags := 24, slot := 2, constantValue := 0 }, { name := "$assertionsDisabled", type := .boolean, accessFlags := 4120, slot := 3, constantValue := 0 }]
  methods := #[k10m0, k10m1, k10m2, k10m3]
  instanceTypes := #[]
  staticTypes := #[.int, .int, .int, .boolean]
  resolved := Array.replicate 635 none
  statics := none }

def pool11 : Array CpInfo := pool [(1, .class_ 2), (0, u "java/lang/Cloneable"), (0, .class_ 4), (0, u "java/lang/Object")] 2

/-- java/lang/Cloneable -/
def k11 : Class := { plain "java/lang/Cloneable" (some 0) with
  accessFlags := 1537
  interfaces := #[]
  cf := some (fileOf pool11 1 #[] #[] 1537 3 #[] #[])
  fields := #[]
  methods := #[]
  instanceTypes := #[]
  staticTypes := #[]
  resolved := Array.replicate 7 none
  statics := none }

def pool12 : Array CpInfo := pool [(4, .class_ 6), (1, u "java/lang/Object"), (0, u "<init>"), (0, u "()V"), (5, .class_ 16), (1, u "java/lang/StringLatin1"), (104, u "$assertionsDisabled"), (0, u "Z"), (98, .class_ 223), (1, u "java/lang/StringLatin1$LinesSpliterator"), (57, u "equals"), (0, u "([B[B)Z"), (107, .class_ 391), (0, u "java/lang/StringLatin1$CharsSpliterator")] 3

def k12m0 : Method := { name := "<init>", desc := "()V", sig := { parameters := [], returnType := none }, accessFlags := 0, code := none }
def k12c1 : Code := { maxStack := 3, maxLocals := 3, code := jdk_43_method_13_code, exceptionTable := #[], attributes := #[] }
def k12m1 : Method := { name := "equals", desc := "([B[B)Z", sig := { parameters := [(.array .byte), (.array .byte)], returnType := some .boolean }, accessFlags := 9, code := some k12c1 }
/-- java/lang/StringLatin1 -/
def k12 : Class := { plain "java/lang/StringLatin1" (some 0) with
  accessFlags := 48
  interfaces := #[]
  cf := some (fileOf pool12 14 #[.nestMembers #[390, 221]] #[{ accessFlags := 0, nameIndex := 7, descriptorIndex := 8, attributes := #[] }, { accessFlags := 9, nameIndex := 281, descriptorIndex := 282, attributes := #[] }] 48 4 #[] #[{ accessFlags := 4120, nameIndex := 121, descriptorIndex := 122, attributes := #[] }])
  fields := #[{ name := "$assertionsDisabled", type := .boolean, accessFlags := 4120, slot := 0, constantValue := 0 }]
  methods := #[k12m0, k12m1]
  instanceTypes := #[]
  staticTypes := #[.boolean]
  resolved := Array.replicate 395 none
  statics := none }

def pool13 : Array CpInfo := pool [(1, .fieldref 2 3), (0, .class_ 4), (0, .nameAndType 5 6), (0, u "java/util/Optional"), (0, u "EMPTY"), (0, u "Ljava/util/Optional;"), (0, .methodref 8 9), (0, .class_ 10), (0, .nameAndType 11 12), (0, u "java/lang/Object"), (0, u "<init>"), (0, u "()V"), (0, .fieldref 2 14), (0, .nameAndType 15 16), (0, u "value"), (0, u "Ljava/lang/Object;"), (0, .methodref 18 19), (0, .class_ 20), (0, .nameAndType 21 22), (0, u "java/util/Objects"), (0, u "requireNonNull"), (0, u "(Ljava/lang/Object;)Ljava/lang/Object;"), (0, .methodref 2 24), (0, .nameAndType 11 25), (0, u "(Ljava/lang/Object;)V"), (29, u "empty"), (0, u "()Ljava/util/Optional;"), (8, u "(Ljava/lang/Object;)Ljava/util/Optional;"), (16, u "of"), (82, u "orElse")] 21

def k13c0 : Code := { maxStack := 1, maxLocals := 1, code := jdk_32_method_1_code, exceptionTable := #[], attributes := #[] }
def k13m0 : Method := { name := "empty", desc := "()Ljava/util/Optional;", sig := { parameters := [], returnType := some (.object "java/util/Optional") }, accessFlags := 9, code := some k13c0 }
def k13c1 : Code := { maxStack := 2, maxLocals := 2, code := jdk_32_method_2_code, exceptionTable := #[], attributes := #[] }
def k13m1 : Method := { name := "<init>", desc := "(Ljava/lang/Object;)V", sig := { parameters := [(.object "java/lang/Object")], returnType := none }, accessFlags := 2, code := some k13c1 }
def k13c2 : Code := { maxStack := 3, maxLocals := 1, code := jdk_32_method_3_code, exceptionTable := #[], attributes := #[] }
def k13m2 : Method := { name := "of", desc := "(Ljava/lang/Object;)Ljava/util/Optional;", sig := { parameters := [(.object "java/lang/Object")], returnType := some (.object "java/util/Optional") }, accessFlags := 9, code := some k13c2 }
def k13c3 : Code := { maxStack := 1, maxLocals := 2, code := jdk_32_method_15_code, exceptionTable := #[], attributes := #[] }
def k13m3 : Method := { name := "orElse", desc := "(Ljava/lang/Object;)Ljava/lang/Object;", sig := { parameters := [(.object "java/lang/Object")], returnType := some (.object "java/lang/Object") }, accessFlags := 1, code := some k13c3 }
/-- java/util/Optional -/
def k13 : Class := { plain "java/util/Optional" (some 0) with
  accessFlags := 49
  interfaces := #[]
  cf := some (fileOf pool13 2 #[] #[{ accessFlags := 9, nameIndex := 55, descriptorIndex := 56, attributes := #[] }, { accessFlags := 2, nameIndex := 11, descriptorIndex := 25, attributes := #[] }, { accessFlags := 9, nameIndex := 82, descriptorIndex := 65, attributes := #[] }, { accessFlags := 1, nameIndex := 165, descriptorIndex := 22, attributes := #[] }] 49 8 #[] #[{ accessFlags := 26, nameIndex := 5, descriptorIndex := 6, attributes := #[] }, { accessFlags := 18, nameIndex := 15, descriptorIndex := 16, attributes := #[] }])
  fields := #[{ name := "EMPTY", type := (.object "java/util/Optional"), accessFlags := 26, slot := 0, constantValue := 0 }, { name := "value", type := (.object "java/lang/Object"), accessFlags := 18, slot := 0, constantValue := 0 }]
  methods := #[k13m0, k13m1, k13m2, k13m3]
  instanceTypes := #[(.object "java/lang/Object")]
  staticTypes := #[(.object "java/util/Optional")]
  resolved := Array.replicate 187 none
  statics := some 2 }

def pool14 : Array CpInfo := pool [(2, .class_ 4), (1, u "java/lang/Object"), (0, u "<init>"), (0, u "()V"), (35, .class_ 44), (1, u "java/util/Objects"), (0, u "requireNonNull"), (0, u "(Ljava/lang/Object;)Ljava/lang/Object;")] 137

def k14m0 : Method := { name := "<init>", desc := "()V", sig := { parameters := [], returnType := none }, accessFlags := 2, code := none }
def k14c1 : Code := { maxStack := 2, maxLocals := 1, code := jdk_31_method_10_code, exceptionTable := #[], attributes := #[] }
def k14m1 : Method := { name := "requireNonNull", desc := "(Ljava/lang/Object;)Ljava/lang/Object;", sig := { parameters := [(.object "java/lang/Object")], returnType := some (.object "java/lang/Object") }, accessFlags := 9, code := some k14c1 }
/-- java/util/Objects -/
def k14 : Class := { plain "java/util/Objects" (some 0) with
  accessFlags := 49
  interfaces := #[]
  cf := some (fileOf pool14 42 #[] #[{ accessFlags := 2, nameIndex := 5, descriptorIndex := 6, attributes := #[] }, { accessFlags := 9, nameIndex := 45, descriptorIndex := 46, attributes := #[] }] 49 2 #[] #[])
  fields := #[]
  methods := #[k14m0, k14m1]
  instanceTypes := #[]
  staticTypes := #[]
  resolved := Array.replicate 184 none
  statics := none }

def pool15 : Array CpInfo := pool [(2, .class_ 4), (1, u "java/lang/Object"), (0, u "<init>"), (0, u "()V"), (17, .class_ 26), (1, u "jdk/internal/util/Preconditions"), (28, .class_ 56), (0, u "jdk/internal/util/Preconditions$4"), (57, .class_ 115), (0, u "jdk/internal/util/Preconditions$1"), (7, u "SIOOBE_FORMATTER"), (0, u "Ljava/util/function/BiFunction;"), (0, .class_ 126), (0, u "jdk/internal/util/Preconditions$2"), (3, u "AIOOBE_FORMATTER"), (0, .class_ 132), (0, u "jdk/internal/util/Preconditions$3"), (3, u "IOOBE_FORMATTER")] 57

def k15m0 : Method := { name := "<init>", desc := "()V", sig := { parameters := [], returnType := none }, accessFlags := 1, code := none }
/-- jdk/internal/util/Preconditions -/
def k15 : Class := { plain "jdk/internal/util/Preconditions" (some 0) with
  accessFlags := 33
  interfaces := #[]
  cf := some (fileOf pool15 24 #[.nestMembers #[55, 131, 125, 114]] #[{ accessFlags := 1, nameIndex := 5, descriptorIndex := 6, attributes := #[] }] 33 2 #[] #[{ accessFlags := 25, nameIndex := 123, descriptorIndex := 124, attributes := #[] }, { accessFlags := 25, nameIndex := 130, descriptorIndex := 124, attributes := #[] }, { accessFlags := 25, nameIndex := 136, descriptorIndex := 124, attributes := #[] }])
  fields := #[{ name := "SIOOBE_FORMATTER", type := (.object "java/util/function/BiFunction"), accessFlags := 25, slot := 0, constantValue := 0 }, { name := "AIOOBE_FORMATTER", type := (.object "java/util/function/BiFunction"), accessFlags := 25, slot := 1, constantValue := 0 }, { name := "IOOBE_FORMATTER", type := (.object "java/util/function/BiFunction"), accessFlags := 25, slot := 2, constantValue := 0 }]
  methods := #[k15m0]
  instanceTypes := #[]
  staticTypes := #[(.object "java/util/function/BiFunction"), (.object "java/util/function/BiFunction"), (.object "java/util/function/BiFunction")]
  resolved := Array.replicate 194 none
  statics := some 3 }

def pool16 : Array CpInfo := pool [(9, u "<init>"), (6, .class_ 18), (1, u "java/lang/Object"), (0, u "()V"), (1, .class_ 23), (1, u "jdk/internal/util/ArraysSupport"), (0, u "LOG2_ARRAY_LONG_INDEX_SCALE"), (0, u "I"), (2, u "U"), (0, u "Ljdk/internal/misc/Unsafe;"), (8, u "BIG_ENDIAN"), (0, u "Z"), (8, u "LOG2_BYTE_BIT_SIZE"), (4, u "LOG2_ARRAY_INT_INDEX_SCALE"), (54, u "JLA"), (0, u "Ljdk/internal/access/JavaLangAccess;"), (11, u "LOG2_ARRAY_BOOLEAN_INDEX_SCALE"), (9, u "LOG2_ARRAY_BYTE_INDEX_SCALE"), (5, u "LOG2_ARRAY_CHAR_INDEX_SCALE"), (5, u "LOG2_ARRAY_SHORT_INDEX_SCALE"), (18, u "LOG2_ARRAY_FLOAT_INDEX_SCALE"), (24, u "LOG2_ARRAY_DOUBLE_INDEX_SCALE"), (89, u "T_BOOLEAN"), (2, u "T_CHAR"), (1, u "T_FLOAT"), (1, u "T_DOUBLE"), (1, u "T_BYTE"), (1, u "T_SHORT"), (1, u "T_INT"), (1, u "T_LONG"), (1, u "SOFT_MAX_ARRAY_LENGTH")] 83

def k16m0 : Method := { name := "<init>", desc := "()V", sig := { parameters := [], returnType := none }, accessFlags := 2, code := none }
/-- jdk/internal/util/ArraysSupport -/
def k16 : Class := { plain "jdk/internal/util/ArraysSupport" (some 0) with
  accessFlags := 33
  interfaces := #[]
  cf := some (fileOf pool16 21 #[] #[{ accessFlags := 2, nameIndex := 9, descriptorIndex := 19, attributes := #[] }] 33 16 #[] #[{ accessFlags := 24, nameIndex := 28, descriptorIndex := 29, attributes := #[] }, { accessFlags := 26, nameIndex := 38, descriptorIndex := 39, attributes := #[] }, { accessFlags := 25, nameIndex := 121, descriptorIndex := 25, attributes := #[] }, { accessFlags := 25, nameIndex := 131, descriptorIndex := 25, attributes := #[] }, { accessFlags := 25, nameIndex := 137, descriptorIndex := 25, attributes := #[] }, { accessFlags := 25, nameIndex := 143, descriptorIndex := 25, attributes := #[] }, { accessFlags := 25, nameIndex := 53, descriptorIndex := 25, attributes := #[] }, { accessFlags := 25, nameIndex := 24, descriptorIndex := 25, attributes := #[] }, { accessFlags := 25, nameIndex := 162, descriptorIndex := 25, attributes := #[] }, { accessFlags := 25, nameIndex := 187, descriptorIndex := 25, attributes := #[] }, { accessFlags := 26, nameIndex := 48, descriptorIndex := 25, attributes := #[] }, { accessFlags := 25, nameIndex := 277, descriptorIndex := 25, attributes := #[] }, { accessFlags := 25, nameIndex := 280, descriptorIndex := 25, attributes := #[] }, { accessFlags := 25, nameIndex := 282, descriptorIndex := 25, attributes := #[] }, { accessFlags := 25, nameIndex := 284, descriptorIndex := 25, attributes := #[] }, { accessFlags := 25, nameIndex := 286, descriptorIndex := 25, attributes := #[] }, { accessFlags := 25, nameIndex := 288, descriptorIndex := 25, attributes := #[] }, { accessFlags := 25, nameIndex := 290, descriptorIndex := 25, attributes := #[] }, { accessFlags := 25, nameIndex := 292, descriptorIndex := 25, attributes := #[] }, { accessFlags := 26, nameIndex := 108, descriptorIndex := 109, attributes := #[] }, { accessFlags := 25, nameIndex := 294, descriptorIndex := 25, attributes := #[] }])
  fields := #[{ name := "U", type := (.object "jdk/internal/misc/Unsafe"), accessFlags := 24, slot := 0, constantValue := 0 }, { name := "BIG_ENDIAN", type := .boolean, accessFlags := 26, slot := 1, constantValue := 0 }, { name := "LOG2_ARRAY_BOOLEAN_INDEX_SCALE", type := .int, accessFlags := 25, slot := 2, constantValue := 0 }, { name := "LOG2_ARRAY_BYTE_INDEX_SCALE", type := .int, accessFlags := 25, slot := 3, constantValue := 0 }, { name := "LOG2_ARRAY_CHAR_INDEX_SCALE", type := .int, accessFlags := 25, slot := 4, constantValue := 0 }, { name := "LOG2_ARRAY_SHORT_INDEX_SCALE", type := .int, accessFlags := 25, slot := 5, constantValue := 0 }, { name := "LOG2_ARRAY_INT_INDEX_SCALE", type := .int, accessFlags := 25, slot := 6, constantValue := 0 }, { name := "LOG2_ARRAY_LONG_INDEX_SCALE", type := .int, accessFlags := 25, slot := 7, constantValue := 0 }, { name := "LOG2_ARRAY_FLOAT_INDEX_SCALE", type := .int, accessFlags := 25, slot := 8, constantValue := 0 }, { name := "LOG2_ARRAY_DOUBLE_INDEX_SCALE", type := .int, accessFlags := 25, slot := 9, constantValue := 0 }, { name := "LOG2_BYTE_BIT_SIZE", type := .int, accessFlags := 26, slot := 10, constantValue := 0 }, { name := "T_BOOLEAN", type := .int, accessFlags := 25, slot := 11, constantValue := 0 }, { name := "T_CHAR", type := .int, accessFlags := 25, slot := 12, constantValue := 0 }, { name := "T_FLOAT", type := .int, accessFlags := 25, slot := 13, constantValue := 0 }, { name := "T_DOUBLE", type := .int, accessFlags := 25, slot := 14, constantValue := 0 }, { name := "T_BYTE", type := .int, accessFlags := 25, slot := 15, constantValue := 0 }, { name := "T_SHORT", type := .int, accessFlags := 25, slot := 16, constantValue := 0 }, { name := "T_INT", type := .int, accessFlags := 25, slot := 17, constantValue := 0 }, { name := "T_LONG", type := .int, accessFlags := 25, slot := 18, constantValue := 0 }, { name := "JLA", type := (.object "jdk/internal/access/JavaLangAccess"), accessFlags := 26, slot := 19, constantValue := 0 }, { name := "SOFT_MAX_ARRAY_LENGTH", type := .int, accessFlags := 25, slot := 20, constantValue := 0 }]
  methods := #[k16m0]
  instanceTypes := #[]
  staticTypes := #[(.object "jdk/internal/misc/Unsafe"), .boolean, .int, .int, .int, .int, .int, .int, .int, .int, .int, .int, .int, .int, .int, .int, .int, .int, .int, (.object "jdk/internal/access/JavaLangAccess"), .int]
  resolved := Array.replicate 378 none
  statics := none }

/-- the primitive byte -/
def k17 : Class := { plain "byte" none with kind := .primitive 'B', accessFlags := 0x411 }
/-- [B -/
def k18 : Class := { plain "[B" (some 0) with kind := .array 17 .byte, interfaces := #[11, 4], accessFlags := 1041 }

/-- the primitive char -/
def k19 : Class := { plain "char" none with kind := .primitive 'C', accessFlags := 0x411 }
/-- [C -/
def k20 : Class := { plain "[C" (some 0) with kind := .array 19 .char, interfaces := #[11, 4], accessFlags := 1041 }

/-- the primitive int -/
def k21 : Class := { plain "int" none with kind := .primitive 'I', accessFlags := 0x411 }
/-- [I -/
def k22 : Class := { plain "[I" (some 0) with kind := .array 21 .int, interfaces := #[11, 4], accessFlags := 1041 }

/-- [Lcom/example/strict_tariff/stricttariff/pricing/Column; -/
def k23 : Class := { plain "[Lcom/example/strict_tariff/stricttariff/pricing/Column;" (some 0) with kind := .array 6 (.object "com/example/strict_tariff/stricttariff/pricing/Column"), interfaces := #[11, 4], accessFlags := 1041 }

def heap : Heap := #[{ cls := 6, slots := #[.ref 5, .ref 6, .ref 7, .ref 8, .ref 4], vm := .statics 6 },
  { cls := 9, slots := #[.long 0, .int 1, .null, .int 0, .null, .int 0, .int 0], vm := .statics 9 },
  { cls := 13, slots := #[.ref 17], vm := .statics 13 },
  { cls := 15, slots := #[.null, .null, .null], vm := .statics 15 },
  { cls := 23, slots := #[.ref 5, .ref 6, .ref 7, .ref 8], vm := .none },
  { cls := 6, slots := #[.null, .int 0, .int 0, .ref 9, .null], vm := .none },
  { cls := 6, slots := #[.null, .int 0, .int 0, .ref 11, .null], vm := .none },
  { cls := 6, slots := #[.null, .int 0, .int 0, .ref 13, .null], vm := .none },
  { cls := 6, slots := #[.null, .int 0, .int 0, .ref 15, .null], vm := .none },
  { cls := 9, slots := #[.ref 10, .int 0, .int 0, .int 0], vm := .none },
  { cls := 18, slots := #[.int 117, .int 115, .int 97, .int 103, .int 101, .int 95, .int 109, .int 51], vm := .none },
  { cls := 9, slots := #[.ref 12, .int 0, .int 0, .int 0], vm := .none },
  { cls := 18, slots := #[.int 99, .int 104, .int 97, .int 114, .int 103, .int 101, .int 95, .int 121, .int 101, .int 110], vm := .none },
  { cls := 9, slots := #[.ref 14, .int 0, .int 0, .int 0], vm := .none },
  { cls := 18, slots := #[.int 116, .int 97, .int 120, .int 95, .int 121, .int 101, .int 110], vm := .none },
  { cls := 9, slots := #[.ref 16, .int 0, .int 0, .int 0], vm := .none },
  { cls := 18, slots := #[.int 103, .int 97, .int 115, .int 95, .int 112, .int 97, .int 114, .int 116, .int 95, .int 121, .int 101, .int 110], vm := .none },
  { cls := 13, slots := #[.null], vm := .none }]
def classes : Array Class := #[k0, k1, k2, k3, k4, k5, k6, k7, k8, k9, k10, k11, k12, k13, k14, k15, k16, k17, k18, k19, k20, k21, k22, k23]
def interned : List (Array UInt16 × Addr) := []
def slotsUsed : Nat := 94
def theMethod : MethodId := ⟨1, 4⟩
def args0 : Array Value := #[.int 5, .int 5, .int 5]
def aboutOver (below : List Frame) : State where
  vm := { classes := classes, interned := interned.toArray }
  heap := heap
  slotsUsed := slotsUsed
  threads := #[{ frames := .invoking theMethod args0 :: below }]
def below0 : List Frame := [.native { method := ⟨0, 0⟩, args := #[] }]
def about1 : State := aboutOver below0
def p0 : Program := .bare "" "" ""
def e0 : Env := launch0.env 0 0 0
theorem w_frames : about1.frames = Frame.invoking theMethod args0 :: below0 := rfl
set_option maxRecDepth 65536 in
theorem w_args : argsFit about1.vm theMethod args0 = true := by decide +kernel
set_option maxRecDepth 65536 in
theorem w_heap : heapFits about1 = true := by decide +kernel
set_option maxRecDepth 65536 in
theorem w_runnable : about1.curStatus? = some .runnable := by decide +kernel
set_option maxRecDepth 65536 in
theorem w_alone : about1.alone = true := by decide +kernel
set_option maxRecDepth 65536 in
theorem w_named : about1.methodNamed? x = some theMethod := by decide +kernel
set_option maxRecDepth 65536 in
theorem w_hears : about1.hears theMethod below0 = true := by decide +kernel
set_option maxRecDepth 65536 in
theorem w_ripe : about1.ripe theMethod args0 below0 = true := by decide +kernel
theorem w_running : about1.status = .running := rfl
set_option maxRecDepth 65536 in
theorem w_room : about1.hasRoom e0.platform room_1 = true :=
  launch0.hasRoom_least _ room_1 (by decide +kernel) (by decide +kernel) (by decide +kernel) (by decide +kernel) (by decide +kernel) (by decide +kernel)
theorem allAtoms_all (ts : List Jvm.Cond) (a : Array Jvm.Value) (st : Jvm.State) : (allAtoms ts).before a st = ts.all (fun c => c.before a st) := by
  induction ts with
  | nil => rfl
  | cons c t ih =>
    show (Jvm.Cond.and c (allAtoms t)).before a st = _
    rw [Jvm.Cond.before_and, ih, List.all_cons]
def words1 : List Jvm.Cond := Jvm.Cond.code x code maxLocals ret :: tables_1
/-- a 'code' word, met by the world's own term for the bytes: nothing is compared byte by byte -/
theorem code_word {y : MethodName} {bytes : ByteArray} {mx : Nat} {rt : Option FieldType} {a : Array Value} {s : State} {m : MethodId} {meth : Method} {c : Code} (h1 : s.methodNamed? y = some m) (h2 : s.vm.method? m = some meth) (h3 : meth.code = some c) (h4 : c.code = bytes)
    (h5 : (c.maxLocals == mx && c.exceptionTable.isEmpty && decide (c.maxStack ≤ mostOperands) && decide (meth.sig.returnType = rt) && !meth.locks && decide (parseMethodDescriptor y.desc = some meth.sig)) = true) : (Jvm.Cond.code y bytes mx rt).before a s = true := by
  simp only [Bool.and_eq_true, beq_iff_eq, Bool.not_eq_true', decide_eq_true_eq] at h5
  obtain ⟨⟨⟨⟨⟨g1, g2⟩, g3⟩, g4⟩, g5⟩, g6⟩ := h5
  simp [Cond.before, Cond.holds, Cond.value, h1, h2, h3, h4, g1, g2, g3, g4, g5, g6]
def isCode : Jvm.Cond → Bool
  | .code _ _ _ _ => true
  | _ => false
theorem all_split {L : List Jvm.Cond} {P : Jvm.Cond → Bool} (h1 : L.all (fun c => isCode c || P c) = true) (h2 : ∀ c ∈ L.filter isCode, P c = true) : L.all P = true := by
  refine List.all_eq_true.mpr fun c hc => ?_
  have h := List.all_eq_true.mp h1 c hc
  rcases Bool.eq_false_or_eq_true (isCode c) with hi | hi
  · exact h2 c (List.mem_filter.mpr ⟨hc, hi⟩)
  · simpa [hi] using h
set_option maxRecDepth 65536 in
theorem w_c0 : (Jvm.Cond.code x code maxLocals ret).before args0 about1 = true := code_word (m := ⟨1, 4⟩) (meth := k1m4) (c := k1c4) (by decide +kernel) rfl rfl rfl (by decide +kernel)
set_option maxRecDepth 65536 in
theorem w_c1 : (Jvm.Cond.code ({ cls := "com/example/strict_tariff/stricttariff/pricing/ColumnNamedPinLaw", name := "exact", desc := "(I)[C" } : Jvm.MethodName) method_2_code (1 : Nat) (Option.some (Jvm.ClassFile.FieldType.array Jvm.ClassFile.FieldType.char))).before args0 about1 = true := code_word (m := ⟨1, 1⟩) (meth := k1m1) (c := k1c1) (by decide +kernel) rfl rfl rfl (by decide +kernel)
set_option maxRecDepth 65536 in
theorem w_c2 : (Jvm.Cond.code ({ cls := "java/lang/String", name := "<init>", desc := "([C)V" } : Jvm.MethodName) jdk_42_method_3_code (2 : Nat) (Option.none : Option Jvm.ClassFile.FieldType)).before args0 about1 = true := code_word (m := ⟨9, 1⟩) (meth := k9m1) (c := k9c1) (by decide +kernel) rfl rfl rfl (by decide +kernel)
set_option maxRecDepth 65536 in
theorem w_c3 : (Jvm.Cond.code ({ cls := "java/lang/String", name := "<init>", desc := "([CIILjava/lang/Void;)V" } : Jvm.MethodName) jdk_42_method_149_code (6 : Nat) (Option.none : Option Jvm.ClassFile.FieldType)).before args0 about1 = true := code_word (m := ⟨9, 3⟩) (meth := k9m3) (c := k9c3) (by decide +kernel) rfl rfl rfl (by decide +kernel)
set_option maxRecDepth 65536 in
theorem w_c4 : (Jvm.Cond.code ({ cls := "java/lang/Object", name := "<init>", desc := "()V" } : Jvm.MethodName) object_method_1_code (1 : Nat) (Option.none : Option Jvm.ClassFile.FieldType)).before args0 about1 = true := code_word (m := ⟨0, 0⟩) (meth := k0m0) (c := k0c0) (by decide +kernel) rfl rfl rfl (by decide +kernel)
set_option maxRecDepth 65536 in
theorem w_c5 : (Jvm.Cond.code ({ cls := "java/lang/StringUTF16", name := "compress", desc := "([CII)[B" } : Jvm.MethodName) jdk_52_method_16_code (6 : Nat) (Option.some (Jvm.ClassFile.FieldType.array Jvm.ClassFile.FieldType.byte))).before args0 about1 = true := code_word (m := ⟨10, 2⟩) (meth := k10m2) (c := k10c2) (by decide +kernel) rfl rfl rfl (by decide +kernel)
set_option maxRecDepth 65536 in
theorem w_c6 : (Jvm.Cond.code ({ cls := "java/lang/StringUTF16", name := "compress", desc := "([CI[BII)I" } : Jvm.MethodName) jdk_52_method_21_code (7 : Nat) (Option.some Jvm.ClassFile.FieldType.int)).before args0 about1 = true := code_word (m := ⟨10, 3⟩) (meth := k10m3) (c := k10c3) (by decide +kernel) rfl rfl rfl (by decide +kernel)
set_option maxRecDepth 65536 in
theorem w_c7 : (Jvm.Cond.code ({ cls := "java/lang/StringUTF16", name := "coderFromArrayLen", desc := "([BI)B" } : Jvm.MethodName) jdk_52_method_15_code (2 : Nat) (Option.some Jvm.ClassFile.FieldType.byte)).before args0 about1 = true := code_word (m := ⟨10, 1⟩) (meth := k10m1) (c := k10c1) (by decide +kernel) rfl rfl rfl (by decide +kernel)
set_option maxRecDepth 65536 in
theorem w_c8 : (Jvm.Cond.code ({ cls := "com/example/strict_tariff/stricttariff/pricing/Column", name := "named", desc := "(Ljava/lang/String;)Ljava/util/Optional;" } : Jvm.MethodName) prog_4_method_7_code (5 : Nat) (Option.some (Jvm.ClassFile.FieldType.object "java/util/Optional"))).before args0 about1 = true := code_word (m := ⟨6, 1⟩) (meth := k6m1) (c := k6c1) (by decide +kernel) rfl rfl rfl (by decide +kernel)
set_option maxRecDepth 65536 in
theorem w_c9 : (Jvm.Cond.code ({ cls := "com/example/strict_tariff/stricttariff/pricing/Column", name := "values", desc := "()[Lcom/example/strict_tariff/stricttariff/pricing/Column;" } : Jvm.MethodName) prog_4_method_1_code (0 : Nat) (Option.some (Jvm.ClassFile.FieldType.array (Jvm.ClassFile.FieldType.object "com/example/strict_tariff/stricttariff/pricing/Column")))).before args0 about1 = true := code_word (m := ⟨6, 0⟩) (meth := k6m0) (c := k6c0) (by decide +kernel) rfl rfl rfl (by decide +kernel)
set_option maxRecDepth 65536 in
theorem w_c10 : (Jvm.Cond.code ({ cls := "java/lang/String", name := "equals", desc := "(Ljava/lang/Object;)Z" } : Jvm.MethodName) jdk_42_method_66_code (3 : Nat) (Option.some Jvm.ClassFile.FieldType.boolean)).before args0 about1 = true := code_word (m := ⟨9, 2⟩) (meth := k9m2) (c := k9c2) (by decide +kernel) rfl rfl rfl (by decide +kernel)
set_option maxRecDepth 65536 in
theorem w_c11 : (Jvm.Cond.code ({ cls := "java/lang/StringLatin1", name := "equals", desc := "([B[B)Z" } : Jvm.MethodName) jdk_43_method_13_code (3 : Nat) (Option.some Jvm.ClassFile.FieldType.boolean)).before args0 about1 = true := code_word (m := ⟨12, 1⟩) (meth := k12m1) (c := k12c1) (by decide +kernel) rfl rfl rfl (by decide +kernel)
set_option maxRecDepth 65536 in
theorem w_c12 : (Jvm.Cond.code ({ cls := "java/util/Optional", name := "of", desc := "(Ljava/lang/Object;)Ljava/util/Optional;" } : Jvm.MethodName) jdk_32_method_3_code (1 : Nat) (Option.some (Jvm.ClassFile.FieldType.object "java/util/Optional"))).before args0 about1 = true := code_word (m := ⟨13, 2⟩) (meth := k13m2) (c := k13c2) (by decide +kernel) rfl rfl rfl (by decide +kernel)
set_option maxRecDepth 65536 in
theorem w_c13 : (Jvm.Cond.code ({ cls := "java/util/Objects", name := "requireNonNull", desc := "(Ljava/lang/Object;)Ljava/lang/Object;" } : Jvm.MethodName) jdk_31_method_10_code (1 : Nat) (Option.some (Jvm.ClassFile.FieldType.object "java/lang/Object"))).before args0 about1 = true := code_word (m := ⟨14, 1⟩) (meth := k14m1) (c := k14c1) (by decide +kernel) rfl rfl rfl (by decide +kernel)
set_option maxRecDepth 65536 in
theorem w_c14 : (Jvm.Cond.code ({ cls := "java/util/Optional", name := "<init>", desc := "(Ljava/lang/Object;)V" } : Jvm.MethodName) jdk_32_method_2_code (2 : Nat) (Option.none : Option Jvm.ClassFile.FieldType)).before args0 about1 = true := code_word (m := ⟨13, 1⟩) (meth := k13m1) (c := k13c1) (by decide +kernel) rfl rfl rfl (by decide +kernel)
set_option maxRecDepth 65536 in
theorem w_c15 : (Jvm.Cond.code ({ cls := "java/util/Optional", name := "orElse", desc := "(Ljava/lang/Object;)Ljava/lang/Object;" } : Jvm.MethodName) jdk_32_method_15_code (2 : Nat) (Option.some (Jvm.ClassFile.FieldType.object "java/lang/Object"))).before args0 about1 = true := code_word (m := ⟨13, 3⟩) (meth := k13m3) (c := k13c3) (by decide +kernel) rfl rfl rfl (by decide +kernel)
set_option maxRecDepth 65536 in
theorem w_c16 : (Jvm.Cond.code ({ cls := "com/example/strict_tariff/stricttariff/pricing/ColumnNamedPinLaw", name := "longer", desc := "(I)[C" } : Jvm.MethodName) method_3_code (1 : Nat) (Option.some (Jvm.ClassFile.FieldType.array Jvm.ClassFile.FieldType.char))).before args0 about1 = true := code_word (m := ⟨1, 2⟩) (meth := k1m2) (c := k1c2) (by decide +kernel) rfl rfl rfl (by decide +kernel)
set_option maxRecDepth 65536 in
theorem w_c17 : (Jvm.Cond.code ({ cls := "java/util/Optional", name := "empty", desc := "()Ljava/util/Optional;" } : Jvm.MethodName) jdk_32_method_1_code (1 : Nat) (Option.some (Jvm.ClassFile.FieldType.object "java/util/Optional"))).before args0 about1 = true := code_word (m := ⟨13, 0⟩) (meth := k13m0) (c := k13c0) (by decide +kernel) rfl rfl rfl (by decide +kernel)
set_option maxRecDepth 65536 in
theorem w_c18 : (Jvm.Cond.code ({ cls := "com/example/strict_tariff/stricttariff/pricing/ColumnNamedPinLaw", name := "shorter", desc := "(I)Ljava/lang/String;" } : Jvm.MethodName) method_4_code (1 : Nat) (Option.some (Jvm.ClassFile.FieldType.object "java/lang/String"))).before args0 about1 = true := code_word (m := ⟨1, 3⟩) (meth := k1m3) (c := k1c3) (by decide +kernel) rfl rfl rfl (by decide +kernel)
def codes1 : List Jvm.Cond := [Jvm.Cond.code x code maxLocals ret, Jvm.Cond.code ({ cls := "com/example/strict_tariff/stricttariff/pricing/ColumnNamedPinLaw", name := "exact", desc := "(I)[C" } : Jvm.MethodName) method_2_code (1 : Nat) (Option.some (Jvm.ClassFile.FieldType.array Jvm.ClassFile.FieldType.char)), Jvm.Cond.code ({ cls := "java/lang/String", name := "<init>", desc := "([C)V" } : Jvm.MethodName) jdk_42_method_3_code (2 : Nat) (Option.none : Option Jvm.ClassFile.FieldType), Jvm.Cond.code ({ cls := "java/lang/String", name := "<init>", desc := "([CIILjava/lang/Void;)V" } : Jvm.MethodName) jdk_42_method_149_code (6 : Nat) (Option.none : Option Jvm.ClassFile.FieldType), Jvm.Cond.code ({ cls := "java/lang/Object", name := "<init>", desc := "()V" } : Jvm.MethodName) object_method_1_code (1 : Nat) (Option.none : Option Jvm.ClassFile.FieldType), Jvm.Cond.code ({ cls := "java/lang/StringUTF16", name := "compress", desc := "([CII)[B" } : Jvm.MethodName) jdk_52_method_16_code (6 : Nat) (Option.some (Jvm.ClassFile.FieldType.array Jvm.ClassFile.FieldType.byte)), Jvm.Cond.code ({ cls := "java/lang/StringUTF16", name := "compress", desc := "([CI[BII)I" } : Jvm.MethodName) jdk_52_method_21_code (7 : Nat) (Option.some Jvm.ClassFile.FieldType.int), Jvm.Cond.code ({ cls := "java/lang/StringUTF16", name := "coderFromArrayLen", desc := "([BI)B" } : Jvm.MethodName) jdk_52_method_15_code (2 : Nat) (Option.some Jvm.ClassFile.FieldType.byte), Jvm.Cond.code ({ cls := "com/example/strict_tariff/stricttariff/pricing/Column", name := "named", desc := "(Ljava/lang/String;)Ljava/util/Optional;" } : Jvm.MethodName) prog_4_method_7_code (5 : Nat) (Option.some (Jvm.ClassFile.FieldType.object "java/util/Optional")), Jvm.Cond.code ({ cls := "com/example/strict_tariff/stricttariff/pricing/Column", name := "values", desc := "()[Lcom/example/strict_tariff/stricttariff/pricing/Column;" } : Jvm.MethodName) prog_4_method_1_code (0 : Nat) (Option.some (Jvm.ClassFile.FieldType.array (Jvm.ClassFile.FieldType.object "com/example/strict_tariff/stricttariff/pricing/Column"))), Jvm.Cond.code ({ cls := "java/lang/String", name := "equals", desc := "(Ljava/lang/Object;)Z" } : Jvm.MethodName) jdk_42_method_66_code (3 : Nat) (Option.some Jvm.ClassFile.FieldType.boolean), Jvm.Cond.code ({ cls := "java/lang/StringLatin1", name := "equals", desc := "([B[B)Z" } : Jvm.MethodName) jdk_43_method_13_code (3 : Nat) (Option.some Jvm.ClassFile.FieldType.boolean), Jvm.Cond.code ({ cls := "java/util/Optional", name := "of", desc := "(Ljava/lang/Object;)Ljava/util/Optional;" } : Jvm.MethodName) jdk_32_method_3_code (1 : Nat) (Option.some (Jvm.ClassFile.FieldType.object "java/util/Optional")), Jvm.Cond.code ({ cls := "java/util/Objects", name := "requireNonNull", desc := "(Ljava/lang/Object;)Ljava/lang/Object;" } : Jvm.MethodName) jdk_31_method_10_code (1 : Nat) (Option.some (Jvm.ClassFile.FieldType.object "java/lang/Object")), Jvm.Cond.code ({ cls := "java/util/Optional", name := "<init>", desc := "(Ljava/lang/Object;)V" } : Jvm.MethodName) jdk_32_method_2_code (2 : Nat) (Option.none : Option Jvm.ClassFile.FieldType), Jvm.Cond.code ({ cls := "java/util/Optional", name := "orElse", desc := "(Ljava/lang/Object;)Ljava/lang/Object;" } : Jvm.MethodName) jdk_32_method_15_code (2 : Nat) (Option.some (Jvm.ClassFile.FieldType.object "java/lang/Object")), Jvm.Cond.code ({ cls := "com/example/strict_tariff/stricttariff/pricing/ColumnNamedPinLaw", name := "longer", desc := "(I)[C" } : Jvm.MethodName) method_3_code (1 : Nat) (Option.some (Jvm.ClassFile.FieldType.array Jvm.ClassFile.FieldType.char)), Jvm.Cond.code ({ cls := "java/util/Optional", name := "empty", desc := "()Ljava/util/Optional;" } : Jvm.MethodName) jdk_32_method_1_code (1 : Nat) (Option.some (Jvm.ClassFile.FieldType.object "java/util/Optional")), Jvm.Cond.code ({ cls := "com/example/strict_tariff/stricttariff/pricing/ColumnNamedPinLaw", name := "shorter", desc := "(I)Ljava/lang/String;" } : Jvm.MethodName) method_4_code (1 : Nat) (Option.some (Jvm.ClassFile.FieldType.object "java/lang/String"))]
set_option maxRecDepth 65536 in
theorem codes_eq : words1.filter isCode = codes1 := rfl
theorem w_codes : ∀ c ∈ words1.filter isCode, c.before args0 about1 = true := by
  rw [codes_eq]
  intro c hc
  simp only [codes1, List.mem_cons, List.not_mem_nil, or_false] at hc
  rcases hc with rfl | rfl | rfl | rfl | rfl | rfl | rfl | rfl | rfl | rfl | rfl | rfl | rfl | rfl | rfl | rfl | rfl | rfl | rfl
  · exact w_c0
  · exact w_c1
  · exact w_c2
  · exact w_c3
  · exact w_c4
  · exact w_c5
  · exact w_c6
  · exact w_c7
  · exact w_c8
  · exact w_c9
  · exact w_c10
  · exact w_c11
  · exact w_c12
  · exact w_c13
  · exact w_c14
  · exact w_c15
  · exact w_c16
  · exact w_c17
  · exact w_c18
set_option maxRecDepth 65536 in
theorem w_t1 : (words1.take 24).all (fun c => isCode c || c.before args0 about1) = true := by decide +kernel
set_option maxRecDepth 65536 in
theorem w_t2 : ((words1.drop 24).take 24).all (fun c => isCode c || c.before args0 about1) = true := by decide +kernel
set_option maxRecDepth 65536 in
theorem w_t3 : (((words1.drop 24).drop 24).take 24).all (fun c => isCode c || c.before args0 about1) = true := by decide +kernel
set_option maxRecDepth 65536 in
theorem w_t4 : ((((words1.drop 24).drop 24).drop 24).take 24).all (fun c => isCode c || c.before args0 about1) = true := by decide +kernel
set_option maxRecDepth 65536 in
theorem w_t5 : ((((words1.drop 24).drop 24).drop 24).drop 24).all (fun c => isCode c || c.before args0 about1) = true := by decide +kernel
theorem w_tables : (allAtoms (Jvm.Cond.code x code maxLocals ret :: tables_1)).before args0 about1 = true := by
  rw [allAtoms_all]
  show words1.all (fun c => c.before args0 about1) = true
  refine all_split ?_ w_codes
  rw [← List.take_append_drop 24 words1, List.all_append, w_t1, ← List.take_append_drop 24 (words1.drop 24), List.all_append, w_t2, ← List.take_append_drop 24 ((words1.drop 24).drop 24), List.all_append, w_t3, ← List.take_append_drop 24 (((words1.drop 24).drop 24).drop 24), List.all_append, w_t4, w_t5]
  rfl
set_option maxRecDepth 65536 in
theorem w_rest : rest_1_c.before args0 about1 = true := by decide +kernel
set_option maxRecDepth 65536 in
theorem w_case : (Jvm.Cond.and given_1 narrow_1).before args0 about1 = true := by decide +kernel
set_option maxRecDepth 65536 in
theorem w_consts : constsHeld consts_1 about1 := Jvm.Lit.constsHeldB_iff.mp (by decide +kernel)
theorem w_applies : (headSpec (Jvm.Cond.code x code maxLocals ret :: tables_1) room_1).applies x e0.platform about1 = true :=
  (Spec.applies_iff w_frames).mpr ⟨w_running, w_runnable, w_alone, w_named, w_hears, w_ripe, w_room, w_tables⟩
theorem atStart : AtStart classFile x code maxLocals ret World_1 tables_1 room_1 Calls_1 rest_1 Pre_1 launch0 p0 e0 about1 theMethod args0 below0 :=
  ⟨lists_1, trivial, launch0.admits_env _ _ _, launch0.least_env, fairChoices_fair.cas, fairChoices_fair.clock, w_frames, w_args, w_heap, w_applies, ⟨w_consts, trivial⟩, w_rest, w_case⟩
end start1
theorem witness_1 : WitnessClaimed_1 := ⟨start1.p0, start1.e0, start1.about1, start1.theMethod, start1.args0, start1.below0, start1.atStart⟩
end Jvm.Pilot.@@N@@
