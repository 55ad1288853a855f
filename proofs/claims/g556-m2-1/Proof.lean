import JvmDerived
import JvmDerived.Pilot.@@N@@Statement
import JvmDerived.Pilot.@@N@@Code
set_option linter.unusedVariables false
set_option linter.unusedSimpArgs false
namespace Jvm.RoadKit
open Sem ClassFile Op Lib Jvm.Stand Jvm.Free Jvm.LawKit
section Own
variable {p : Program} {l : Launch} {e : Env} {R : Room} {s : State} {m : MethodId} {args : Array Value} {below : List Frame} {meth : Method} {c : Code} {T : State} {locs : List Loc} {cells slots : Nat}
/-- from S the run comes to an end of which K holds -/
def oG (p : Program) (e : Env) (below : List Frame) (K : State → Outcome → Prop) (S : State) : Prop := ∃ t o, Steps p.tables e below S t ∧ t.status = .running ∧ Ended t below o ∧ K t o
def own_K (s : State) (Q : Option Value → Heap → List Loc → Prop) (k n : Nat) (t : State) (o : Outcome) : Prop := ∃ v L, o = .returned v ∧ Q v t.heap L ∧ FrameEnd s o t L k n
theorem og {K : State → Outcome → Prop} {S S' : State} (h : ∀ t, Steps p.tables e below S' t → Steps p.tables e below S t) (g : oG p e below K S') : oG p e below K S := by
  obtain ⟨t, o, h1, h2⟩ := g; exact ⟨t, o, h t h1, h2⟩
theorem own_via {K : State → Outcome → Prop} {S S' : State} (h : Steps p.tables e below S S') (g : oG p e below K S') : oG p e below K S := by
  obtain ⟨t, o, h1, h2⟩ := g; exact ⟨t, o, h.trans h1, h2⟩
variable {Q : Option Value → Heap → List Loc → Prop} {k n : Nat}
theorem own_end (X : Stand p l e R s m args below meth c T locs cells slots) {v : Option Value} (hlk : meth.locks = false) (hv : meth.sig.returnType = none → v = none) (hk : cells ≤ k) (hn : slots ≤ n) (hQ : Q v T.heap locs) {S : State}
    (st : ∀ fs, (∀ (f : JFrame) (acts : List Action), f.method = m → f.locked = none → f.entered = [] → (doReturn e (T.setTop f) acts v).1 = T.setFrames fs) → Steps p.tables e below S (T.setFrames fs)) : oG p e below (own_K s Q k n) S := by
  obtain ⟨fs, hr, hrun, hended, hW, hsame⟩ := X.leave hv hlk
  exact ⟨_, _, st fs hr, hrun, hended, v, locs, rfl, hQ, ⟨_, rfl⟩, hW, hsame.mono hk hn⟩
theorem own_ret0 (X : Stand p l e R s m args below meth c T locs cells slots) (hx : p.tables.exec = Jvm.exec) (hlk : meth.locks = false) (hret : meth.sig.returnType = none) {pc : Nat} {Ls : Array Slot} (hd : decode c.code pc = .ok (.return_, 1)) (hk : cells ≤ k) (hn : slots ≤ n) (hQ : Q none T.heap locs) :
    oG p e below (own_K s Q k n) (T.setTop (mkF m pc Ls [])) := own_end X hlk (fun _ => rfl) hk hn hQ fun _ hr => X.returnOut hx hret hd hr
theorem own_retN (X : Stand p l e R s m args below meth c T locs cells slots) (hx : p.tables.exec = Jvm.exec) (hlk : meth.locks = false) {t : FieldType} (hret : meth.sig.returnType = some t) (ht : t = .boolean ∨ t = .byte ∨ t = .char ∨ t = .short) {pc : Nat} {Ls : Array Slot} {z : Int32} {rest : List Value} (hd : decode c.code pc = .ok (.ireturn, 1)) (hk : cells ≤ k) (hn : slots ≤ n) (hQ : Q (some (.int (nar t z))) T.heap locs) :
    oG p e below (own_K s Q k n) (T.setTop (mkF m pc Ls (.int z :: rest))) := own_end X hlk (fun h => by rw [hret] at h; cases h) hk hn hQ fun _ hr => retN X hx hret ht hd hr
theorem own_retI (X : Stand p l e R s m args below meth c T locs cells slots) (hx : p.tables.exec = Jvm.exec) (hlk : meth.locks = false) (hret : meth.sig.returnType = some .int) {pc : Nat} {Ls : Array Slot} {z : Int32} {rest : List Value} (hd : decode c.code pc = .ok (.ireturn, 1)) (hk : cells ≤ k) (hn : slots ≤ n) (hQ : Q (some (.int z)) T.heap locs) :
    oG p e below (own_K s Q k n) (T.setTop (mkF m pc Ls (.int z :: rest))) := own_end X hlk (fun h => by rw [hret] at h; cases h) hk hn hQ fun _ hr => retOut X hx hret rfl (Or.inl ⟨rfl, Or.inl rfl, z, rfl⟩) hd hr
theorem own_retJ (X : Stand p l e R s m args below meth c T locs cells slots) (hx : p.tables.exec = Jvm.exec) (hlk : meth.locks = false) (hret : meth.sig.returnType = some .long) {pc : Nat} {Ls : Array Slot} {z : Int64} {rest : List Value} (hd : decode c.code pc = .ok (.lreturn, 1)) (hk : cells ≤ k) (hn : slots ≤ n) (hQ : Q (some (.long z)) T.heap locs) :
    oG p e below (own_K s Q k n) (T.setTop (mkF m pc Ls (.long z :: rest))) := own_end X hlk (fun h => by rw [hret] at h; cases h) hk hn hQ fun _ hr => retOut X hx hret rfl (Or.inr (Or.inl ⟨rfl, rfl, z, rfl⟩)) hd hr
theorem own_retR (X : Stand p l e R s m args below meth c T locs cells slots) (hx : p.tables.exec = Jvm.exec) (hlk : meth.locks = false) {t : FieldType} (hret : meth.sig.returnType = some t) (ht : t.isReference = true) {pc : Nat} {Ls : Array Slot} {w : Value} {rest : List Value} (hw : w.isRef = true) (hd : decode c.code pc = .ok (.areturn, 1)) (hk : cells ≤ k) (hn : slots ≤ n) (hQ : Q (some w) T.heap locs) :
    oG p e below (own_K s Q k n) (T.setTop (mkF m pc Ls (w :: rest))) := own_end X hlk (fun h => by rw [hret] at h; cases h) hk hn hQ fun _ hr => retOut X hx hret (by cases t <;> first | rfl | cases ht) (Or.inr (Or.inr (Or.inr (Or.inr ⟨rfl, ht, hw⟩)))) hd hr
section Arrays
variable {Z : State} {h : Heap} {a : Addr} {k : ClassId} {ty : FieldType} {z : Int32} {vs : List Value} {dv : Value}
theorem own_iaload {g : JFrame} {target : State} (X : Stand p l e R s m args below meth c T locs cells slots) (hx : p.tables.exec = Jvm.exec) (hZ : Z.Warmed39 s.vm) (eT : T.heap = h) (F : Arv Z h a k .int z vs dv) (j : Int32) (v : Value) (hj : ¬ j < 0 ∧ j < z) (hat : vs.getD j.toNatClampNeg dv = v) (hg : g.method = m) {rest : List Value} (hs : g.stack = .int j :: .ref a :: rest) (hd : decode c.code g.pc = .ok (.iaload, 1))
    (hr : Steps p.tables e below (T.setTop { g with pc := g.pc + 1, stack := v :: rest }) target) : Steps p.tables e below (T.setTop g) target := by
  obtain ⟨cl, A, q, S, N, H, G⟩ := F
  have hi := inb_of S hj
  exact X.iaload hx (j := j) (v := v) (by rw [eT]; exact A.1) (State.isArrayOf_alike hZ.alike A.2.1) A.2.2 hi (Has.at H hi hat) hg hs hd _ hr
theorem own_caload {g : JFrame} {target : State} (X : Stand p l e R s m args below meth c T locs cells slots) (hx : p.tables.exec = Jvm.exec) (hZ : Z.Warmed39 s.vm) (eT : T.heap = h) (F : Arv Z h a k .char z vs dv) (j : Int32) (v : Value) (hj : ¬ j < 0 ∧ j < z) (hat : vs.getD j.toNatClampNeg dv = v) (hg : g.method = m) {rest : List Value} (hs : g.stack = .int j :: .ref a :: rest) (hd : decode c.code g.pc = .ok (.caload, 1))
    (hr : Steps p.tables e below (T.setTop { g with pc := g.pc + 1, stack := v :: rest }) target) : Steps p.tables e below (T.setTop g) target := by
  obtain ⟨cl, A, q, S, N, H, G⟩ := F
  have hi := inb_of S hj
  exact X.caload hx (j := j) (v := v) (by rw [eT]; exact A.1) (State.isArrayOf_alike hZ.alike A.2.1) A.2.2 hi (Has.at H hi hat) hg hs hd _ hr
theorem own_saload {g : JFrame} {target : State} (X : Stand p l e R s m args below meth c T locs cells slots) (hx : p.tables.exec = Jvm.exec) (hZ : Z.Warmed39 s.vm) (eT : T.heap = h) (F : Arv Z h a k .short z vs dv) (j : Int32) (v : Value) (hj : ¬ j < 0 ∧ j < z) (hat : vs.getD j.toNatClampNeg dv = v) (hg : g.method = m) {rest : List Value} (hs : g.stack = .int j :: .ref a :: rest) (hd : decode c.code g.pc = .ok (.saload, 1))
    (hr : Steps p.tables e below (T.setTop { g with pc := g.pc + 1, stack := v :: rest }) target) : Steps p.tables e below (T.setTop g) target := by
  obtain ⟨cl, A, q, S, N, H, G⟩ := F
  have hi := inb_of S hj
  exact X.saload hx (j := j) (v := v) (by rw [eT]; exact A.1) (State.isArrayOf_alike hZ.alike A.2.1) A.2.2 hi (Has.at H hi hat) hg hs hd _ hr
theorem own_baload {g : JFrame} {target : State} (X : Stand p l e R s m args below meth c T locs cells slots) (hx : p.tables.exec = Jvm.exec) (hZ : Z.Warmed39 s.vm) (eT : T.heap = h) (F : Arv Z h a k .byte z vs dv) (j : Int32) (v : Value) (hj : ¬ j < 0 ∧ j < z) (hat : vs.getD j.toNatClampNeg dv = v) (hg : g.method = m) {rest : List Value} (hs : g.stack = .int j :: .ref a :: rest) (hd : decode c.code g.pc = .ok (.baload, 1))
    (hr : Steps p.tables e below (T.setTop { g with pc := g.pc + 1, stack := v :: rest }) target) : Steps p.tables e below (T.setTop g) target := by
  obtain ⟨cl, A, q, S, N, H, G⟩ := F
  have hi := inb_of S hj
  exact X.baloadBytes hx (j := j) (v := v) (by rw [eT]; exact A.1) (State.isArrayOf_alike hZ.alike A.2.1) A.2.2 hi (Has.at H hi hat) hg hs hd _ hr
theorem own_zaload {g : JFrame} {target : State} (X : Stand p l e R s m args below meth c T locs cells slots) (hx : p.tables.exec = Jvm.exec) (hZ : Z.Warmed39 s.vm) (eT : T.heap = h) (F : Arv Z h a k .boolean z vs dv) (j : Int32) (v : Value) (hj : ¬ j < 0 ∧ j < z) (hat : vs.getD j.toNatClampNeg dv = v) (hg : g.method = m) {rest : List Value} (hs : g.stack = .int j :: .ref a :: rest) (hd : decode c.code g.pc = .ok (.baload, 1))
    (hr : Steps p.tables e below (T.setTop { g with pc := g.pc + 1, stack := v :: rest }) target) : Steps p.tables e below (T.setTop g) target := by
  obtain ⟨cl, A, q, S, N, H, G⟩ := F
  have hi := inb_of S hj
  exact X.baloadBooleans hx (j := j) (v := v) (by rw [eT]; exact A.1) (State.isArrayOf_alike hZ.alike A.2.1) A.2.2 hi (Has.at H hi hat) hg hs hd _ hr
theorem own_laload {g : JFrame} {target : State} (X : Stand p l e R s m args below meth c T locs cells slots) (hx : p.tables.exec = Jvm.exec) (hZ : Z.Warmed39 s.vm) (eT : T.heap = h) (F : Arv Z h a k .long z vs dv) (j : Int32) (v : Value) (hj : ¬ j < 0 ∧ j < z) (hat : vs.getD j.toNatClampNeg dv = v) (hg : g.method = m) {rest : List Value} (hs : g.stack = .int j :: .ref a :: rest) (hd : decode c.code g.pc = .ok (.laload, 1))
    (hr : Steps p.tables e below (T.setTop { g with pc := g.pc + 1, stack := v :: rest }) target) : Steps p.tables e below (T.setTop g) target := by
  obtain ⟨cl, A, q, S, N, H, G⟩ := F
  have hi := inb_of S hj
  exact X.laload hx (j := j) (v := v) (by rw [eT]; exact A.1) (State.isArrayOf_alike hZ.alike A.2.1) A.2.2 hi (Has.at H hi hat) hg hs hd _ hr
theorem own_aaload {g : JFrame} {target : State} (X : Stand p l e R s m args below meth c T locs cells slots) (hx : p.tables.exec = Jvm.exec) (hZ : Z.Warmed39 s.vm) (eT : T.heap = h) (F : Arv Z h a k ty z vs dv) (j : Int32) (v : Value) (hj : ¬ j < 0 ∧ j < z) (hat : vs.getD j.toNatClampNeg dv = v) (hty : ty.isReference = true) (hg : g.method = m) {rest : List Value} (hs : g.stack = .int j :: .ref a :: rest) (hd : decode c.code g.pc = .ok (.aaload, 1))
    (hr : Steps p.tables e below (T.setTop { g with pc := g.pc + 1, stack := v :: rest }) target) : Steps p.tables e below (T.setTop g) target := by
  obtain ⟨cl, A, q, S, N, H, G⟩ := F
  have hi := inb_of S hj
  exact X.aaload hx (j := j) (v := v) (by rw [eT]; exact A.1) (State.isArrayOf_alike hZ.alike A.2.1) hty A.2.2 hi (Has.at H hi hat) hg hs hd _ hr
theorem own_alen {g : JFrame} {target : State} (X : Stand p l e R s m args below meth c T locs cells slots) (hx : p.tables.exec = Jvm.exec) (hZ : Z.Warmed39 s.vm) (eT : T.heap = h) (F : Arv Z h a k ty z vs dv) (hg : g.method = m) {rest : List Value} (hs : g.stack = .ref a :: rest) (hd : decode c.code g.pc = .ok (.arraylength, 1))
    (hr : Steps p.tables e below (T.setTop { g with pc := g.pc + 1, stack := .int z :: rest }) target) : Steps p.tables e below (T.setTop g) target := by
  obtain ⟨cl, A, q, S, N, -, -⟩ := F
  exact X.arraylength hx (by rw [eT]; exact A.1) (State.isArrayOf_alike hZ.alike A.2.1) hg hs hd _ (by rw [len_of S N]; exact hr)
theorem own_stI {K : State → Outcome → Prop} {n0 : Nat} (X : Stand p l e R s m args below meth c T locs cells slots) (hx : p.tables.exec = Jvm.exec) (hZ : Z.Warmed39 s.vm) (eT : T.heap = h) (F : Arv Z h a k .int z vs dv) (j : Int32) (x : Int32) (i : Nat) (hj : ¬ j < 0 ∧ j < z) (hi : j.toNatClampNeg = i) (hl : i < vs.length) (vs' : List Value) (hv : vs.set i (.int x) = vs') (N : Fr n0 locs) (ge : n0 ≤ a) {pc : Nat} {Ls : Array Slot} {rest : List Value} (hd : decode c.code pc = .ok (.iastore, 1))
    (kk : ∀ (T' : State) (h' : Heap) (L' : List Loc), Stand p l e R s m args below meth c T' L' cells slots → T'.heap = h' → Wr h h' a i (.int x) → Fr n0 L' → Arv Z h' a k .int z vs' dv → oG p e below K (T'.setTop (mkF m (pc + 1) Ls rest))) : oG p e below K (T.setTop (mkF m pc Ls (.int x :: .int j :: .ref a :: rest))) := by
  obtain ⟨cl, A, q, S, M, H, G⟩ := F
  subst hi; subst hv
  obtain ⟨T', h', X', e', W, st⟩ := stI X hx hZ eT A (j := j) (inb_of S hj) (g := mkF m pc Ls (.int x :: .int j :: .ref a :: rest)) rfl rfl hd
  exact og st (kk T' h' _ X' e' W (Fr.snoc X' N ge) (Arv.set A q S M H G rfl W _ rfl hl))
theorem own_stJ {K : State → Outcome → Prop} {n0 : Nat} (X : Stand p l e R s m args below meth c T locs cells slots) (hx : p.tables.exec = Jvm.exec) (hZ : Z.Warmed39 s.vm) (eT : T.heap = h) (F : Arv Z h a k .long z vs dv) (j : Int32) (x : Int64) (i : Nat) (hj : ¬ j < 0 ∧ j < z) (hi : j.toNatClampNeg = i) (hl : i < vs.length) (vs' : List Value) (hv : vs.set i (.long x) = vs') (N : Fr n0 locs) (ge : n0 ≤ a) {pc : Nat} {Ls : Array Slot} {rest : List Value} (hd : decode c.code pc = .ok (.lastore, 1))
    (kk : ∀ (T' : State) (h' : Heap) (L' : List Loc), Stand p l e R s m args below meth c T' L' cells slots → T'.heap = h' → Wr h h' a i (.long x) → Fr n0 L' → Arv Z h' a k .long z vs' dv → oG p e below K (T'.setTop (mkF m (pc + 1) Ls rest))) : oG p e below K (T.setTop (mkF m pc Ls (.long x :: .int j :: .ref a :: rest))) := by
  obtain ⟨cl, A, q, S, M, H, G⟩ := F
  subst hi; subst hv
  obtain ⟨T', h', X', e', W, st⟩ := stJ X hx hZ eT A (j := j) (inb_of S hj) (g := mkF m pc Ls (.long x :: .int j :: .ref a :: rest)) rfl rfl hd
  exact og st (kk T' h' _ X' e' W (Fr.snoc X' N ge) (Arv.set A q S M H G rfl W _ rfl hl))
theorem own_stB {K : State → Outcome → Prop} {n0 : Nat} (X : Stand p l e R s m args below meth c T locs cells slots) (hx : p.tables.exec = Jvm.exec) (hZ : Z.Warmed39 s.vm) (eT : T.heap = h) (F : Arv Z h a k .byte z vs dv) (j : Int32) (x x' : Int32) (i : Nat) (hj : ¬ j < 0 ∧ j < z) (hi : j.toNatClampNeg = i) (hl : i < vs.length) (hn : nar .byte x = x') (vs' : List Value) (hv : vs.set i (.int x') = vs') (N : Fr n0 locs) (ge : n0 ≤ a) {pc : Nat} {Ls : Array Slot} {rest : List Value} (hd : decode c.code pc = .ok (.bastore, 1))
    (kk : ∀ (T' : State) (h' : Heap) (L' : List Loc), Stand p l e R s m args below meth c T' L' cells slots → T'.heap = h' → Wr h h' a i (.int x') → Fr n0 L' → Arv Z h' a k .byte z vs' dv → oG p e below K (T'.setTop (mkF m (pc + 1) Ls rest))) : oG p e below K (T.setTop (mkF m pc Ls (.int x :: .int j :: .ref a :: rest))) := by
  obtain ⟨cl, A, q, S, M, H, G⟩ := F
  subst hn; subst hi; subst hv
  obtain ⟨T', h', X', e', W, st⟩ := stB X hx hZ eT A (j := j) (inb_of S hj) (g := mkF m pc Ls (.int x :: .int j :: .ref a :: rest)) rfl rfl hd
  exact og st (kk T' h' _ X' e' W (Fr.snoc X' N ge) (Arv.set A q S M H G (fits_nar_byte _) W _ rfl hl))
theorem own_stZ {K : State → Outcome → Prop} {n0 : Nat} (X : Stand p l e R s m args below meth c T locs cells slots) (hx : p.tables.exec = Jvm.exec) (hZ : Z.Warmed39 s.vm) (eT : T.heap = h) (F : Arv Z h a k .boolean z vs dv) (j : Int32) (x x' : Int32) (i : Nat) (hj : ¬ j < 0 ∧ j < z) (hi : j.toNatClampNeg = i) (hl : i < vs.length) (hn : nar .boolean x = x') (vs' : List Value) (hv : vs.set i (.int x') = vs') (N : Fr n0 locs) (ge : n0 ≤ a) {pc : Nat} {Ls : Array Slot} {rest : List Value} (hd : decode c.code pc = .ok (.bastore, 1))
    (kk : ∀ (T' : State) (h' : Heap) (L' : List Loc), Stand p l e R s m args below meth c T' L' cells slots → T'.heap = h' → Wr h h' a i (.int x') → Fr n0 L' → Arv Z h' a k .boolean z vs' dv → oG p e below K (T'.setTop (mkF m (pc + 1) Ls rest))) : oG p e below K (T.setTop (mkF m pc Ls (.int x :: .int j :: .ref a :: rest))) := by
  obtain ⟨cl, A, q, S, M, H, G⟩ := F
  subst hn; subst hi; subst hv
  obtain ⟨T', h', X', e', W, st⟩ := stZ X hx hZ eT A (j := j) (inb_of S hj) (g := mkF m pc Ls (.int x :: .int j :: .ref a :: rest)) rfl rfl hd
  exact og st (kk T' h' _ X' e' W (Fr.snoc X' N ge) (Arv.set A q S M H G (fits_nar_bool _) W _ rfl hl))
theorem own_stC {K : State → Outcome → Prop} {n0 : Nat} (X : Stand p l e R s m args below meth c T locs cells slots) (hx : p.tables.exec = Jvm.exec) (hZ : Z.Warmed39 s.vm) (eT : T.heap = h) (F : Arv Z h a k .char z vs dv) (j : Int32) (x x' : Int32) (i : Nat) (hj : ¬ j < 0 ∧ j < z) (hi : j.toNatClampNeg = i) (hl : i < vs.length) (hn : nar .char x = x') (vs' : List Value) (hv : vs.set i (.int x') = vs') (N : Fr n0 locs) (ge : n0 ≤ a) {pc : Nat} {Ls : Array Slot} {rest : List Value} (hd : decode c.code pc = .ok (.castore, 1))
    (kk : ∀ (T' : State) (h' : Heap) (L' : List Loc), Stand p l e R s m args below meth c T' L' cells slots → T'.heap = h' → Wr h h' a i (.int x') → Fr n0 L' → Arv Z h' a k .char z vs' dv → oG p e below K (T'.setTop (mkF m (pc + 1) Ls rest))) : oG p e below K (T.setTop (mkF m pc Ls (.int x :: .int j :: .ref a :: rest))) := by
  obtain ⟨cl, A, q, S, M, H, G⟩ := F
  subst hn; subst hi; subst hv
  obtain ⟨T', h', X', e', W, st⟩ := stC X hx hZ eT A (j := j) (inb_of S hj) (g := mkF m pc Ls (.int x :: .int j :: .ref a :: rest)) rfl rfl hd
  exact og st (kk T' h' _ X' e' W (Fr.snoc X' N ge) (Arv.set A q S M H G (fits_nar_char _) W _ rfl hl))
theorem own_stS {K : State → Outcome → Prop} {n0 : Nat} (X : Stand p l e R s m args below meth c T locs cells slots) (hx : p.tables.exec = Jvm.exec) (hZ : Z.Warmed39 s.vm) (eT : T.heap = h) (F : Arv Z h a k .short z vs dv) (j : Int32) (x x' : Int32) (i : Nat) (hj : ¬ j < 0 ∧ j < z) (hi : j.toNatClampNeg = i) (hl : i < vs.length) (hn : nar .short x = x') (vs' : List Value) (hv : vs.set i (.int x') = vs') (N : Fr n0 locs) (ge : n0 ≤ a) {pc : Nat} {Ls : Array Slot} {rest : List Value} (hd : decode c.code pc = .ok (.sastore, 1))
    (kk : ∀ (T' : State) (h' : Heap) (L' : List Loc), Stand p l e R s m args below meth c T' L' cells slots → T'.heap = h' → Wr h h' a i (.int x') → Fr n0 L' → Arv Z h' a k .short z vs' dv → oG p e below K (T'.setTop (mkF m (pc + 1) Ls rest))) : oG p e below K (T.setTop (mkF m pc Ls (.int x :: .int j :: .ref a :: rest))) := by
  obtain ⟨cl, A, q, S, M, H, G⟩ := F
  subst hn; subst hi; subst hv
  obtain ⟨T', h', X', e', W, st⟩ := stS X hx hZ eT A (j := j) (inb_of S hj) (g := mkF m pc Ls (.int x :: .int j :: .ref a :: rest)) rfl rfl hd
  exact og st (kk T' h' _ X' e' W (Fr.snoc X' N ge) (Arv.set A q S M H G (fits_nar_short _) W _ rfl hl))
theorem own_stR {K : State → Outcome → Prop} {n0 : Nat} (X : Stand p l e R s m args below meth c T locs cells slots) (hx : p.tables.exec = Jvm.exec) (hZ : Z.Warmed39 s.vm) (eT : T.heap = h) (F : Arv Z h a k ty z vs dv) (j : Int32) (v : Value) (i : Nat) (hj : ¬ j < 0 ∧ j < z) (hi : j.toNatClampNeg = i) (hl : i < vs.length) (sto : ∀ cl : Cell, Arr Z h a cl ty → cl.cls = k → Sto Z h a v) (hty : ty.isReference = true) (vs' : List Value) (hv : vs.set i v = vs') (N : Fr n0 locs) (ge : n0 ≤ a) {pc : Nat} {Ls : Array Slot} {rest : List Value} (hd : decode c.code pc = .ok (.aastore, 1))
    (kk : ∀ (T' : State) (h' : Heap) (L' : List Loc), Stand p l e R s m args below meth c T' L' cells slots → T'.heap = h' → Wr h h' a i v → Fr n0 L' → Arv Z h' a k ty z vs' dv → oG p e below K (T'.setTop (mkF m (pc + 1) Ls rest))) : oG p e below K (T.setTop (mkF m pc Ls (v :: .int j :: .ref a :: rest))) := by
  obtain ⟨cl, A, q, S, M, H, G⟩ := F
  subst hi; subst hv
  have so := sto cl A q
  obtain ⟨T', h', X', e', W, st⟩ := stR X hx hZ eT A (j := j) (inb_of S hj) hty so (g := mkF m pc Ls (v :: .int j :: .ref a :: rest)) rfl rfl hd
  have fv : fits ty v = true := by
    rcases so with rfl | ⟨_, _, _, _, _, _, _, y, _, _, _, _, rfl, _⟩ <;> cases ty <;> first | rfl | cases hty
  exact og st (kk T' h' _ X' e' W (Fr.snoc X' N ge) (Arv.set A q S M H G fv W _ rfl hl))
end Arrays
section Calls
variable {own : String} {index : Nat} {y z : MethodName} {bytes : ByteArray} {maxL : Nat} {ret : Option FieldType} {rm : Room} {W : Nat} {as' : Array Value} {Z : State} {a0 : Array Value} {h : Heap} {K : State → Outcome → Prop} {pc : Nat} {Ls : Array Slot} {argsL rest stk : List Value} {C : String} {b : Addr}
theorem own_cs (X : Stand p l e R s m args below meth c T locs cells slots) (hx : p.tables.exec = Jvm.exec) (hZ : Z.Warmed39 s.vm) (hown : s.vm.findClass own = some m.cls) (w1 : (Cond.methodLink own index y).before a0 Z = true) (w2 : (Cond.static y).before a0 Z = true) (w3 : (Cond.initialized y.cls).before a0 Z = true) (w4 : (Cond.code y bytes maxL ret).before a0 Z = true)
    (hy : y.cls ≠ "java/lang/invoke/MethodHandle" ∧ y.cls ≠ "java/lang/invoke/VarHandle")
    (hM : MetFree l y (head1 [Cond.code y bytes maxL ret] rm) (fun a U => a = as' ∧ Z.Warmed39 U.vm ∧ U.heap = h) (fun _ _ _ _ _ => True) (fun _ U o U' => ∃ v L, o = .returned v ∧ Q v U'.heap L ∧ FrameEnd U o U' L rm.cells rm.slots))
    (hf : rm.frames + 1 ≤ R.frames) (hl : W + (maxL + 11) + rm.locals ≤ R.locals) (hc : cells + rm.cells ≤ R.cells) (hs : slots + rm.slots ≤ R.slots) (eT : T.heap = h) (hsz : Ls.size = c.maxLocals) (hlen : ∀ sig, parseMethodDescriptor y.desc = some sig → argsL.length = sig.parameters.length)
    (hst : stk = argsL.reverse ++ rest) (has : argsL.toArray = as') (hW : (rest.map fun v => v.category).sum ≤ W) (hd : decode c.code pc = .ok (.invokestatic index, 3))
    (k : ∀ (v : Option Value) (T' : State) (L : List Loc), Stand p l e R s m args below meth c T' (locs ++ L) (cells + rm.cells) (slots + rm.slots) → Q v T'.heap L → oG p e below K (T'.setTop (mkF m (pc + 3) Ls (v.toList ++ rest)))) : oG p e below K (T.setTop (mkF m pc Ls stk)) := by
  obtain ⟨v, _, ⟨T', L', k', n'⟩, -, X', ⟨L, hQ, h1, h2, h3⟩, st⟩ := Jvm.LawKit.callS X hx (y := y) hown (mvT hZ w1) (mvT hZ w2) (mvT hZ w3) (mvT hZ w4) hy (backOf (W := W) hM hZ w4 w3 hf hl) (g := mkF m pc Ls stk) rfl hsz (argsL := argsL) (rest := rest) hlen hst (by show 2 * 0 + _ ≤ _; simpa using hW) hd (fun _ _ => ⟨has, eT, hc, hs⟩)
  dsimp only [Pt.U, Pt.locs, Pt.cells, Pt.slots] at X' h1 h2 h3 st hQ
  subst h1 h2 h3
  exact og st (k v T' L X' hQ)
theorem own_cp (X : Stand p l e R s m args below meth c T locs cells slots) (hx : p.tables.exec = Jvm.exec) (hZ : Z.Warmed39 s.vm) (hown : s.vm.findClass own = some m.cls) (hy1 : y.name = "<init>") (w1 : (Cond.methodLink own index y).before a0 Z = true) (w2 : (Cond.instanceMethod y).before a0 Z = true) (w3 : (Cond.initialized y.cls).before a0 Z = true) (w4 : (Cond.code y bytes maxL none).before a0 Z = true)
    (hy : y.cls ≠ "java/lang/invoke/MethodHandle" ∧ y.cls ≠ "java/lang/invoke/VarHandle")
    (hM : MetFree l y (head1 [Cond.code y bytes maxL none] rm) (fun a U => a = as' ∧ Z.Warmed39 U.vm ∧ U.heap = h) (fun _ _ _ _ _ => True) (fun _ U o U' => ∃ v L, o = .returned v ∧ Q v U'.heap L ∧ FrameEnd U o U' L rm.cells rm.slots))
    (hf : rm.frames + 1 ≤ R.frames) (hl : W + (maxL + 11) + rm.locals ≤ R.locals) (hc : cells + rm.cells ≤ R.cells) (hs : slots + rm.slots ≤ R.slots) (eT : T.heap = h) (hsz : Ls.size = c.maxLocals) (hlen : ∀ sig, parseMethodDescriptor y.desc = some sig → argsL.length = sig.parameters.length)
    (hst : stk = argsL.reverse ++ .ref b :: rest) (has : (.ref b :: argsL).toArray = as') (hW : (rest.map fun v => v.category).sum ≤ W) (hd : decode c.code pc = .ok (.invokespecial index, 3))
    (k : ∀ (v : Option Value) (T' : State) (L : List Loc), Stand p l e R s m args below meth c T' (locs ++ L) (cells + rm.cells) (slots + rm.slots) → Q v T'.heap L → oG p e below K (T'.setTop (mkF m (pc + 3) Ls (v.toList ++ rest)))) : oG p e below K (T.setTop (mkF m pc Ls stk)) := by
  obtain ⟨v, _, ⟨T', L', k', n'⟩, -, X', ⟨L, hQ, h1, h2, h3⟩, st⟩ := X.specialBack hx (y := y) hy1 hown (mvT hZ w1) (mvT hZ w2) (mvT hZ w4) hy (backOf (W := W) hM hZ w4 w3 hf hl) (g := mkF m pc Ls stk) rfl hsz (Steps.refl _) (a := b) (argsL := argsL) (rest := rest) hlen hst (by show 2 * 0 + _ ≤ _; simpa using hW) hd (fun _ _ => ⟨has, eT, hc, hs⟩)
  dsimp only [Pt.U, Pt.locs, Pt.cells, Pt.slots] at X' h1 h2 h3 st hQ
  subst h1 h2 h3
  exact own_via st (k v T' L X' hQ)
theorem own_cv (X : Stand p l e R s m args below meth c T locs cells slots) (hx : p.tables.exec = Jvm.exec) (hZ : Z.Warmed39 s.vm) (hown : s.vm.findClass own = some m.cls) (nf : NotFace s y) (w1 : (Cond.methodLink own index y).before a0 Z = true) (w2 : (Cond.declares y).before a0 Z = true) (w5 : (Cond.selects C y z).before a0 Z = true) (w6 : (Cond.instanceMethod z).before a0 Z = true) (w3 : (Cond.initialized z.cls).before a0 Z = true) (w4 : (Cond.code z bytes maxL ret).before a0 Z = true)
    (hy : y.cls ≠ "java/lang/invoke/MethodHandle" ∧ y.cls ≠ "java/lang/invoke/VarHandle") (E : Exa Z h b C)
    (hM : MetFree l z (head1 [Cond.code z bytes maxL ret] rm) (fun a U => a = as' ∧ Z.Warmed39 U.vm ∧ U.heap = h) (fun _ _ _ _ _ => True) (fun _ U o U' => ∃ v L, o = .returned v ∧ Q v U'.heap L ∧ FrameEnd U o U' L rm.cells rm.slots))
    (hf : rm.frames + 1 ≤ R.frames) (hl : W + (maxL + 11) + rm.locals ≤ R.locals) (hc : cells + rm.cells ≤ R.cells) (hs : slots + rm.slots ≤ R.slots) (eT : T.heap = h) (hsz : Ls.size = c.maxLocals) (hlen : ∀ sig, parseMethodDescriptor y.desc = some sig → argsL.length = sig.parameters.length)
    (hst : stk = argsL.reverse ++ .ref b :: rest) (has : (.ref b :: argsL).toArray = as') (hW : (rest.map fun v => v.category).sum ≤ W) (hd : decode c.code pc = .ok (.invokevirtual index, 3))
    (k : ∀ (v : Option Value) (T' : State) (L : List Loc), Stand p l e R s m args below meth c T' (locs ++ L) (cells + rm.cells) (slots + rm.slots) → Q v T'.heap L → oG p e below K (T'.setTop (mkF m (pc + 3) Ls (v.toList ++ rest)))) : oG p e below K (T.setTop (mkF m pc Ls stk)) := by
  obtain ⟨cq, kq, qa, qb, qc⟩ := isOf hZ eT E
  obtain ⟨v, _, ⟨T', L', k', n'⟩, -, X', ⟨L, hQ, h1, h2, h3⟩, st⟩ := X.virtualBack hx (y := y) (z := z) hown (mvT hZ w1) (mvT hZ w2) nf (mvT hZ w5) (mvT hZ w6) hy (backOf (W := W) hM hZ w4 w3 hf hl) qa qc (g := mkF m pc Ls stk) rfl hsz (Steps.refl _) (argsL := argsL) (rest := rest) hlen hst (by show 2 * 0 + _ ≤ _; simpa using hW) hd (fun _ _ => ⟨has, eT, hc, hs⟩)
  dsimp only [Pt.U, Pt.locs, Pt.cells, Pt.slots] at X' h1 h2 h3 st hQ
  subst h1 h2 h3
  exact own_via st (k v T' L X' hQ)
theorem own_cq (X : Stand p l e R s m args below meth c T locs cells slots) (hx : p.tables.exec = Jvm.exec) (hZ : Z.Warmed39 s.vm) (hown : s.vm.findClass own = some m.cls) (w1 : (Cond.methodLink own index y).before a0 Z = true) (w6 : (Cond.instanceMethod y).before a0 Z = true) (w5 : (Cond.selects y.cls y y).before a0 Z = true) (w7 : (Cond.privateMethod y).before a0 Z = true) (w3 : (Cond.initialized y.cls).before a0 Z = true) (w4 : (Cond.code y bytes maxL ret).before a0 Z = true)
    (hy : y.cls ≠ "java/lang/invoke/MethodHandle" ∧ y.cls ≠ "java/lang/invoke/VarHandle") (E : Exa Z h b C)
    (hM : MetFree l y (head1 [Cond.code y bytes maxL ret] rm) (fun a U => a = as' ∧ Z.Warmed39 U.vm ∧ U.heap = h) (fun _ _ _ _ _ => True) (fun _ U o U' => ∃ v L, o = .returned v ∧ Q v U'.heap L ∧ FrameEnd U o U' L rm.cells rm.slots))
    (hf : rm.frames + 1 ≤ R.frames) (hl : W + (maxL + 11) + rm.locals ≤ R.locals) (hc : cells + rm.cells ≤ R.cells) (hs : slots + rm.slots ≤ R.slots) (eT : T.heap = h) (hsz : Ls.size = c.maxLocals) (hlen : ∀ sig, parseMethodDescriptor y.desc = some sig → argsL.length = sig.parameters.length)
    (hst : stk = argsL.reverse ++ .ref b :: rest) (has : (.ref b :: argsL).toArray = as') (hW : (rest.map fun v => v.category).sum ≤ W) (hd : decode c.code pc = .ok (.invokevirtual index, 3))
    (k : ∀ (v : Option Value) (T' : State) (L : List Loc), Stand p l e R s m args below meth c T' (locs ++ L) (cells + rm.cells) (slots + rm.slots) → Q v T'.heap L → oG p e below K (T'.setTop (mkF m (pc + 3) Ls (v.toList ++ rest)))) : oG p e below K (T.setTop (mkF m pc Ls stk)) := by
  obtain ⟨cq, q1, q2⟩ := E.cell
  obtain ⟨v, _, ⟨T', L', k', n'⟩, -, X', ⟨L, hQ, h1, h2, h3⟩, st⟩ := X.privateBack hx (y := y) hown (mvT hZ w1) (mvT hZ w6) (mvT hZ w5) (Cond.privateMethod_at (mvP hZ w7 (args := #[]))) (mvT hZ w4) hy (backOf (W := W) hM hZ w4 w3 hf hl) (g := mkF m pc Ls stk) rfl hsz (Steps.refl _) (a := b) (by rw [eT]; exact q1) q2 (argsL := argsL) (rest := rest) hlen hst (by show 2 * 0 + _ ≤ _; simpa using hW) hd (fun _ _ => ⟨has, eT, hc, hs⟩)
  dsimp only [Pt.U, Pt.locs, Pt.cells, Pt.slots] at X' h1 h2 h3 st hQ
  subst h1 h2 h3
  exact own_via st (k v T' L X' hQ)
theorem own_cu {owner : String} (X : Stand p l e R s m args below meth c T locs cells slots) (hx : p.tables.exec = Jvm.exec) (hZ : Z.Warmed39 s.vm) (hown : s.vm.findClass own = some m.cls) (w1 : (Cond.methodLink own index y).before a0 Z = true) (w8 : (Cond.sameMethod y.cls owner y.name y.desc).before a0 Z = true) (w2 : (Cond.declares ⟨owner, y.name, y.desc⟩).before a0 Z = true) (w5 : (Cond.selects C y z).before a0 Z = true) (w6 : (Cond.instanceMethod z).before a0 Z = true) (w3 : (Cond.initialized z.cls).before a0 Z = true) (w4 : (Cond.code z bytes maxL ret).before a0 Z = true)
    (hy : owner ≠ "java/lang/invoke/MethodHandle" ∧ owner ≠ "java/lang/invoke/VarHandle") (E : Exa Z h b C)
    (hM : MetFree l z (head1 [Cond.code z bytes maxL ret] rm) (fun a U => a = as' ∧ Z.Warmed39 U.vm ∧ U.heap = h) (fun _ _ _ _ _ => True) (fun _ U o U' => ∃ v L, o = .returned v ∧ Q v U'.heap L ∧ FrameEnd U o U' L rm.cells rm.slots))
    (hf : rm.frames + 1 ≤ R.frames) (hl : W + (maxL + 11) + rm.locals ≤ R.locals) (hc : cells + rm.cells ≤ R.cells) (hs : slots + rm.slots ≤ R.slots) (eT : T.heap = h) (hsz : Ls.size = c.maxLocals) (hlen : ∀ sig, parseMethodDescriptor y.desc = some sig → argsL.length = sig.parameters.length)
    (hst : stk = argsL.reverse ++ .ref b :: rest) (has : (.ref b :: argsL).toArray = as') (hW : (rest.map fun v => v.category).sum ≤ W) (hd : decode c.code pc = .ok (.invokevirtual index, 3))
    (k : ∀ (v : Option Value) (T' : State) (L : List Loc), Stand p l e R s m args below meth c T' (locs ++ L) (cells + rm.cells) (slots + rm.slots) → Q v T'.heap L → oG p e below K (T'.setTop (mkF m (pc + 3) Ls (v.toList ++ rest)))) : oG p e below K (T.setTop (mkF m pc Ls stk)) := by
  obtain ⟨cq, kq, qa, qb, qc⟩ := isOf hZ eT E
  obtain ⟨v, _, ⟨T', L', k', n'⟩, -, X', ⟨L, hQ, h1, h2, h3⟩, st⟩ := X.virtualBackUp hx (x := y) (y := z) (owner := owner) hown (mvT hZ w1) (mvT hZ w8) (mvT hZ w2) hy (mvT hZ w5) (mvT hZ w6) (backOf (W := W) hM hZ w4 w3 hf hl) qa qc (g := mkF m pc Ls stk) rfl hsz (Steps.refl _) (argsL := argsL) (rest := rest) hlen hst (by show 2 * 0 + _ ≤ _; simpa using hW) hd (fun _ _ => ⟨has, eT, hc, hs⟩)
  dsimp only [Pt.U, Pt.locs, Pt.cells, Pt.slots] at X' h1 h2 h3 st hQ
  subst h1 h2 h3
  exact own_via st (k v T' L X' hQ)
end Calls
theorem own_fld_eq {Z : State} {h : Heap} {a : Addr} {C n d : String} {v w : Value} (F : Fld Z h a C n d v) (G : Fld Z h a C n d w) : v = w := Classical.byContradiction fun q => Fld.ne F G q rfl
theorem own_nsroot {Z : State} {a0 : Array Value} {O K : String} {n : Nat} (w : (Cond.noSuperclass O).before a0 Z = true) (wk : (Cond.instantiable K n).before a0 Z = true) (hn : O ≠ K) : NS Z O K := by
  obtain ⟨c, k, h1, h2, h3, -, -⟩ := Cond.noSuperclass_spec w
  obtain ⟨t, kt, g1, -⟩ := Cond.instantiable_spec wk
  have ne := ids_ne h1 g1 hn
  refine ⟨c, t, h1, g1, fun fuel => ?_⟩
  cases fuel with
  | zero => rfl
  | succ f => simp [Vm.isSubclassAux, ne, h2, h3]
theorem own_nsno {Z : State} {a0 : Array Value} {C S K : String} {n : Nat} (w : (Cond.superclass C S).before a0 Z = true) (wk : (Cond.instantiable K n).before a0 Z = true) (nn : NS Z C K) (hn : C ≠ K) : ∃ c t, Z.vm.findClass C = some c ∧ Z.vm.findClass K = some t ∧ Z.vm.assignable c t = false := by
  obtain ⟨c, t, h0, g0, n3⟩ := nn
  obtain ⟨p, k, kp, h1, h2, h3, h4, h5, -, h7⟩ := Cond.superclass_spec h0 w
  obtain ⟨t', kt, g1, g2, g5, g6, -⟩ := Cond.instantiable_spec wk
  cases g0.symm.trans g1
  have g7 : kt.isInterface = false := by simp only [Bool.or_eq_false_iff] at g6; exact g6.1
  have ne := ids_ne h0 g0 hn
  refine ⟨c, t, h0, g0, ?_⟩
  show Z.vm.assignableAux (255 + 1) c t = false
  simp [Vm.assignableAux, ne, h2, g2, h5, g5, g7, Vm.isSubclass, n3]
theorem own_arv_ne {Z : State} {h : Heap} {a b : Addr} {k1 k2 : ClassId} {t1 t2 : FieldType} {z1 z2 : Int32} {v1 v2 : List Value} {d1 d2 : Value} (A : Arv Z h a k1 t1 z1 v1 d1) (B : Arv Z h b k2 t2 z2 v2 d2) (q : ¬ z1 = z2) : a ≠ b := by
  refine arv_ne A B (Or.inl fun e => q ?_)
  obtain ⟨_, -, -, -, n1, -⟩ := A
  obtain ⟨_, -, -, -, n2, -⟩ := B
  simp only [Int32.lt_iff_toInt_lt, Int32.reduceToInt, Int32.toNatClampNeg] at n1 n2 e
  apply Int32.toInt_inj.mp
  omega
theorem own_ns_exa {Z : State} {h : Heap} {a : Addr} {C : String} (F : Exa Z h a C) : ∀ cell : Cell, h[a]? = some cell → cell.vm.isStatics = false := fun cell hc => by
  obtain ⟨c, _, h1, -, -, h4, -⟩ := F; cases h1.symm.trans hc; exact h4
theorem own_ns_arv {Z : State} {h : Heap} {a : Addr} {k : ClassId} {ty : FieldType} {z : Int32} {vs : List Value} {dv : Value} (F : Arv Z h a k ty z vs dv) : ∀ cell : Cell, h[a]? = some cell → cell.vm.isStatics = false := fun cell hc => by
  obtain ⟨c, A, -⟩ := F; cases A.1.symm.trans hc; exact A.plain
theorem own_sta_keep {Z : State} {h h' : Heap} {C f d : String} {v : Value} {ws : List Addr} (F : Sta Z h C f d v) (K : Keep h h' ws) (q : ∀ x ∈ ws, ∀ cell : Cell, h[x]? = some cell → cell.vm.isStatics = false) : Sta Z h' C f d v := by
  obtain ⟨cf, i, k, fl, st, cell, h1, h2, h3, h4, h5, h6, h7⟩ := F
  exact ⟨cf, i, k, fl, st, cell, h1, h2, h3, h4, K.2.1 _ _ h5 (fun hm => by rw [q _ hm _ h5] at h6; cases h6), h6, h7⟩
end Own
end Jvm.RoadKit
namespace Jvm.Pilot.@@N@@
open Jvm Jvm.ClassFile Sem Op Lib Jvm.Free Jvm.Stand Jvm.LawKit Jvm.RoadKit Bundle Jvm.Pilot.@@N@@.Jvm.D
theorem own_m (i : Nat) {d : Jvm.Cond} (h : tables_1[i]? = some d) : d ∈ tables_1 := List.mem_of_getElem? h
theorem own_eq_int {args : Array Value} {s first : State} {o : Option Outcome} {idx : List Nat} {t : Term} {k : Int32} (h : (Cond.eq t (.int k)).value args first o s idx = some true) : t.eval args first o idx s = some (.int k) := by
  obtain ⟨x, y, h1, h2, h3, h4⟩ := cmp_v (r := true) (Or.inl h)
  have e2 : y = .int k := (Option.some.inj h2).symm
  subst e2
  obtain ⟨z, rfl⟩ := h4
  have q := h
  simp only [Cond.value, h1, h2] at q
  have : z = k := by simpa using q
  rw [h1, this]
theorem own_eq_ref {args : Array Value} {s first : State} {o : Option Outcome} {idx : List Nat} {t u : Term} {a : Addr} (hu : u.eval args first o idx s = some (.ref a)) (h : (Cond.eq t u).value args first o s idx = some true) : t.eval args first o idx s = some (.ref a) := by
  obtain ⟨x, y, h1, h2, h3, h4⟩ := cmp_v (r := true) (Or.inl h)
  cases hu.symm.trans h2
  have q := h
  simp only [Cond.value, h1, h2] at q
  cases x <;> simp [Kin, Value.isRef] at h3 h4 q ⊢
  rw [h1, q]
theorem own_arv {s : State} {args : Array Value} {t : Term} {a : Addr} {c : Cell} {ty : FieldType} {z : Int32} {vs : List Value} {dv : Value} (hf : Fit s) (ev : t.eval args s none [] s = some (.ref a)) (A : Arr s s.heap a c ty) (hl : (Term.length t).eval args s none [] s = some (.int z)) (hz : ¬ z < 0) (hn : z.toNatClampNeg = vs.length) (H : HasL c 0 vs) : Arv s s.heap a c.cls ty z vs dv := by
  have hA := A.fin (Vm.Alike.refl _)
  by_cases hs : c.slots.size < 2 ^ 31
  · rw [len_f ev hA hs] at hl
    exact Arv.start hf A hs (Value.int.inj (Option.some.inj hl)) hz hn H
  · simp [Term.eval, ev, hA, hs] at hl

def own_Inv (Z : State) (h : Heap) (lo : Nat) (q cb : Addr) (w cnt : Int32) : Prop := ∃ (C_ S_ d0_ d1_ d2_ d3_ : Addr) (kC_ kS_ kb_ e0_ e1_ e2_ e3_ : ClassId) (s0_ s1_ s2_ s3_ m0_ m1_ m2_ m3_ bx_ by_ bz_ : Int32) (v0_ v1_ v2_ v3_ : List Value), Exa Z h q "com/example/candid_facts/candidfacts/Answer$Listed" ∧ Fld Z h q "com/example/candid_facts/candidfacts/Answer$Listed" "codes" "[[I" (.ref C_) ∧ Fld Z h q "com/example/candid_facts/candidfacts/Answer$Listed" "sizes" "[I" (.ref S_) ∧ Fld Z h q "com/example/candid_facts/candidfacts/Answer$Listed" "width" "I" (.int w) ∧ Arv Z h C_ kC_ (.array .int) (4 : Int32) [(.ref d0_), (.ref d1_), (.ref d2_), (.ref d3_)] .null ∧ OvrA Z kC_ .int "[I" ∧ Arv Z h S_ kS_ .int (4 : Int32) [(.int s0_), (.int s1_), (.int s2_), (.int s3_)] (.int (0 : Int32)) ∧ Arv Z h d0_ e0_ .int m0_ v0_ (.int (0 : Int32)) ∧ Arv Z h d1_ e1_ .int m1_ v1_ (.int (0 : Int32)) ∧ Arv Z h d2_ e2_ .int m2_ v2_ (.int (0 : Int32)) ∧ Arv Z h d3_ e3_ .int m3_ v3_ (.int (0 : Int32)) ∧ Arv Z h cb kb_ .int (3 : Int32) [(.int bx_), (.int by_), (.int bz_)] (.int (0 : Int32)) ∧ lo ≤ C_ ∧ lo ≤ S_ ∧ lo ≤ d0_ ∧ lo ≤ d1_ ∧ lo ≤ d2_ ∧ lo ≤ d3_ ∧ C_ ≠ S_ ∧ C_ ≠ d0_ ∧ C_ ≠ d1_ ∧ C_ ≠ d2_ ∧ C_ ≠ d3_ ∧ S_ ≠ d0_ ∧ S_ ≠ d1_ ∧ S_ ≠ d2_ ∧ S_ ≠ d3_ ∧ d0_ ≠ d1_ ∧ d0_ ≠ d2_ ∧ d0_ ≠ d3_ ∧ d1_ ≠ d2_ ∧ d1_ ≠ d3_ ∧ d2_ ≠ d3_ ∧ cb ≠ C_ ∧ cb ≠ S_ ∧ cb ≠ d0_ ∧ cb ≠ d1_ ∧ cb ≠ d2_ ∧ cb ≠ d3_ ∧ q ≠ C_ ∧ q ≠ S_ ∧ q ≠ d0_ ∧ q ≠ d1_ ∧ q ≠ d2_ ∧ q ≠ d3_ ∧ 0 ≤ s0_.toInt ∧ 0 ≤ s1_.toInt ∧ 0 ≤ s2_.toInt ∧ 0 ≤ s3_.toInt ∧ s0_.toInt + s1_.toInt + s2_.toInt + s3_.toInt = cnt.toInt ∧ (m0_ = 16 ∨ (m0_ = 0 ∧ (s0_.toInt = 0 ∨ w = 0))) ∧ (m1_ = 16 ∨ (m1_ = 0 ∧ (s1_.toInt = 0 ∨ w = 0))) ∧ (m2_ = 16 ∨ (m2_ = 0 ∧ (s2_.toInt = 0 ∨ w = 0))) ∧ (m3_ = 16 ∨ (m3_ = 0 ∧ (s3_.toInt = 0 ∨ w = 0))) ∧ v0_.length = m0_.toNatClampNeg ∧ v1_.length = m1_.toNatClampNeg ∧ v2_.length = m2_.toNatClampNeg ∧ v3_.length = m3_.toNatClampNeg ∧ (0 ≤ w.toInt ∧ w.toInt ≤ 3)
theorem own_prod (a w : Int32) : 0 ≤ a.toInt ∧ a.toInt ≤ 4 → 0 ≤ w.toInt ∧ w.toInt ≤ 3 → (w.toInt = 0 → (a * w).toInt = 0) ∧ (w.toInt = 1 → (a * w).toInt = a.toInt) ∧ (w.toInt = 2 → (a * w).toInt = 2 * a.toInt) ∧ (w.toInt = 3 → (a * w).toInt = 3 * a.toInt) := fun ha hw => by
  have q := c_imul a w
  have r := rng32 (a * w)
  have hw' : w.toInt = 0 ∨ w.toInt = 1 ∨ w.toInt = 2 ∨ w.toInt = 3 := by omega
  rcases hw' with e | e | e | e <;> rw [e] at q <;> omega
theorem own_tn (x : Int32) (h : 0 ≤ x.toInt) : (x.toNatClampNeg : Int) = x.toInt := by
  simp only [Int32.toNatClampNeg]; omega
theorem own_cplen {v us : List Value} {a b n : Nat} (h : a + b ≤ v.length) (hu : us.length = b) (hn : v.length = n) : (v.take a ++ us ++ v.drop (a + b)).length = n := by
  simp only [List.length_append, List.length_take, List.length_drop]; omega
theorem dc5_0 : decode prog_2_method_2_code 0 = .ok (.aload_n 2, 1) := by decide +kernel
theorem dc5_1 : decode prog_2_method_2_code 1 = .ok (.invokevirtual 28, 3) := by decide +kernel
theorem dc6_0 : decode jdk_37_method_2_code 0 = .ok (.aload_n 0, 1) := by decide +kernel
theorem dc6_1 : decode jdk_37_method_2_code 1 = .ok (.getfield 7, 3) := by decide +kernel
theorem dc6_4 : decode jdk_37_method_2_code 4 = .ok (.ireturn, 1) := by decide +kernel
theorem own_pn_java_lang_Enum : plainName "java/lang/Enum" = true := by first | (simp [plainName, overriddenIn]; done) | decide +kernel
def Q_ordinal_0 (Z : State) (h0 : Heap) (n0 : Nat) (v : Option Value) (h : Heap) (L : List Loc) : Prop := v = some (.int (0 : Int32)) ∧ Fr n0 L ∧ h = h0
set_option maxRecDepth 65536 in
set_option maxHeartbeats 40000000 in
theorem rm_ordinal_0 (l : Launch) (Z : State) (a0 : Array Value) (hw : ∀ d ∈ tables_1, d.before a0 Z = true) (ws : List Jvm.Cond) (o0 : Addr) (h0 : Heap) (n0 : Nat) (Z0 : n0 ≤ h0.size) (P0 : Fld Z h0 o0 "java/lang/Enum" "ordinal" "I" (.int (0 : Int32))) :
    MetFree l (⟨"java/lang/Enum", "ordinal", "()I"⟩ : MethodName) (head1 (Jvm.Cond.code (⟨"java/lang/Enum", "ordinal", "()I"⟩ : MethodName) jdk_37_method_2_code 1 (some .int) :: ws) ({ frames := 0, cells := 0, slots := 0, locals := 0 } : Room)) (fun aA U => aA = #[(.ref o0)] ∧ Z.Warmed39 U.vm ∧ U.heap = h0) (fun _ _ _ _ _ => True) (fun _ U o U' => ∃ v L, o = .returned v ∧ Q_ordinal_0 Z h0 n0 v U'.heap L ∧ FrameEnd U o U' L ({ frames := 0, cells := 0, slots := 0, locals := 0 } : Room).cells ({ frames := 0, cells := 0, slots := 0, locals := 0 } : Room).slots) := by
  refine MetFree.of_bodySF (plainFor_of_name own_pn_java_lang_Enum) hisR ?_
  intro p e s m args below meth c s₁ Bd hml0 hP hK
  obtain ⟨rfl, hZ, hh⟩ := hP
  have hx := Bd.exec
  have hby := Bd.bytes
  have hlk : meth.locks = false := BodyLoose.notSynchronized Bd
  have hml : c.maxLocals = 1 := hml0
  have hown : s.vm.findClass "java/lang/Enum" = some m.cls := findClass_of_methodNamed Bd.named
  have hnm := (name_of_methodNamed Bd.named Bd.method).1
  have X0 : Stand p l e ({ frames := 0, cells := 0, slots := 0, locals := 0 } : Room) s m #[(.ref o0)] below meth c s₁ [] 0 0 := Stand.of_body Bd
  have e0 : s₁.heap = h0 := by rw [← hh, Bd.state]; rfl
  have N0 := Fr.nil n0
  show oG p e below (own_K s (Q_ordinal_0 Z h0 n0) ({ frames := 0, cells := 0, slots := 0, locals := 0 } : Room).cells ({ frames := 0, cells := 0, slots := 0, locals := 0 } : Room).slots) (s₁.setTop (entryFrame m #[(.ref o0)] 1))
  rw [(by first | (simp [entryFrame, mkF, argsToLocals, Value.category]; done) | rfl : entryFrame m #[(.ref o0)] 1 = mkF m 0 #[.val (.ref o0)] [])]
  show oG p e below _ (s₁.setTop (mkF m 0 #[.val (.ref o0)] []))
  refine og (fun _ hr => XS.aloadN X0.here hx rfl (hb hby dc6_0) rfl rfl hr) ?_
  show oG p e below _ (s₁.setTop (mkF m 1 #[.val (.ref o0)] [(.ref o0)]))
  obtain ⟨T1, X1, e1, st1⟩ := getF X0 hx hZ hown (host := "") (Or.inl (hw _ (own_m 56 rfl))) Via.refl e0 P0 (g := (mkF m 1 #[.val (.ref o0)] [(.ref o0)])) rfl rfl (hb hby dc6_1)
  refine og st1 ?_
  show oG p e below _ (T1.setTop (mkF m 4 #[.val (.ref o0)] [(.int (0 : Int32))]))
  exact own_retI X1 hx hlk Bd.returns (hb hby dc6_4) (by decide) (by decide) ⟨rfl, N0, e1⟩
theorem own_pd0 : parseMethodDescriptor "()I" = some ⟨[], some .int⟩ := by decide +kernel
theorem dc5_4 : decode prog_2_method_2_code 4 = .ok (.istore_n 3, 1) := by decide +kernel
theorem dc5_5 : decode prog_2_method_2_code 5 = .ok (.aload_n 0, 1) := by decide +kernel
theorem dc5_6 : decode prog_2_method_2_code 6 = .ok (.getfield 21, 3) := by decide +kernel
theorem dc5_9 : decode prog_2_method_2_code 9 = .ok (.iload_n 3, 1) := by decide +kernel
theorem dc5_10 : decode prog_2_method_2_code 10 = .ok (.iaload, 1) := by decide +kernel
theorem dc5_11 : decode prog_2_method_2_code 11 = .ok (.iconst 1, 1) := by decide +kernel
theorem dc5_12 : decode prog_2_method_2_code 12 = .ok (.iadd, 1) := by decide +kernel
theorem dc5_13 : decode prog_2_method_2_code 13 = .ok (.aload_n 0, 1) := by decide +kernel
theorem dc5_14 : decode prog_2_method_2_code 14 = .ok (.getfield 24, 3) := by decide +kernel
theorem dc5_17 : decode prog_2_method_2_code 17 = .ok (.imul, 1) := by decide +kernel
theorem dc5_18 : decode prog_2_method_2_code 18 = .ok (.istore 4, 2) := by decide +kernel
theorem dc5_20 : decode prog_2_method_2_code 20 = .ok (.iload 4, 2) := by decide +kernel
theorem dc5_22 : decode prog_2_method_2_code 22 = .ok (.aload_n 0, 1) := by decide +kernel
theorem dc5_23 : decode prog_2_method_2_code 23 = .ok (.getfield 15, 3) := by decide +kernel
theorem dc5_26 : decode prog_2_method_2_code 26 = .ok (.iload_n 3, 1) := by decide +kernel
theorem dc5_27 : decode prog_2_method_2_code 27 = .ok (.aaload, 1) := by decide +kernel
theorem dc5_28 : decode prog_2_method_2_code 28 = .ok (.arraylength, 1) := by decide +kernel
theorem dc5_29 : decode prog_2_method_2_code 29 = .ok (.if_icmp .le 41, 3) := by decide +kernel
theorem dc5_70 : decode prog_2_method_2_code 70 = .ok (.aload_n 1, 1) := by decide +kernel
theorem dc5_71 : decode prog_2_method_2_code 71 = .ok (.iconst 0, 1) := by decide +kernel
theorem dc5_72 : decode prog_2_method_2_code 72 = .ok (.aload_n 0, 1) := by decide +kernel
theorem dc5_73 : decode prog_2_method_2_code 73 = .ok (.getfield 15, 3) := by decide +kernel
theorem dc5_76 : decode prog_2_method_2_code 76 = .ok (.iload_n 3, 1) := by decide +kernel
theorem dc5_77 : decode prog_2_method_2_code 77 = .ok (.aaload, 1) := by decide +kernel
theorem dc5_78 : decode prog_2_method_2_code 78 = .ok (.aload_n 0, 1) := by decide +kernel
theorem dc5_79 : decode prog_2_method_2_code 79 = .ok (.getfield 21, 3) := by decide +kernel
theorem dc5_82 : decode prog_2_method_2_code 82 = .ok (.iload_n 3, 1) := by decide +kernel
theorem dc5_83 : decode prog_2_method_2_code 83 = .ok (.iaload, 1) := by decide +kernel
theorem dc5_84 : decode prog_2_method_2_code 84 = .ok (.aload_n 0, 1) := by decide +kernel
theorem dc5_85 : decode prog_2_method_2_code 85 = .ok (.getfield 24, 3) := by decide +kernel
theorem dc5_88 : decode prog_2_method_2_code 88 = .ok (.imul, 1) := by decide +kernel
theorem dc5_89 : decode prog_2_method_2_code 89 = .ok (.aload_n 0, 1) := by decide +kernel
theorem dc5_90 : decode prog_2_method_2_code 90 = .ok (.getfield 24, 3) := by decide +kernel
theorem dc5_93 : decode prog_2_method_2_code 93 = .ok (.invokestatic 44, 3) := by decide +kernel
theorem dc5_96 : decode prog_2_method_2_code 96 = .ok (.aload_n 0, 1) := by decide +kernel
theorem dc5_97 : decode prog_2_method_2_code 97 = .ok (.getfield 21, 3) := by decide +kernel
theorem dc5_100 : decode prog_2_method_2_code 100 = .ok (.iload_n 3, 1) := by decide +kernel
theorem dc5_101 : decode prog_2_method_2_code 101 = .ok (.dup2, 1) := by decide +kernel
theorem dc5_102 : decode prog_2_method_2_code 102 = .ok (.iaload, 1) := by decide +kernel
theorem dc5_103 : decode prog_2_method_2_code 103 = .ok (.iconst 1, 1) := by decide +kernel
theorem dc5_104 : decode prog_2_method_2_code 104 = .ok (.iadd, 1) := by decide +kernel
theorem dc5_105 : decode prog_2_method_2_code 105 = .ok (.iastore, 1) := by decide +kernel
theorem dc5_106 : decode prog_2_method_2_code 106 = .ok (.return_, 1) := by decide +kernel
theorem dc5_32 : decode prog_2_method_2_code 32 = .ok (.bipush 16, 2) := by decide +kernel
theorem dc5_34 : decode prog_2_method_2_code 34 = .ok (.iconst 2, 1) := by decide +kernel
theorem dc5_35 : decode prog_2_method_2_code 35 = .ok (.aload_n 0, 1) := by decide +kernel
theorem dc5_36 : decode prog_2_method_2_code 36 = .ok (.getfield 15, 3) := by decide +kernel
theorem dc5_39 : decode prog_2_method_2_code 39 = .ok (.iload_n 3, 1) := by decide +kernel
theorem dc5_40 : decode prog_2_method_2_code 40 = .ok (.aaload, 1) := by decide +kernel
theorem dc5_41 : decode prog_2_method_2_code 41 = .ok (.arraylength, 1) := by decide +kernel
theorem dc5_42 : decode prog_2_method_2_code 42 = .ok (.imul, 1) := by decide +kernel
theorem dc5_43 : decode prog_2_method_2_code 43 = .ok (.invokestatic 32, 3) := by decide +kernel
theorem dc8_0 : decode jdk_29_method_65_code 0 = .ok (.iload_n 0, 1) := by decide +kernel
theorem dc8_1 : decode jdk_29_method_65_code 1 = .ok (.iload_n 1, 1) := by decide +kernel
theorem dc8_2 : decode jdk_29_method_65_code 2 = .ok (.if_icmp .lt 7, 3) := by decide +kernel
theorem dc8_5 : decode jdk_29_method_65_code 5 = .ok (.iload_n 0, 1) := by decide +kernel
theorem dc8_6 : decode jdk_29_method_65_code 6 = .ok (.goto 4, 3) := by decide +kernel
theorem dc8_10 : decode jdk_29_method_65_code 10 = .ok (.ireturn, 1) := by decide +kernel
def Q_max_1 (Z : State) (h0 : Heap) (n0 : Nat) (v : Option Value) (h : Heap) (L : List Loc) : Prop := v = some (.int (16 : Int32)) ∧ Fr n0 L ∧ h = h0
set_option maxRecDepth 65536 in
set_option maxHeartbeats 40000000 in
theorem rm_max_1 (l : Launch) (Z : State) (a0 : Array Value) (hw : ∀ d ∈ tables_1, d.before a0 Z = true) (ws : List Jvm.Cond) (h0 : Heap) (n0 : Nat) (Z0 : n0 ≤ h0.size) :
    MetFree l (⟨"java/lang/Math", "max", "(II)I"⟩ : MethodName) (head1 (Jvm.Cond.code (⟨"java/lang/Math", "max", "(II)I"⟩ : MethodName) jdk_29_method_65_code 2 (some .int) :: ws) ({ frames := 0, cells := 0, slots := 0, locals := 0 } : Room)) (fun aA U => aA = #[(.int (16 : Int32)), (.int (0 : Int32))] ∧ Z.Warmed39 U.vm ∧ U.heap = h0) (fun _ _ _ _ _ => True) (fun _ U o U' => ∃ v L, o = .returned v ∧ Q_max_1 Z h0 n0 v U'.heap L ∧ FrameEnd U o U' L ({ frames := 0, cells := 0, slots := 0, locals := 0 } : Room).cells ({ frames := 0, cells := 0, slots := 0, locals := 0 } : Room).slots) := by
  refine MetFree.of_bodySF (Jvm.Free.JP.mathPlain rfl (by decide +kernel)) hisR ?_
  intro p e s m args below meth c s₁ Bd hml0 hP hK
  obtain ⟨rfl, hZ, hh⟩ := hP
  have hx := Bd.exec
  have hby := Bd.bytes
  have hlk : meth.locks = false := BodyLoose.notSynchronized Bd
  have hml : c.maxLocals = 2 := hml0
  have hown : s.vm.findClass "java/lang/Math" = some m.cls := findClass_of_methodNamed Bd.named
  have hnm := (name_of_methodNamed Bd.named Bd.method).1
  have X0 : Stand p l e ({ frames := 0, cells := 0, slots := 0, locals := 0 } : Room) s m #[(.int (16 : Int32)), (.int (0 : Int32))] below meth c s₁ [] 0 0 := Stand.of_body Bd
  have e0 : s₁.heap = h0 := by rw [← hh, Bd.state]; rfl
  have N0 := Fr.nil n0
  show oG p e below (own_K s (Q_max_1 Z h0 n0) ({ frames := 0, cells := 0, slots := 0, locals := 0 } : Room).cells ({ frames := 0, cells := 0, slots := 0, locals := 0 } : Room).slots) (s₁.setTop (entryFrame m #[(.int (16 : Int32)), (.int (0 : Int32))] 2))
  rw [(by first | (simp [entryFrame, mkF, argsToLocals, Value.category]; done) | rfl : entryFrame m #[(.int (16 : Int32)), (.int (0 : Int32))] 2 = mkF m 0 #[.val (.int (16 : Int32)), .val (.int (0 : Int32))] [])]
  show oG p e below _ (s₁.setTop (mkF m 0 #[.val (.int (16 : Int32)), .val (.int (0 : Int32))] []))
  refine og (fun _ hr => XS.iloadN X0.here hx rfl (hb hby dc8_0) rfl (XS.iloadN X0.here hx rfl (hb hby dc8_1) rfl (XS.icmpNo X0.here hx rfl (hb hby dc8_2) rfl (flt (by decide)).1 (XS.iloadN X0.here hx rfl (hb hby dc8_5) rfl (XS.goto X0.here hx rfl (pc0 := 6) (pc' := 10) rfl (hb hby dc8_6) (by decide) (by decide) hr))))) ?_
  show oG p e below _ (s₁.setTop (mkF m 10 #[.val (.int (16 : Int32)), .val (.int (0 : Int32))] [(.int (16 : Int32))]))
  exact own_retI X0 hx hlk Bd.returns (hb hby dc8_10) (by decide) (by decide) ⟨rfl, N0, e0⟩
theorem own_pd1 : parseMethodDescriptor "(II)I" = some ⟨[.int, .int], some .int⟩ := by decide +kernel
theorem dc5_46 : decode prog_2_method_2_code 46 = .ok (.istore 5, 2) := by decide +kernel
theorem dc5_48 : decode prog_2_method_2_code 48 = .ok (.aload_n 0, 1) := by decide +kernel
theorem dc5_49 : decode prog_2_method_2_code 49 = .ok (.getfield 15, 3) := by decide +kernel
theorem dc5_52 : decode prog_2_method_2_code 52 = .ok (.iload_n 3, 1) := by decide +kernel
theorem dc5_53 : decode prog_2_method_2_code 53 = .ok (.aload_n 0, 1) := by decide +kernel
theorem dc5_54 : decode prog_2_method_2_code 54 = .ok (.getfield 15, 3) := by decide +kernel
theorem dc5_57 : decode prog_2_method_2_code 57 = .ok (.iload_n 3, 1) := by decide +kernel
theorem dc5_58 : decode prog_2_method_2_code 58 = .ok (.aaload, 1) := by decide +kernel
theorem dc5_59 : decode prog_2_method_2_code 59 = .ok (.iload 4, 2) := by decide +kernel
theorem dc5_61 : decode prog_2_method_2_code 61 = .ok (.iload 5, 2) := by decide +kernel
theorem dc5_63 : decode prog_2_method_2_code 63 = .ok (.invokestatic 32, 3) := by decide +kernel
theorem dc8_9 : decode jdk_29_method_65_code 9 = .ok (.iload_n 1, 1) := by decide +kernel
def Q_max_2 (Z : State) (h0 : Heap) (n0 : Nat) (v : Option Value) (h : Heap) (L : List Loc) : Prop := v = some (.int (16 : Int32)) ∧ Fr n0 L ∧ h = h0
set_option maxRecDepth 65536 in
set_option maxHeartbeats 40000000 in
theorem rm_max_2 (l : Launch) (Z : State) (a0 : Array Value) (hw : ∀ d ∈ tables_1, d.before a0 Z = true) (ws : List Jvm.Cond) (y0 : Int32) (h0 : Heap) (n0 : Nat) (Z0 : n0 ≤ h0.size) (hb0 : y0 < (16 : Int32)) :
    MetFree l (⟨"java/lang/Math", "max", "(II)I"⟩ : MethodName) (head1 (Jvm.Cond.code (⟨"java/lang/Math", "max", "(II)I"⟩ : MethodName) jdk_29_method_65_code 2 (some .int) :: ws) ({ frames := 0, cells := 0, slots := 0, locals := 0 } : Room)) (fun aA U => aA = #[(.int y0), (.int (16 : Int32))] ∧ Z.Warmed39 U.vm ∧ U.heap = h0) (fun _ _ _ _ _ => True) (fun _ U o U' => ∃ v L, o = .returned v ∧ Q_max_2 Z h0 n0 v U'.heap L ∧ FrameEnd U o U' L ({ frames := 0, cells := 0, slots := 0, locals := 0 } : Room).cells ({ frames := 0, cells := 0, slots := 0, locals := 0 } : Room).slots) := by
  refine MetFree.of_bodySF (Jvm.Free.JP.mathPlain rfl (by decide +kernel)) hisR ?_
  intro p e s m args below meth c s₁ Bd hml0 hP hK
  obtain ⟨rfl, hZ, hh⟩ := hP
  have hx := Bd.exec
  have hby := Bd.bytes
  have hlk : meth.locks = false := BodyLoose.notSynchronized Bd
  have hml : c.maxLocals = 2 := hml0
  have hown : s.vm.findClass "java/lang/Math" = some m.cls := findClass_of_methodNamed Bd.named
  have hnm := (name_of_methodNamed Bd.named Bd.method).1
  have X0 : Stand p l e ({ frames := 0, cells := 0, slots := 0, locals := 0 } : Room) s m #[(.int y0), (.int (16 : Int32))] below meth c s₁ [] 0 0 := Stand.of_body Bd
  have e0 : s₁.heap = h0 := by rw [← hh, Bd.state]; rfl
  have N0 := Fr.nil n0
  show oG p e below (own_K s (Q_max_2 Z h0 n0) ({ frames := 0, cells := 0, slots := 0, locals := 0 } : Room).cells ({ frames := 0, cells := 0, slots := 0, locals := 0 } : Room).slots) (s₁.setTop (entryFrame m #[(.int y0), (.int (16 : Int32))] 2))
  rw [(by first | (simp [entryFrame, mkF, argsToLocals, Value.category]; done) | rfl : entryFrame m #[(.int y0), (.int (16 : Int32))] 2 = mkF m 0 #[.val (.int y0), .val (.int (16 : Int32))] [])]
  show oG p e below _ (s₁.setTop (mkF m 0 #[.val (.int y0), .val (.int (16 : Int32))] []))
  refine og (fun _ hr => XS.iloadN X0.here hx rfl (hb hby dc8_0) rfl (XS.iloadN X0.here hx rfl (hb hby dc8_1) rfl hr)) ?_
  show oG p e below _ (s₁.setTop (mkF m 2 #[.val (.int y0), .val (.int (16 : Int32))] [(.int (16 : Int32)), (.int y0)]))
  refine og (fun _ hr => XS.icmpYes X0.here hx rfl (pc0 := 2) (pc' := 9) rfl (hb hby dc8_2) rfl (tlt hb0).1 (by decide) (by decide) hr) ?_
  show oG p e below _ (s₁.setTop (mkF m 9 #[.val (.int y0), .val (.int (16 : Int32))] []))
  refine og (fun _ hr => XS.iloadN X0.here hx rfl (hb hby dc8_9) rfl hr) ?_
  show oG p e below _ (s₁.setTop (mkF m 10 #[.val (.int y0), .val (.int (16 : Int32))] [(.int (16 : Int32))]))
  exact own_retI X0 hx hlk Bd.returns (hb hby dc8_10) (by decide) (by decide) ⟨rfl, N0, e0⟩
theorem dc5_66 : decode prog_2_method_2_code 66 = .ok (.invokestatic 38, 3) := by decide +kernel
theorem dc9_0 : decode jdk_65_method_123_code 0 = .ok (.iload_n 1, 1) := by decide +kernel
theorem dc9_1 : decode jdk_65_method_123_code 1 = .ok (.aload_n 0, 1) := by decide +kernel
theorem dc9_2 : decode jdk_65_method_123_code 2 = .ok (.arraylength, 1) := by decide +kernel
theorem dc9_3 : decode jdk_65_method_123_code 3 = .ok (.if_icmp .ne 11, 3) := by decide +kernel
theorem dc9_14 : decode jdk_65_method_123_code 14 = .ok (.iload_n 1, 1) := by decide +kernel
theorem dc9_15 : decode jdk_65_method_123_code 15 = .ok (.newarray .int, 2) := by decide +kernel
theorem dc9_17 : decode jdk_65_method_123_code 17 = .ok (.astore_n 2, 1) := by decide +kernel
theorem dc9_18 : decode jdk_65_method_123_code 18 = .ok (.aload_n 0, 1) := by decide +kernel
theorem dc9_19 : decode jdk_65_method_123_code 19 = .ok (.iconst 0, 1) := by decide +kernel
theorem dc9_20 : decode jdk_65_method_123_code 20 = .ok (.aload_n 2, 1) := by decide +kernel
theorem dc9_21 : decode jdk_65_method_123_code 21 = .ok (.iconst 0, 1) := by decide +kernel
theorem dc9_22 : decode jdk_65_method_123_code 22 = .ok (.aload_n 0, 1) := by decide +kernel
theorem dc9_23 : decode jdk_65_method_123_code 23 = .ok (.arraylength, 1) := by decide +kernel
theorem dc9_24 : decode jdk_65_method_123_code 24 = .ok (.iload_n 1, 1) := by decide +kernel
theorem dc9_25 : decode jdk_65_method_123_code 25 = .ok (.invokestatic 304, 3) := by decide +kernel
theorem dc10_0 : decode jdk_29_method_69_code 0 = .ok (.iload_n 0, 1) := by decide +kernel
theorem dc10_1 : decode jdk_29_method_69_code 1 = .ok (.iload_n 1, 1) := by decide +kernel
theorem dc10_2 : decode jdk_29_method_69_code 2 = .ok (.if_icmp .gt 7, 3) := by decide +kernel
theorem dc10_5 : decode jdk_29_method_69_code 5 = .ok (.iload_n 0, 1) := by decide +kernel
theorem dc10_6 : decode jdk_29_method_69_code 6 = .ok (.goto 4, 3) := by decide +kernel
theorem dc10_10 : decode jdk_29_method_69_code 10 = .ok (.ireturn, 1) := by decide +kernel
def Q_min_3 (Z : State) (h0 : Heap) (n0 : Nat) (v : Option Value) (h : Heap) (L : List Loc) : Prop := v = some (.int (0 : Int32)) ∧ Fr n0 L ∧ h = h0
set_option maxRecDepth 65536 in
set_option maxHeartbeats 40000000 in
theorem rm_min_3 (l : Launch) (Z : State) (a0 : Array Value) (hw : ∀ d ∈ tables_1, d.before a0 Z = true) (ws : List Jvm.Cond) (h0 : Heap) (n0 : Nat) (Z0 : n0 ≤ h0.size) :
    MetFree l (⟨"java/lang/Math", "min", "(II)I"⟩ : MethodName) (head1 (Jvm.Cond.code (⟨"java/lang/Math", "min", "(II)I"⟩ : MethodName) jdk_29_method_69_code 2 (some .int) :: ws) ({ frames := 0, cells := 0, slots := 0, locals := 0 } : Room)) (fun aA U => aA = #[(.int (0 : Int32)), (.int (16 : Int32))] ∧ Z.Warmed39 U.vm ∧ U.heap = h0) (fun _ _ _ _ _ => True) (fun _ U o U' => ∃ v L, o = .returned v ∧ Q_min_3 Z h0 n0 v U'.heap L ∧ FrameEnd U o U' L ({ frames := 0, cells := 0, slots := 0, locals := 0 } : Room).cells ({ frames := 0, cells := 0, slots := 0, locals := 0 } : Room).slots) := by
  refine MetFree.of_bodySF (Jvm.Free.JP.mathPlain rfl (by decide +kernel)) hisR ?_
  intro p e s m args below meth c s₁ Bd hml0 hP hK
  obtain ⟨rfl, hZ, hh⟩ := hP
  have hx := Bd.exec
  have hby := Bd.bytes
  have hlk : meth.locks = false := BodyLoose.notSynchronized Bd
  have hml : c.maxLocals = 2 := hml0
  have hown : s.vm.findClass "java/lang/Math" = some m.cls := findClass_of_methodNamed Bd.named
  have hnm := (name_of_methodNamed Bd.named Bd.method).1
  have X0 : Stand p l e ({ frames := 0, cells := 0, slots := 0, locals := 0 } : Room) s m #[(.int (0 : Int32)), (.int (16 : Int32))] below meth c s₁ [] 0 0 := Stand.of_body Bd
  have e0 : s₁.heap = h0 := by rw [← hh, Bd.state]; rfl
  have N0 := Fr.nil n0
  show oG p e below (own_K s (Q_min_3 Z h0 n0) ({ frames := 0, cells := 0, slots := 0, locals := 0 } : Room).cells ({ frames := 0, cells := 0, slots := 0, locals := 0 } : Room).slots) (s₁.setTop (entryFrame m #[(.int (0 : Int32)), (.int (16 : Int32))] 2))
  rw [(by first | (simp [entryFrame, mkF, argsToLocals, Value.category]; done) | rfl : entryFrame m #[(.int (0 : Int32)), (.int (16 : Int32))] 2 = mkF m 0 #[.val (.int (0 : Int32)), .val (.int (16 : Int32))] [])]
  show oG p e below _ (s₁.setTop (mkF m 0 #[.val (.int (0 : Int32)), .val (.int (16 : Int32))] []))
  refine og (fun _ hr => XS.iloadN X0.here hx rfl (hb hby dc10_0) rfl (XS.iloadN X0.here hx rfl (hb hby dc10_1) rfl (XS.icmpNo X0.here hx rfl (hb hby dc10_2) rfl (flt (by decide)).2.2.1 (XS.iloadN X0.here hx rfl (hb hby dc10_5) rfl (XS.goto X0.here hx rfl (pc0 := 6) (pc' := 10) rfl (hb hby dc10_6) (by decide) (by decide) hr))))) ?_
  show oG p e below _ (s₁.setTop (mkF m 10 #[.val (.int (0 : Int32)), .val (.int (16 : Int32))] [(.int (0 : Int32))]))
  exact own_retI X0 hx hlk Bd.returns (hb hby dc10_10) (by decide) (by decide) ⟨rfl, N0, e0⟩
theorem dc9_28 : decode jdk_65_method_123_code 28 = .ok (.invokestatic 150, 3) := by decide +kernel
theorem dc9_31 : decode jdk_65_method_123_code 31 = .ok (.aload_n 2, 1) := by decide +kernel
theorem dc9_32 : decode jdk_65_method_123_code 32 = .ok (.areturn, 1) := by decide +kernel
theorem own_pn_java_util_Arrays : plainName "java/util/Arrays" = true := by first | (simp [plainName, overriddenIn]; done) | decide +kernel
def Q_copyOf_4 (Z : State) (h0 : Heap) (n0 : Nat) (v : Option Value) (h : Heap) (L : List Loc) : Prop := (∃ (b1 : Addr) (k1 : ClassId), v = some (.ref b1) ∧ Fr n0 L ∧ Keep h0 h [] ∧ n0 ≤ b1 ∧ h0.size ≤ b1 ∧ Exa Z h b1 "[I" ∧ Arv Z h b1 k1 .int (16 : Int32) [(.int (0 : Int32)), (.int (0 : Int32)), (.int (0 : Int32)), (.int (0 : Int32)), (.int (0 : Int32)), (.int (0 : Int32)), (.int (0 : Int32)), (.int (0 : Int32)), (.int (0 : Int32)), (.int (0 : Int32)), (.int (0 : Int32)), (.int (0 : Int32)), (.int (0 : Int32)), (.int (0 : Int32)), (.int (0 : Int32)), (.int (0 : Int32))] (.int (0 : Int32)))
set_option maxRecDepth 65536 in
set_option maxHeartbeats 40000000 in
theorem rm_copyOf_4 (l : Launch) (Z : State) (a0 : Array Value) (hw : ∀ d ∈ tables_1, d.before a0 Z = true) (ws : List Jvm.Cond) (o0 : Addr) (kc0 : ClassId) (h0 : Heap) (n0 : Nat) (Z0 : n0 ≤ h0.size) (P0 : Arv Z h0 o0 kc0 .int (0 : Int32) [] (.int (0 : Int32))) :
    MetFree l (⟨"java/util/Arrays", "copyOf", "([II)[I"⟩ : MethodName) (head1 (Jvm.Cond.code (⟨"java/util/Arrays", "copyOf", "([II)[I"⟩ : MethodName) jdk_65_method_123_code 3 (some (.array .int)) :: ws) ({ frames := 1, cells := 1, slots := 16, locals := 40 } : Room)) (fun aA U => aA = #[(.ref o0), (.int (16 : Int32))] ∧ Z.Warmed39 U.vm ∧ U.heap = h0) (fun _ _ _ _ _ => True) (fun _ U o U' => ∃ v L, o = .returned v ∧ Q_copyOf_4 Z h0 n0 v U'.heap L ∧ FrameEnd U o U' L ({ frames := 1, cells := 1, slots := 16, locals := 40 } : Room).cells ({ frames := 1, cells := 1, slots := 16, locals := 40 } : Room).slots) := by
  refine MetFree.of_bodySF (plainFor_of_name own_pn_java_util_Arrays) hisR ?_
  intro p e s m args below meth c s₁ Bd hml0 hP hK
  obtain ⟨rfl, hZ, hh⟩ := hP
  have hx := Bd.exec
  have hby := Bd.bytes
  have hlk : meth.locks = false := BodyLoose.notSynchronized Bd
  have hml : c.maxLocals = 3 := hml0
  have hown : s.vm.findClass "java/util/Arrays" = some m.cls := findClass_of_methodNamed Bd.named
  have hnm := (name_of_methodNamed Bd.named Bd.method).1
  have X0 : Stand p l e ({ frames := 1, cells := 1, slots := 16, locals := 40 } : Room) s m #[(.ref o0), (.int (16 : Int32))] below meth c s₁ [] 0 0 := Stand.of_body Bd
  have e0 : s₁.heap = h0 := by rw [← hh, Bd.state]; rfl
  have N0 := Fr.nil n0
  have K0 : Keep h0 h0 [] := Keep.refl _ _
  show oG p e below (own_K s (Q_copyOf_4 Z h0 n0) ({ frames := 1, cells := 1, slots := 16, locals := 40 } : Room).cells ({ frames := 1, cells := 1, slots := 16, locals := 40 } : Room).slots) (s₁.setTop (entryFrame m #[(.ref o0), (.int (16 : Int32))] 3))
  rw [(by first | (simp [entryFrame, mkF, argsToLocals, Value.category]; done) | rfl : entryFrame m #[(.ref o0), (.int (16 : Int32))] 3 = mkF m 0 #[.val (.ref o0), .val (.int (16 : Int32)), .unset] [])]
  show oG p e below _ (s₁.setTop (mkF m 0 #[.val (.ref o0), .val (.int (16 : Int32)), .unset] []))
  refine og (fun _ hr => XS.iloadN X0.here hx rfl (hb hby dc9_0) rfl (XS.aloadN X0.here hx rfl (hb hby dc9_1) rfl rfl (own_alen X0 hx hZ e0 P0 rfl rfl (hb hby dc9_2) (XS.icmpYes X0.here hx rfl (pc0 := 3) (pc' := 14) rfl (hb hby dc9_3) rfl (feq (by decide)).2 (by decide) (by decide) (XS.iloadN X0.here hx rfl (hb hby dc9_14) rfl hr))))) ?_
  show oG p e below _ (s₁.setTop (mkF m 15 #[.val (.ref o0), .val (.int (16 : Int32)), .unset] [(.int (16 : Int32))]))
  obtain ⟨T1, h1, k1, X1, e1, E1, A1, EA1, st1⟩ := newPE X0 hx hZ (hw _ (own_m 0 rfl)) e0 (g := (mkF m 15 #[.val (.ref o0), .val (.int (16 : Int32)), .unset] [(.int (16 : Int32))])) rfl (hb hby dc9_15) rfl (by decide) (cap := 16) (by decide) (by decide) (by decide) (by decide) (ad := "[I") (by decide)
  obtain ⟨b1, g1⟩ : ∃ z, z = h0.size := ⟨_, rfl⟩
  rw [← g1] at A1 EA1 st1
  have ge2 : n0 ≤ b1 := Nat.le_trans Z0 (Nat.le_of_eq g1.symm)
  have sz3 : h0.size ≤ b1 := Nat.le_trans K0.1 (Nat.le_of_eq g1.symm)
  refine og st1 ?_
  have f4 : Arv Z h1 b1 k1 .int (16 : Int32) [(.int (0 : Int32)), (.int (0 : Int32)), (.int (0 : Int32)), (.int (0 : Int32)), (.int (0 : Int32)), (.int (0 : Int32)), (.int (0 : Int32)), (.int (0 : Int32)), (.int (0 : Int32)), (.int (0 : Int32)), (.int (0 : Int32)), (.int (0 : Int32)), (.int (0 : Int32)), (.int (0 : Int32)), (.int (0 : Int32)), (.int (0 : Int32))] (.int (0 : Int32)) := (Arv.new A1 (by decide)).pad (pad_rep [] (.int (0 : Int32)) 16)
  show oG p e below _ (T1.setTop (mkF m 17 #[.val (.ref o0), .val (.int (16 : Int32)), .unset] [(.ref b1)]))
  have f5 := (P0.ext E1)
  refine og (fun _ hr => XS.astoreN X1.here hx rfl (hb hby dc9_17) rfl rfl (l' := #[.val (.ref o0), .val (.int (16 : Int32)), .val (.ref b1)]) rfl (XS.aloadN X1.here hx rfl (hb hby dc9_18) rfl rfl (XS.iconst X1.here hx rfl (hb hby dc9_19) (XS.aloadN X1.here hx rfl (hb hby dc9_20) rfl rfl (XS.iconst X1.here hx rfl (hb hby dc9_21) (XS.aloadN X1.here hx rfl (hb hby dc9_22) rfl rfl (own_alen X1 hx hZ e1 f5 rfl rfl (hb hby dc9_23) (XS.iloadN X1.here hx rfl (hb hby dc9_24) rfl hr)))))))) ?_
  show oG p e below _ (T1.setTop (mkF m 25 #[.val (.ref o0), .val (.int (16 : Int32)), .val (.ref b1)] [(.int (16 : Int32)), (.int (0 : Int32)), (.int (0 : Int32)), (.ref b1), (.int (0 : Int32)), (.ref o0)]))
  have Z7 := (Nat.le_trans Z0 E1.1)
  refine own_cs X1 hx hZ hown (hw _ (own_m 78 rfl)) (hw _ (own_m 79 rfl)) (hw _ (own_m 72 rfl)) (hw _ (own_m 80 rfl)) (by decide) (rm := { frames := 0, cells := 0, slots := 0, locals := 0 }) (rm_min_3 l Z a0 hw []  h1 n0 Z7 ) (by decide) (W := 4) (by decide) (by decide) (by decide) e1 (by rw [hml]; rfl) (argsL := [(.int (0 : Int32)), (.int (16 : Int32))]) (lenOf own_pd1 rfl) (rest := [(.int (0 : Int32)), (.ref b1), (.int (0 : Int32)), (.ref o0)]) rfl rfl (Nat.le_of_eq rfl) (hb hby dc9_25) ?_
  intro _ T6 L6 X6 hQ6
  obtain ⟨rfl, N6q, e6⟩ := hQ6
  have N6 := Fr.app N0 N6q
  show oG p e below _ (T6.setTop (mkF m 28 #[.val (.ref o0), .val (.int (16 : Int32)), .val (.ref b1)] [(.int (0 : Int32)), (.int (0 : Int32)), (.ref b1), (.int (0 : Int32)), (.ref o0)]))
  obtain ⟨T8, h8, L8, X8, e8, N8, K8, A8, st8⟩ := cpA X6 hx hZ hown (hw _ (own_m 81 rfl)) (hw _ (own_m 61 rfl)) (hw _ (own_m 59 rfl)) (hw _ (own_m 60 rfl)) e6 f5 f4 (us := []) (Or.inl ⟨rfl, rfl⟩) (by decide) (by decide) (by decide) (by decide) (by decide) rfl (by decide) N6 ge2 (g := (mkF m 28 #[.val (.ref o0), .val (.int (16 : Int32)), .val (.ref b1)] [(.int (0 : Int32)), (.int (0 : Int32)), (.ref b1), (.int (0 : Int32)), (.ref o0)])) rfl (by rw [hml]; rfl) rfl (hb hby dc9_28) (by decide) (W := 0) (by show 2 * 0 + _ ≤ _; exact Nat.le_of_eq rfl) (by decide)
  refine og st8 ?_
  have f9 : Arv Z h8 b1 k1 .int (16 : Int32) [(.int (0 : Int32)), (.int (0 : Int32)), (.int (0 : Int32)), (.int (0 : Int32)), (.int (0 : Int32)), (.int (0 : Int32)), (.int (0 : Int32)), (.int (0 : Int32)), (.int (0 : Int32)), (.int (0 : Int32)), (.int (0 : Int32)), (.int (0 : Int32)), (.int (0 : Int32)), (.int (0 : Int32)), (.int (0 : Int32)), (.int (0 : Int32))] (.int (0 : Int32)) := A8
  show oG p e below _ (T8.setTop (mkF m 31 #[.val (.ref o0), .val (.int (16 : Int32)), .val (.ref b1)] []))
  refine og (fun _ hr => XS.aloadN X8.here hx rfl (hb hby dc9_31) rfl rfl hr) ?_
  show oG p e below _ (T8.setTop (mkF m 32 #[.val (.ref o0), .val (.int (16 : Int32)), .val (.ref b1)] [(.ref b1)]))
  have f10 := (EA1.keep K8)
  have K11 := ((K0.ext E1).trans K8 (allS (Or.inr sz3) all0))
  exact own_retR X8 hx hlk Bd.returns rfl rfl (hb hby dc9_32) (by decide) (by decide) (by rw [e8]; exact ⟨b1, k1, rfl, N8, K11, ge2, sz3, f10, f9⟩)
theorem own_pd2 : parseMethodDescriptor "([II)[I" = some ⟨[(.array .int), .int], some (.array .int)⟩ := by decide +kernel
theorem dc5_69 : decode prog_2_method_2_code 69 = .ok (.aastore, 1) := by decide +kernel
theorem own_pn_com_example_candid_facts_candidfacts_Answer_Listed : plainName "com/example/candid_facts/candidfacts/Answer$Listed" = true := by first | (simp [plainName, overriddenIn]; done) | decide +kernel
def Q_add0 (Z : State) (q : Addr) (cb : Addr) (w : Int32) (cnt2 : Int32) (lo : Nat) (h0 : Heap) (n0 : Nat) (v : Option Value) (h : Heap) (L : List Loc) : Prop := (v = none ∧ Fr n0 L ∧ ∃ ws, Keep h0 h ws ∧ (∀ x ∈ ws, lo ≤ x) ∧ own_Inv Z h lo q cb w cnt2)
set_option maxRecDepth 65536 in
set_option maxHeartbeats 40000000 in
theorem rm_add0 (l : Launch) (Z : State) (a0 : Array Value) (hw : ∀ d ∈ tables_1, d.before a0 Z = true) (ws : List Jvm.Cond) (q : Addr) (cb : Addr) (t : Addr) (w : Int32) (cnt : Int32) (cnt2 : Int32) (lo : Nat) (h0 : Heap) (n0 : Nat) (Z0 : n0 ≤ h0.size) (hlo : n0 ≤ lo) (hI : own_Inv Z h0 lo q cb w cnt) (Et : Exa Z h0 t "com/example/candid_facts/candidfacts/Truth") (Ft : Fld Z h0 t "java/lang/Enum" "ordinal" "I" (.int (0 : Int32))) (hc : cnt.toInt ≤ 3) (hc2 : cnt2.toInt = cnt.toInt + 1) :
    MetFree l (⟨"com/example/candid_facts/candidfacts/Answer$Listed", "add", "([ILcom/example/candid_facts/candidfacts/Truth;)V"⟩ : MethodName) (head1 (Jvm.Cond.code (⟨"com/example/candid_facts/candidfacts/Answer$Listed", "add", "([ILcom/example/candid_facts/candidfacts/Truth;)V"⟩ : MethodName) prog_2_method_2_code 6 none :: ws) ({ frames := 2, cells := 1, slots := 16, locals := 56 } : Room)) (fun aA U => aA = #[(.ref q), (.ref cb), (.ref t)] ∧ Z.Warmed39 U.vm ∧ U.heap = h0) (fun _ _ _ _ _ => True) (fun _ U o U' => ∃ v L, o = .returned v ∧ Q_add0 Z q cb w cnt2 lo h0 n0 v U'.heap L ∧ FrameEnd U o U' L ({ frames := 2, cells := 1, slots := 16, locals := 56 } : Room).cells ({ frames := 2, cells := 1, slots := 16, locals := 56 } : Room).slots) := by
  refine MetFree.of_bodySF (plainFor_of_name own_pn_com_example_candid_facts_candidfacts_Answer_Listed) hisR ?_
  intro p e s m args below meth c s₁ Bd hml0 hP hK
  obtain ⟨rfl, hZ, hh⟩ := hP
  have hx := Bd.exec
  have hby := Bd.bytes
  have hlk : meth.locks = false := BodyLoose.notSynchronized Bd
  have hml : c.maxLocals = 6 := hml0
  have hown : s.vm.findClass "com/example/candid_facts/candidfacts/Answer$Listed" = some m.cls := findClass_of_methodNamed Bd.named
  have hnm := (name_of_methodNamed Bd.named Bd.method).1
  have X0 : Stand p l e ({ frames := 2, cells := 1, slots := 16, locals := 56 } : Room) s m #[(.ref q), (.ref cb), (.ref t)] below meth c s₁ [] 0 0 := Stand.of_body Bd
  have e0 : s₁.heap = h0 := by rw [← hh, Bd.state]; rfl
  have N0 := Fr.nil n0
  obtain ⟨C_, S_, d0_, d1_, d2_, d3_, kC_, kS_, kb_, e0_, e1_, e2_, e3_, s0_, s1_, s2_, s3_, m0_, m1_, m2_, m3_, bx_, by_, bz_, v0_, v1_, v2_, v3_, EQ, FC, FS, FW, VC, OV, VS, VD0, VD1, VD2, VD3, VB, g_C_, g_S_, g_d0_, g_d1_, g_d2_, g_d3_, ne_C__S_, ne_C__d0_, ne_C__d1_, ne_C__d2_, ne_C__d3_, ne_S__d0_, ne_S__d1_, ne_S__d2_, ne_S__d3_, ne_d0__d1_, ne_d0__d2_, ne_d0__d3_, ne_d1__d2_, ne_d1__d3_, ne_d2__d3_, ne_cb_C_, ne_cb_S_, ne_cb_d0_, ne_cb_d1_, ne_cb_d2_, ne_cb_d3_, ne_q_C_, ne_q_S_, ne_q_d0_, ne_q_d1_, ne_q_d2_, ne_q_d3_, iP0_, iP1_, iP2_, iP3_, SUM, iM0_, iM1_, iM2_, iM3_, iL0_, iL1_, iL2_, iL3_, WB⟩ := hI
  have ge_C_ : n0 ≤ C_ := Nat.le_trans hlo g_C_
  have ge_S_ : n0 ≤ S_ := Nat.le_trans hlo g_S_
  have ge_d0_ : n0 ≤ d0_ := Nat.le_trans hlo g_d0_
  have ge_d1_ : n0 ≤ d1_ := Nat.le_trans hlo g_d1_
  have ge_d2_ : n0 ≤ d2_ := Nat.le_trans hlo g_d2_
  have ge_d3_ : n0 ≤ d3_ := Nat.le_trans hlo g_d3_
  have K0 : Keep h0 h0 [C_, S_, d0_, d1_, d2_, d3_] := Keep.refl _ _
  show oG p e below (own_K s (Q_add0 Z q cb w cnt2 lo h0 n0) ({ frames := 2, cells := 1, slots := 16, locals := 56 } : Room).cells ({ frames := 2, cells := 1, slots := 16, locals := 56 } : Room).slots) (s₁.setTop (entryFrame m #[(.ref q), (.ref cb), (.ref t)] 6))
  rw [(by first | (simp [entryFrame, mkF, argsToLocals, Value.category]; done) | rfl : entryFrame m #[(.ref q), (.ref cb), (.ref t)] 6 = mkF m 0 #[.val (.ref q), .val (.ref cb), .val (.ref t), .unset, .unset, .unset] [])]
  show oG p e below _ (s₁.setTop (mkF m 0 #[.val (.ref q), .val (.ref cb), .val (.ref t), .unset, .unset, .unset] []))
  have hp0 : ¬ s0_ < 0 := by rw [Int32.lt_iff_toInt_lt]; simp only [Int32.reduceToInt]; omega
  have hp3 : ¬ (3 : Int32) < s0_ := by rw [Int32.lt_iff_toInt_lt]; simp only [Int32.reduceToInt]; omega
  have hw0 : ¬ w < 0 := by rw [Int32.lt_iff_toInt_lt]; simp only [Int32.reduceToInt]; omega
  have hw3 : ¬ (3 : Int32) < w := by rw [Int32.lt_iff_toInt_lt]; simp only [Int32.reduceToInt]; omega
  rcases iM0_ with hm | ⟨hm, hs | hz⟩
  · subst hm
    show oG p e below _ (s₁.setTop (mkF m 0 #[.val (.ref q), .val (.ref cb), .val (.ref t), .unset, .unset, .unset] []))
    refine og (fun _ hr => XS.aloadN X0.here hx rfl (hb hby dc5_0) rfl rfl hr) ?_
    show oG p e below _ (s₁.setTop (mkF m 1 #[.val (.ref q), .val (.ref cb), .val (.ref t), .unset, .unset, .unset] [(.ref t)]))
    refine own_cu X0 hx hZ hown (hw _ (own_m 49 rfl)) (hw _ (own_m 50 rfl)) (hw _ (own_m 51 rfl)) (hw _ (own_m 53 rfl)) (hw _ (own_m 52 rfl)) (hw _ (own_m 54 rfl)) (hw _ (own_m 55 rfl)) (by decide) Et (rm := { frames := 0, cells := 0, slots := 0, locals := 0 }) (rm_ordinal_0 l Z a0 hw [] t h0 n0 Z0 Ft) (by decide) (W := 0) (by decide) (by decide) (by decide) e0 (by rw [hml]; rfl) (argsL := []) (lenOf own_pd0 rfl) (rest := []) rfl rfl (Nat.le_of_eq rfl) (hb hby dc5_1) ?_
    intro _ T1 L1 X1 hQ1
    obtain ⟨rfl, N1q, e1⟩ := hQ1
    have N1 := Fr.app N0 N1q
    show oG p e below _ (T1.setTop (mkF m 4 #[.val (.ref q), .val (.ref cb), .val (.ref t), .unset, .unset, .unset] [(.int (0 : Int32))]))
    refine og (fun _ hr => XS.istoreN X1.here hx rfl (hb hby dc5_4) rfl (l' := #[.val (.ref q), .val (.ref cb), .val (.ref t), .val (.int (0 : Int32)), .unset, .unset]) rfl (XS.aloadN X1.here hx rfl (hb hby dc5_5) rfl rfl hr)) ?_
    show oG p e below _ (T1.setTop (mkF m 6 #[.val (.ref q), .val (.ref cb), .val (.ref t), .val (.int (0 : Int32)), .unset, .unset] [(.ref q)]))
    obtain ⟨T2, X2, e2, st2⟩ := getF X1 hx hZ hown (host := "") (Or.inl (hw _ (own_m 34 rfl))) Via.refl e1 FS (g := (mkF m 6 #[.val (.ref q), .val (.ref cb), .val (.ref t), .val (.int (0 : Int32)), .unset, .unset] [(.ref q)])) rfl rfl (hb hby dc5_6)
    refine og st2 ?_
    show oG p e below _ (T2.setTop (mkF m 9 #[.val (.ref q), .val (.ref cb), .val (.ref t), .val (.int (0 : Int32)), .unset, .unset] [(.ref S_)]))
    refine og (fun _ hr => XS.iloadN X2.here hx rfl (hb hby dc5_9) rfl (own_iaload X2 hx hZ e2 VS (0 : Int32) (.int s0_) ⟨by decide, by decide⟩ rfl rfl rfl (hb hby dc5_10) (XS.iconst X2.here hx rfl (hb hby dc5_11) (XS.iadd X2.here hx rfl (hb hby dc5_12) rfl (XS.aloadN X2.here hx rfl (hb hby dc5_13) rfl rfl hr))))) ?_
    show oG p e below _ (T2.setTop (mkF m 14 #[.val (.ref q), .val (.ref cb), .val (.ref t), .val (.int (0 : Int32)), .unset, .unset] [(.ref q), (.int (s0_ + (1 : Int32)))]))
    obtain ⟨T3, X3, e3, st3⟩ := getF X2 hx hZ hown (host := "") (Or.inl (hw _ (own_m 36 rfl))) Via.refl e2 FW (g := (mkF m 14 #[.val (.ref q), .val (.ref cb), .val (.ref t), .val (.int (0 : Int32)), .unset, .unset] [(.ref q), (.int (s0_ + (1 : Int32)))])) rfl rfl (hb hby dc5_14)
    refine og st3 ?_
    show oG p e below _ (T3.setTop (mkF m 17 #[.val (.ref q), .val (.ref cb), .val (.ref t), .val (.int (0 : Int32)), .unset, .unset] [(.int w), (.int (s0_ + (1 : Int32)))]))
    refine og (fun _ hr => XS.imul X3.here hx rfl (hb hby dc5_17) rfl (XS.istore X3.here hx rfl (hb hby dc5_18) rfl (l' := #[.val (.ref q), .val (.ref cb), .val (.ref t), .val (.int (0 : Int32)), .val (.int ((s0_ + (1 : Int32)) * w)), .unset]) rfl hr)) ?_
    show oG p e below _ (T3.setTop (mkF m 20 #[.val (.ref q), .val (.ref cb), .val (.ref t), .val (.int (0 : Int32)), .val (.int ((s0_ + (1 : Int32)) * w)), .unset] []))
    generalize hnd_ : ((s0_ + (1 : Int32)) * w) = nd_
    refine og (fun _ hr => XS.iload X3.here hx rfl (hb hby dc5_20) rfl (XS.aloadN X3.here hx rfl (hb hby dc5_22) rfl rfl hr)) ?_
    show oG p e below _ (T3.setTop (mkF m 23 #[.val (.ref q), .val (.ref cb), .val (.ref t), .val (.int (0 : Int32)), .val (.int nd_), .unset] [(.ref q), (.int nd_)]))
    obtain ⟨T4, X4, e4, st4⟩ := getF X3 hx hZ hown (host := "") (Or.inl (hw _ (own_m 32 rfl))) Via.refl e3 FC (g := (mkF m 23 #[.val (.ref q), .val (.ref cb), .val (.ref t), .val (.int (0 : Int32)), .val (.int nd_), .unset] [(.ref q), (.int nd_)])) rfl rfl (hb hby dc5_23)
    refine og st4 ?_
    show oG p e below _ (T4.setTop (mkF m 26 #[.val (.ref q), .val (.ref cb), .val (.ref t), .val (.int (0 : Int32)), .val (.int nd_), .unset] [(.ref C_), (.int nd_)]))
    refine og (fun _ hr => XS.iloadN X4.here hx rfl (hb hby dc5_26) rfl (own_aaload X4 hx hZ e4 VC (0 : Int32) (.ref d0_) ⟨by decide, by decide⟩ rfl rfl rfl rfl (hb hby dc5_27) (own_alen X4 hx hZ e4 VD0 rfl rfl (hb hby dc5_28) hr))) ?_
    show oG p e below _ (T4.setTop (mkF m 29 #[.val (.ref q), .val (.ref cb), .val (.ref t), .val (.int (0 : Int32)), .val (.int nd_), .unset] [(.int (16 : Int32)), (.int nd_)]))
    have c5 : ¬ ((16 : Int32) < nd_) := by
      have q0 := rng32 w
      have q1 := rng32 s0_
      have q2 := c_iadd s0_ (1 : Int32)
      have r2 := rng32 (s0_ + (1 : Int32))
      have q3 := own_prod (s0_ + (1 : Int32)) w
      have r3 := rng32 ((s0_ + (1 : Int32)) * w)
      have q4 := congrArg Int32.toInt hnd_
      have p0 := hw0
      have p1 := hw3
      have p2 := hp0
      have p3 := hp3
      simp only [true_implies, Int32.lt_iff_toInt_lt, ← Int32.toInt_inj, Int32.reduceToInt, Int64.lt_iff_toInt_lt, ← Int64.toInt_inj, Int64.reduceToInt] at q0 q1 q2 q3 q4 p0 p1 p2 p3 ⊢
      omega
    refine og (fun _ hr => XS.icmpYes X4.here hx rfl (pc0 := 29) (pc' := 70) rfl (hb hby dc5_29) rfl (flt c5).2.2.2 (by decide) (by decide) hr) ?_
    show oG p e below _ (T4.setTop (mkF m 70 #[.val (.ref q), .val (.ref cb), .val (.ref t), .val (.int (0 : Int32)), .val (.int nd_), .unset] []))
    refine og (fun _ hr => XS.aloadN X4.here hx rfl (hb hby dc5_70) rfl rfl (XS.iconst X4.here hx rfl (hb hby dc5_71) (XS.aloadN X4.here hx rfl (hb hby dc5_72) rfl rfl hr))) ?_
    show oG p e below _ (T4.setTop (mkF m 73 #[.val (.ref q), .val (.ref cb), .val (.ref t), .val (.int (0 : Int32)), .val (.int nd_), .unset] [(.ref q), (.int (0 : Int32)), (.ref cb)]))
    obtain ⟨T6, X6, e6, st6⟩ := getF X4 hx hZ hown (host := "") (Or.inl (hw _ (own_m 32 rfl))) Via.refl e4 FC (g := (mkF m 73 #[.val (.ref q), .val (.ref cb), .val (.ref t), .val (.int (0 : Int32)), .val (.int nd_), .unset] [(.ref q), (.int (0 : Int32)), (.ref cb)])) rfl rfl (hb hby dc5_73)
    refine og st6 ?_
    show oG p e below _ (T6.setTop (mkF m 76 #[.val (.ref q), .val (.ref cb), .val (.ref t), .val (.int (0 : Int32)), .val (.int nd_), .unset] [(.ref C_), (.int (0 : Int32)), (.ref cb)]))
    refine og (fun _ hr => XS.iloadN X6.here hx rfl (hb hby dc5_76) rfl (own_aaload X6 hx hZ e6 VC (0 : Int32) (.ref d0_) ⟨by decide, by decide⟩ rfl rfl rfl rfl (hb hby dc5_77) (XS.aloadN X6.here hx rfl (hb hby dc5_78) rfl rfl hr))) ?_
    show oG p e below _ (T6.setTop (mkF m 79 #[.val (.ref q), .val (.ref cb), .val (.ref t), .val (.int (0 : Int32)), .val (.int nd_), .unset] [(.ref q), (.ref d0_), (.int (0 : Int32)), (.ref cb)]))
    obtain ⟨T7, X7, e7, st7⟩ := getF X6 hx hZ hown (host := "") (Or.inl (hw _ (own_m 34 rfl))) Via.refl e6 FS (g := (mkF m 79 #[.val (.ref q), .val (.ref cb), .val (.ref t), .val (.int (0 : Int32)), .val (.int nd_), .unset] [(.ref q), (.ref d0_), (.int (0 : Int32)), (.ref cb)])) rfl rfl (hb hby dc5_79)
    refine og st7 ?_
    show oG p e below _ (T7.setTop (mkF m 82 #[.val (.ref q), .val (.ref cb), .val (.ref t), .val (.int (0 : Int32)), .val (.int nd_), .unset] [(.ref S_), (.ref d0_), (.int (0 : Int32)), (.ref cb)]))
    refine og (fun _ hr => XS.iloadN X7.here hx rfl (hb hby dc5_82) rfl (own_iaload X7 hx hZ e7 VS (0 : Int32) (.int s0_) ⟨by decide, by decide⟩ rfl rfl rfl (hb hby dc5_83) (XS.aloadN X7.here hx rfl (hb hby dc5_84) rfl rfl hr))) ?_
    show oG p e below _ (T7.setTop (mkF m 85 #[.val (.ref q), .val (.ref cb), .val (.ref t), .val (.int (0 : Int32)), .val (.int nd_), .unset] [(.ref q), (.int s0_), (.ref d0_), (.int (0 : Int32)), (.ref cb)]))
    obtain ⟨T8, X8, e8, st8⟩ := getF X7 hx hZ hown (host := "") (Or.inl (hw _ (own_m 36 rfl))) Via.refl e7 FW (g := (mkF m 85 #[.val (.ref q), .val (.ref cb), .val (.ref t), .val (.int (0 : Int32)), .val (.int nd_), .unset] [(.ref q), (.int s0_), (.ref d0_), (.int (0 : Int32)), (.ref cb)])) rfl rfl (hb hby dc5_85)
    refine og st8 ?_
    show oG p e below _ (T8.setTop (mkF m 88 #[.val (.ref q), .val (.ref cb), .val (.ref t), .val (.int (0 : Int32)), .val (.int nd_), .unset] [(.int w), (.int s0_), (.ref d0_), (.int (0 : Int32)), (.ref cb)]))
    refine og (fun _ hr => XS.imul X8.here hx rfl (hb hby dc5_88) rfl (XS.aloadN X8.here hx rfl (hb hby dc5_89) rfl rfl hr)) ?_
    show oG p e below _ (T8.setTop (mkF m 90 #[.val (.ref q), .val (.ref cb), .val (.ref t), .val (.int (0 : Int32)), .val (.int nd_), .unset] [(.ref q), (.int (s0_ * w)), (.ref d0_), (.int (0 : Int32)), (.ref cb)]))
    obtain ⟨T9, X9, e9, st9⟩ := getF X8 hx hZ hown (host := "") (Or.inl (hw _ (own_m 36 rfl))) Via.refl e8 FW (g := (mkF m 90 #[.val (.ref q), .val (.ref cb), .val (.ref t), .val (.int (0 : Int32)), .val (.int nd_), .unset] [(.ref q), (.int (s0_ * w)), (.ref d0_), (.int (0 : Int32)), (.ref cb)])) rfl rfl (hb hby dc5_90)
    refine og st9 ?_
    show oG p e below _ (T9.setTop (mkF m 93 #[.val (.ref q), .val (.ref cb), .val (.ref t), .val (.int (0 : Int32)), .val (.int nd_), .unset] [(.int w), (.int (s0_ * w)), (.ref d0_), (.int (0 : Int32)), (.ref cb)]))
    have c11 : ¬ ((s0_ * w) < (0 : Int32)) := by
      have q0 := rng32 w
      have q1 := rng32 s0_
      have q2 := c_iadd s0_ (1 : Int32)
      have r2 := rng32 (s0_ + (1 : Int32))
      have q3 := own_prod (s0_ + (1 : Int32)) w
      have r3 := rng32 ((s0_ + (1 : Int32)) * w)
      have q4 := congrArg Int32.toInt hnd_
      have q5 := own_prod s0_ w
      have r5 := rng32 (s0_ * w)
      have p0 := hw0
      have p1 := hw3
      have p2 := hp0
      have p3 := hp3
      have p4 := c5
      simp only [true_implies, Int32.lt_iff_toInt_lt, ← Int32.toInt_inj, Int32.reduceToInt, Int64.lt_iff_toInt_lt, ← Int64.toInt_inj, Int64.reduceToInt] at q0 q1 q2 q3 q4 q5 p0 p1 p2 p3 p4 ⊢
      omega
    have le10 : (s0_ * w).toInt + w.toInt ≤ (16 : Int32).toInt ∧ w.toInt ≤ 3 ∧ 0 ≤ (s0_ * w).toInt ∧ 0 ≤ w.toInt ∧ 0 ≤ (16 : Int32).toInt := by
      have q0 := rng32 s0_
      have r0 := rng32 s0_
      have q1 := rng32 w
      have r1 := rng32 w
      have q2 := own_prod s0_ w
      have r2 := rng32 (s0_ * w)
      have q3 := c_iadd s0_ (1 : Int32)
      have r3 := rng32 (s0_ + (1 : Int32))
      have q4 := own_prod (s0_ + (1 : Int32)) w
      have r4 := rng32 ((s0_ + (1 : Int32)) * w)
      have q5 := congrArg Int32.toInt hnd_
      have r5 := rng32 nd_
      have p0 := hw0
      have p1 := hw3
      have p2 := hp0
      have p3 := hp3
      have p4 := c5
      have p5 := c11
      try simp only [true_implies, Int32.lt_iff_toInt_lt, ← Int32.toInt_inj, Int32.reduceToInt, Int64.lt_iff_toInt_lt, ← Int64.toInt_inj, Int64.reduceToInt] at q0 q1 q2 q3 q4 q5 p0 p1 p2 p3 p4 p5
      try simp only [Int32.reduceToInt]
      omega
    have lf10 : (s0_ * w).toNatClampNeg + w.toNatClampNeg ≤ (16 : Int32).toNatClampNeg ∧ (0 : Int32).toNatClampNeg + w.toNatClampNeg ≤ (3 : Int32).toNatClampNeg := by
      have := own_tn (s0_ * w) (by omega)
      have := own_tn w (by omega)
      have := own_tn (16 : Int32) (by omega)
      have z0 : (0 : Int32).toNatClampNeg = 0 := rfl
      have z3 : (3 : Int32).toNatClampNeg = 3 := rfl
      omega
    have ll10 : v0_.length = (16 : Int32).toNatClampNeg := iL0_
    obtain ⟨T10, h10, L10, X10, e10, N10, K10, A10, st10⟩ := cpA X9 hx hZ hown (hw _ (own_m 58 rfl)) (hw _ (own_m 61 rfl)) (hw _ (own_m 59 rfl)) (hw _ (own_m 60 rfl)) e9 VB VD0 (us := _) (Or.inl ⟨rfl, rfl⟩) (by decide) c11 hw0 lf10.2 lf10.1 rfl (ll10 ▸ lf10.1) N1 ge_d0_ (g := (mkF m 93 #[.val (.ref q), .val (.ref cb), .val (.ref t), .val (.int (0 : Int32)), .val (.int nd_), .unset] [(.int w), (.int (s0_ * w)), (.ref d0_), (.int (0 : Int32)), (.ref cb)])) rfl (by rw [hml]; rfl) rfl (hb hby dc5_93) (by decide) (W := 0) (by show 2 * 0 + _ ≤ _; exact Nat.le_of_eq rfl) (by decide)
    refine og st10 ?_
    have ln10 := own_cplen (us := (List.range w.toNatClampNeg).map fun i => ([(.int bx_), (.int by_), (.int bz_)] : List Value).getD ((0 : Int32).toNatClampNeg + i) (.int (0 : Int32))) (ll10 ▸ lf10.1) (by simp) ll10
    generalize hvn10 : (v0_.take (s0_ * w).toNatClampNeg ++ (List.range w.toNatClampNeg).map (fun i => ([(.int bx_), (.int by_), (.int bz_)] : List Value).getD ((0 : Int32).toNatClampNeg + i) (.int (0 : Int32))) ++ v0_.drop ((s0_ * w).toNatClampNeg + w.toNatClampNeg)) = vn10 at A10 ln10
    show oG p e below _ (T10.setTop (mkF m 96 #[.val (.ref q), .val (.ref cb), .val (.ref t), .val (.int (0 : Int32)), .val (.int nd_), .unset] []))
    refine og (fun _ hr => XS.aloadN X10.here hx rfl (hb hby dc5_96) rfl rfl hr) ?_
    show oG p e below _ (T10.setTop (mkF m 97 #[.val (.ref q), .val (.ref cb), .val (.ref t), .val (.int (0 : Int32)), .val (.int nd_), .unset] [(.ref q)]))
    have f12 := (FS.keep K10 (ninS ne_q_d0_ nin0))
    obtain ⟨T13, X13, e13, st13⟩ := getF X10 hx hZ hown (host := "") (Or.inl (hw _ (own_m 34 rfl))) Via.refl e10 f12 (g := (mkF m 97 #[.val (.ref q), .val (.ref cb), .val (.ref t), .val (.int (0 : Int32)), .val (.int nd_), .unset] [(.ref q)])) rfl rfl (hb hby dc5_97)
    refine og st13 ?_
    show oG p e below _ (T13.setTop (mkF m 100 #[.val (.ref q), .val (.ref cb), .val (.ref t), .val (.int (0 : Int32)), .val (.int nd_), .unset] [(.ref S_)]))
    refine og (fun _ hr => XS.iloadN X13.here hx rfl (hb hby dc5_100) rfl hr) ?_
    show oG p e below _ (T13.setTop (mkF m 101 #[.val (.ref q), .val (.ref cb), .val (.ref t), .val (.int (0 : Int32)), .val (.int nd_), .unset] [(.int (0 : Int32)), (.ref S_)]))
    refine og (S' := T13.setTop (mkF m 102 #[.val (.ref q), .val (.ref cb), .val (.ref t), .val (.int (0 : Int32)), .val (.int nd_), .unset] [(.int (0 : Int32)), (.ref S_), (.int (0 : Int32)), (.ref S_)])) (fun _ hr => by
      jvm_step X13.here [X13.here.top, hx, (hb hby dc5_101), Value.category]
      exact hr) ?_
    show oG p e below _ (T13.setTop (mkF m 102 #[.val (.ref q), .val (.ref cb), .val (.ref t), .val (.int (0 : Int32)), .val (.int nd_), .unset] [(.int (0 : Int32)), (.ref S_), (.int (0 : Int32)), (.ref S_)]))
    have f14 := (VS.keep K10 (ninS ne_S__d0_ nin0))
    refine og (fun _ hr => own_iaload X13 hx hZ e13 f14 (0 : Int32) (.int s0_) ⟨by decide, by decide⟩ rfl rfl rfl (hb hby dc5_102) (XS.iconst X13.here hx rfl (hb hby dc5_103) (XS.iadd X13.here hx rfl (hb hby dc5_104) rfl hr))) ?_
    show oG p e below _ (T13.setTop (mkF m 105 #[.val (.ref q), .val (.ref cb), .val (.ref t), .val (.int (0 : Int32)), .val (.int nd_), .unset] [(.int (s0_ + (1 : Int32))), (.int (0 : Int32)), (.ref S_)]))
    refine own_stI X13 hx hZ e13 f14 (0 : Int32) (s0_ + (1 : Int32)) 0 ⟨by decide, by decide⟩ rfl (Nat.le_of_ble_eq_true rfl)  [(.int (s0_ + (1 : Int32))), (.int s1_), (.int s2_), (.int s3_)] rfl N10 ge_S_ (hb hby dc5_105) ?_
    intro T15 h15 L15 X15 e15 W15 N15 f15
    show oG p e below _ (T15.setTop (mkF m 106 #[.val (.ref q), .val (.ref cb), .val (.ref t), .val (.int (0 : Int32)), .val (.int nd_), .unset] []))
    have f16 := ((EQ.keep K10).wr W15)
    have f17 := ((FC.keep K10 (ninS ne_q_d0_ nin0)).other W15 (Or.inl ne_q_S_))
    have f18 := (f12.other W15 (Or.inl ne_q_S_))
    have f19 := ((FW.keep K10 (ninS ne_q_d0_ nin0)).other W15 (Or.inl ne_q_S_))
    have f20 := ((VC.keep K10 (ninS ne_C__d0_ nin0)).other W15 ne_C__S_)
    have f21 := (A10.other W15 (Ne.symm ne_S__d0_))
    have f22 := ((VD1.keep K10 (ninS (Ne.symm ne_d0__d1_) nin0)).other W15 (Ne.symm ne_S__d1_))
    have f23 := ((VD2.keep K10 (ninS (Ne.symm ne_d0__d2_) nin0)).other W15 (Ne.symm ne_S__d2_))
    have f24 := ((VD3.keep K10 (ninS (Ne.symm ne_d0__d3_) nin0)).other W15 (Ne.symm ne_S__d3_))
    have f25 := ((VB.keep K10 (ninS ne_cb_d0_ nin0)).other W15 ne_cb_S_)
    have om26 : 0 ≤ (s0_ + (1 : Int32)).toInt := by
      have q0 := rng32 s0_
      have r0 := rng32 s0_
      have q1 := c_iadd s0_ (1 : Int32)
      have r1 := rng32 (s0_ + (1 : Int32))
      have q2 := rng32 w
      have r2 := rng32 w
      have q3 := own_prod (s0_ + (1 : Int32)) w
      have r3 := rng32 ((s0_ + (1 : Int32)) * w)
      have q4 := congrArg Int32.toInt hnd_
      have r4 := rng32 nd_
      have q5 := own_prod s0_ w
      have r5 := rng32 (s0_ * w)
      have p0 := hw0
      have p1 := hw3
      have p2 := hp0
      have p3 := hp3
      have p4 := c5
      have p5 := c11
      try simp only [true_implies, Int32.lt_iff_toInt_lt, ← Int32.toInt_inj, Int32.reduceToInt, Int64.lt_iff_toInt_lt, ← Int64.toInt_inj, Int64.reduceToInt] at q0 q1 q2 q3 q4 q5 p0 p1 p2 p3 p4 p5
      first | omega | (simp only [Int32.reduceToInt, ← Int32.toInt_inj] <;> omega) | decide
    have om27 : 0 ≤ s1_.toInt := by
      have q0 := rng32 s1_
      have r0 := rng32 s1_
      have q1 := rng32 w
      have r1 := rng32 w
      have q2 := rng32 s0_
      have r2 := rng32 s0_
      have q3 := c_iadd s0_ (1 : Int32)
      have r3 := rng32 (s0_ + (1 : Int32))
      have q4 := own_prod (s0_ + (1 : Int32)) w
      have r4 := rng32 ((s0_ + (1 : Int32)) * w)
      have q5 := congrArg Int32.toInt hnd_
      have r5 := rng32 nd_
      have q6 := own_prod s0_ w
      have r6 := rng32 (s0_ * w)
      have p0 := hw0
      have p1 := hw3
      have p2 := hp0
      have p3 := hp3
      have p4 := c5
      have p5 := c11
      try simp only [true_implies, Int32.lt_iff_toInt_lt, ← Int32.toInt_inj, Int32.reduceToInt, Int64.lt_iff_toInt_lt, ← Int64.toInt_inj, Int64.reduceToInt] at q0 q1 q2 q3 q4 q5 q6 p0 p1 p2 p3 p4 p5
      first | omega | (simp only [Int32.reduceToInt, ← Int32.toInt_inj] <;> omega) | decide
    have om28 : 0 ≤ s2_.toInt := by
      have q0 := rng32 s2_
      have r0 := rng32 s2_
      have q1 := rng32 w
      have r1 := rng32 w
      have q2 := rng32 s0_
      have r2 := rng32 s0_
      have q3 := c_iadd s0_ (1 : Int32)
      have r3 := rng32 (s0_ + (1 : Int32))
      have q4 := own_prod (s0_ + (1 : Int32)) w
      have r4 := rng32 ((s0_ + (1 : Int32)) * w)
      have q5 := congrArg Int32.toInt hnd_
      have r5 := rng32 nd_
      have q6 := own_prod s0_ w
      have r6 := rng32 (s0_ * w)
      have p0 := hw0
      have p1 := hw3
      have p2 := hp0
      have p3 := hp3
      have p4 := c5
      have p5 := c11
      try simp only [true_implies, Int32.lt_iff_toInt_lt, ← Int32.toInt_inj, Int32.reduceToInt, Int64.lt_iff_toInt_lt, ← Int64.toInt_inj, Int64.reduceToInt] at q0 q1 q2 q3 q4 q5 q6 p0 p1 p2 p3 p4 p5
      first | omega | (simp only [Int32.reduceToInt, ← Int32.toInt_inj] <;> omega) | decide
    have om29 : 0 ≤ s3_.toInt := by
      have q0 := rng32 s3_
      have r0 := rng32 s3_
      have q1 := rng32 w
      have r1 := rng32 w
      have q2 := rng32 s0_
      have r2 := rng32 s0_
      have q3 := c_iadd s0_ (1 : Int32)
      have r3 := rng32 (s0_ + (1 : Int32))
      have q4 := own_prod (s0_ + (1 : Int32)) w
      have r4 := rng32 ((s0_ + (1 : Int32)) * w)
      have q5 := congrArg Int32.toInt hnd_
      have r5 := rng32 nd_
      have q6 := own_prod s0_ w
      have r6 := rng32 (s0_ * w)
      have p0 := hw0
      have p1 := hw3
      have p2 := hp0
      have p3 := hp3
      have p4 := c5
      have p5 := c11
      try simp only [true_implies, Int32.lt_iff_toInt_lt, ← Int32.toInt_inj, Int32.reduceToInt, Int64.lt_iff_toInt_lt, ← Int64.toInt_inj, Int64.reduceToInt] at q0 q1 q2 q3 q4 q5 q6 p0 p1 p2 p3 p4 p5
      first | omega | (simp only [Int32.reduceToInt, ← Int32.toInt_inj] <;> omega) | decide
    have om30 : (s0_ + (1 : Int32)).toInt + s1_.toInt + s2_.toInt + s3_.toInt = cnt2.toInt := by
      have q0 := rng32 s0_
      have r0 := rng32 s0_
      have q1 := c_iadd s0_ (1 : Int32)
      have r1 := rng32 (s0_ + (1 : Int32))
      have q2 := rng32 s1_
      have r2 := rng32 s1_
      have q3 := rng32 s2_
      have r3 := rng32 s2_
      have q4 := rng32 s3_
      have r4 := rng32 s3_
      have q5 := rng32 w
      have r5 := rng32 w
      have q6 := own_prod (s0_ + (1 : Int32)) w
      have r6 := rng32 ((s0_ + (1 : Int32)) * w)
      have q7 := congrArg Int32.toInt hnd_
      have r7 := rng32 nd_
      have q8 := own_prod s0_ w
      have r8 := rng32 (s0_ * w)
      have p0 := hw0
      have p1 := hw3
      have p2 := hp0
      have p3 := hp3
      have p4 := c5
      have p5 := c11
      try simp only [true_implies, Int32.lt_iff_toInt_lt, ← Int32.toInt_inj, Int32.reduceToInt, Int64.lt_iff_toInt_lt, ← Int64.toInt_inj, Int64.reduceToInt] at q0 q1 q2 q3 q4 q5 q6 q7 q8 p0 p1 p2 p3 p4 p5
      first | omega | (simp only [Int32.reduceToInt, ← Int32.toInt_inj] <;> omega) | decide
    have K31 := ((K0.trans K10 (allS (Or.inl (List.mem_of_getElem? (i := 2) rfl)) all0)).wr W15 (Or.inl (List.mem_of_getElem? (i := 1) rfl)))
    exact own_ret0 X15 hx hlk Bd.returns (hb hby dc5_106) (by decide) (by decide) (by rw [e15]; exact ⟨rfl, N15, [C_, S_, d0_, d1_, d2_, d3_], K31, (fun x hx_ => by simp only [List.mem_cons, List.not_mem_nil, or_false] at hx_; rcases hx_ with rfl | rfl | rfl | rfl | rfl | rfl <;> assumption), ⟨C_, S_, d0_, d1_, d2_, d3_, kC_, kS_, kb_, e0_, e1_, e2_, e3_, (s0_ + (1 : Int32)), s1_, s2_, s3_, (16 : Int32), m1_, m2_, m3_, bx_, by_, bz_, vn10, v1_, v2_, v3_, f16, f17, f18, f19, f20, OV, f15, f21, f22, f23, f24, f25, g_C_, g_S_, g_d0_, g_d1_, g_d2_, g_d3_, ne_C__S_, ne_C__d0_, ne_C__d1_, ne_C__d2_, ne_C__d3_, ne_S__d0_, ne_S__d1_, ne_S__d2_, ne_S__d3_, ne_d0__d1_, ne_d0__d2_, ne_d0__d3_, ne_d1__d2_, ne_d1__d3_, ne_d2__d3_, ne_cb_C_, ne_cb_S_, ne_cb_d0_, ne_cb_d1_, ne_cb_d2_, ne_cb_d3_, ne_q_C_, ne_q_S_, ne_q_d0_, ne_q_d1_, ne_q_d2_, ne_q_d3_, om26, om27, om28, om29, om30, (Or.inl rfl), iM1_, iM2_, iM3_, ln10, iL1_, iL2_, iL3_, WB⟩⟩)
  · subst hm
    obtain rfl : v0_ = [] := List.eq_nil_of_length_eq_zero (iL0_.trans rfl)
    obtain rfl : s0_ = 0 := Int32.toInt_inj.mp (hs.trans rfl)
    show oG p e below _ (s₁.setTop (mkF m 0 #[.val (.ref q), .val (.ref cb), .val (.ref t), .unset, .unset, .unset] []))
    refine og (fun _ hr => XS.aloadN X0.here hx rfl (hb hby dc5_0) rfl rfl hr) ?_
    show oG p e below _ (s₁.setTop (mkF m 1 #[.val (.ref q), .val (.ref cb), .val (.ref t), .unset, .unset, .unset] [(.ref t)]))
    refine own_cu X0 hx hZ hown (hw _ (own_m 49 rfl)) (hw _ (own_m 50 rfl)) (hw _ (own_m 51 rfl)) (hw _ (own_m 53 rfl)) (hw _ (own_m 52 rfl)) (hw _ (own_m 54 rfl)) (hw _ (own_m 55 rfl)) (by decide) Et (rm := { frames := 0, cells := 0, slots := 0, locals := 0 }) (rm_ordinal_0 l Z a0 hw [] t h0 n0 Z0 Ft) (by decide) (W := 0) (by decide) (by decide) (by decide) e0 (by rw [hml]; rfl) (argsL := []) (lenOf own_pd0 rfl) (rest := []) rfl rfl (Nat.le_of_eq rfl) (hb hby dc5_1) ?_
    intro _ T32 L32 X32 hQ32
    obtain ⟨rfl, N32q, e32⟩ := hQ32
    have N32 := Fr.app N0 N32q
    show oG p e below _ (T32.setTop (mkF m 4 #[.val (.ref q), .val (.ref cb), .val (.ref t), .unset, .unset, .unset] [(.int (0 : Int32))]))
    refine og (fun _ hr => XS.istoreN X32.here hx rfl (hb hby dc5_4) rfl (l' := #[.val (.ref q), .val (.ref cb), .val (.ref t), .val (.int (0 : Int32)), .unset, .unset]) rfl (XS.aloadN X32.here hx rfl (hb hby dc5_5) rfl rfl hr)) ?_
    show oG p e below _ (T32.setTop (mkF m 6 #[.val (.ref q), .val (.ref cb), .val (.ref t), .val (.int (0 : Int32)), .unset, .unset] [(.ref q)]))
    obtain ⟨T33, X33, e33, st33⟩ := getF X32 hx hZ hown (host := "") (Or.inl (hw _ (own_m 34 rfl))) Via.refl e32 FS (g := (mkF m 6 #[.val (.ref q), .val (.ref cb), .val (.ref t), .val (.int (0 : Int32)), .unset, .unset] [(.ref q)])) rfl rfl (hb hby dc5_6)
    refine og st33 ?_
    show oG p e below _ (T33.setTop (mkF m 9 #[.val (.ref q), .val (.ref cb), .val (.ref t), .val (.int (0 : Int32)), .unset, .unset] [(.ref S_)]))
    refine og (fun _ hr => XS.iloadN X33.here hx rfl (hb hby dc5_9) rfl (own_iaload X33 hx hZ e33 VS (0 : Int32) (.int (0 : Int32)) ⟨by decide, by decide⟩ rfl rfl rfl (hb hby dc5_10) (XS.iconst X33.here hx rfl (hb hby dc5_11) (XS.iadd X33.here hx rfl (hb hby dc5_12) rfl (XS.aloadN X33.here hx rfl (hb hby dc5_13) rfl rfl hr))))) ?_
    show oG p e below _ (T33.setTop (mkF m 14 #[.val (.ref q), .val (.ref cb), .val (.ref t), .val (.int (0 : Int32)), .unset, .unset] [(.ref q), (.int (1 : Int32))]))
    obtain ⟨T34, X34, e34, st34⟩ := getF X33 hx hZ hown (host := "") (Or.inl (hw _ (own_m 36 rfl))) Via.refl e33 FW (g := (mkF m 14 #[.val (.ref q), .val (.ref cb), .val (.ref t), .val (.int (0 : Int32)), .unset, .unset] [(.ref q), (.int (1 : Int32))])) rfl rfl (hb hby dc5_14)
    refine og st34 ?_
    show oG p e below _ (T34.setTop (mkF m 17 #[.val (.ref q), .val (.ref cb), .val (.ref t), .val (.int (0 : Int32)), .unset, .unset] [(.int w), (.int (1 : Int32))]))
    refine og (fun _ hr => XS.imul X34.here hx rfl (hb hby dc5_17) rfl (XS.istore X34.here hx rfl (hb hby dc5_18) rfl (l' := #[.val (.ref q), .val (.ref cb), .val (.ref t), .val (.int (0 : Int32)), .val (.int ((1 : Int32) * w)), .unset]) rfl hr)) ?_
    show oG p e below _ (T34.setTop (mkF m 20 #[.val (.ref q), .val (.ref cb), .val (.ref t), .val (.int (0 : Int32)), .val (.int ((1 : Int32) * w)), .unset] []))
    generalize hnd_ : ((1 : Int32) * w) = nd_
    refine og (fun _ hr => XS.iload X34.here hx rfl (hb hby dc5_20) rfl (XS.aloadN X34.here hx rfl (hb hby dc5_22) rfl rfl hr)) ?_
    show oG p e below _ (T34.setTop (mkF m 23 #[.val (.ref q), .val (.ref cb), .val (.ref t), .val (.int (0 : Int32)), .val (.int nd_), .unset] [(.ref q), (.int nd_)]))
    obtain ⟨T35, X35, e35, st35⟩ := getF X34 hx hZ hown (host := "") (Or.inl (hw _ (own_m 32 rfl))) Via.refl e34 FC (g := (mkF m 23 #[.val (.ref q), .val (.ref cb), .val (.ref t), .val (.int (0 : Int32)), .val (.int nd_), .unset] [(.ref q), (.int nd_)])) rfl rfl (hb hby dc5_23)
    refine og st35 ?_
    show oG p e below _ (T35.setTop (mkF m 26 #[.val (.ref q), .val (.ref cb), .val (.ref t), .val (.int (0 : Int32)), .val (.int nd_), .unset] [(.ref C_), (.int nd_)]))
    refine og (fun _ hr => XS.iloadN X35.here hx rfl (hb hby dc5_26) rfl (own_aaload X35 hx hZ e35 VC (0 : Int32) (.ref d0_) ⟨by decide, by decide⟩ rfl rfl rfl rfl (hb hby dc5_27) (own_alen X35 hx hZ e35 VD0 rfl rfl (hb hby dc5_28) hr))) ?_
    show oG p e below _ (T35.setTop (mkF m 29 #[.val (.ref q), .val (.ref cb), .val (.ref t), .val (.int (0 : Int32)), .val (.int nd_), .unset] [(.int (0 : Int32)), (.int nd_)]))
    rcases Classical.em ((0 : Int32) < nd_) with c36 | c36
    · skip
      refine og (fun _ hr => XS.icmpNo X35.here hx rfl (hb hby dc5_29) rfl (tlt c36).2.2.2 hr) ?_
      show oG p e below _ (T35.setTop (mkF m 32 #[.val (.ref q), .val (.ref cb), .val (.ref t), .val (.int (0 : Int32)), .val (.int nd_), .unset] []))
      refine og (fun _ hr => XS.bipush X35.here hx rfl (hb hby dc5_32) (XS.iconst X35.here hx rfl (hb hby dc5_34) (XS.aloadN X35.here hx rfl (hb hby dc5_35) rfl rfl hr))) ?_
      show oG p e below _ (T35.setTop (mkF m 36 #[.val (.ref q), .val (.ref cb), .val (.ref t), .val (.int (0 : Int32)), .val (.int nd_), .unset] [(.ref q), (.int (2 : Int32)), (.int (16 : Int32))]))
      obtain ⟨T37, X37, e37, st37⟩ := getF X35 hx hZ hown (host := "") (Or.inl (hw _ (own_m 32 rfl))) Via.refl e35 FC (g := (mkF m 36 #[.val (.ref q), .val (.ref cb), .val (.ref t), .val (.int (0 : Int32)), .val (.int nd_), .unset] [(.ref q), (.int (2 : Int32)), (.int (16 : Int32))])) rfl rfl (hb hby dc5_36)
      refine og st37 ?_
      show oG p e below _ (T37.setTop (mkF m 39 #[.val (.ref q), .val (.ref cb), .val (.ref t), .val (.int (0 : Int32)), .val (.int nd_), .unset] [(.ref C_), (.int (2 : Int32)), (.int (16 : Int32))]))
      refine og (fun _ hr => XS.iloadN X37.here hx rfl (hb hby dc5_39) rfl (own_aaload X37 hx hZ e37 VC (0 : Int32) (.ref d0_) ⟨by decide, by decide⟩ rfl rfl rfl rfl (hb hby dc5_40) (own_alen X37 hx hZ e37 VD0 rfl rfl (hb hby dc5_41) (XS.imul X37.here hx rfl (hb hby dc5_42) rfl hr)))) ?_
      show oG p e below _ (T37.setTop (mkF m 43 #[.val (.ref q), .val (.ref cb), .val (.ref t), .val (.int (0 : Int32)), .val (.int nd_), .unset] [(.int (0 : Int32)), (.int (16 : Int32))]))
      refine own_cs X37 hx hZ hown (hw _ (own_m 70 rfl)) (hw _ (own_m 71 rfl)) (hw _ (own_m 72 rfl)) (hw _ (own_m 73 rfl)) (by decide) (rm := { frames := 0, cells := 0, slots := 0, locals := 0 }) (rm_max_1 l Z a0 hw []  h0 n0 Z0 ) (by decide) (W := 0) (by decide) (by decide) (by decide) e37 (by rw [hml]; rfl) (argsL := [(.int (16 : Int32)), (.int (0 : Int32))]) (lenOf own_pd1 rfl) (rest := []) rfl rfl (Nat.le_of_eq rfl) (hb hby dc5_43) ?_
      intro _ T38 L38 X38 hQ38
      obtain ⟨rfl, N38q, e38⟩ := hQ38
      have N38 := Fr.app N32 N38q
      show oG p e below _ (T38.setTop (mkF m 46 #[.val (.ref q), .val (.ref cb), .val (.ref t), .val (.int (0 : Int32)), .val (.int nd_), .unset] [(.int (16 : Int32))]))
      refine og (fun _ hr => XS.istore X38.here hx rfl (hb hby dc5_46) rfl (l' := #[.val (.ref q), .val (.ref cb), .val (.ref t), .val (.int (0 : Int32)), .val (.int nd_), .val (.int (16 : Int32))]) rfl (XS.aloadN X38.here hx rfl (hb hby dc5_48) rfl rfl hr)) ?_
      show oG p e below _ (T38.setTop (mkF m 49 #[.val (.ref q), .val (.ref cb), .val (.ref t), .val (.int (0 : Int32)), .val (.int nd_), .val (.int (16 : Int32))] [(.ref q)]))
      obtain ⟨T39, X39, e39, st39⟩ := getF X38 hx hZ hown (host := "") (Or.inl (hw _ (own_m 32 rfl))) Via.refl e38 FC (g := (mkF m 49 #[.val (.ref q), .val (.ref cb), .val (.ref t), .val (.int (0 : Int32)), .val (.int nd_), .val (.int (16 : Int32))] [(.ref q)])) rfl rfl (hb hby dc5_49)
      refine og st39 ?_
      show oG p e below _ (T39.setTop (mkF m 52 #[.val (.ref q), .val (.ref cb), .val (.ref t), .val (.int (0 : Int32)), .val (.int nd_), .val (.int (16 : Int32))] [(.ref C_)]))
      refine og (fun _ hr => XS.iloadN X39.here hx rfl (hb hby dc5_52) rfl (XS.aloadN X39.here hx rfl (hb hby dc5_53) rfl rfl hr)) ?_
      show oG p e below _ (T39.setTop (mkF m 54 #[.val (.ref q), .val (.ref cb), .val (.ref t), .val (.int (0 : Int32)), .val (.int nd_), .val (.int (16 : Int32))] [(.ref q), (.int (0 : Int32)), (.ref C_)]))
      obtain ⟨T40, X40, e40, st40⟩ := getF X39 hx hZ hown (host := "") (Or.inl (hw _ (own_m 32 rfl))) Via.refl e39 FC (g := (mkF m 54 #[.val (.ref q), .val (.ref cb), .val (.ref t), .val (.int (0 : Int32)), .val (.int nd_), .val (.int (16 : Int32))] [(.ref q), (.int (0 : Int32)), (.ref C_)])) rfl rfl (hb hby dc5_54)
      refine og st40 ?_
      show oG p e below _ (T40.setTop (mkF m 57 #[.val (.ref q), .val (.ref cb), .val (.ref t), .val (.int (0 : Int32)), .val (.int nd_), .val (.int (16 : Int32))] [(.ref C_), (.int (0 : Int32)), (.ref C_)]))
      refine og (fun _ hr => XS.iloadN X40.here hx rfl (hb hby dc5_57) rfl (own_aaload X40 hx hZ e40 VC (0 : Int32) (.ref d0_) ⟨by decide, by decide⟩ rfl rfl rfl rfl (hb hby dc5_58) (XS.iload X40.here hx rfl (hb hby dc5_59) rfl (XS.iload X40.here hx rfl (hb hby dc5_61) rfl hr)))) ?_
      show oG p e below _ (T40.setTop (mkF m 63 #[.val (.ref q), .val (.ref cb), .val (.ref t), .val (.int (0 : Int32)), .val (.int nd_), .val (.int (16 : Int32))] [(.int (16 : Int32)), (.int nd_), (.ref d0_), (.int (0 : Int32)), (.ref C_)]))
      have c41 : nd_ < (16 : Int32) := by
        have q0 := rng32 w
        have q1 := c_imul (1 : Int32) w
        have r1 := rng32 ((1 : Int32) * w)
        have q2 := congrArg Int32.toInt hnd_
        have p0 := hw0
        have p1 := hw3
        have p2 := c36
        simp only [true_implies, Int32.lt_iff_toInt_lt, ← Int32.toInt_inj, Int32.reduceToInt, Int64.lt_iff_toInt_lt, ← Int64.toInt_inj, Int64.reduceToInt] at q0 q1 q2 p0 p1 p2 ⊢
        omega
      refine own_cs X40 hx hZ hown (hw _ (own_m 70 rfl)) (hw _ (own_m 71 rfl)) (hw _ (own_m 72 rfl)) (hw _ (own_m 73 rfl)) (by decide) (rm := { frames := 0, cells := 0, slots := 0, locals := 0 }) (rm_max_2 l Z a0 hw [] nd_ h0 n0 Z0 c41) (by decide) (W := 3) (by decide) (by decide) (by decide) e40 (by rw [hml]; rfl) (argsL := [(.int nd_), (.int (16 : Int32))]) (lenOf own_pd1 rfl) (rest := [(.ref d0_), (.int (0 : Int32)), (.ref C_)]) rfl rfl (Nat.le_of_eq rfl) (hb hby dc5_63) ?_
      intro _ T42 L42 X42 hQ42
      obtain ⟨rfl, N42q, e42⟩ := hQ42
      have N42 := Fr.app N38 N42q
      show oG p e below _ (T42.setTop (mkF m 66 #[.val (.ref q), .val (.ref cb), .val (.ref t), .val (.int (0 : Int32)), .val (.int nd_), .val (.int (16 : Int32))] [(.int (16 : Int32)), (.ref d0_), (.int (0 : Int32)), (.ref C_)]))
      refine own_cs X42 hx hZ hown (hw _ (own_m 74 rfl)) (hw _ (own_m 75 rfl)) (hw _ (own_m 76 rfl)) (hw _ (own_m 77 rfl)) (by decide) (rm := { frames := 1, cells := 1, slots := 16, locals := 40 }) (rm_copyOf_4 l Z a0 hw [] d0_ e0_ h0 n0 Z0 VD0) (by decide) (W := 2) (by decide) (by decide) (by decide) e42 (by rw [hml]; rfl) (argsL := [(.ref d0_), (.int (16 : Int32))]) (lenOf own_pd2 rfl) (rest := [(.int (0 : Int32)), (.ref C_)]) rfl rfl (Nat.le_of_eq rfl) (hb hby dc5_66) ?_
      intro _ T43 L43 X43 hQ43
      obtain ⟨b43_0, kb43_0, rfl, N43q, K43, ge43_0, sz43_0, f43_0, f43_1⟩ := hQ43
      have N43 := Fr.app N42 N43q
      have sz44 : h0.size ≤ b43_0 := Nat.le_trans K0.1 sz43_0
      show oG p e below _ (T43.setTop (mkF m 69 #[.val (.ref q), .val (.ref cb), .val (.ref t), .val (.int (0 : Int32)), .val (.int nd_), .val (.int (16 : Int32))] [(.ref b43_0), (.int (0 : Int32)), (.ref C_)]))
      have f45 := (VC.keep K43 nin0)
      refine own_stR X43 hx hZ rfl f45 (0 : Int32) (.ref b43_0) 0 ⟨by decide, by decide⟩ rfl (Nat.le_of_ble_eq_true rfl) (fun _ A q => Sto.ofVA A q OV (Ins.self f43_0)) rfl [(.ref b43_0), (.ref d1_), (.ref d2_), (.ref d3_)] rfl N43 ge_C_ (hb hby dc5_69) ?_
      intro T46 h46 L46 X46 e46 W46 N46 f46
      show oG p e below _ (T46.setTop (mkF m 70 #[.val (.ref q), .val (.ref cb), .val (.ref t), .val (.int (0 : Int32)), .val (.int nd_), .val (.int (16 : Int32))] []))
      refine og (fun _ hr => XS.aloadN X46.here hx rfl (hb hby dc5_70) rfl rfl (XS.iconst X46.here hx rfl (hb hby dc5_71) (XS.aloadN X46.here hx rfl (hb hby dc5_72) rfl rfl hr))) ?_
      show oG p e below _ (T46.setTop (mkF m 73 #[.val (.ref q), .val (.ref cb), .val (.ref t), .val (.int (0 : Int32)), .val (.int nd_), .val (.int (16 : Int32))] [(.ref q), (.int (0 : Int32)), (.ref cb)]))
      have f47 := ((FC.keep K43 nin0).other W46 (Or.inl ne_q_C_))
      obtain ⟨T48, X48, e48, st48⟩ := getF X46 hx hZ hown (host := "") (Or.inl (hw _ (own_m 32 rfl))) Via.refl e46 f47 (g := (mkF m 73 #[.val (.ref q), .val (.ref cb), .val (.ref t), .val (.int (0 : Int32)), .val (.int nd_), .val (.int (16 : Int32))] [(.ref q), (.int (0 : Int32)), (.ref cb)])) rfl rfl (hb hby dc5_73)
      refine og st48 ?_
      show oG p e below _ (T48.setTop (mkF m 76 #[.val (.ref q), .val (.ref cb), .val (.ref t), .val (.int (0 : Int32)), .val (.int nd_), .val (.int (16 : Int32))] [(.ref C_), (.int (0 : Int32)), (.ref cb)]))
      refine og (fun _ hr => XS.iloadN X48.here hx rfl (hb hby dc5_76) rfl (own_aaload X48 hx hZ e48 f46 (0 : Int32) (.ref b43_0) ⟨by decide, by decide⟩ rfl rfl rfl rfl (hb hby dc5_77) (XS.aloadN X48.here hx rfl (hb hby dc5_78) rfl rfl hr))) ?_
      show oG p e below _ (T48.setTop (mkF m 79 #[.val (.ref q), .val (.ref cb), .val (.ref t), .val (.int (0 : Int32)), .val (.int nd_), .val (.int (16 : Int32))] [(.ref q), (.ref b43_0), (.int (0 : Int32)), (.ref cb)]))
      have f49 := ((FS.keep K43 nin0).other W46 (Or.inl ne_q_C_))
      obtain ⟨T50, X50, e50, st50⟩ := getF X48 hx hZ hown (host := "") (Or.inl (hw _ (own_m 34 rfl))) Via.refl e48 f49 (g := (mkF m 79 #[.val (.ref q), .val (.ref cb), .val (.ref t), .val (.int (0 : Int32)), .val (.int nd_), .val (.int (16 : Int32))] [(.ref q), (.ref b43_0), (.int (0 : Int32)), (.ref cb)])) rfl rfl (hb hby dc5_79)
      refine og st50 ?_
      show oG p e below _ (T50.setTop (mkF m 82 #[.val (.ref q), .val (.ref cb), .val (.ref t), .val (.int (0 : Int32)), .val (.int nd_), .val (.int (16 : Int32))] [(.ref S_), (.ref b43_0), (.int (0 : Int32)), (.ref cb)]))
      have f51 := ((VS.keep K43 nin0).other W46 (Ne.symm ne_C__S_))
      refine og (fun _ hr => XS.iloadN X50.here hx rfl (hb hby dc5_82) rfl (own_iaload X50 hx hZ e50 f51 (0 : Int32) (.int (0 : Int32)) ⟨by decide, by decide⟩ rfl rfl rfl (hb hby dc5_83) (XS.aloadN X50.here hx rfl (hb hby dc5_84) rfl rfl hr))) ?_
      show oG p e below _ (T50.setTop (mkF m 85 #[.val (.ref q), .val (.ref cb), .val (.ref t), .val (.int (0 : Int32)), .val (.int nd_), .val (.int (16 : Int32))] [(.ref q), (.int (0 : Int32)), (.ref b43_0), (.int (0 : Int32)), (.ref cb)]))
      have f52 := ((FW.keep K43 nin0).other W46 (Or.inl ne_q_C_))
      obtain ⟨T53, X53, e53, st53⟩ := getF X50 hx hZ hown (host := "") (Or.inl (hw _ (own_m 36 rfl))) Via.refl e50 f52 (g := (mkF m 85 #[.val (.ref q), .val (.ref cb), .val (.ref t), .val (.int (0 : Int32)), .val (.int nd_), .val (.int (16 : Int32))] [(.ref q), (.int (0 : Int32)), (.ref b43_0), (.int (0 : Int32)), (.ref cb)])) rfl rfl (hb hby dc5_85)
      refine og st53 ?_
      show oG p e below _ (T53.setTop (mkF m 88 #[.val (.ref q), .val (.ref cb), .val (.ref t), .val (.int (0 : Int32)), .val (.int nd_), .val (.int (16 : Int32))] [(.int w), (.int (0 : Int32)), (.ref b43_0), (.int (0 : Int32)), (.ref cb)]))
      refine og (fun _ hr => XS.imul X53.here hx rfl (hb hby dc5_88) rfl (XS.aloadN X53.here hx rfl (hb hby dc5_89) rfl rfl hr)) ?_
      show oG p e below _ (T53.setTop (mkF m 90 #[.val (.ref q), .val (.ref cb), .val (.ref t), .val (.int (0 : Int32)), .val (.int nd_), .val (.int (16 : Int32))] [(.ref q), (.int ((0 : Int32) * w)), (.ref b43_0), (.int (0 : Int32)), (.ref cb)]))
      obtain ⟨T54, X54, e54, st54⟩ := getF X53 hx hZ hown (host := "") (Or.inl (hw _ (own_m 36 rfl))) Via.refl e53 f52 (g := (mkF m 90 #[.val (.ref q), .val (.ref cb), .val (.ref t), .val (.int (0 : Int32)), .val (.int nd_), .val (.int (16 : Int32))] [(.ref q), (.int ((0 : Int32) * w)), (.ref b43_0), (.int (0 : Int32)), (.ref cb)])) rfl rfl (hb hby dc5_90)
      refine og st54 ?_
      show oG p e below _ (T54.setTop (mkF m 93 #[.val (.ref q), .val (.ref cb), .val (.ref t), .val (.int (0 : Int32)), .val (.int nd_), .val (.int (16 : Int32))] [(.int w), (.int ((0 : Int32) * w)), (.ref b43_0), (.int (0 : Int32)), (.ref cb)]))
      have f56 := ((VB.keep K43 nin0).other W46 ne_cb_C_)
      have f57 := (f43_1.other W46 (Ne.symm (Nat.ne_of_lt (Nat.lt_of_lt_of_le VC.lt sz43_0))))
      have c58 : ¬ (((0 : Int32) * w) < (0 : Int32)) := by
        have q0 := rng32 w
        have q1 := c_imul (1 : Int32) w
        have r1 := rng32 ((1 : Int32) * w)
        have q2 := congrArg Int32.toInt hnd_
        have q3 := c_imul (0 : Int32) w
        have r3 := rng32 ((0 : Int32) * w)
        have p0 := hw0
        have p1 := hw3
        have p2 := c36
        have p3 := c41
        simp only [true_implies, Int32.lt_iff_toInt_lt, ← Int32.toInt_inj, Int32.reduceToInt, Int64.lt_iff_toInt_lt, ← Int64.toInt_inj, Int64.reduceToInt] at q0 q1 q2 q3 p0 p1 p2 p3 ⊢
        omega
      have le55 : ((0 : Int32) * w).toInt + w.toInt ≤ (16 : Int32).toInt ∧ w.toInt ≤ 3 ∧ 0 ≤ ((0 : Int32) * w).toInt ∧ 0 ≤ w.toInt ∧ 0 ≤ (16 : Int32).toInt := by
        have q0 := rng32 w
        have r0 := rng32 w
        have q1 := c_imul (0 : Int32) w
        have r1 := rng32 ((0 : Int32) * w)
        have q2 := c_imul (1 : Int32) w
        have r2 := rng32 ((1 : Int32) * w)
        have q3 := congrArg Int32.toInt hnd_
        have r3 := rng32 nd_
        have p0 := hw0
        have p1 := hw3
        have p2 := c36
        have p3 := c41
        have p4 := c58
        try simp only [true_implies, Int32.lt_iff_toInt_lt, ← Int32.toInt_inj, Int32.reduceToInt, Int64.lt_iff_toInt_lt, ← Int64.toInt_inj, Int64.reduceToInt] at q0 q1 q2 q3 p0 p1 p2 p3 p4
        try simp only [Int32.reduceToInt]
        omega
      have lf55 : ((0 : Int32) * w).toNatClampNeg + w.toNatClampNeg ≤ (16 : Int32).toNatClampNeg ∧ (0 : Int32).toNatClampNeg + w.toNatClampNeg ≤ (3 : Int32).toNatClampNeg := by
        have := own_tn ((0 : Int32) * w) (by omega)
        have := own_tn w (by omega)
        have := own_tn (16 : Int32) (by omega)
        have z0 : (0 : Int32).toNatClampNeg = 0 := rfl
        have z3 : (3 : Int32).toNatClampNeg = 3 := rfl
        omega
      have ll55 : ([(.int (0 : Int32)), (.int (0 : Int32)), (.int (0 : Int32)), (.int (0 : Int32)), (.int (0 : Int32)), (.int (0 : Int32)), (.int (0 : Int32)), (.int (0 : Int32)), (.int (0 : Int32)), (.int (0 : Int32)), (.int (0 : Int32)), (.int (0 : Int32)), (.int (0 : Int32)), (.int (0 : Int32)), (.int (0 : Int32)), (.int (0 : Int32))] : List Value).length = (16 : Int32).toNatClampNeg := (by decide)
      obtain ⟨T55, h55, L55, X55, e55, N55, K55, A55, st55⟩ := cpA X54 hx hZ hown (hw _ (own_m 58 rfl)) (hw _ (own_m 61 rfl)) (hw _ (own_m 59 rfl)) (hw _ (own_m 60 rfl)) e54 f56 f57 (us := _) (Or.inl ⟨rfl, rfl⟩) (by decide) c58 hw0 lf55.2 lf55.1 rfl (ll55 ▸ lf55.1) N46 ge43_0 (g := (mkF m 93 #[.val (.ref q), .val (.ref cb), .val (.ref t), .val (.int (0 : Int32)), .val (.int nd_), .val (.int (16 : Int32))] [(.int w), (.int ((0 : Int32) * w)), (.ref b43_0), (.int (0 : Int32)), (.ref cb)])) rfl (by rw [hml]; rfl) rfl (hb hby dc5_93) (by decide) (W := 0) (by show 2 * 0 + _ ≤ _; exact Nat.le_of_eq rfl) (by decide)
      refine og st55 ?_
      have ln55 := own_cplen (us := (List.range w.toNatClampNeg).map fun i => ([(.int bx_), (.int by_), (.int bz_)] : List Value).getD ((0 : Int32).toNatClampNeg + i) (.int (0 : Int32))) (ll55 ▸ lf55.1) (by simp) ll55
      generalize hvn55 : (([(.int (0 : Int32)), (.int (0 : Int32)), (.int (0 : Int32)), (.int (0 : Int32)), (.int (0 : Int32)), (.int (0 : Int32)), (.int (0 : Int32)), (.int (0 : Int32)), (.int (0 : Int32)), (.int (0 : Int32)), (.int (0 : Int32)), (.int (0 : Int32)), (.int (0 : Int32)), (.int (0 : Int32)), (.int (0 : Int32)), (.int (0 : Int32))] : List Value).take ((0 : Int32) * w).toNatClampNeg ++ (List.range w.toNatClampNeg).map (fun i => ([(.int bx_), (.int by_), (.int bz_)] : List Value).getD ((0 : Int32).toNatClampNeg + i) (.int (0 : Int32))) ++ ([(.int (0 : Int32)), (.int (0 : Int32)), (.int (0 : Int32)), (.int (0 : Int32)), (.int (0 : Int32)), (.int (0 : Int32)), (.int (0 : Int32)), (.int (0 : Int32)), (.int (0 : Int32)), (.int (0 : Int32)), (.int (0 : Int32)), (.int (0 : Int32)), (.int (0 : Int32)), (.int (0 : Int32)), (.int (0 : Int32)), (.int (0 : Int32))] : List Value).drop (((0 : Int32) * w).toNatClampNeg + w.toNatClampNeg)) = vn55 at A55 ln55
      show oG p e below _ (T55.setTop (mkF m 96 #[.val (.ref q), .val (.ref cb), .val (.ref t), .val (.int (0 : Int32)), .val (.int nd_), .val (.int (16 : Int32))] []))
      refine og (fun _ hr => XS.aloadN X55.here hx rfl (hb hby dc5_96) rfl rfl hr) ?_
      show oG p e below _ (T55.setTop (mkF m 97 #[.val (.ref q), .val (.ref cb), .val (.ref t), .val (.int (0 : Int32)), .val (.int nd_), .val (.int (16 : Int32))] [(.ref q)]))
      have f59 := (f49.keep K55 (ninS (Nat.ne_of_lt (Nat.lt_of_lt_of_le EQ.lt sz43_0)) nin0))
      obtain ⟨T60, X60, e60, st60⟩ := getF X55 hx hZ hown (host := "") (Or.inl (hw _ (own_m 34 rfl))) Via.refl e55 f59 (g := (mkF m 97 #[.val (.ref q), .val (.ref cb), .val (.ref t), .val (.int (0 : Int32)), .val (.int nd_), .val (.int (16 : Int32))] [(.ref q)])) rfl rfl (hb hby dc5_97)
      refine og st60 ?_
      show oG p e below _ (T60.setTop (mkF m 100 #[.val (.ref q), .val (.ref cb), .val (.ref t), .val (.int (0 : Int32)), .val (.int nd_), .val (.int (16 : Int32))] [(.ref S_)]))
      refine og (fun _ hr => XS.iloadN X60.here hx rfl (hb hby dc5_100) rfl hr) ?_
      show oG p e below _ (T60.setTop (mkF m 101 #[.val (.ref q), .val (.ref cb), .val (.ref t), .val (.int (0 : Int32)), .val (.int nd_), .val (.int (16 : Int32))] [(.int (0 : Int32)), (.ref S_)]))
      refine og (S' := T60.setTop (mkF m 102 #[.val (.ref q), .val (.ref cb), .val (.ref t), .val (.int (0 : Int32)), .val (.int nd_), .val (.int (16 : Int32))] [(.int (0 : Int32)), (.ref S_), (.int (0 : Int32)), (.ref S_)])) (fun _ hr => by
        jvm_step X60.here [X60.here.top, hx, (hb hby dc5_101), Value.category]
        exact hr) ?_
      show oG p e below _ (T60.setTop (mkF m 102 #[.val (.ref q), .val (.ref cb), .val (.ref t), .val (.int (0 : Int32)), .val (.int nd_), .val (.int (16 : Int32))] [(.int (0 : Int32)), (.ref S_), (.int (0 : Int32)), (.ref S_)]))
      have f61 := (f51.keep K55 (ninS (Nat.ne_of_lt (Nat.lt_of_lt_of_le VS.lt sz43_0)) nin0))
      refine og (fun _ hr => own_iaload X60 hx hZ e60 f61 (0 : Int32) (.int (0 : Int32)) ⟨by decide, by decide⟩ rfl rfl rfl (hb hby dc5_102) (XS.iconst X60.here hx rfl (hb hby dc5_103) (XS.iadd X60.here hx rfl (hb hby dc5_104) rfl hr))) ?_
      show oG p e below _ (T60.setTop (mkF m 105 #[.val (.ref q), .val (.ref cb), .val (.ref t), .val (.int (0 : Int32)), .val (.int nd_), .val (.int (16 : Int32))] [(.int (1 : Int32)), (.int (0 : Int32)), (.ref S_)]))
      refine own_stI X60 hx hZ e60 f61 (0 : Int32) (1 : Int32) 0 ⟨by decide, by decide⟩ rfl (Nat.le_of_ble_eq_true rfl)  [(.int (1 : Int32)), (.int s1_), (.int s2_), (.int s3_)] rfl N55 ge_S_ (hb hby dc5_105) ?_
      intro T62 h62 L62 X62 e62 W62 N62 f62
      show oG p e below _ (T62.setTop (mkF m 106 #[.val (.ref q), .val (.ref cb), .val (.ref t), .val (.int (0 : Int32)), .val (.int nd_), .val (.int (16 : Int32))] []))
      have K63 := ((((K0.trans K43 all0).wr W46 (Or.inl (List.mem_of_getElem? (i := 0) rfl))).trans K55 (allS (Or.inr sz44) all0)).wr W62 (Or.inl (List.mem_of_getElem? (i := 1) rfl)))
      have f64 := (EQ.keep K63)
      have f65 := ((f47.keep K55 (ninS (Nat.ne_of_lt (Nat.lt_of_lt_of_le EQ.lt sz43_0)) nin0)).other W62 (Or.inl ne_q_S_))
      have f66 := (f59.other W62 (Or.inl ne_q_S_))
      have f67 := ((f52.keep K55 (ninS (Nat.ne_of_lt (Nat.lt_of_lt_of_le EQ.lt sz43_0)) nin0)).other W62 (Or.inl ne_q_S_))
      have f68 := ((f46.keep K55 (ninS (Nat.ne_of_lt (Nat.lt_of_lt_of_le VC.lt sz43_0)) nin0)).other W62 ne_C__S_)
      have f69 := (A55.other W62 (Ne.symm (Nat.ne_of_lt (Nat.lt_of_lt_of_le VS.lt sz43_0))))
      have f70 := ((((VD1.keep K43 nin0).other W46 (Ne.symm ne_C__d1_)).keep K55 (ninS (Nat.ne_of_lt (Nat.lt_of_lt_of_le VD1.lt sz43_0)) nin0)).other W62 (Ne.symm ne_S__d1_))
      have f71 := ((((VD2.keep K43 nin0).other W46 (Ne.symm ne_C__d2_)).keep K55 (ninS (Nat.ne_of_lt (Nat.lt_of_lt_of_le VD2.lt sz43_0)) nin0)).other W62 (Ne.symm ne_S__d2_))
      have f72 := ((((VD3.keep K43 nin0).other W46 (Ne.symm ne_C__d3_)).keep K55 (ninS (Nat.ne_of_lt (Nat.lt_of_lt_of_le VD3.lt sz43_0)) nin0)).other W62 (Ne.symm ne_S__d3_))
      have f73 := ((f56.keep K55 (ninS (Nat.ne_of_lt (Nat.lt_of_lt_of_le VB.lt sz43_0)) nin0)).other W62 ne_cb_S_)
      have om74 : 0 ≤ (1 : Int32).toInt := by
        have q0 := rng32 w
        have r0 := rng32 w
        have q1 := c_imul (1 : Int32) w
        have r1 := rng32 ((1 : Int32) * w)
        have q2 := congrArg Int32.toInt hnd_
        have r2 := rng32 nd_
        have q3 := c_imul (0 : Int32) w
        have r3 := rng32 ((0 : Int32) * w)
        have p0 := hw0
        have p1 := hw3
        have p2 := c36
        have p3 := c41
        have p4 := c58
        try simp only [true_implies, Int32.lt_iff_toInt_lt, ← Int32.toInt_inj, Int32.reduceToInt, Int64.lt_iff_toInt_lt, ← Int64.toInt_inj, Int64.reduceToInt] at q0 q1 q2 q3 p0 p1 p2 p3 p4
        first | omega | (simp only [Int32.reduceToInt, ← Int32.toInt_inj] <;> omega) | decide
      have om75 : 0 ≤ s1_.toInt := by
        have q0 := rng32 s1_
        have r0 := rng32 s1_
        have q1 := rng32 w
        have r1 := rng32 w
        have q2 := c_imul (1 : Int32) w
        have r2 := rng32 ((1 : Int32) * w)
        have q3 := congrArg Int32.toInt hnd_
        have r3 := rng32 nd_
        have q4 := c_imul (0 : Int32) w
        have r4 := rng32 ((0 : Int32) * w)
        have p0 := hw0
        have p1 := hw3
        have p2 := c36
        have p3 := c41
        have p4 := c58
        try simp only [true_implies, Int32.lt_iff_toInt_lt, ← Int32.toInt_inj, Int32.reduceToInt, Int64.lt_iff_toInt_lt, ← Int64.toInt_inj, Int64.reduceToInt] at q0 q1 q2 q3 q4 p0 p1 p2 p3 p4
        first | omega | (simp only [Int32.reduceToInt, ← Int32.toInt_inj] <;> omega) | decide
      have om76 : 0 ≤ s2_.toInt := by
        have q0 := rng32 s2_
        have r0 := rng32 s2_
        have q1 := rng32 w
        have r1 := rng32 w
        have q2 := c_imul (1 : Int32) w
        have r2 := rng32 ((1 : Int32) * w)
        have q3 := congrArg Int32.toInt hnd_
        have r3 := rng32 nd_
        have q4 := c_imul (0 : Int32) w
        have r4 := rng32 ((0 : Int32) * w)
        have p0 := hw0
        have p1 := hw3
        have p2 := c36
        have p3 := c41
        have p4 := c58
        try simp only [true_implies, Int32.lt_iff_toInt_lt, ← Int32.toInt_inj, Int32.reduceToInt, Int64.lt_iff_toInt_lt, ← Int64.toInt_inj, Int64.reduceToInt] at q0 q1 q2 q3 q4 p0 p1 p2 p3 p4
        first | omega | (simp only [Int32.reduceToInt, ← Int32.toInt_inj] <;> omega) | decide
      have om77 : 0 ≤ s3_.toInt := by
        have q0 := rng32 s3_
        have r0 := rng32 s3_
        have q1 := rng32 w
        have r1 := rng32 w
        have q2 := c_imul (1 : Int32) w
        have r2 := rng32 ((1 : Int32) * w)
        have q3 := congrArg Int32.toInt hnd_
        have r3 := rng32 nd_
        have q4 := c_imul (0 : Int32) w
        have r4 := rng32 ((0 : Int32) * w)
        have p0 := hw0
        have p1 := hw3
        have p2 := c36
        have p3 := c41
        have p4 := c58
        try simp only [true_implies, Int32.lt_iff_toInt_lt, ← Int32.toInt_inj, Int32.reduceToInt, Int64.lt_iff_toInt_lt, ← Int64.toInt_inj, Int64.reduceToInt] at q0 q1 q2 q3 q4 p0 p1 p2 p3 p4
        first | omega | (simp only [Int32.reduceToInt, ← Int32.toInt_inj] <;> omega) | decide
      have om78 : (1 : Int32).toInt + s1_.toInt + s2_.toInt + s3_.toInt = cnt2.toInt := by
        have q0 := rng32 s1_
        have r0 := rng32 s1_
        have q1 := rng32 s2_
        have r1 := rng32 s2_
        have q2 := rng32 s3_
        have r2 := rng32 s3_
        have q3 := rng32 w
        have r3 := rng32 w
        have q4 := c_imul (1 : Int32) w
        have r4 := rng32 ((1 : Int32) * w)
        have q5 := congrArg Int32.toInt hnd_
        have r5 := rng32 nd_
        have q6 := c_imul (0 : Int32) w
        have r6 := rng32 ((0 : Int32) * w)
        have p0 := hw0
        have p1 := hw3
        have p2 := c36
        have p3 := c41
        have p4 := c58
        try simp only [true_implies, Int32.lt_iff_toInt_lt, ← Int32.toInt_inj, Int32.reduceToInt, Int64.lt_iff_toInt_lt, ← Int64.toInt_inj, Int64.reduceToInt] at q0 q1 q2 q3 q4 q5 q6 p0 p1 p2 p3 p4
        first | omega | (simp only [Int32.reduceToInt, ← Int32.toInt_inj] <;> omega) | decide
      exact own_ret0 X62 hx hlk Bd.returns (hb hby dc5_106) (by decide) (by decide) (by rw [e62]; exact ⟨rfl, N62, [C_, S_, d0_, d1_, d2_, d3_], K63, (fun x hx_ => by simp only [List.mem_cons, List.not_mem_nil, or_false] at hx_; rcases hx_ with rfl | rfl | rfl | rfl | rfl | rfl <;> assumption), ⟨C_, S_, b43_0, d1_, d2_, d3_, kC_, kS_, kb_, kb43_0, e1_, e2_, e3_, (1 : Int32), s1_, s2_, s3_, (16 : Int32), m1_, m2_, m3_, bx_, by_, bz_, vn55, v1_, v2_, v3_, f64, f65, f66, f67, f68, OV, f62, f69, f70, f71, f72, f73, g_C_, g_S_, (Nat.le_trans (Nat.le_trans g_C_ (Nat.le_of_lt VC.lt)) sz44), g_d1_, g_d2_, g_d3_, ne_C__S_, (Nat.ne_of_lt (Nat.lt_of_lt_of_le VC.lt sz43_0)), ne_C__d1_, ne_C__d2_, ne_C__d3_, (Nat.ne_of_lt (Nat.lt_of_lt_of_le VS.lt sz43_0)), ne_S__d1_, ne_S__d2_, ne_S__d3_, (Ne.symm (Nat.ne_of_lt (Nat.lt_of_lt_of_le VD1.lt sz43_0))), (Ne.symm (Nat.ne_of_lt (Nat.lt_of_lt_of_le VD2.lt sz43_0))), (Ne.symm (Nat.ne_of_lt (Nat.lt_of_lt_of_le VD3.lt sz43_0))), ne_d1__d2_, ne_d1__d3_, ne_d2__d3_, ne_cb_C_, ne_cb_S_, (Nat.ne_of_lt (Nat.lt_of_lt_of_le VB.lt sz43_0)), ne_cb_d1_, ne_cb_d2_, ne_cb_d3_, ne_q_C_, ne_q_S_, (Nat.ne_of_lt (Nat.lt_of_lt_of_le EQ.lt sz43_0)), ne_q_d1_, ne_q_d2_, ne_q_d3_, om74, om75, om76, om77, om78, (Or.inl rfl), iM1_, iM2_, iM3_, ln55, iL1_, iL2_, iL3_, WB⟩⟩)
    refine og (fun _ hr => XS.icmpYes X35.here hx rfl (pc0 := 29) (pc' := 70) rfl (hb hby dc5_29) rfl (flt c36).2.2.2 (by decide) (by decide) hr) ?_
    show oG p e below _ (T35.setTop (mkF m 70 #[.val (.ref q), .val (.ref cb), .val (.ref t), .val (.int (0 : Int32)), .val (.int nd_), .unset] []))
    refine og (fun _ hr => XS.aloadN X35.here hx rfl (hb hby dc5_70) rfl rfl (XS.iconst X35.here hx rfl (hb hby dc5_71) (XS.aloadN X35.here hx rfl (hb hby dc5_72) rfl rfl hr))) ?_
    show oG p e below _ (T35.setTop (mkF m 73 #[.val (.ref q), .val (.ref cb), .val (.ref t), .val (.int (0 : Int32)), .val (.int nd_), .unset] [(.ref q), (.int (0 : Int32)), (.ref cb)]))
    obtain ⟨T79, X79, e79, st79⟩ := getF X35 hx hZ hown (host := "") (Or.inl (hw _ (own_m 32 rfl))) Via.refl e35 FC (g := (mkF m 73 #[.val (.ref q), .val (.ref cb), .val (.ref t), .val (.int (0 : Int32)), .val (.int nd_), .unset] [(.ref q), (.int (0 : Int32)), (.ref cb)])) rfl rfl (hb hby dc5_73)
    refine og st79 ?_
    show oG p e below _ (T79.setTop (mkF m 76 #[.val (.ref q), .val (.ref cb), .val (.ref t), .val (.int (0 : Int32)), .val (.int nd_), .unset] [(.ref C_), (.int (0 : Int32)), (.ref cb)]))
    refine og (fun _ hr => XS.iloadN X79.here hx rfl (hb hby dc5_76) rfl (own_aaload X79 hx hZ e79 VC (0 : Int32) (.ref d0_) ⟨by decide, by decide⟩ rfl rfl rfl rfl (hb hby dc5_77) (XS.aloadN X79.here hx rfl (hb hby dc5_78) rfl rfl hr))) ?_
    show oG p e below _ (T79.setTop (mkF m 79 #[.val (.ref q), .val (.ref cb), .val (.ref t), .val (.int (0 : Int32)), .val (.int nd_), .unset] [(.ref q), (.ref d0_), (.int (0 : Int32)), (.ref cb)]))
    obtain ⟨T80, X80, e80, st80⟩ := getF X79 hx hZ hown (host := "") (Or.inl (hw _ (own_m 34 rfl))) Via.refl e79 FS (g := (mkF m 79 #[.val (.ref q), .val (.ref cb), .val (.ref t), .val (.int (0 : Int32)), .val (.int nd_), .unset] [(.ref q), (.ref d0_), (.int (0 : Int32)), (.ref cb)])) rfl rfl (hb hby dc5_79)
    refine og st80 ?_
    show oG p e below _ (T80.setTop (mkF m 82 #[.val (.ref q), .val (.ref cb), .val (.ref t), .val (.int (0 : Int32)), .val (.int nd_), .unset] [(.ref S_), (.ref d0_), (.int (0 : Int32)), (.ref cb)]))
    refine og (fun _ hr => XS.iloadN X80.here hx rfl (hb hby dc5_82) rfl (own_iaload X80 hx hZ e80 VS (0 : Int32) (.int (0 : Int32)) ⟨by decide, by decide⟩ rfl rfl rfl (hb hby dc5_83) (XS.aloadN X80.here hx rfl (hb hby dc5_84) rfl rfl hr))) ?_
    show oG p e below _ (T80.setTop (mkF m 85 #[.val (.ref q), .val (.ref cb), .val (.ref t), .val (.int (0 : Int32)), .val (.int nd_), .unset] [(.ref q), (.int (0 : Int32)), (.ref d0_), (.int (0 : Int32)), (.ref cb)]))
    obtain ⟨T81, X81, e81, st81⟩ := getF X80 hx hZ hown (host := "") (Or.inl (hw _ (own_m 36 rfl))) Via.refl e80 FW (g := (mkF m 85 #[.val (.ref q), .val (.ref cb), .val (.ref t), .val (.int (0 : Int32)), .val (.int nd_), .unset] [(.ref q), (.int (0 : Int32)), (.ref d0_), (.int (0 : Int32)), (.ref cb)])) rfl rfl (hb hby dc5_85)
    refine og st81 ?_
    show oG p e below _ (T81.setTop (mkF m 88 #[.val (.ref q), .val (.ref cb), .val (.ref t), .val (.int (0 : Int32)), .val (.int nd_), .unset] [(.int w), (.int (0 : Int32)), (.ref d0_), (.int (0 : Int32)), (.ref cb)]))
    refine og (fun _ hr => XS.imul X81.here hx rfl (hb hby dc5_88) rfl (XS.aloadN X81.here hx rfl (hb hby dc5_89) rfl rfl hr)) ?_
    show oG p e below _ (T81.setTop (mkF m 90 #[.val (.ref q), .val (.ref cb), .val (.ref t), .val (.int (0 : Int32)), .val (.int nd_), .unset] [(.ref q), (.int ((0 : Int32) * w)), (.ref d0_), (.int (0 : Int32)), (.ref cb)]))
    obtain ⟨T82, X82, e82, st82⟩ := getF X81 hx hZ hown (host := "") (Or.inl (hw _ (own_m 36 rfl))) Via.refl e81 FW (g := (mkF m 90 #[.val (.ref q), .val (.ref cb), .val (.ref t), .val (.int (0 : Int32)), .val (.int nd_), .unset] [(.ref q), (.int ((0 : Int32) * w)), (.ref d0_), (.int (0 : Int32)), (.ref cb)])) rfl rfl (hb hby dc5_90)
    refine og st82 ?_
    show oG p e below _ (T82.setTop (mkF m 93 #[.val (.ref q), .val (.ref cb), .val (.ref t), .val (.int (0 : Int32)), .val (.int nd_), .unset] [(.int w), (.int ((0 : Int32) * w)), (.ref d0_), (.int (0 : Int32)), (.ref cb)]))
    have c84 : ¬ (((0 : Int32) * w) < (0 : Int32)) := by
      have q0 := rng32 w
      have q1 := c_imul (1 : Int32) w
      have r1 := rng32 ((1 : Int32) * w)
      have q2 := congrArg Int32.toInt hnd_
      have q3 := c_imul (0 : Int32) w
      have r3 := rng32 ((0 : Int32) * w)
      have p0 := hw0
      have p1 := hw3
      have p2 := c36
      simp only [true_implies, Int32.lt_iff_toInt_lt, ← Int32.toInt_inj, Int32.reduceToInt, Int64.lt_iff_toInt_lt, ← Int64.toInt_inj, Int64.reduceToInt] at q0 q1 q2 q3 p0 p1 p2 ⊢
      omega
    have le83 : ((0 : Int32) * w).toInt + w.toInt ≤ (0 : Int32).toInt ∧ w.toInt ≤ 3 ∧ 0 ≤ ((0 : Int32) * w).toInt ∧ 0 ≤ w.toInt ∧ 0 ≤ (0 : Int32).toInt := by
      have q0 := rng32 w
      have r0 := rng32 w
      have q1 := c_imul (0 : Int32) w
      have r1 := rng32 ((0 : Int32) * w)
      have q2 := c_imul (1 : Int32) w
      have r2 := rng32 ((1 : Int32) * w)
      have q3 := congrArg Int32.toInt hnd_
      have r3 := rng32 nd_
      have p0 := hw0
      have p1 := hw3
      have p2 := c36
      have p3 := c84
      try simp only [true_implies, Int32.lt_iff_toInt_lt, ← Int32.toInt_inj, Int32.reduceToInt, Int64.lt_iff_toInt_lt, ← Int64.toInt_inj, Int64.reduceToInt] at q0 q1 q2 q3 p0 p1 p2 p3
      try simp only [Int32.reduceToInt]
      omega
    have lf83 : ((0 : Int32) * w).toNatClampNeg + w.toNatClampNeg ≤ (0 : Int32).toNatClampNeg ∧ (0 : Int32).toNatClampNeg + w.toNatClampNeg ≤ (3 : Int32).toNatClampNeg := by
      have := own_tn ((0 : Int32) * w) (by omega)
      have := own_tn w (by omega)
      have := own_tn (0 : Int32) (by omega)
      have z0 : (0 : Int32).toNatClampNeg = 0 := rfl
      have z3 : (3 : Int32).toNatClampNeg = 3 := rfl
      omega
    have ll83 : ([] : List Value).length = (0 : Int32).toNatClampNeg := (by decide)
    obtain ⟨T83, h83, L83, X83, e83, N83, K83, A83, st83⟩ := cpA X82 hx hZ hown (hw _ (own_m 58 rfl)) (hw _ (own_m 61 rfl)) (hw _ (own_m 59 rfl)) (hw _ (own_m 60 rfl)) e82 VB VD0 (us := _) (Or.inl ⟨rfl, rfl⟩) (by decide) c84 hw0 lf83.2 lf83.1 rfl (ll83 ▸ lf83.1) N32 ge_d0_ (g := (mkF m 93 #[.val (.ref q), .val (.ref cb), .val (.ref t), .val (.int (0 : Int32)), .val (.int nd_), .unset] [(.int w), (.int ((0 : Int32) * w)), (.ref d0_), (.int (0 : Int32)), (.ref cb)])) rfl (by rw [hml]; rfl) rfl (hb hby dc5_93) (by decide) (W := 0) (by show 2 * 0 + _ ≤ _; exact Nat.le_of_eq rfl) (by decide)
    refine og st83 ?_
    have ln83 := own_cplen (us := (List.range w.toNatClampNeg).map fun i => ([(.int bx_), (.int by_), (.int bz_)] : List Value).getD ((0 : Int32).toNatClampNeg + i) (.int (0 : Int32))) (ll83 ▸ lf83.1) (by simp) ll83
    generalize hvn83 : (([] : List Value).take ((0 : Int32) * w).toNatClampNeg ++ (List.range w.toNatClampNeg).map (fun i => ([(.int bx_), (.int by_), (.int bz_)] : List Value).getD ((0 : Int32).toNatClampNeg + i) (.int (0 : Int32))) ++ ([] : List Value).drop (((0 : Int32) * w).toNatClampNeg + w.toNatClampNeg)) = vn83 at A83 ln83
    show oG p e below _ (T83.setTop (mkF m 96 #[.val (.ref q), .val (.ref cb), .val (.ref t), .val (.int (0 : Int32)), .val (.int nd_), .unset] []))
    refine og (fun _ hr => XS.aloadN X83.here hx rfl (hb hby dc5_96) rfl rfl hr) ?_
    show oG p e below _ (T83.setTop (mkF m 97 #[.val (.ref q), .val (.ref cb), .val (.ref t), .val (.int (0 : Int32)), .val (.int nd_), .unset] [(.ref q)]))
    have f85 := (FS.keep K83 (ninS ne_q_d0_ nin0))
    obtain ⟨T86, X86, e86, st86⟩ := getF X83 hx hZ hown (host := "") (Or.inl (hw _ (own_m 34 rfl))) Via.refl e83 f85 (g := (mkF m 97 #[.val (.ref q), .val (.ref cb), .val (.ref t), .val (.int (0 : Int32)), .val (.int nd_), .unset] [(.ref q)])) rfl rfl (hb hby dc5_97)
    refine og st86 ?_
    show oG p e below _ (T86.setTop (mkF m 100 #[.val (.ref q), .val (.ref cb), .val (.ref t), .val (.int (0 : Int32)), .val (.int nd_), .unset] [(.ref S_)]))
    refine og (fun _ hr => XS.iloadN X86.here hx rfl (hb hby dc5_100) rfl hr) ?_
    show oG p e below _ (T86.setTop (mkF m 101 #[.val (.ref q), .val (.ref cb), .val (.ref t), .val (.int (0 : Int32)), .val (.int nd_), .unset] [(.int (0 : Int32)), (.ref S_)]))
    refine og (S' := T86.setTop (mkF m 102 #[.val (.ref q), .val (.ref cb), .val (.ref t), .val (.int (0 : Int32)), .val (.int nd_), .unset] [(.int (0 : Int32)), (.ref S_), (.int (0 : Int32)), (.ref S_)])) (fun _ hr => by
      jvm_step X86.here [X86.here.top, hx, (hb hby dc5_101), Value.category]
      exact hr) ?_
    show oG p e below _ (T86.setTop (mkF m 102 #[.val (.ref q), .val (.ref cb), .val (.ref t), .val (.int (0 : Int32)), .val (.int nd_), .unset] [(.int (0 : Int32)), (.ref S_), (.int (0 : Int32)), (.ref S_)]))
    have f87 := (VS.keep K83 (ninS ne_S__d0_ nin0))
    refine og (fun _ hr => own_iaload X86 hx hZ e86 f87 (0 : Int32) (.int (0 : Int32)) ⟨by decide, by decide⟩ rfl rfl rfl (hb hby dc5_102) (XS.iconst X86.here hx rfl (hb hby dc5_103) (XS.iadd X86.here hx rfl (hb hby dc5_104) rfl hr))) ?_
    show oG p e below _ (T86.setTop (mkF m 105 #[.val (.ref q), .val (.ref cb), .val (.ref t), .val (.int (0 : Int32)), .val (.int nd_), .unset] [(.int (1 : Int32)), (.int (0 : Int32)), (.ref S_)]))
    refine own_stI X86 hx hZ e86 f87 (0 : Int32) (1 : Int32) 0 ⟨by decide, by decide⟩ rfl (Nat.le_of_ble_eq_true rfl)  [(.int (1 : Int32)), (.int s1_), (.int s2_), (.int s3_)] rfl N83 ge_S_ (hb hby dc5_105) ?_
    intro T88 h88 L88 X88 e88 W88 N88 f88
    show oG p e below _ (T88.setTop (mkF m 106 #[.val (.ref q), .val (.ref cb), .val (.ref t), .val (.int (0 : Int32)), .val (.int nd_), .unset] []))
    have f89 := ((EQ.keep K83).wr W88)
    have f90 := ((FC.keep K83 (ninS ne_q_d0_ nin0)).other W88 (Or.inl ne_q_S_))
    have f91 := (f85.other W88 (Or.inl ne_q_S_))
    have f92 := ((FW.keep K83 (ninS ne_q_d0_ nin0)).other W88 (Or.inl ne_q_S_))
    have f93 := ((VC.keep K83 (ninS ne_C__d0_ nin0)).other W88 ne_C__S_)
    have f94 := (A83.other W88 (Ne.symm ne_S__d0_))
    have f95 := ((VD1.keep K83 (ninS (Ne.symm ne_d0__d1_) nin0)).other W88 (Ne.symm ne_S__d1_))
    have f96 := ((VD2.keep K83 (ninS (Ne.symm ne_d0__d2_) nin0)).other W88 (Ne.symm ne_S__d2_))
    have f97 := ((VD3.keep K83 (ninS (Ne.symm ne_d0__d3_) nin0)).other W88 (Ne.symm ne_S__d3_))
    have f98 := ((VB.keep K83 (ninS ne_cb_d0_ nin0)).other W88 ne_cb_S_)
    have om99 : 0 ≤ (1 : Int32).toInt := by
      have q0 := rng32 w
      have r0 := rng32 w
      have q1 := c_imul (1 : Int32) w
      have r1 := rng32 ((1 : Int32) * w)
      have q2 := congrArg Int32.toInt hnd_
      have r2 := rng32 nd_
      have q3 := c_imul (0 : Int32) w
      have r3 := rng32 ((0 : Int32) * w)
      have p0 := hw0
      have p1 := hw3
      have p2 := c36
      have p3 := c84
      try simp only [true_implies, Int32.lt_iff_toInt_lt, ← Int32.toInt_inj, Int32.reduceToInt, Int64.lt_iff_toInt_lt, ← Int64.toInt_inj, Int64.reduceToInt] at q0 q1 q2 q3 p0 p1 p2 p3
      first | omega | (simp only [Int32.reduceToInt, ← Int32.toInt_inj] <;> omega) | decide
    have om100 : 0 ≤ s1_.toInt := by
      have q0 := rng32 s1_
      have r0 := rng32 s1_
      have q1 := rng32 w
      have r1 := rng32 w
      have q2 := c_imul (1 : Int32) w
      have r2 := rng32 ((1 : Int32) * w)
      have q3 := congrArg Int32.toInt hnd_
      have r3 := rng32 nd_
      have q4 := c_imul (0 : Int32) w
      have r4 := rng32 ((0 : Int32) * w)
      have p0 := hw0
      have p1 := hw3
      have p2 := c36
      have p3 := c84
      try simp only [true_implies, Int32.lt_iff_toInt_lt, ← Int32.toInt_inj, Int32.reduceToInt, Int64.lt_iff_toInt_lt, ← Int64.toInt_inj, Int64.reduceToInt] at q0 q1 q2 q3 q4 p0 p1 p2 p3
      first | omega | (simp only [Int32.reduceToInt, ← Int32.toInt_inj] <;> omega) | decide
    have om101 : 0 ≤ s2_.toInt := by
      have q0 := rng32 s2_
      have r0 := rng32 s2_
      have q1 := rng32 w
      have r1 := rng32 w
      have q2 := c_imul (1 : Int32) w
      have r2 := rng32 ((1 : Int32) * w)
      have q3 := congrArg Int32.toInt hnd_
      have r3 := rng32 nd_
      have q4 := c_imul (0 : Int32) w
      have r4 := rng32 ((0 : Int32) * w)
      have p0 := hw0
      have p1 := hw3
      have p2 := c36
      have p3 := c84
      try simp only [true_implies, Int32.lt_iff_toInt_lt, ← Int32.toInt_inj, Int32.reduceToInt, Int64.lt_iff_toInt_lt, ← Int64.toInt_inj, Int64.reduceToInt] at q0 q1 q2 q3 q4 p0 p1 p2 p3
      first | omega | (simp only [Int32.reduceToInt, ← Int32.toInt_inj] <;> omega) | decide
    have om102 : 0 ≤ s3_.toInt := by
      have q0 := rng32 s3_
      have r0 := rng32 s3_
      have q1 := rng32 w
      have r1 := rng32 w
      have q2 := c_imul (1 : Int32) w
      have r2 := rng32 ((1 : Int32) * w)
      have q3 := congrArg Int32.toInt hnd_
      have r3 := rng32 nd_
      have q4 := c_imul (0 : Int32) w
      have r4 := rng32 ((0 : Int32) * w)
      have p0 := hw0
      have p1 := hw3
      have p2 := c36
      have p3 := c84
      try simp only [true_implies, Int32.lt_iff_toInt_lt, ← Int32.toInt_inj, Int32.reduceToInt, Int64.lt_iff_toInt_lt, ← Int64.toInt_inj, Int64.reduceToInt] at q0 q1 q2 q3 q4 p0 p1 p2 p3
      first | omega | (simp only [Int32.reduceToInt, ← Int32.toInt_inj] <;> omega) | decide
    have om103 : (1 : Int32).toInt + s1_.toInt + s2_.toInt + s3_.toInt = cnt2.toInt := by
      have q0 := rng32 s1_
      have r0 := rng32 s1_
      have q1 := rng32 s2_
      have r1 := rng32 s2_
      have q2 := rng32 s3_
      have r2 := rng32 s3_
      have q3 := rng32 w
      have r3 := rng32 w
      have q4 := c_imul (1 : Int32) w
      have r4 := rng32 ((1 : Int32) * w)
      have q5 := congrArg Int32.toInt hnd_
      have r5 := rng32 nd_
      have q6 := c_imul (0 : Int32) w
      have r6 := rng32 ((0 : Int32) * w)
      have p0 := hw0
      have p1 := hw3
      have p2 := c36
      have p3 := c84
      try simp only [true_implies, Int32.lt_iff_toInt_lt, ← Int32.toInt_inj, Int32.reduceToInt, Int64.lt_iff_toInt_lt, ← Int64.toInt_inj, Int64.reduceToInt] at q0 q1 q2 q3 q4 q5 q6 p0 p1 p2 p3
      first | omega | (simp only [Int32.reduceToInt, ← Int32.toInt_inj] <;> omega) | decide
    have om104 : w = (0 : Int32) := by
      have q0 := rng32 w
      have r0 := rng32 w
      have q1 := c_imul (1 : Int32) w
      have r1 := rng32 ((1 : Int32) * w)
      have q2 := congrArg Int32.toInt hnd_
      have r2 := rng32 nd_
      have q3 := c_imul (0 : Int32) w
      have r3 := rng32 ((0 : Int32) * w)
      have p0 := hw0
      have p1 := hw3
      have p2 := c36
      have p3 := c84
      try simp only [true_implies, Int32.lt_iff_toInt_lt, ← Int32.toInt_inj, Int32.reduceToInt, Int64.lt_iff_toInt_lt, ← Int64.toInt_inj, Int64.reduceToInt] at q0 q1 q2 q3 p0 p1 p2 p3
      first | omega | (simp only [Int32.reduceToInt, ← Int32.toInt_inj] <;> omega) | decide
    have K105 := ((K0.trans K83 (allS (Or.inl (List.mem_of_getElem? (i := 2) rfl)) all0)).wr W88 (Or.inl (List.mem_of_getElem? (i := 1) rfl)))
    exact own_ret0 X88 hx hlk Bd.returns (hb hby dc5_106) (by decide) (by decide) (by rw [e88]; exact ⟨rfl, N88, [C_, S_, d0_, d1_, d2_, d3_], K105, (fun x hx_ => by simp only [List.mem_cons, List.not_mem_nil, or_false] at hx_; rcases hx_ with rfl | rfl | rfl | rfl | rfl | rfl <;> assumption), ⟨C_, S_, d0_, d1_, d2_, d3_, kC_, kS_, kb_, e0_, e1_, e2_, e3_, (1 : Int32), s1_, s2_, s3_, (0 : Int32), m1_, m2_, m3_, bx_, by_, bz_, vn83, v1_, v2_, v3_, f89, f90, f91, f92, f93, OV, f88, f94, f95, f96, f97, f98, g_C_, g_S_, g_d0_, g_d1_, g_d2_, g_d3_, ne_C__S_, ne_C__d0_, ne_C__d1_, ne_C__d2_, ne_C__d3_, ne_S__d0_, ne_S__d1_, ne_S__d2_, ne_S__d3_, ne_d0__d1_, ne_d0__d2_, ne_d0__d3_, ne_d1__d2_, ne_d1__d3_, ne_d2__d3_, ne_cb_C_, ne_cb_S_, ne_cb_d0_, ne_cb_d1_, ne_cb_d2_, ne_cb_d3_, ne_q_C_, ne_q_S_, ne_q_d0_, ne_q_d1_, ne_q_d2_, ne_q_d3_, om99, om100, om101, om102, om103, (Or.inr ⟨rfl, Or.inr om104⟩), iM1_, iM2_, iM3_, ln83, iL1_, iL2_, iL3_, WB⟩⟩)
  · subst hm
    obtain rfl : v0_ = [] := List.eq_nil_of_length_eq_zero (iL0_.trans rfl)
    show oG p e below _ (s₁.setTop (mkF m 0 #[.val (.ref q), .val (.ref cb), .val (.ref t), .unset, .unset, .unset] []))
    refine og (fun _ hr => XS.aloadN X0.here hx rfl (hb hby dc5_0) rfl rfl hr) ?_
    show oG p e below _ (s₁.setTop (mkF m 1 #[.val (.ref q), .val (.ref cb), .val (.ref t), .unset, .unset, .unset] [(.ref t)]))
    refine own_cu X0 hx hZ hown (hw _ (own_m 49 rfl)) (hw _ (own_m 50 rfl)) (hw _ (own_m 51 rfl)) (hw _ (own_m 53 rfl)) (hw _ (own_m 52 rfl)) (hw _ (own_m 54 rfl)) (hw _ (own_m 55 rfl)) (by decide) Et (rm := { frames := 0, cells := 0, slots := 0, locals := 0 }) (rm_ordinal_0 l Z a0 hw [] t h0 n0 Z0 Ft) (by decide) (W := 0) (by decide) (by decide) (by decide) e0 (by rw [hml]; rfl) (argsL := []) (lenOf own_pd0 rfl) (rest := []) rfl rfl (Nat.le_of_eq rfl) (hb hby dc5_1) ?_
    intro _ T106 L106 X106 hQ106
    obtain ⟨rfl, N106q, e106⟩ := hQ106
    have N106 := Fr.app N0 N106q
    show oG p e below _ (T106.setTop (mkF m 4 #[.val (.ref q), .val (.ref cb), .val (.ref t), .unset, .unset, .unset] [(.int (0 : Int32))]))
    refine og (fun _ hr => XS.istoreN X106.here hx rfl (hb hby dc5_4) rfl (l' := #[.val (.ref q), .val (.ref cb), .val (.ref t), .val (.int (0 : Int32)), .unset, .unset]) rfl (XS.aloadN X106.here hx rfl (hb hby dc5_5) rfl rfl hr)) ?_
    show oG p e below _ (T106.setTop (mkF m 6 #[.val (.ref q), .val (.ref cb), .val (.ref t), .val (.int (0 : Int32)), .unset, .unset] [(.ref q)]))
    obtain ⟨T107, X107, e107, st107⟩ := getF X106 hx hZ hown (host := "") (Or.inl (hw _ (own_m 34 rfl))) Via.refl e106 FS (g := (mkF m 6 #[.val (.ref q), .val (.ref cb), .val (.ref t), .val (.int (0 : Int32)), .unset, .unset] [(.ref q)])) rfl rfl (hb hby dc5_6)
    refine og st107 ?_
    show oG p e below _ (T107.setTop (mkF m 9 #[.val (.ref q), .val (.ref cb), .val (.ref t), .val (.int (0 : Int32)), .unset, .unset] [(.ref S_)]))
    refine og (fun _ hr => XS.iloadN X107.here hx rfl (hb hby dc5_9) rfl (own_iaload X107 hx hZ e107 VS (0 : Int32) (.int s0_) ⟨by decide, by decide⟩ rfl rfl rfl (hb hby dc5_10) (XS.iconst X107.here hx rfl (hb hby dc5_11) (XS.iadd X107.here hx rfl (hb hby dc5_12) rfl (XS.aloadN X107.here hx rfl (hb hby dc5_13) rfl rfl hr))))) ?_
    show oG p e below _ (T107.setTop (mkF m 14 #[.val (.ref q), .val (.ref cb), .val (.ref t), .val (.int (0 : Int32)), .unset, .unset] [(.ref q), (.int (s0_ + (1 : Int32)))]))
    obtain ⟨T108, X108, e108, st108⟩ := getF X107 hx hZ hown (host := "") (Or.inl (hw _ (own_m 36 rfl))) Via.refl e107 FW (g := (mkF m 14 #[.val (.ref q), .val (.ref cb), .val (.ref t), .val (.int (0 : Int32)), .unset, .unset] [(.ref q), (.int (s0_ + (1 : Int32)))])) rfl rfl (hb hby dc5_14)
    refine og st108 ?_
    show oG p e below _ (T108.setTop (mkF m 17 #[.val (.ref q), .val (.ref cb), .val (.ref t), .val (.int (0 : Int32)), .unset, .unset] [(.int w), (.int (s0_ + (1 : Int32)))]))
    refine og (fun _ hr => XS.imul X108.here hx rfl (hb hby dc5_17) rfl (XS.istore X108.here hx rfl (hb hby dc5_18) rfl (l' := #[.val (.ref q), .val (.ref cb), .val (.ref t), .val (.int (0 : Int32)), .val (.int ((s0_ + (1 : Int32)) * w)), .unset]) rfl hr)) ?_
    show oG p e below _ (T108.setTop (mkF m 20 #[.val (.ref q), .val (.ref cb), .val (.ref t), .val (.int (0 : Int32)), .val (.int ((s0_ + (1 : Int32)) * w)), .unset] []))
    generalize hnd_ : ((s0_ + (1 : Int32)) * w) = nd_
    refine og (fun _ hr => XS.iload X108.here hx rfl (hb hby dc5_20) rfl (XS.aloadN X108.here hx rfl (hb hby dc5_22) rfl rfl hr)) ?_
    show oG p e below _ (T108.setTop (mkF m 23 #[.val (.ref q), .val (.ref cb), .val (.ref t), .val (.int (0 : Int32)), .val (.int nd_), .unset] [(.ref q), (.int nd_)]))
    obtain ⟨T109, X109, e109, st109⟩ := getF X108 hx hZ hown (host := "") (Or.inl (hw _ (own_m 32 rfl))) Via.refl e108 FC (g := (mkF m 23 #[.val (.ref q), .val (.ref cb), .val (.ref t), .val (.int (0 : Int32)), .val (.int nd_), .unset] [(.ref q), (.int nd_)])) rfl rfl (hb hby dc5_23)
    refine og st109 ?_
    show oG p e below _ (T109.setTop (mkF m 26 #[.val (.ref q), .val (.ref cb), .val (.ref t), .val (.int (0 : Int32)), .val (.int nd_), .unset] [(.ref C_), (.int nd_)]))
    refine og (fun _ hr => XS.iloadN X109.here hx rfl (hb hby dc5_26) rfl (own_aaload X109 hx hZ e109 VC (0 : Int32) (.ref d0_) ⟨by decide, by decide⟩ rfl rfl rfl rfl (hb hby dc5_27) (own_alen X109 hx hZ e109 VD0 rfl rfl (hb hby dc5_28) hr))) ?_
    show oG p e below _ (T109.setTop (mkF m 29 #[.val (.ref q), .val (.ref cb), .val (.ref t), .val (.int (0 : Int32)), .val (.int nd_), .unset] [(.int (0 : Int32)), (.int nd_)]))
    have c110 : ¬ ((0 : Int32) < nd_) := by
      have q0 := rng32 w
      have q1 := rng32 s0_
      have q2 := c_iadd s0_ (1 : Int32)
      have r2 := rng32 (s0_ + (1 : Int32))
      have q3 := own_prod (s0_ + (1 : Int32)) w
      have r3 := rng32 ((s0_ + (1 : Int32)) * w)
      have q4 := congrArg Int32.toInt hnd_
      have p0 := hw0
      have p1 := hw3
      have p2 := hp0
      have p3 := hp3
      have p4 := hz
      simp only [true_implies, Int32.lt_iff_toInt_lt, ← Int32.toInt_inj, Int32.reduceToInt, Int64.lt_iff_toInt_lt, ← Int64.toInt_inj, Int64.reduceToInt] at q0 q1 q2 q3 q4 p0 p1 p2 p3 p4 ⊢
      omega
    refine og (fun _ hr => XS.icmpYes X109.here hx rfl (pc0 := 29) (pc' := 70) rfl (hb hby dc5_29) rfl (flt c110).2.2.2 (by decide) (by decide) hr) ?_
    show oG p e below _ (T109.setTop (mkF m 70 #[.val (.ref q), .val (.ref cb), .val (.ref t), .val (.int (0 : Int32)), .val (.int nd_), .unset] []))
    refine og (fun _ hr => XS.aloadN X109.here hx rfl (hb hby dc5_70) rfl rfl (XS.iconst X109.here hx rfl (hb hby dc5_71) (XS.aloadN X109.here hx rfl (hb hby dc5_72) rfl rfl hr))) ?_
    show oG p e below _ (T109.setTop (mkF m 73 #[.val (.ref q), .val (.ref cb), .val (.ref t), .val (.int (0 : Int32)), .val (.int nd_), .unset] [(.ref q), (.int (0 : Int32)), (.ref cb)]))
    obtain ⟨T111, X111, e111, st111⟩ := getF X109 hx hZ hown (host := "") (Or.inl (hw _ (own_m 32 rfl))) Via.refl e109 FC (g := (mkF m 73 #[.val (.ref q), .val (.ref cb), .val (.ref t), .val (.int (0 : Int32)), .val (.int nd_), .unset] [(.ref q), (.int (0 : Int32)), (.ref cb)])) rfl rfl (hb hby dc5_73)
    refine og st111 ?_
    show oG p e below _ (T111.setTop (mkF m 76 #[.val (.ref q), .val (.ref cb), .val (.ref t), .val (.int (0 : Int32)), .val (.int nd_), .unset] [(.ref C_), (.int (0 : Int32)), (.ref cb)]))
    refine og (fun _ hr => XS.iloadN X111.here hx rfl (hb hby dc5_76) rfl (own_aaload X111 hx hZ e111 VC (0 : Int32) (.ref d0_) ⟨by decide, by decide⟩ rfl rfl rfl rfl (hb hby dc5_77) (XS.aloadN X111.here hx rfl (hb hby dc5_78) rfl rfl hr))) ?_
    show oG p e below _ (T111.setTop (mkF m 79 #[.val (.ref q), .val (.ref cb), .val (.ref t), .val (.int (0 : Int32)), .val (.int nd_), .unset] [(.ref q), (.ref d0_), (.int (0 : Int32)), (.ref cb)]))
    obtain ⟨T112, X112, e112, st112⟩ := getF X111 hx hZ hown (host := "") (Or.inl (hw _ (own_m 34 rfl))) Via.refl e111 FS (g := (mkF m 79 #[.val (.ref q), .val (.ref cb), .val (.ref t), .val (.int (0 : Int32)), .val (.int nd_), .unset] [(.ref q), (.ref d0_), (.int (0 : Int32)), (.ref cb)])) rfl rfl (hb hby dc5_79)
    refine og st112 ?_
    show oG p e below _ (T112.setTop (mkF m 82 #[.val (.ref q), .val (.ref cb), .val (.ref t), .val (.int (0 : Int32)), .val (.int nd_), .unset] [(.ref S_), (.ref d0_), (.int (0 : Int32)), (.ref cb)]))
    refine og (fun _ hr => XS.iloadN X112.here hx rfl (hb hby dc5_82) rfl (own_iaload X112 hx hZ e112 VS (0 : Int32) (.int s0_) ⟨by decide, by decide⟩ rfl rfl rfl (hb hby dc5_83) (XS.aloadN X112.here hx rfl (hb hby dc5_84) rfl rfl hr))) ?_
    show oG p e below _ (T112.setTop (mkF m 85 #[.val (.ref q), .val (.ref cb), .val (.ref t), .val (.int (0 : Int32)), .val (.int nd_), .unset] [(.ref q), (.int s0_), (.ref d0_), (.int (0 : Int32)), (.ref cb)]))
    obtain ⟨T113, X113, e113, st113⟩ := getF X112 hx hZ hown (host := "") (Or.inl (hw _ (own_m 36 rfl))) Via.refl e112 FW (g := (mkF m 85 #[.val (.ref q), .val (.ref cb), .val (.ref t), .val (.int (0 : Int32)), .val (.int nd_), .unset] [(.ref q), (.int s0_), (.ref d0_), (.int (0 : Int32)), (.ref cb)])) rfl rfl (hb hby dc5_85)
    refine og st113 ?_
    show oG p e below _ (T113.setTop (mkF m 88 #[.val (.ref q), .val (.ref cb), .val (.ref t), .val (.int (0 : Int32)), .val (.int nd_), .unset] [(.int w), (.int s0_), (.ref d0_), (.int (0 : Int32)), (.ref cb)]))
    refine og (fun _ hr => XS.imul X113.here hx rfl (hb hby dc5_88) rfl (XS.aloadN X113.here hx rfl (hb hby dc5_89) rfl rfl hr)) ?_
    show oG p e below _ (T113.setTop (mkF m 90 #[.val (.ref q), .val (.ref cb), .val (.ref t), .val (.int (0 : Int32)), .val (.int nd_), .unset] [(.ref q), (.int (s0_ * w)), (.ref d0_), (.int (0 : Int32)), (.ref cb)]))
    obtain ⟨T114, X114, e114, st114⟩ := getF X113 hx hZ hown (host := "") (Or.inl (hw _ (own_m 36 rfl))) Via.refl e113 FW (g := (mkF m 90 #[.val (.ref q), .val (.ref cb), .val (.ref t), .val (.int (0 : Int32)), .val (.int nd_), .unset] [(.ref q), (.int (s0_ * w)), (.ref d0_), (.int (0 : Int32)), (.ref cb)])) rfl rfl (hb hby dc5_90)
    refine og st114 ?_
    show oG p e below _ (T114.setTop (mkF m 93 #[.val (.ref q), .val (.ref cb), .val (.ref t), .val (.int (0 : Int32)), .val (.int nd_), .unset] [(.int w), (.int (s0_ * w)), (.ref d0_), (.int (0 : Int32)), (.ref cb)]))
    have c116 : ¬ ((s0_ * w) < (0 : Int32)) := by
      have q0 := rng32 w
      have q1 := rng32 s0_
      have q2 := c_iadd s0_ (1 : Int32)
      have r2 := rng32 (s0_ + (1 : Int32))
      have q3 := own_prod (s0_ + (1 : Int32)) w
      have r3 := rng32 ((s0_ + (1 : Int32)) * w)
      have q4 := congrArg Int32.toInt hnd_
      have q5 := own_prod s0_ w
      have r5 := rng32 (s0_ * w)
      have p0 := hw0
      have p1 := hw3
      have p2 := hp0
      have p3 := hp3
      have p4 := hz
      have p5 := c110
      simp only [true_implies, Int32.lt_iff_toInt_lt, ← Int32.toInt_inj, Int32.reduceToInt, Int64.lt_iff_toInt_lt, ← Int64.toInt_inj, Int64.reduceToInt] at q0 q1 q2 q3 q4 q5 p0 p1 p2 p3 p4 p5 ⊢
      omega
    have le115 : (s0_ * w).toInt + w.toInt ≤ (0 : Int32).toInt ∧ w.toInt ≤ 3 ∧ 0 ≤ (s0_ * w).toInt ∧ 0 ≤ w.toInt ∧ 0 ≤ (0 : Int32).toInt := by
      have q0 := rng32 s0_
      have r0 := rng32 s0_
      have q1 := rng32 w
      have r1 := rng32 w
      have q2 := own_prod s0_ w
      have r2 := rng32 (s0_ * w)
      have q3 := c_iadd s0_ (1 : Int32)
      have r3 := rng32 (s0_ + (1 : Int32))
      have q4 := own_prod (s0_ + (1 : Int32)) w
      have r4 := rng32 ((s0_ + (1 : Int32)) * w)
      have q5 := congrArg Int32.toInt hnd_
      have r5 := rng32 nd_
      have p0 := hw0
      have p1 := hw3
      have p2 := hp0
      have p3 := hp3
      have p4 := hz
      have p5 := c110
      have p6 := c116
      try simp only [true_implies, Int32.lt_iff_toInt_lt, ← Int32.toInt_inj, Int32.reduceToInt, Int64.lt_iff_toInt_lt, ← Int64.toInt_inj, Int64.reduceToInt] at q0 q1 q2 q3 q4 q5 p0 p1 p2 p3 p4 p5 p6
      try simp only [Int32.reduceToInt]
      omega
    have lf115 : (s0_ * w).toNatClampNeg + w.toNatClampNeg ≤ (0 : Int32).toNatClampNeg ∧ (0 : Int32).toNatClampNeg + w.toNatClampNeg ≤ (3 : Int32).toNatClampNeg := by
      have := own_tn (s0_ * w) (by omega)
      have := own_tn w (by omega)
      have := own_tn (0 : Int32) (by omega)
      have z0 : (0 : Int32).toNatClampNeg = 0 := rfl
      have z3 : (3 : Int32).toNatClampNeg = 3 := rfl
      omega
    have ll115 : ([] : List Value).length = (0 : Int32).toNatClampNeg := (by decide)
    obtain ⟨T115, h115, L115, X115, e115, N115, K115, A115, st115⟩ := cpA X114 hx hZ hown (hw _ (own_m 58 rfl)) (hw _ (own_m 61 rfl)) (hw _ (own_m 59 rfl)) (hw _ (own_m 60 rfl)) e114 VB VD0 (us := _) (Or.inl ⟨rfl, rfl⟩) (by decide) c116 hw0 lf115.2 lf115.1 rfl (ll115 ▸ lf115.1) N106 ge_d0_ (g := (mkF m 93 #[.val (.ref q), .val (.ref cb), .val (.ref t), .val (.int (0 : Int32)), .val (.int nd_), .unset] [(.int w), (.int (s0_ * w)), (.ref d0_), (.int (0 : Int32)), (.ref cb)])) rfl (by rw [hml]; rfl) rfl (hb hby dc5_93) (by decide) (W := 0) (by show 2 * 0 + _ ≤ _; exact Nat.le_of_eq rfl) (by decide)
    refine og st115 ?_
    have ln115 := own_cplen (us := (List.range w.toNatClampNeg).map fun i => ([(.int bx_), (.int by_), (.int bz_)] : List Value).getD ((0 : Int32).toNatClampNeg + i) (.int (0 : Int32))) (ll115 ▸ lf115.1) (by simp) ll115
    generalize hvn115 : (([] : List Value).take (s0_ * w).toNatClampNeg ++ (List.range w.toNatClampNeg).map (fun i => ([(.int bx_), (.int by_), (.int bz_)] : List Value).getD ((0 : Int32).toNatClampNeg + i) (.int (0 : Int32))) ++ ([] : List Value).drop ((s0_ * w).toNatClampNeg + w.toNatClampNeg)) = vn115 at A115 ln115
    show oG p e below _ (T115.setTop (mkF m 96 #[.val (.ref q), .val (.ref cb), .val (.ref t), .val (.int (0 : Int32)), .val (.int nd_), .unset] []))
    refine og (fun _ hr => XS.aloadN X115.here hx rfl (hb hby dc5_96) rfl rfl hr) ?_
    show oG p e below _ (T115.setTop (mkF m 97 #[.val (.ref q), .val (.ref cb), .val (.ref t), .val (.int (0 : Int32)), .val (.int nd_), .unset] [(.ref q)]))
    have f117 := (FS.keep K115 (ninS ne_q_d0_ nin0))
    obtain ⟨T118, X118, e118, st118⟩ := getF X115 hx hZ hown (host := "") (Or.inl (hw _ (own_m 34 rfl))) Via.refl e115 f117 (g := (mkF m 97 #[.val (.ref q), .val (.ref cb), .val (.ref t), .val (.int (0 : Int32)), .val (.int nd_), .unset] [(.ref q)])) rfl rfl (hb hby dc5_97)
    refine og st118 ?_
    show oG p e below _ (T118.setTop (mkF m 100 #[.val (.ref q), .val (.ref cb), .val (.ref t), .val (.int (0 : Int32)), .val (.int nd_), .unset] [(.ref S_)]))
    refine og (fun _ hr => XS.iloadN X118.here hx rfl (hb hby dc5_100) rfl hr) ?_
    show oG p e below _ (T118.setTop (mkF m 101 #[.val (.ref q), .val (.ref cb), .val (.ref t), .val (.int (0 : Int32)), .val (.int nd_), .unset] [(.int (0 : Int32)), (.ref S_)]))
    refine og (S' := T118.setTop (mkF m 102 #[.val (.ref q), .val (.ref cb), .val (.ref t), .val (.int (0 : Int32)), .val (.int nd_), .unset] [(.int (0 : Int32)), (.ref S_), (.int (0 : Int32)), (.ref S_)])) (fun _ hr => by
      jvm_step X118.here [X118.here.top, hx, (hb hby dc5_101), Value.category]
      exact hr) ?_
    show oG p e below _ (T118.setTop (mkF m 102 #[.val (.ref q), .val (.ref cb), .val (.ref t), .val (.int (0 : Int32)), .val (.int nd_), .unset] [(.int (0 : Int32)), (.ref S_), (.int (0 : Int32)), (.ref S_)]))
    have f119 := (VS.keep K115 (ninS ne_S__d0_ nin0))
    refine og (fun _ hr => own_iaload X118 hx hZ e118 f119 (0 : Int32) (.int s0_) ⟨by decide, by decide⟩ rfl rfl rfl (hb hby dc5_102) (XS.iconst X118.here hx rfl (hb hby dc5_103) (XS.iadd X118.here hx rfl (hb hby dc5_104) rfl hr))) ?_
    show oG p e below _ (T118.setTop (mkF m 105 #[.val (.ref q), .val (.ref cb), .val (.ref t), .val (.int (0 : Int32)), .val (.int nd_), .unset] [(.int (s0_ + (1 : Int32))), (.int (0 : Int32)), (.ref S_)]))
    refine own_stI X118 hx hZ e118 f119 (0 : Int32) (s0_ + (1 : Int32)) 0 ⟨by decide, by decide⟩ rfl (Nat.le_of_ble_eq_true rfl)  [(.int (s0_ + (1 : Int32))), (.int s1_), (.int s2_), (.int s3_)] rfl N115 ge_S_ (hb hby dc5_105) ?_
    intro T120 h120 L120 X120 e120 W120 N120 f120
    show oG p e below _ (T120.setTop (mkF m 106 #[.val (.ref q), .val (.ref cb), .val (.ref t), .val (.int (0 : Int32)), .val (.int nd_), .unset] []))
    have f121 := ((EQ.keep K115).wr W120)
    have f122 := ((FC.keep K115 (ninS ne_q_d0_ nin0)).other W120 (Or.inl ne_q_S_))
    have f123 := (f117.other W120 (Or.inl ne_q_S_))
    have f124 := ((FW.keep K115 (ninS ne_q_d0_ nin0)).other W120 (Or.inl ne_q_S_))
    have f125 := ((VC.keep K115 (ninS ne_C__d0_ nin0)).other W120 ne_C__S_)
    have f126 := (A115.other W120 (Ne.symm ne_S__d0_))
    have f127 := ((VD1.keep K115 (ninS (Ne.symm ne_d0__d1_) nin0)).other W120 (Ne.symm ne_S__d1_))
    have f128 := ((VD2.keep K115 (ninS (Ne.symm ne_d0__d2_) nin0)).other W120 (Ne.symm ne_S__d2_))
    have f129 := ((VD3.keep K115 (ninS (Ne.symm ne_d0__d3_) nin0)).other W120 (Ne.symm ne_S__d3_))
    have f130 := ((VB.keep K115 (ninS ne_cb_d0_ nin0)).other W120 ne_cb_S_)
    have om131 : 0 ≤ (s0_ + (1 : Int32)).toInt := by
      have q0 := rng32 s0_
      have r0 := rng32 s0_
      have q1 := c_iadd s0_ (1 : Int32)
      have r1 := rng32 (s0_ + (1 : Int32))
      have q2 := rng32 w
      have r2 := rng32 w
      have q3 := own_prod (s0_ + (1 : Int32)) w
      have r3 := rng32 ((s0_ + (1 : Int32)) * w)
      have q4 := congrArg Int32.toInt hnd_
      have r4 := rng32 nd_
      have q5 := own_prod s0_ w
      have r5 := rng32 (s0_ * w)
      have p0 := hw0
      have p1 := hw3
      have p2 := hp0
      have p3 := hp3
      have p4 := hz
      have p5 := c110
      have p6 := c116
      try simp only [true_implies, Int32.lt_iff_toInt_lt, ← Int32.toInt_inj, Int32.reduceToInt, Int64.lt_iff_toInt_lt, ← Int64.toInt_inj, Int64.reduceToInt] at q0 q1 q2 q3 q4 q5 p0 p1 p2 p3 p4 p5 p6
      first | omega | (simp only [Int32.reduceToInt, ← Int32.toInt_inj] <;> omega) | decide
    have om132 : 0 ≤ s1_.toInt := by
      have q0 := rng32 s1_
      have r0 := rng32 s1_
      have q1 := rng32 w
      have r1 := rng32 w
      have q2 := rng32 s0_
      have r2 := rng32 s0_
      have q3 := c_iadd s0_ (1 : Int32)
      have r3 := rng32 (s0_ + (1 : Int32))
      have q4 := own_prod (s0_ + (1 : Int32)) w
      have r4 := rng32 ((s0_ + (1 : Int32)) * w)
      have q5 := congrArg Int32.toInt hnd_
      have r5 := rng32 nd_
      have q6 := own_prod s0_ w
      have r6 := rng32 (s0_ * w)
      have p0 := hw0
      have p1 := hw3
      have p2 := hp0
      have p3 := hp3
      have p4 := hz
      have p5 := c110
      have p6 := c116
      try simp only [true_implies, Int32.lt_iff_toInt_lt, ← Int32.toInt_inj, Int32.reduceToInt, Int64.lt_iff_toInt_lt, ← Int64.toInt_inj, Int64.reduceToInt] at q0 q1 q2 q3 q4 q5 q6 p0 p1 p2 p3 p4 p5 p6
      first | omega | (simp only [Int32.reduceToInt, ← Int32.toInt_inj] <;> omega) | decide
    have om133 : 0 ≤ s2_.toInt := by
      have q0 := rng32 s2_
      have r0 := rng32 s2_
      have q1 := rng32 w
      have r1 := rng32 w
      have q2 := rng32 s0_
      have r2 := rng32 s0_
      have q3 := c_iadd s0_ (1 : Int32)
      have r3 := rng32 (s0_ + (1 : Int32))
      have q4 := own_prod (s0_ + (1 : Int32)) w
      have r4 := rng32 ((s0_ + (1 : Int32)) * w)
      have q5 := congrArg Int32.toInt hnd_
      have r5 := rng32 nd_
      have q6 := own_prod s0_ w
      have r6 := rng32 (s0_ * w)
      have p0 := hw0
      have p1 := hw3
      have p2 := hp0
      have p3 := hp3
      have p4 := hz
      have p5 := c110
      have p6 := c116
      try simp only [true_implies, Int32.lt_iff_toInt_lt, ← Int32.toInt_inj, Int32.reduceToInt, Int64.lt_iff_toInt_lt, ← Int64.toInt_inj, Int64.reduceToInt] at q0 q1 q2 q3 q4 q5 q6 p0 p1 p2 p3 p4 p5 p6
      first | omega | (simp only [Int32.reduceToInt, ← Int32.toInt_inj] <;> omega) | decide
    have om134 : 0 ≤ s3_.toInt := by
      have q0 := rng32 s3_
      have r0 := rng32 s3_
      have q1 := rng32 w
      have r1 := rng32 w
      have q2 := rng32 s0_
      have r2 := rng32 s0_
      have q3 := c_iadd s0_ (1 : Int32)
      have r3 := rng32 (s0_ + (1 : Int32))
      have q4 := own_prod (s0_ + (1 : Int32)) w
      have r4 := rng32 ((s0_ + (1 : Int32)) * w)
      have q5 := congrArg Int32.toInt hnd_
      have r5 := rng32 nd_
      have q6 := own_prod s0_ w
      have r6 := rng32 (s0_ * w)
      have p0 := hw0
      have p1 := hw3
      have p2 := hp0
      have p3 := hp3
      have p4 := hz
      have p5 := c110
      have p6 := c116
      try simp only [true_implies, Int32.lt_iff_toInt_lt, ← Int32.toInt_inj, Int32.reduceToInt, Int64.lt_iff_toInt_lt, ← Int64.toInt_inj, Int64.reduceToInt] at q0 q1 q2 q3 q4 q5 q6 p0 p1 p2 p3 p4 p5 p6
      first | omega | (simp only [Int32.reduceToInt, ← Int32.toInt_inj] <;> omega) | decide
    have om135 : (s0_ + (1 : Int32)).toInt + s1_.toInt + s2_.toInt + s3_.toInt = cnt2.toInt := by
      have q0 := rng32 s0_
      have r0 := rng32 s0_
      have q1 := c_iadd s0_ (1 : Int32)
      have r1 := rng32 (s0_ + (1 : Int32))
      have q2 := rng32 s1_
      have r2 := rng32 s1_
      have q3 := rng32 s2_
      have r3 := rng32 s2_
      have q4 := rng32 s3_
      have r4 := rng32 s3_
      have q5 := rng32 w
      have r5 := rng32 w
      have q6 := own_prod (s0_ + (1 : Int32)) w
      have r6 := rng32 ((s0_ + (1 : Int32)) * w)
      have q7 := congrArg Int32.toInt hnd_
      have r7 := rng32 nd_
      have q8 := own_prod s0_ w
      have r8 := rng32 (s0_ * w)
      have p0 := hw0
      have p1 := hw3
      have p2 := hp0
      have p3 := hp3
      have p4 := hz
      have p5 := c110
      have p6 := c116
      try simp only [true_implies, Int32.lt_iff_toInt_lt, ← Int32.toInt_inj, Int32.reduceToInt, Int64.lt_iff_toInt_lt, ← Int64.toInt_inj, Int64.reduceToInt] at q0 q1 q2 q3 q4 q5 q6 q7 q8 p0 p1 p2 p3 p4 p5 p6
      first | omega | (simp only [Int32.reduceToInt, ← Int32.toInt_inj] <;> omega) | decide
    have om136 : w = (0 : Int32) := by
      have q0 := rng32 w
      have r0 := rng32 w
      have q1 := rng32 s0_
      have r1 := rng32 s0_
      have q2 := c_iadd s0_ (1 : Int32)
      have r2 := rng32 (s0_ + (1 : Int32))
      have q3 := own_prod (s0_ + (1 : Int32)) w
      have r3 := rng32 ((s0_ + (1 : Int32)) * w)
      have q4 := congrArg Int32.toInt hnd_
      have r4 := rng32 nd_
      have q5 := own_prod s0_ w
      have r5 := rng32 (s0_ * w)
      have p0 := hw0
      have p1 := hw3
      have p2 := hp0
      have p3 := hp3
      have p4 := hz
      have p5 := c110
      have p6 := c116
      try simp only [true_implies, Int32.lt_iff_toInt_lt, ← Int32.toInt_inj, Int32.reduceToInt, Int64.lt_iff_toInt_lt, ← Int64.toInt_inj, Int64.reduceToInt] at q0 q1 q2 q3 q4 q5 p0 p1 p2 p3 p4 p5 p6
      first | omega | (simp only [Int32.reduceToInt, ← Int32.toInt_inj] <;> omega) | decide
    have K137 := ((K0.trans K115 (allS (Or.inl (List.mem_of_getElem? (i := 2) rfl)) all0)).wr W120 (Or.inl (List.mem_of_getElem? (i := 1) rfl)))
    exact own_ret0 X120 hx hlk Bd.returns (hb hby dc5_106) (by decide) (by decide) (by rw [e120]; exact ⟨rfl, N120, [C_, S_, d0_, d1_, d2_, d3_], K137, (fun x hx_ => by simp only [List.mem_cons, List.not_mem_nil, or_false] at hx_; rcases hx_ with rfl | rfl | rfl | rfl | rfl | rfl <;> assumption), ⟨C_, S_, d0_, d1_, d2_, d3_, kC_, kS_, kb_, e0_, e1_, e2_, e3_, (s0_ + (1 : Int32)), s1_, s2_, s3_, (0 : Int32), m1_, m2_, m3_, bx_, by_, bz_, vn115, v1_, v2_, v3_, f121, f122, f123, f124, f125, OV, f120, f126, f127, f128, f129, f130, g_C_, g_S_, g_d0_, g_d1_, g_d2_, g_d3_, ne_C__S_, ne_C__d0_, ne_C__d1_, ne_C__d2_, ne_C__d3_, ne_S__d0_, ne_S__d1_, ne_S__d2_, ne_S__d3_, ne_d0__d1_, ne_d0__d2_, ne_d0__d3_, ne_d1__d2_, ne_d1__d3_, ne_d2__d3_, ne_cb_C_, ne_cb_S_, ne_cb_d0_, ne_cb_d1_, ne_cb_d2_, ne_cb_d3_, ne_q_C_, ne_q_S_, ne_q_d0_, ne_q_d1_, ne_q_d2_, ne_q_d3_, om131, om132, om133, om134, om135, (Or.inr ⟨rfl, Or.inr om136⟩), iM1_, iM2_, iM3_, ln115, iL1_, iL2_, iL3_, WB⟩⟩)
def Q_ordinal_5 (Z : State) (h0 : Heap) (n0 : Nat) (v : Option Value) (h : Heap) (L : List Loc) : Prop := v = some (.int (1 : Int32)) ∧ Fr n0 L ∧ h = h0
set_option maxRecDepth 65536 in
set_option maxHeartbeats 40000000 in
theorem rm_ordinal_5 (l : Launch) (Z : State) (a0 : Array Value) (hw : ∀ d ∈ tables_1, d.before a0 Z = true) (ws : List Jvm.Cond) (o0 : Addr) (h0 : Heap) (n0 : Nat) (Z0 : n0 ≤ h0.size) (P0 : Fld Z h0 o0 "java/lang/Enum" "ordinal" "I" (.int (1 : Int32))) :
    MetFree l (⟨"java/lang/Enum", "ordinal", "()I"⟩ : MethodName) (head1 (Jvm.Cond.code (⟨"java/lang/Enum", "ordinal", "()I"⟩ : MethodName) jdk_37_method_2_code 1 (some .int) :: ws) ({ frames := 0, cells := 0, slots := 0, locals := 0 } : Room)) (fun aA U => aA = #[(.ref o0)] ∧ Z.Warmed39 U.vm ∧ U.heap = h0) (fun _ _ _ _ _ => True) (fun _ U o U' => ∃ v L, o = .returned v ∧ Q_ordinal_5 Z h0 n0 v U'.heap L ∧ FrameEnd U o U' L ({ frames := 0, cells := 0, slots := 0, locals := 0 } : Room).cells ({ frames := 0, cells := 0, slots := 0, locals := 0 } : Room).slots) := by
  refine MetFree.of_bodySF (plainFor_of_name own_pn_java_lang_Enum) hisR ?_
  intro p e s m args below meth c s₁ Bd hml0 hP hK
  obtain ⟨rfl, hZ, hh⟩ := hP
  have hx := Bd.exec
  have hby := Bd.bytes
  have hlk : meth.locks = false := BodyLoose.notSynchronized Bd
  have hml : c.maxLocals = 1 := hml0
  have hown : s.vm.findClass "java/lang/Enum" = some m.cls := findClass_of_methodNamed Bd.named
  have hnm := (name_of_methodNamed Bd.named Bd.method).1
  have X0 : Stand p l e ({ frames := 0, cells := 0, slots := 0, locals := 0 } : Room) s m #[(.ref o0)] below meth c s₁ [] 0 0 := Stand.of_body Bd
  have e0 : s₁.heap = h0 := by rw [← hh, Bd.state]; rfl
  have N0 := Fr.nil n0
  show oG p e below (own_K s (Q_ordinal_5 Z h0 n0) ({ frames := 0, cells := 0, slots := 0, locals := 0 } : Room).cells ({ frames := 0, cells := 0, slots := 0, locals := 0 } : Room).slots) (s₁.setTop (entryFrame m #[(.ref o0)] 1))
  rw [(by first | (simp [entryFrame, mkF, argsToLocals, Value.category]; done) | rfl : entryFrame m #[(.ref o0)] 1 = mkF m 0 #[.val (.ref o0)] [])]
  show oG p e below _ (s₁.setTop (mkF m 0 #[.val (.ref o0)] []))
  refine og (fun _ hr => XS.aloadN X0.here hx rfl (hb hby dc6_0) rfl rfl hr) ?_
  show oG p e below _ (s₁.setTop (mkF m 1 #[.val (.ref o0)] [(.ref o0)]))
  obtain ⟨T1, X1, e1, st1⟩ := getF X0 hx hZ hown (host := "") (Or.inl (hw _ (own_m 56 rfl))) Via.refl e0 P0 (g := (mkF m 1 #[.val (.ref o0)] [(.ref o0)])) rfl rfl (hb hby dc6_1)
  refine og st1 ?_
  show oG p e below _ (T1.setTop (mkF m 4 #[.val (.ref o0)] [(.int (1 : Int32))]))
  exact own_retI X1 hx hlk Bd.returns (hb hby dc6_4) (by decide) (by decide) ⟨rfl, N0, e1⟩
def Q_add1 (Z : State) (q : Addr) (cb : Addr) (w : Int32) (cnt2 : Int32) (lo : Nat) (h0 : Heap) (n0 : Nat) (v : Option Value) (h : Heap) (L : List Loc) : Prop := (v = none ∧ Fr n0 L ∧ ∃ ws, Keep h0 h ws ∧ (∀ x ∈ ws, lo ≤ x) ∧ own_Inv Z h lo q cb w cnt2)
set_option maxRecDepth 65536 in
set_option maxHeartbeats 40000000 in
theorem rm_add1 (l : Launch) (Z : State) (a0 : Array Value) (hw : ∀ d ∈ tables_1, d.before a0 Z = true) (ws : List Jvm.Cond) (q : Addr) (cb : Addr) (t : Addr) (w : Int32) (cnt : Int32) (cnt2 : Int32) (lo : Nat) (h0 : Heap) (n0 : Nat) (Z0 : n0 ≤ h0.size) (hlo : n0 ≤ lo) (hI : own_Inv Z h0 lo q cb w cnt) (Et : Exa Z h0 t "com/example/candid_facts/candidfacts/Truth") (Ft : Fld Z h0 t "java/lang/Enum" "ordinal" "I" (.int (1 : Int32))) (hc : cnt.toInt ≤ 3) (hc2 : cnt2.toInt = cnt.toInt + 1) :
    MetFree l (⟨"com/example/candid_facts/candidfacts/Answer$Listed", "add", "([ILcom/example/candid_facts/candidfacts/Truth;)V"⟩ : MethodName) (head1 (Jvm.Cond.code (⟨"com/example/candid_facts/candidfacts/Answer$Listed", "add", "([ILcom/example/candid_facts/candidfacts/Truth;)V"⟩ : MethodName) prog_2_method_2_code 6 none :: ws) ({ frames := 2, cells := 1, slots := 16, locals := 56 } : Room)) (fun aA U => aA = #[(.ref q), (.ref cb), (.ref t)] ∧ Z.Warmed39 U.vm ∧ U.heap = h0) (fun _ _ _ _ _ => True) (fun _ U o U' => ∃ v L, o = .returned v ∧ Q_add1 Z q cb w cnt2 lo h0 n0 v U'.heap L ∧ FrameEnd U o U' L ({ frames := 2, cells := 1, slots := 16, locals := 56 } : Room).cells ({ frames := 2, cells := 1, slots := 16, locals := 56 } : Room).slots) := by
  refine MetFree.of_bodySF (plainFor_of_name own_pn_com_example_candid_facts_candidfacts_Answer_Listed) hisR ?_
  intro p e s m args below meth c s₁ Bd hml0 hP hK
  obtain ⟨rfl, hZ, hh⟩ := hP
  have hx := Bd.exec
  have hby := Bd.bytes
  have hlk : meth.locks = false := BodyLoose.notSynchronized Bd
  have hml : c.maxLocals = 6 := hml0
  have hown : s.vm.findClass "com/example/candid_facts/candidfacts/Answer$Listed" = some m.cls := findClass_of_methodNamed Bd.named
  have hnm := (name_of_methodNamed Bd.named Bd.method).1
  have X0 : Stand p l e ({ frames := 2, cells := 1, slots := 16, locals := 56 } : Room) s m #[(.ref q), (.ref cb), (.ref t)] below meth c s₁ [] 0 0 := Stand.of_body Bd
  have e0 : s₁.heap = h0 := by rw [← hh, Bd.state]; rfl
  have N0 := Fr.nil n0
  obtain ⟨C_, S_, d0_, d1_, d2_, d3_, kC_, kS_, kb_, e0_, e1_, e2_, e3_, s0_, s1_, s2_, s3_, m0_, m1_, m2_, m3_, bx_, by_, bz_, v0_, v1_, v2_, v3_, EQ, FC, FS, FW, VC, OV, VS, VD0, VD1, VD2, VD3, VB, g_C_, g_S_, g_d0_, g_d1_, g_d2_, g_d3_, ne_C__S_, ne_C__d0_, ne_C__d1_, ne_C__d2_, ne_C__d3_, ne_S__d0_, ne_S__d1_, ne_S__d2_, ne_S__d3_, ne_d0__d1_, ne_d0__d2_, ne_d0__d3_, ne_d1__d2_, ne_d1__d3_, ne_d2__d3_, ne_cb_C_, ne_cb_S_, ne_cb_d0_, ne_cb_d1_, ne_cb_d2_, ne_cb_d3_, ne_q_C_, ne_q_S_, ne_q_d0_, ne_q_d1_, ne_q_d2_, ne_q_d3_, iP0_, iP1_, iP2_, iP3_, SUM, iM0_, iM1_, iM2_, iM3_, iL0_, iL1_, iL2_, iL3_, WB⟩ := hI
  have ge_C_ : n0 ≤ C_ := Nat.le_trans hlo g_C_
  have ge_S_ : n0 ≤ S_ := Nat.le_trans hlo g_S_
  have ge_d0_ : n0 ≤ d0_ := Nat.le_trans hlo g_d0_
  have ge_d1_ : n0 ≤ d1_ := Nat.le_trans hlo g_d1_
  have ge_d2_ : n0 ≤ d2_ := Nat.le_trans hlo g_d2_
  have ge_d3_ : n0 ≤ d3_ := Nat.le_trans hlo g_d3_
  have K0 : Keep h0 h0 [C_, S_, d0_, d1_, d2_, d3_] := Keep.refl _ _
  show oG p e below (own_K s (Q_add1 Z q cb w cnt2 lo h0 n0) ({ frames := 2, cells := 1, slots := 16, locals := 56 } : Room).cells ({ frames := 2, cells := 1, slots := 16, locals := 56 } : Room).slots) (s₁.setTop (entryFrame m #[(.ref q), (.ref cb), (.ref t)] 6))
  rw [(by first | (simp [entryFrame, mkF, argsToLocals, Value.category]; done) | rfl : entryFrame m #[(.ref q), (.ref cb), (.ref t)] 6 = mkF m 0 #[.val (.ref q), .val (.ref cb), .val (.ref t), .unset, .unset, .unset] [])]
  show oG p e below _ (s₁.setTop (mkF m 0 #[.val (.ref q), .val (.ref cb), .val (.ref t), .unset, .unset, .unset] []))
  have hp0 : ¬ s1_ < 0 := by rw [Int32.lt_iff_toInt_lt]; simp only [Int32.reduceToInt]; omega
  have hp3 : ¬ (3 : Int32) < s1_ := by rw [Int32.lt_iff_toInt_lt]; simp only [Int32.reduceToInt]; omega
  have hw0 : ¬ w < 0 := by rw [Int32.lt_iff_toInt_lt]; simp only [Int32.reduceToInt]; omega
  have hw3 : ¬ (3 : Int32) < w := by rw [Int32.lt_iff_toInt_lt]; simp only [Int32.reduceToInt]; omega
  rcases iM1_ with hm | ⟨hm, hs | hz⟩
  · subst hm
    show oG p e below _ (s₁.setTop (mkF m 0 #[.val (.ref q), .val (.ref cb), .val (.ref t), .unset, .unset, .unset] []))
    refine og (fun _ hr => XS.aloadN X0.here hx rfl (hb hby dc5_0) rfl rfl hr) ?_
    show oG p e below _ (s₁.setTop (mkF m 1 #[.val (.ref q), .val (.ref cb), .val (.ref t), .unset, .unset, .unset] [(.ref t)]))
    refine own_cu X0 hx hZ hown (hw _ (own_m 49 rfl)) (hw _ (own_m 50 rfl)) (hw _ (own_m 51 rfl)) (hw _ (own_m 53 rfl)) (hw _ (own_m 52 rfl)) (hw _ (own_m 54 rfl)) (hw _ (own_m 55 rfl)) (by decide) Et (rm := { frames := 0, cells := 0, slots := 0, locals := 0 }) (rm_ordinal_5 l Z a0 hw [] t h0 n0 Z0 Ft) (by decide) (W := 0) (by decide) (by decide) (by decide) e0 (by rw [hml]; rfl) (argsL := []) (lenOf own_pd0 rfl) (rest := []) rfl rfl (Nat.le_of_eq rfl) (hb hby dc5_1) ?_
    intro _ T1 L1 X1 hQ1
    obtain ⟨rfl, N1q, e1⟩ := hQ1
    have N1 := Fr.app N0 N1q
    show oG p e below _ (T1.setTop (mkF m 4 #[.val (.ref q), .val (.ref cb), .val (.ref t), .unset, .unset, .unset] [(.int (1 : Int32))]))
    refine og (fun _ hr => XS.istoreN X1.here hx rfl (hb hby dc5_4) rfl (l' := #[.val (.ref q), .val (.ref cb), .val (.ref t), .val (.int (1 : Int32)), .unset, .unset]) rfl (XS.aloadN X1.here hx rfl (hb hby dc5_5) rfl rfl hr)) ?_
    show oG p e below _ (T1.setTop (mkF m 6 #[.val (.ref q), .val (.ref cb), .val (.ref t), .val (.int (1 : Int32)), .unset, .unset] [(.ref q)]))
    obtain ⟨T2, X2, e2, st2⟩ := getF X1 hx hZ hown (host := "") (Or.inl (hw _ (own_m 34 rfl))) Via.refl e1 FS (g := (mkF m 6 #[.val (.ref q), .val (.ref cb), .val (.ref t), .val (.int (1 : Int32)), .unset, .unset] [(.ref q)])) rfl rfl (hb hby dc5_6)
    refine og st2 ?_
    show oG p e below _ (T2.setTop (mkF m 9 #[.val (.ref q), .val (.ref cb), .val (.ref t), .val (.int (1 : Int32)), .unset, .unset] [(.ref S_)]))
    refine og (fun _ hr => XS.iloadN X2.here hx rfl (hb hby dc5_9) rfl (own_iaload X2 hx hZ e2 VS (1 : Int32) (.int s1_) ⟨by decide, by decide⟩ rfl rfl rfl (hb hby dc5_10) (XS.iconst X2.here hx rfl (hb hby dc5_11) (XS.iadd X2.here hx rfl (hb hby dc5_12) rfl (XS.aloadN X2.here hx rfl (hb hby dc5_13) rfl rfl hr))))) ?_
    show oG p e below _ (T2.setTop (mkF m 14 #[.val (.ref q), .val (.ref cb), .val (.ref t), .val (.int (1 : Int32)), .unset, .unset] [(.ref q), (.int (s1_ + (1 : Int32)))]))
    obtain ⟨T3, X3, e3, st3⟩ := getF X2 hx hZ hown (host := "") (Or.inl (hw _ (own_m 36 rfl))) Via.refl e2 FW (g := (mkF m 14 #[.val (.ref q), .val (.ref cb), .val (.ref t), .val (.int (1 : Int32)), .unset, .unset] [(.ref q), (.int (s1_ + (1 : Int32)))])) rfl rfl (hb hby dc5_14)
    refine og st3 ?_
    show oG p e below _ (T3.setTop (mkF m 17 #[.val (.ref q), .val (.ref cb), .val (.ref t), .val (.int (1 : Int32)), .unset, .unset] [(.int w), (.int (s1_ + (1 : Int32)))]))
    refine og (fun _ hr => XS.imul X3.here hx rfl (hb hby dc5_17) rfl (XS.istore X3.here hx rfl (hb hby dc5_18) rfl (l' := #[.val (.ref q), .val (.ref cb), .val (.ref t), .val (.int (1 : Int32)), .val (.int ((s1_ + (1 : Int32)) * w)), .unset]) rfl hr)) ?_
    show oG p e below _ (T3.setTop (mkF m 20 #[.val (.ref q), .val (.ref cb), .val (.ref t), .val (.int (1 : Int32)), .val (.int ((s1_ + (1 : Int32)) * w)), .unset] []))
    generalize hnd_ : ((s1_ + (1 : Int32)) * w) = nd_
    refine og (fun _ hr => XS.iload X3.here hx rfl (hb hby dc5_20) rfl (XS.aloadN X3.here hx rfl (hb hby dc5_22) rfl rfl hr)) ?_
    show oG p e below _ (T3.setTop (mkF m 23 #[.val (.ref q), .val (.ref cb), .val (.ref t), .val (.int (1 : Int32)), .val (.int nd_), .unset] [(.ref q), (.int nd_)]))
    obtain ⟨T4, X4, e4, st4⟩ := getF X3 hx hZ hown (host := "") (Or.inl (hw _ (own_m 32 rfl))) Via.refl e3 FC (g := (mkF m 23 #[.val (.ref q), .val (.ref cb), .val (.ref t), .val (.int (1 : Int32)), .val (.int nd_), .unset] [(.ref q), (.int nd_)])) rfl rfl (hb hby dc5_23)
    refine og st4 ?_
    show oG p e below _ (T4.setTop (mkF m 26 #[.val (.ref q), .val (.ref cb), .val (.ref t), .val (.int (1 : Int32)), .val (.int nd_), .unset] [(.ref C_), (.int nd_)]))
    refine og (fun _ hr => XS.iloadN X4.here hx rfl (hb hby dc5_26) rfl (own_aaload X4 hx hZ e4 VC (1 : Int32) (.ref d1_) ⟨by decide, by decide⟩ rfl rfl rfl rfl (hb hby dc5_27) (own_alen X4 hx hZ e4 VD1 rfl rfl (hb hby dc5_28) hr))) ?_
    show oG p e below _ (T4.setTop (mkF m 29 #[.val (.ref q), .val (.ref cb), .val (.ref t), .val (.int (1 : Int32)), .val (.int nd_), .unset] [(.int (16 : Int32)), (.int nd_)]))
    have c5 : ¬ ((16 : Int32) < nd_) := by
      have q0 := rng32 w
      have q1 := rng32 s1_
      have q2 := c_iadd s1_ (1 : Int32)
      have r2 := rng32 (s1_ + (1 : Int32))
      have q3 := own_prod (s1_ + (1 : Int32)) w
      have r3 := rng32 ((s1_ + (1 : Int32)) * w)
      have q4 := congrArg Int32.toInt hnd_
      have p0 := hw0
      have p1 := hw3
      have p2 := hp0
      have p3 := hp3
      simp only [true_implies, Int32.lt_iff_toInt_lt, ← Int32.toInt_inj, Int32.reduceToInt, Int64.lt_iff_toInt_lt, ← Int64.toInt_inj, Int64.reduceToInt] at q0 q1 q2 q3 q4 p0 p1 p2 p3 ⊢
      omega
    refine og (fun _ hr => XS.icmpYes X4.here hx rfl (pc0 := 29) (pc' := 70) rfl (hb hby dc5_29) rfl (flt c5).2.2.2 (by decide) (by decide) hr) ?_
    show oG p e below _ (T4.setTop (mkF m 70 #[.val (.ref q), .val (.ref cb), .val (.ref t), .val (.int (1 : Int32)), .val (.int nd_), .unset] []))
    refine og (fun _ hr => XS.aloadN X4.here hx rfl (hb hby dc5_70) rfl rfl (XS.iconst X4.here hx rfl (hb hby dc5_71) (XS.aloadN X4.here hx rfl (hb hby dc5_72) rfl rfl hr))) ?_
    show oG p e below _ (T4.setTop (mkF m 73 #[.val (.ref q), .val (.ref cb), .val (.ref t), .val (.int (1 : Int32)), .val (.int nd_), .unset] [(.ref q), (.int (0 : Int32)), (.ref cb)]))
    obtain ⟨T6, X6, e6, st6⟩ := getF X4 hx hZ hown (host := "") (Or.inl (hw _ (own_m 32 rfl))) Via.refl e4 FC (g := (mkF m 73 #[.val (.ref q), .val (.ref cb), .val (.ref t), .val (.int (1 : Int32)), .val (.int nd_), .unset] [(.ref q), (.int (0 : Int32)), (.ref cb)])) rfl rfl (hb hby dc5_73)
    refine og st6 ?_
    show oG p e below _ (T6.setTop (mkF m 76 #[.val (.ref q), .val (.ref cb), .val (.ref t), .val (.int (1 : Int32)), .val (.int nd_), .unset] [(.ref C_), (.int (0 : Int32)), (.ref cb)]))
    refine og (fun _ hr => XS.iloadN X6.here hx rfl (hb hby dc5_76) rfl (own_aaload X6 hx hZ e6 VC (1 : Int32) (.ref d1_) ⟨by decide, by decide⟩ rfl rfl rfl rfl (hb hby dc5_77) (XS.aloadN X6.here hx rfl (hb hby dc5_78) rfl rfl hr))) ?_
    show oG p e below _ (T6.setTop (mkF m 79 #[.val (.ref q), .val (.ref cb), .val (.ref t), .val (.int (1 : Int32)), .val (.int nd_), .unset] [(.ref q), (.ref d1_), (.int (0 : Int32)), (.ref cb)]))
    obtain ⟨T7, X7, e7, st7⟩ := getF X6 hx hZ hown (host := "") (Or.inl (hw _ (own_m 34 rfl))) Via.refl e6 FS (g := (mkF m 79 #[.val (.ref q), .val (.ref cb), .val (.ref t), .val (.int (1 : Int32)), .val (.int nd_), .unset] [(.ref q), (.ref d1_), (.int (0 : Int32)), (.ref cb)])) rfl rfl (hb hby dc5_79)
    refine og st7 ?_
    show oG p e below _ (T7.setTop (mkF m 82 #[.val (.ref q), .val (.ref cb), .val (.ref t), .val (.int (1 : Int32)), .val (.int nd_), .unset] [(.ref S_), (.ref d1_), (.int (0 : Int32)), (.ref cb)]))
    refine og (fun _ hr => XS.iloadN X7.here hx rfl (hb hby dc5_82) rfl (own_iaload X7 hx hZ e7 VS (1 : Int32) (.int s1_) ⟨by decide, by decide⟩ rfl rfl rfl (hb hby dc5_83) (XS.aloadN X7.here hx rfl (hb hby dc5_84) rfl rfl hr))) ?_
    show oG p e below _ (T7.setTop (mkF m 85 #[.val (.ref q), .val (.ref cb), .val (.ref t), .val (.int (1 : Int32)), .val (.int nd_), .unset] [(.ref q), (.int s1_), (.ref d1_), (.int (0 : Int32)), (.ref cb)]))
    obtain ⟨T8, X8, e8, st8⟩ := getF X7 hx hZ hown (host := "") (Or.inl (hw _ (own_m 36 rfl))) Via.refl e7 FW (g := (mkF m 85 #[.val (.ref q), .val (.ref cb), .val (.ref t), .val (.int (1 : Int32)), .val (.int nd_), .unset] [(.ref q), (.int s1_), (.ref d1_), (.int (0 : Int32)), (.ref cb)])) rfl rfl (hb hby dc5_85)
    refine og st8 ?_
    show oG p e below _ (T8.setTop (mkF m 88 #[.val (.ref q), .val (.ref cb), .val (.ref t), .val (.int (1 : Int32)), .val (.int nd_), .unset] [(.int w), (.int s1_), (.ref d1_), (.int (0 : Int32)), (.ref cb)]))
    refine og (fun _ hr => XS.imul X8.here hx rfl (hb hby dc5_88) rfl (XS.aloadN X8.here hx rfl (hb hby dc5_89) rfl rfl hr)) ?_
    show oG p e below _ (T8.setTop (mkF m 90 #[.val (.ref q), .val (.ref cb), .val (.ref t), .val (.int (1 : Int32)), .val (.int nd_), .unset] [(.ref q), (.int (s1_ * w)), (.ref d1_), (.int (0 : Int32)), (.ref cb)]))
    obtain ⟨T9, X9, e9, st9⟩ := getF X8 hx hZ hown (host := "") (Or.inl (hw _ (own_m 36 rfl))) Via.refl e8 FW (g := (mkF m 90 #[.val (.ref q), .val (.ref cb), .val (.ref t), .val (.int (1 : Int32)), .val (.int nd_), .unset] [(.ref q), (.int (s1_ * w)), (.ref d1_), (.int (0 : Int32)), (.ref cb)])) rfl rfl (hb hby dc5_90)
    refine og st9 ?_
    show oG p e below _ (T9.setTop (mkF m 93 #[.val (.ref q), .val (.ref cb), .val (.ref t), .val (.int (1 : Int32)), .val (.int nd_), .unset] [(.int w), (.int (s1_ * w)), (.ref d1_), (.int (0 : Int32)), (.ref cb)]))
    have c11 : ¬ ((s1_ * w) < (0 : Int32)) := by
      have q0 := rng32 w
      have q1 := rng32 s1_
      have q2 := c_iadd s1_ (1 : Int32)
      have r2 := rng32 (s1_ + (1 : Int32))
      have q3 := own_prod (s1_ + (1 : Int32)) w
      have r3 := rng32 ((s1_ + (1 : Int32)) * w)
      have q4 := congrArg Int32.toInt hnd_
      have q5 := own_prod s1_ w
      have r5 := rng32 (s1_ * w)
      have p0 := hw0
      have p1 := hw3
      have p2 := hp0
      have p3 := hp3
      have p4 := c5
      simp only [true_implies, Int32.lt_iff_toInt_lt, ← Int32.toInt_inj, Int32.reduceToInt, Int64.lt_iff_toInt_lt, ← Int64.toInt_inj, Int64.reduceToInt] at q0 q1 q2 q3 q4 q5 p0 p1 p2 p3 p4 ⊢
      omega
    have le10 : (s1_ * w).toInt + w.toInt ≤ (16 : Int32).toInt ∧ w.toInt ≤ 3 ∧ 0 ≤ (s1_ * w).toInt ∧ 0 ≤ w.toInt ∧ 0 ≤ (16 : Int32).toInt := by
      have q0 := rng32 s1_
      have r0 := rng32 s1_
      have q1 := rng32 w
      have r1 := rng32 w
      have q2 := own_prod s1_ w
      have r2 := rng32 (s1_ * w)
      have q3 := c_iadd s1_ (1 : Int32)
      have r3 := rng32 (s1_ + (1 : Int32))
      have q4 := own_prod (s1_ + (1 : Int32)) w
      have r4 := rng32 ((s1_ + (1 : Int32)) * w)
      have q5 := congrArg Int32.toInt hnd_
      have r5 := rng32 nd_
      have p0 := hw0
      have p1 := hw3
      have p2 := hp0
      have p3 := hp3
      have p4 := c5
      have p5 := c11
      try simp only [true_implies, Int32.lt_iff_toInt_lt, ← Int32.toInt_inj, Int32.reduceToInt, Int64.lt_iff_toInt_lt, ← Int64.toInt_inj, Int64.reduceToInt] at q0 q1 q2 q3 q4 q5 p0 p1 p2 p3 p4 p5
      try simp only [Int32.reduceToInt]
      omega
    have lf10 : (s1_ * w).toNatClampNeg + w.toNatClampNeg ≤ (16 : Int32).toNatClampNeg ∧ (0 : Int32).toNatClampNeg + w.toNatClampNeg ≤ (3 : Int32).toNatClampNeg := by
      have := own_tn (s1_ * w) (by omega)
      have := own_tn w (by omega)
      have := own_tn (16 : Int32) (by omega)
      have z0 : (0 : Int32).toNatClampNeg = 0 := rfl
      have z3 : (3 : Int32).toNatClampNeg = 3 := rfl
      omega
    have ll10 : v1_.length = (16 : Int32).toNatClampNeg := iL1_
    obtain ⟨T10, h10, L10, X10, e10, N10, K10, A10, st10⟩ := cpA X9 hx hZ hown (hw _ (own_m 58 rfl)) (hw _ (own_m 61 rfl)) (hw _ (own_m 59 rfl)) (hw _ (own_m 60 rfl)) e9 VB VD1 (us := _) (Or.inl ⟨rfl, rfl⟩) (by decide) c11 hw0 lf10.2 lf10.1 rfl (ll10 ▸ lf10.1) N1 ge_d1_ (g := (mkF m 93 #[.val (.ref q), .val (.ref cb), .val (.ref t), .val (.int (1 : Int32)), .val (.int nd_), .unset] [(.int w), (.int (s1_ * w)), (.ref d1_), (.int (0 : Int32)), (.ref cb)])) rfl (by rw [hml]; rfl) rfl (hb hby dc5_93) (by decide) (W := 0) (by show 2 * 0 + _ ≤ _; exact Nat.le_of_eq rfl) (by decide)
    refine og st10 ?_
    have ln10 := own_cplen (us := (List.range w.toNatClampNeg).map fun i => ([(.int bx_), (.int by_), (.int bz_)] : List Value).getD ((0 : Int32).toNatClampNeg + i) (.int (0 : Int32))) (ll10 ▸ lf10.1) (by simp) ll10
    generalize hvn10 : (v1_.take (s1_ * w).toNatClampNeg ++ (List.range w.toNatClampNeg).map (fun i => ([(.int bx_), (.int by_), (.int bz_)] : List Value).getD ((0 : Int32).toNatClampNeg + i) (.int (0 : Int32))) ++ v1_.drop ((s1_ * w).toNatClampNeg + w.toNatClampNeg)) = vn10 at A10 ln10
    show oG p e below _ (T10.setTop (mkF m 96 #[.val (.ref q), .val (.ref cb), .val (.ref t), .val (.int (1 : Int32)), .val (.int nd_), .unset] []))
    refine og (fun _ hr => XS.aloadN X10.here hx rfl (hb hby dc5_96) rfl rfl hr) ?_
    show oG p e below _ (T10.setTop (mkF m 97 #[.val (.ref q), .val (.ref cb), .val (.ref t), .val (.int (1 : Int32)), .val (.int nd_), .unset] [(.ref q)]))
    have f12 := (FS.keep K10 (ninS ne_q_d1_ nin0))
    obtain ⟨T13, X13, e13, st13⟩ := getF X10 hx hZ hown (host := "") (Or.inl (hw _ (own_m 34 rfl))) Via.refl e10 f12 (g := (mkF m 97 #[.val (.ref q), .val (.ref cb), .val (.ref t), .val (.int (1 : Int32)), .val (.int nd_), .unset] [(.ref q)])) rfl rfl (hb hby dc5_97)
    refine og st13 ?_
    show oG p e below _ (T13.setTop (mkF m 100 #[.val (.ref q), .val (.ref cb), .val (.ref t), .val (.int (1 : Int32)), .val (.int nd_), .unset] [(.ref S_)]))
    refine og (fun _ hr => XS.iloadN X13.here hx rfl (hb hby dc5_100) rfl hr) ?_
    show oG p e below _ (T13.setTop (mkF m 101 #[.val (.ref q), .val (.ref cb), .val (.ref t), .val (.int (1 : Int32)), .val (.int nd_), .unset] [(.int (1 : Int32)), (.ref S_)]))
    refine og (S' := T13.setTop (mkF m 102 #[.val (.ref q), .val (.ref cb), .val (.ref t), .val (.int (1 : Int32)), .val (.int nd_), .unset] [(.int (1 : Int32)), (.ref S_), (.int (1 : Int32)), (.ref S_)])) (fun _ hr => by
      jvm_step X13.here [X13.here.top, hx, (hb hby dc5_101), Value.category]
      exact hr) ?_
    show oG p e below _ (T13.setTop (mkF m 102 #[.val (.ref q), .val (.ref cb), .val (.ref t), .val (.int (1 : Int32)), .val (.int nd_), .unset] [(.int (1 : Int32)), (.ref S_), (.int (1 : Int32)), (.ref S_)]))
    have f14 := (VS.keep K10 (ninS ne_S__d1_ nin0))
    refine og (fun _ hr => own_iaload X13 hx hZ e13 f14 (1 : Int32) (.int s1_) ⟨by decide, by decide⟩ rfl rfl rfl (hb hby dc5_102) (XS.iconst X13.here hx rfl (hb hby dc5_103) (XS.iadd X13.here hx rfl (hb hby dc5_104) rfl hr))) ?_
    show oG p e below _ (T13.setTop (mkF m 105 #[.val (.ref q), .val (.ref cb), .val (.ref t), .val (.int (1 : Int32)), .val (.int nd_), .unset] [(.int (s1_ + (1 : Int32))), (.int (1 : Int32)), (.ref S_)]))
    refine own_stI X13 hx hZ e13 f14 (1 : Int32) (s1_ + (1 : Int32)) 1 ⟨by decide, by decide⟩ rfl (Nat.le_of_ble_eq_true rfl)  [(.int s0_), (.int (s1_ + (1 : Int32))), (.int s2_), (.int s3_)] rfl N10 ge_S_ (hb hby dc5_105) ?_
    intro T15 h15 L15 X15 e15 W15 N15 f15
    show oG p e below _ (T15.setTop (mkF m 106 #[.val (.ref q), .val (.ref cb), .val (.ref t), .val (.int (1 : Int32)), .val (.int nd_), .unset] []))
    have f16 := ((EQ.keep K10).wr W15)
    have f17 := ((FC.keep K10 (ninS ne_q_d1_ nin0)).other W15 (Or.inl ne_q_S_))
    have f18 := (f12.other W15 (Or.inl ne_q_S_))
    have f19 := ((FW.keep K10 (ninS ne_q_d1_ nin0)).other W15 (Or.inl ne_q_S_))
    have f20 := ((VC.keep K10 (ninS ne_C__d1_ nin0)).other W15 ne_C__S_)
    have f21 := ((VD0.keep K10 (ninS ne_d0__d1_ nin0)).other W15 (Ne.symm ne_S__d0_))
    have f22 := (A10.other W15 (Ne.symm ne_S__d1_))
    have f23 := ((VD2.keep K10 (ninS (Ne.symm ne_d1__d2_) nin0)).other W15 (Ne.symm ne_S__d2_))
    have f24 := ((VD3.keep K10 (ninS (Ne.symm ne_d1__d3_) nin0)).other W15 (Ne.symm ne_S__d3_))
    have f25 := ((VB.keep K10 (ninS ne_cb_d1_ nin0)).other W15 ne_cb_S_)
    have om26 : 0 ≤ s0_.toInt := by
      have q0 := rng32 s0_
      have r0 := rng32 s0_
      have q1 := rng32 w
      have r1 := rng32 w
      have q2 := rng32 s1_
      have r2 := rng32 s1_
      have q3 := c_iadd s1_ (1 : Int32)
      have r3 := rng32 (s1_ + (1 : Int32))
      have q4 := own_prod (s1_ + (1 : Int32)) w
      have r4 := rng32 ((s1_ + (1 : Int32)) * w)
      have q5 := congrArg Int32.toInt hnd_
      have r5 := rng32 nd_
      have q6 := own_prod s1_ w
      have r6 := rng32 (s1_ * w)
      have p0 := hw0
      have p1 := hw3
      have p2 := hp0
      have p3 := hp3
      have p4 := c5
      have p5 := c11
      try simp only [true_implies, Int32.lt_iff_toInt_lt, ← Int32.toInt_inj, Int32.reduceToInt, Int64.lt_iff_toInt_lt, ← Int64.toInt_inj, Int64.reduceToInt] at q0 q1 q2 q3 q4 q5 q6 p0 p1 p2 p3 p4 p5
      first | omega | (simp only [Int32.reduceToInt, ← Int32.toInt_inj] <;> omega) | decide
    have om27 : 0 ≤ (s1_ + (1 : Int32)).toInt := by
      have q0 := rng32 s1_
      have r0 := rng32 s1_
      have q1 := c_iadd s1_ (1 : Int32)
      have r1 := rng32 (s1_ + (1 : Int32))
      have q2 := rng32 w
      have r2 := rng32 w
      have q3 := own_prod (s1_ + (1 : Int32)) w
      have r3 := rng32 ((s1_ + (1 : Int32)) * w)
      have q4 := congrArg Int32.toInt hnd_
      have r4 := rng32 nd_
      have q5 := own_prod s1_ w
      have r5 := rng32 (s1_ * w)
      have p0 := hw0
      have p1 := hw3
      have p2 := hp0
      have p3 := hp3
      have p4 := c5
      have p5 := c11
      try simp only [true_implies, Int32.lt_iff_toInt_lt, ← Int32.toInt_inj, Int32.reduceToInt, Int64.lt_iff_toInt_lt, ← Int64.toInt_inj, Int64.reduceToInt] at q0 q1 q2 q3 q4 q5 p0 p1 p2 p3 p4 p5
      first | omega | (simp only [Int32.reduceToInt, ← Int32.toInt_inj] <;> omega) | decide
    have om28 : 0 ≤ s2_.toInt := by
      have q0 := rng32 s2_
      have r0 := rng32 s2_
      have q1 := rng32 w
      have r1 := rng32 w
      have q2 := rng32 s1_
      have r2 := rng32 s1_
      have q3 := c_iadd s1_ (1 : Int32)
      have r3 := rng32 (s1_ + (1 : Int32))
      have q4 := own_prod (s1_ + (1 : Int32)) w
      have r4 := rng32 ((s1_ + (1 : Int32)) * w)
      have q5 := congrArg Int32.toInt hnd_
      have r5 := rng32 nd_
      have q6 := own_prod s1_ w
      have r6 := rng32 (s1_ * w)
      have p0 := hw0
      have p1 := hw3
      have p2 := hp0
      have p3 := hp3
      have p4 := c5
      have p5 := c11
      try simp only [true_implies, Int32.lt_iff_toInt_lt, ← Int32.toInt_inj, Int32.reduceToInt, Int64.lt_iff_toInt_lt, ← Int64.toInt_inj, Int64.reduceToInt] at q0 q1 q2 q3 q4 q5 q6 p0 p1 p2 p3 p4 p5
      first | omega | (simp only [Int32.reduceToInt, ← Int32.toInt_inj] <;> omega) | decide
    have om29 : 0 ≤ s3_.toInt := by
      have q0 := rng32 s3_
      have r0 := rng32 s3_
      have q1 := rng32 w
      have r1 := rng32 w
      have q2 := rng32 s1_
      have r2 := rng32 s1_
      have q3 := c_iadd s1_ (1 : Int32)
      have r3 := rng32 (s1_ + (1 : Int32))
      have q4 := own_prod (s1_ + (1 : Int32)) w
      have r4 := rng32 ((s1_ + (1 : Int32)) * w)
      have q5 := congrArg Int32.toInt hnd_
      have r5 := rng32 nd_
      have q6 := own_prod s1_ w
      have r6 := rng32 (s1_ * w)
      have p0 := hw0
      have p1 := hw3
      have p2 := hp0
      have p3 := hp3
      have p4 := c5
      have p5 := c11
      try simp only [true_implies, Int32.lt_iff_toInt_lt, ← Int32.toInt_inj, Int32.reduceToInt, Int64.lt_iff_toInt_lt, ← Int64.toInt_inj, Int64.reduceToInt] at q0 q1 q2 q3 q4 q5 q6 p0 p1 p2 p3 p4 p5
      first | omega | (simp only [Int32.reduceToInt, ← Int32.toInt_inj] <;> omega) | decide
    have om30 : s0_.toInt + (s1_ + (1 : Int32)).toInt + s2_.toInt + s3_.toInt = cnt2.toInt := by
      have q0 := rng32 s0_
      have r0 := rng32 s0_
      have q1 := rng32 s1_
      have r1 := rng32 s1_
      have q2 := c_iadd s1_ (1 : Int32)
      have r2 := rng32 (s1_ + (1 : Int32))
      have q3 := rng32 s2_
      have r3 := rng32 s2_
      have q4 := rng32 s3_
      have r4 := rng32 s3_
      have q5 := rng32 w
      have r5 := rng32 w
      have q6 := own_prod (s1_ + (1 : Int32)) w
      have r6 := rng32 ((s1_ + (1 : Int32)) * w)
      have q7 := congrArg Int32.toInt hnd_
      have r7 := rng32 nd_
      have q8 := own_prod s1_ w
      have r8 := rng32 (s1_ * w)
      have p0 := hw0
      have p1 := hw3
      have p2 := hp0
      have p3 := hp3
      have p4 := c5
      have p5 := c11
      try simp only [true_implies, Int32.lt_iff_toInt_lt, ← Int32.toInt_inj, Int32.reduceToInt, Int64.lt_iff_toInt_lt, ← Int64.toInt_inj, Int64.reduceToInt] at q0 q1 q2 q3 q4 q5 q6 q7 q8 p0 p1 p2 p3 p4 p5
      first | omega | (simp only [Int32.reduceToInt, ← Int32.toInt_inj] <;> omega) | decide
    have K31 := ((K0.trans K10 (allS (Or.inl (List.mem_of_getElem? (i := 3) rfl)) all0)).wr W15 (Or.inl (List.mem_of_getElem? (i := 1) rfl)))
    exact own_ret0 X15 hx hlk Bd.returns (hb hby dc5_106) (by decide) (by decide) (by rw [e15]; exact ⟨rfl, N15, [C_, S_, d0_, d1_, d2_, d3_], K31, (fun x hx_ => by simp only [List.mem_cons, List.not_mem_nil, or_false] at hx_; rcases hx_ with rfl | rfl | rfl | rfl | rfl | rfl <;> assumption), ⟨C_, S_, d0_, d1_, d2_, d3_, kC_, kS_, kb_, e0_, e1_, e2_, e3_, s0_, (s1_ + (1 : Int32)), s2_, s3_, m0_, (16 : Int32), m2_, m3_, bx_, by_, bz_, v0_, vn10, v2_, v3_, f16, f17, f18, f19, f20, OV, f15, f21, f22, f23, f24, f25, g_C_, g_S_, g_d0_, g_d1_, g_d2_, g_d3_, ne_C__S_, ne_C__d0_, ne_C__d1_, ne_C__d2_, ne_C__d3_, ne_S__d0_, ne_S__d1_, ne_S__d2_, ne_S__d3_, ne_d0__d1_, ne_d0__d2_, ne_d0__d3_, ne_d1__d2_, ne_d1__d3_, ne_d2__d3_, ne_cb_C_, ne_cb_S_, ne_cb_d0_, ne_cb_d1_, ne_cb_d2_, ne_cb_d3_, ne_q_C_, ne_q_S_, ne_q_d0_, ne_q_d1_, ne_q_d2_, ne_q_d3_, om26, om27, om28, om29, om30, iM0_, (Or.inl rfl), iM2_, iM3_, iL0_, ln10, iL2_, iL3_, WB⟩⟩)
  · subst hm
    obtain rfl : v1_ = [] := List.eq_nil_of_length_eq_zero (iL1_.trans rfl)
    obtain rfl : s1_ = 0 := Int32.toInt_inj.mp (hs.trans rfl)
    show oG p e below _ (s₁.setTop (mkF m 0 #[.val (.ref q), .val (.ref cb), .val (.ref t), .unset, .unset, .unset] []))
    refine og (fun _ hr => XS.aloadN X0.here hx rfl (hb hby dc5_0) rfl rfl hr) ?_
    show oG p e below _ (s₁.setTop (mkF m 1 #[.val (.ref q), .val (.ref cb), .val (.ref t), .unset, .unset, .unset] [(.ref t)]))
    refine own_cu X0 hx hZ hown (hw _ (own_m 49 rfl)) (hw _ (own_m 50 rfl)) (hw _ (own_m 51 rfl)) (hw _ (own_m 53 rfl)) (hw _ (own_m 52 rfl)) (hw _ (own_m 54 rfl)) (hw _ (own_m 55 rfl)) (by decide) Et (rm := { frames := 0, cells := 0, slots := 0, locals := 0 }) (rm_ordinal_5 l Z a0 hw [] t h0 n0 Z0 Ft) (by decide) (W := 0) (by decide) (by decide) (by decide) e0 (by rw [hml]; rfl) (argsL := []) (lenOf own_pd0 rfl) (rest := []) rfl rfl (Nat.le_of_eq rfl) (hb hby dc5_1) ?_
    intro _ T32 L32 X32 hQ32
    obtain ⟨rfl, N32q, e32⟩ := hQ32
    have N32 := Fr.app N0 N32q
    show oG p e below _ (T32.setTop (mkF m 4 #[.val (.ref q), .val (.ref cb), .val (.ref t), .unset, .unset, .unset] [(.int (1 : Int32))]))
    refine og (fun _ hr => XS.istoreN X32.here hx rfl (hb hby dc5_4) rfl (l' := #[.val (.ref q), .val (.ref cb), .val (.ref t), .val (.int (1 : Int32)), .unset, .unset]) rfl (XS.aloadN X32.here hx rfl (hb hby dc5_5) rfl rfl hr)) ?_
    show oG p e below _ (T32.setTop (mkF m 6 #[.val (.ref q), .val (.ref cb), .val (.ref t), .val (.int (1 : Int32)), .unset, .unset] [(.ref q)]))
    obtain ⟨T33, X33, e33, st33⟩ := getF X32 hx hZ hown (host := "") (Or.inl (hw _ (own_m 34 rfl))) Via.refl e32 FS (g := (mkF m 6 #[.val (.ref q), .val (.ref cb), .val (.ref t), .val (.int (1 : Int32)), .unset, .unset] [(.ref q)])) rfl rfl (hb hby dc5_6)
    refine og st33 ?_
    show oG p e below _ (T33.setTop (mkF m 9 #[.val (.ref q), .val (.ref cb), .val (.ref t), .val (.int (1 : Int32)), .unset, .unset] [(.ref S_)]))
    refine og (fun _ hr => XS.iloadN X33.here hx rfl (hb hby dc5_9) rfl (own_iaload X33 hx hZ e33 VS (1 : Int32) (.int (0 : Int32)) ⟨by decide, by decide⟩ rfl rfl rfl (hb hby dc5_10) (XS.iconst X33.here hx rfl (hb hby dc5_11) (XS.iadd X33.here hx rfl (hb hby dc5_12) rfl (XS.aloadN X33.here hx rfl (hb hby dc5_13) rfl rfl hr))))) ?_
    show oG p e below _ (T33.setTop (mkF m 14 #[.val (.ref q), .val (.ref cb), .val (.ref t), .val (.int (1 : Int32)), .unset, .unset] [(.ref q), (.int (1 : Int32))]))
    obtain ⟨T34, X34, e34, st34⟩ := getF X33 hx hZ hown (host := "") (Or.inl (hw _ (own_m 36 rfl))) Via.refl e33 FW (g := (mkF m 14 #[.val (.ref q), .val (.ref cb), .val (.ref t), .val (.int (1 : Int32)), .unset, .unset] [(.ref q), (.int (1 : Int32))])) rfl rfl (hb hby dc5_14)
    refine og st34 ?_
    show oG p e below _ (T34.setTop (mkF m 17 #[.val (.ref q), .val (.ref cb), .val (.ref t), .val (.int (1 : Int32)), .unset, .unset] [(.int w), (.int (1 : Int32))]))
    refine og (fun _ hr => XS.imul X34.here hx rfl (hb hby dc5_17) rfl (XS.istore X34.here hx rfl (hb hby dc5_18) rfl (l' := #[.val (.ref q), .val (.ref cb), .val (.ref t), .val (.int (1 : Int32)), .val (.int ((1 : Int32) * w)), .unset]) rfl hr)) ?_
    show oG p e below _ (T34.setTop (mkF m 20 #[.val (.ref q), .val (.ref cb), .val (.ref t), .val (.int (1 : Int32)), .val (.int ((1 : Int32) * w)), .unset] []))
    generalize hnd_ : ((1 : Int32) * w) = nd_
    refine og (fun _ hr => XS.iload X34.here hx rfl (hb hby dc5_20) rfl (XS.aloadN X34.here hx rfl (hb hby dc5_22) rfl rfl hr)) ?_
    show oG p e below _ (T34.setTop (mkF m 23 #[.val (.ref q), .val (.ref cb), .val (.ref t), .val (.int (1 : Int32)), .val (.int nd_), .unset] [(.ref q), (.int nd_)]))
    obtain ⟨T35, X35, e35, st35⟩ := getF X34 hx hZ hown (host := "") (Or.inl (hw _ (own_m 32 rfl))) Via.refl e34 FC (g := (mkF m 23 #[.val (.ref q), .val (.ref cb), .val (.ref t), .val (.int (1 : Int32)), .val (.int nd_), .unset] [(.ref q), (.int nd_)])) rfl rfl (hb hby dc5_23)
    refine og st35 ?_
    show oG p e below _ (T35.setTop (mkF m 26 #[.val (.ref q), .val (.ref cb), .val (.ref t), .val (.int (1 : Int32)), .val (.int nd_), .unset] [(.ref C_), (.int nd_)]))
    refine og (fun _ hr => XS.iloadN X35.here hx rfl (hb hby dc5_26) rfl (own_aaload X35 hx hZ e35 VC (1 : Int32) (.ref d1_) ⟨by decide, by decide⟩ rfl rfl rfl rfl (hb hby dc5_27) (own_alen X35 hx hZ e35 VD1 rfl rfl (hb hby dc5_28) hr))) ?_
    show oG p e below _ (T35.setTop (mkF m 29 #[.val (.ref q), .val (.ref cb), .val (.ref t), .val (.int (1 : Int32)), .val (.int nd_), .unset] [(.int (0 : Int32)), (.int nd_)]))
    rcases Classical.em ((0 : Int32) < nd_) with c36 | c36
    · skip
      refine og (fun _ hr => XS.icmpNo X35.here hx rfl (hb hby dc5_29) rfl (tlt c36).2.2.2 hr) ?_
      show oG p e below _ (T35.setTop (mkF m 32 #[.val (.ref q), .val (.ref cb), .val (.ref t), .val (.int (1 : Int32)), .val (.int nd_), .unset] []))
      refine og (fun _ hr => XS.bipush X35.here hx rfl (hb hby dc5_32) (XS.iconst X35.here hx rfl (hb hby dc5_34) (XS.aloadN X35.here hx rfl (hb hby dc5_35) rfl rfl hr))) ?_
      show oG p e below _ (T35.setTop (mkF m 36 #[.val (.ref q), .val (.ref cb), .val (.ref t), .val (.int (1 : Int32)), .val (.int nd_), .unset] [(.ref q), (.int (2 : Int32)), (.int (16 : Int32))]))
      obtain ⟨T37, X37, e37, st37⟩ := getF X35 hx hZ hown (host := "") (Or.inl (hw _ (own_m 32 rfl))) Via.refl e35 FC (g := (mkF m 36 #[.val (.ref q), .val (.ref cb), .val (.ref t), .val (.int (1 : Int32)), .val (.int nd_), .unset] [(.ref q), (.int (2 : Int32)), (.int (16 : Int32))])) rfl rfl (hb hby dc5_36)
      refine og st37 ?_
      show oG p e below _ (T37.setTop (mkF m 39 #[.val (.ref q), .val (.ref cb), .val (.ref t), .val (.int (1 : Int32)), .val (.int nd_), .unset] [(.ref C_), (.int (2 : Int32)), (.int (16 : Int32))]))
      refine og (fun _ hr => XS.iloadN X37.here hx rfl (hb hby dc5_39) rfl (own_aaload X37 hx hZ e37 VC (1 : Int32) (.ref d1_) ⟨by decide, by decide⟩ rfl rfl rfl rfl (hb hby dc5_40) (own_alen X37 hx hZ e37 VD1 rfl rfl (hb hby dc5_41) (XS.imul X37.here hx rfl (hb hby dc5_42) rfl hr)))) ?_
      show oG p e below _ (T37.setTop (mkF m 43 #[.val (.ref q), .val (.ref cb), .val (.ref t), .val (.int (1 : Int32)), .val (.int nd_), .unset] [(.int (0 : Int32)), (.int (16 : Int32))]))
      refine own_cs X37 hx hZ hown (hw _ (own_m 70 rfl)) (hw _ (own_m 71 rfl)) (hw _ (own_m 72 rfl)) (hw _ (own_m 73 rfl)) (by decide) (rm := { frames := 0, cells := 0, slots := 0, locals := 0 }) (rm_max_1 l Z a0 hw []  h0 n0 Z0 ) (by decide) (W := 0) (by decide) (by decide) (by decide) e37 (by rw [hml]; rfl) (argsL := [(.int (16 : Int32)), (.int (0 : Int32))]) (lenOf own_pd1 rfl) (rest := []) rfl rfl (Nat.le_of_eq rfl) (hb hby dc5_43) ?_
      intro _ T38 L38 X38 hQ38
      obtain ⟨rfl, N38q, e38⟩ := hQ38
      have N38 := Fr.app N32 N38q
      show oG p e below _ (T38.setTop (mkF m 46 #[.val (.ref q), .val (.ref cb), .val (.ref t), .val (.int (1 : Int32)), .val (.int nd_), .unset] [(.int (16 : Int32))]))
      refine og (fun _ hr => XS.istore X38.here hx rfl (hb hby dc5_46) rfl (l' := #[.val (.ref q), .val (.ref cb), .val (.ref t), .val (.int (1 : Int32)), .val (.int nd_), .val (.int (16 : Int32))]) rfl (XS.aloadN X38.here hx rfl (hb hby dc5_48) rfl rfl hr)) ?_
      show oG p e below _ (T38.setTop (mkF m 49 #[.val (.ref q), .val (.ref cb), .val (.ref t), .val (.int (1 : Int32)), .val (.int nd_), .val (.int (16 : Int32))] [(.ref q)]))
      obtain ⟨T39, X39, e39, st39⟩ := getF X38 hx hZ hown (host := "") (Or.inl (hw _ (own_m 32 rfl))) Via.refl e38 FC (g := (mkF m 49 #[.val (.ref q), .val (.ref cb), .val (.ref t), .val (.int (1 : Int32)), .val (.int nd_), .val (.int (16 : Int32))] [(.ref q)])) rfl rfl (hb hby dc5_49)
      refine og st39 ?_
      show oG p e below _ (T39.setTop (mkF m 52 #[.val (.ref q), .val (.ref cb), .val (.ref t), .val (.int (1 : Int32)), .val (.int nd_), .val (.int (16 : Int32))] [(.ref C_)]))
      refine og (fun _ hr => XS.iloadN X39.here hx rfl (hb hby dc5_52) rfl (XS.aloadN X39.here hx rfl (hb hby dc5_53) rfl rfl hr)) ?_
      show oG p e below _ (T39.setTop (mkF m 54 #[.val (.ref q), .val (.ref cb), .val (.ref t), .val (.int (1 : Int32)), .val (.int nd_), .val (.int (16 : Int32))] [(.ref q), (.int (1 : Int32)), (.ref C_)]))
      obtain ⟨T40, X40, e40, st40⟩ := getF X39 hx hZ hown (host := "") (Or.inl (hw _ (own_m 32 rfl))) Via.refl e39 FC (g := (mkF m 54 #[.val (.ref q), .val (.ref cb), .val (.ref t), .val (.int (1 : Int32)), .val (.int nd_), .val (.int (16 : Int32))] [(.ref q), (.int (1 : Int32)), (.ref C_)])) rfl rfl (hb hby dc5_54)
      refine og st40 ?_
      show oG p e below _ (T40.setTop (mkF m 57 #[.val (.ref q), .val (.ref cb), .val (.ref t), .val (.int (1 : Int32)), .val (.int nd_), .val (.int (16 : Int32))] [(.ref C_), (.int (1 : Int32)), (.ref C_)]))
      refine og (fun _ hr => XS.iloadN X40.here hx rfl (hb hby dc5_57) rfl (own_aaload X40 hx hZ e40 VC (1 : Int32) (.ref d1_) ⟨by decide, by decide⟩ rfl rfl rfl rfl (hb hby dc5_58) (XS.iload X40.here hx rfl (hb hby dc5_59) rfl (XS.iload X40.here hx rfl (hb hby dc5_61) rfl hr)))) ?_
      show oG p e below _ (T40.setTop (mkF m 63 #[.val (.ref q), .val (.ref cb), .val (.ref t), .val (.int (1 : Int32)), .val (.int nd_), .val (.int (16 : Int32))] [(.int (16 : Int32)), (.int nd_), (.ref d1_), (.int (1 : Int32)), (.ref C_)]))
      have c41 : nd_ < (16 : Int32) := by
        have q0 := rng32 w
        have q1 := c_imul (1 : Int32) w
        have r1 := rng32 ((1 : Int32) * w)
        have q2 := congrArg Int32.toInt hnd_
        have p0 := hw0
        have p1 := hw3
        have p2 := c36
        simp only [true_implies, Int32.lt_iff_toInt_lt, ← Int32.toInt_inj, Int32.reduceToInt, Int64.lt_iff_toInt_lt, ← Int64.toInt_inj, Int64.reduceToInt] at q0 q1 q2 p0 p1 p2 ⊢
        omega
      refine own_cs X40 hx hZ hown (hw _ (own_m 70 rfl)) (hw _ (own_m 71 rfl)) (hw _ (own_m 72 rfl)) (hw _ (own_m 73 rfl)) (by decide) (rm := { frames := 0, cells := 0, slots := 0, locals := 0 }) (rm_max_2 l Z a0 hw [] nd_ h0 n0 Z0 c41) (by decide) (W := 3) (by decide) (by decide) (by decide) e40 (by rw [hml]; rfl) (argsL := [(.int nd_), (.int (16 : Int32))]) (lenOf own_pd1 rfl) (rest := [(.ref d1_), (.int (1 : Int32)), (.ref C_)]) rfl rfl (Nat.le_of_eq rfl) (hb hby dc5_63) ?_
      intro _ T42 L42 X42 hQ42
      obtain ⟨rfl, N42q, e42⟩ := hQ42
      have N42 := Fr.app N38 N42q
      show oG p e below _ (T42.setTop (mkF m 66 #[.val (.ref q), .val (.ref cb), .val (.ref t), .val (.int (1 : Int32)), .val (.int nd_), .val (.int (16 : Int32))] [(.int (16 : Int32)), (.ref d1_), (.int (1 : Int32)), (.ref C_)]))
      refine own_cs X42 hx hZ hown (hw _ (own_m 74 rfl)) (hw _ (own_m 75 rfl)) (hw _ (own_m 76 rfl)) (hw _ (own_m 77 rfl)) (by decide) (rm := { frames := 1, cells := 1, slots := 16, locals := 40 }) (rm_copyOf_4 l Z a0 hw [] d1_ e1_ h0 n0 Z0 VD1) (by decide) (W := 2) (by decide) (by decide) (by decide) e42 (by rw [hml]; rfl) (argsL := [(.ref d1_), (.int (16 : Int32))]) (lenOf own_pd2 rfl) (rest := [(.int (1 : Int32)), (.ref C_)]) rfl rfl (Nat.le_of_eq rfl) (hb hby dc5_66) ?_
      intro _ T43 L43 X43 hQ43
      obtain ⟨b43_0, kb43_0, rfl, N43q, K43, ge43_0, sz43_0, f43_0, f43_1⟩ := hQ43
      have N43 := Fr.app N42 N43q
      have sz44 : h0.size ≤ b43_0 := Nat.le_trans K0.1 sz43_0
      show oG p e below _ (T43.setTop (mkF m 69 #[.val (.ref q), .val (.ref cb), .val (.ref t), .val (.int (1 : Int32)), .val (.int nd_), .val (.int (16 : Int32))] [(.ref b43_0), (.int (1 : Int32)), (.ref C_)]))
      have f45 := (VC.keep K43 nin0)
      refine own_stR X43 hx hZ rfl f45 (1 : Int32) (.ref b43_0) 1 ⟨by decide, by decide⟩ rfl (Nat.le_of_ble_eq_true rfl) (fun _ A q => Sto.ofVA A q OV (Ins.self f43_0)) rfl [(.ref d0_), (.ref b43_0), (.ref d2_), (.ref d3_)] rfl N43 ge_C_ (hb hby dc5_69) ?_
      intro T46 h46 L46 X46 e46 W46 N46 f46
      show oG p e below _ (T46.setTop (mkF m 70 #[.val (.ref q), .val (.ref cb), .val (.ref t), .val (.int (1 : Int32)), .val (.int nd_), .val (.int (16 : Int32))] []))
      refine og (fun _ hr => XS.aloadN X46.here hx rfl (hb hby dc5_70) rfl rfl (XS.iconst X46.here hx rfl (hb hby dc5_71) (XS.aloadN X46.here hx rfl (hb hby dc5_72) rfl rfl hr))) ?_
      show oG p e below _ (T46.setTop (mkF m 73 #[.val (.ref q), .val (.ref cb), .val (.ref t), .val (.int (1 : Int32)), .val (.int nd_), .val (.int (16 : Int32))] [(.ref q), (.int (0 : Int32)), (.ref cb)]))
      have f47 := ((FC.keep K43 nin0).other W46 (Or.inl ne_q_C_))
      obtain ⟨T48, X48, e48, st48⟩ := getF X46 hx hZ hown (host := "") (Or.inl (hw _ (own_m 32 rfl))) Via.refl e46 f47 (g := (mkF m 73 #[.val (.ref q), .val (.ref cb), .val (.ref t), .val (.int (1 : Int32)), .val (.int nd_), .val (.int (16 : Int32))] [(.ref q), (.int (0 : Int32)), (.ref cb)])) rfl rfl (hb hby dc5_73)
      refine og st48 ?_
      show oG p e below _ (T48.setTop (mkF m 76 #[.val (.ref q), .val (.ref cb), .val (.ref t), .val (.int (1 : Int32)), .val (.int nd_), .val (.int (16 : Int32))] [(.ref C_), (.int (0 : Int32)), (.ref cb)]))
      refine og (fun _ hr => XS.iloadN X48.here hx rfl (hb hby dc5_76) rfl (own_aaload X48 hx hZ e48 f46 (1 : Int32) (.ref b43_0) ⟨by decide, by decide⟩ rfl rfl rfl rfl (hb hby dc5_77) (XS.aloadN X48.here hx rfl (hb hby dc5_78) rfl rfl hr))) ?_
      show oG p e below _ (T48.setTop (mkF m 79 #[.val (.ref q), .val (.ref cb), .val (.ref t), .val (.int (1 : Int32)), .val (.int nd_), .val (.int (16 : Int32))] [(.ref q), (.ref b43_0), (.int (0 : Int32)), (.ref cb)]))
      have f49 := ((FS.keep K43 nin0).other W46 (Or.inl ne_q_C_))
      obtain ⟨T50, X50, e50, st50⟩ := getF X48 hx hZ hown (host := "") (Or.inl (hw _ (own_m 34 rfl))) Via.refl e48 f49 (g := (mkF m 79 #[.val (.ref q), .val (.ref cb), .val (.ref t), .val (.int (1 : Int32)), .val (.int nd_), .val (.int (16 : Int32))] [(.ref q), (.ref b43_0), (.int (0 : Int32)), (.ref cb)])) rfl rfl (hb hby dc5_79)
      refine og st50 ?_
      show oG p e below _ (T50.setTop (mkF m 82 #[.val (.ref q), .val (.ref cb), .val (.ref t), .val (.int (1 : Int32)), .val (.int nd_), .val (.int (16 : Int32))] [(.ref S_), (.ref b43_0), (.int (0 : Int32)), (.ref cb)]))
      have f51 := ((VS.keep K43 nin0).other W46 (Ne.symm ne_C__S_))
      refine og (fun _ hr => XS.iloadN X50.here hx rfl (hb hby dc5_82) rfl (own_iaload X50 hx hZ e50 f51 (1 : Int32) (.int (0 : Int32)) ⟨by decide, by decide⟩ rfl rfl rfl (hb hby dc5_83) (XS.aloadN X50.here hx rfl (hb hby dc5_84) rfl rfl hr))) ?_
      show oG p e below _ (T50.setTop (mkF m 85 #[.val (.ref q), .val (.ref cb), .val (.ref t), .val (.int (1 : Int32)), .val (.int nd_), .val (.int (16 : Int32))] [(.ref q), (.int (0 : Int32)), (.ref b43_0), (.int (0 : Int32)), (.ref cb)]))
      have f52 := ((FW.keep K43 nin0).other W46 (Or.inl ne_q_C_))
      obtain ⟨T53, X53, e53, st53⟩ := getF X50 hx hZ hown (host := "") (Or.inl (hw _ (own_m 36 rfl))) Via.refl e50 f52 (g := (mkF m 85 #[.val (.ref q), .val (.ref cb), .val (.ref t), .val (.int (1 : Int32)), .val (.int nd_), .val (.int (16 : Int32))] [(.ref q), (.int (0 : Int32)), (.ref b43_0), (.int (0 : Int32)), (.ref cb)])) rfl rfl (hb hby dc5_85)
      refine og st53 ?_
      show oG p e below _ (T53.setTop (mkF m 88 #[.val (.ref q), .val (.ref cb), .val (.ref t), .val (.int (1 : Int32)), .val (.int nd_), .val (.int (16 : Int32))] [(.int w), (.int (0 : Int32)), (.ref b43_0), (.int (0 : Int32)), (.ref cb)]))
      refine og (fun _ hr => XS.imul X53.here hx rfl (hb hby dc5_88) rfl (XS.aloadN X53.here hx rfl (hb hby dc5_89) rfl rfl hr)) ?_
      show oG p e below _ (T53.setTop (mkF m 90 #[.val (.ref q), .val (.ref cb), .val (.ref t), .val (.int (1 : Int32)), .val (.int nd_), .val (.int (16 : Int32))] [(.ref q), (.int ((0 : Int32) * w)), (.ref b43_0), (.int (0 : Int32)), (.ref cb)]))
      obtain ⟨T54, X54, e54, st54⟩ := getF X53 hx hZ hown (host := "") (Or.inl (hw _ (own_m 36 rfl))) Via.refl e53 f52 (g := (mkF m 90 #[.val (.ref q), .val (.ref cb), .val (.ref t), .val (.int (1 : Int32)), .val (.int nd_), .val (.int (16 : Int32))] [(.ref q), (.int ((0 : Int32) * w)), (.ref b43_0), (.int (0 : Int32)), (.ref cb)])) rfl rfl (hb hby dc5_90)
      refine og st54 ?_
      show oG p e below _ (T54.setTop (mkF m 93 #[.val (.ref q), .val (.ref cb), .val (.ref t), .val (.int (1 : Int32)), .val (.int nd_), .val (.int (16 : Int32))] [(.int w), (.int ((0 : Int32) * w)), (.ref b43_0), (.int (0 : Int32)), (.ref cb)]))
      have f56 := ((VB.keep K43 nin0).other W46 ne_cb_C_)
      have f57 := (f43_1.other W46 (Ne.symm (Nat.ne_of_lt (Nat.lt_of_lt_of_le VC.lt sz43_0))))
      have c58 : ¬ (((0 : Int32) * w) < (0 : Int32)) := by
        have q0 := rng32 w
        have q1 := c_imul (1 : Int32) w
        have r1 := rng32 ((1 : Int32) * w)
        have q2 := congrArg Int32.toInt hnd_
        have q3 := c_imul (0 : Int32) w
        have r3 := rng32 ((0 : Int32) * w)
        have p0 := hw0
        have p1 := hw3
        have p2 := c36
        have p3 := c41
        simp only [true_implies, Int32.lt_iff_toInt_lt, ← Int32.toInt_inj, Int32.reduceToInt, Int64.lt_iff_toInt_lt, ← Int64.toInt_inj, Int64.reduceToInt] at q0 q1 q2 q3 p0 p1 p2 p3 ⊢
        omega
      have le55 : ((0 : Int32) * w).toInt + w.toInt ≤ (16 : Int32).toInt ∧ w.toInt ≤ 3 ∧ 0 ≤ ((0 : Int32) * w).toInt ∧ 0 ≤ w.toInt ∧ 0 ≤ (16 : Int32).toInt := by
        have q0 := rng32 w
        have r0 := rng32 w
        have q1 := c_imul (0 : Int32) w
        have r1 := rng32 ((0 : Int32) * w)
        have q2 := c_imul (1 : Int32) w
        have r2 := rng32 ((1 : Int32) * w)
        have q3 := congrArg Int32.toInt hnd_
        have r3 := rng32 nd_
        have p0 := hw0
        have p1 := hw3
        have p2 := c36
        have p3 := c41
        have p4 := c58
        try simp only [true_implies, Int32.lt_iff_toInt_lt, ← Int32.toInt_inj, Int32.reduceToInt, Int64.lt_iff_toInt_lt, ← Int64.toInt_inj, Int64.reduceToInt] at q0 q1 q2 q3 p0 p1 p2 p3 p4
        try simp only [Int32.reduceToInt]
        omega
      have lf55 : ((0 : Int32) * w).toNatClampNeg + w.toNatClampNeg ≤ (16 : Int32).toNatClampNeg ∧ (0 : Int32).toNatClampNeg + w.toNatClampNeg ≤ (3 : Int32).toNatClampNeg := by
        have := own_tn ((0 : Int32) * w) (by omega)
        have := own_tn w (by omega)
        have := own_tn (16 : Int32) (by omega)
        have z0 : (0 : Int32).toNatClampNeg = 0 := rfl
        have z3 : (3 : Int32).toNatClampNeg = 3 := rfl
        omega
      have ll55 : ([(.int (0 : Int32)), (.int (0 : Int32)), (.int (0 : Int32)), (.int (0 : Int32)), (.int (0 : Int32)), (.int (0 : Int32)), (.int (0 : Int32)), (.int (0 : Int32)), (.int (0 : Int32)), (.int (0 : Int32)), (.int (0 : Int32)), (.int (0 : Int32)), (.int (0 : Int32)), (.int (0 : Int32)), (.int (0 : Int32)), (.int (0 : Int32))] : List Value).length = (16 : Int32).toNatClampNeg := (by decide)
      obtain ⟨T55, h55, L55, X55, e55, N55, K55, A55, st55⟩ := cpA X54 hx hZ hown (hw _ (own_m 58 rfl)) (hw _ (own_m 61 rfl)) (hw _ (own_m 59 rfl)) (hw _ (own_m 60 rfl)) e54 f56 f57 (us := _) (Or.inl ⟨rfl, rfl⟩) (by decide) c58 hw0 lf55.2 lf55.1 rfl (ll55 ▸ lf55.1) N46 ge43_0 (g := (mkF m 93 #[.val (.ref q), .val (.ref cb), .val (.ref t), .val (.int (1 : Int32)), .val (.int nd_), .val (.int (16 : Int32))] [(.int w), (.int ((0 : Int32) * w)), (.ref b43_0), (.int (0 : Int32)), (.ref cb)])) rfl (by rw [hml]; rfl) rfl (hb hby dc5_93) (by decide) (W := 0) (by show 2 * 0 + _ ≤ _; exact Nat.le_of_eq rfl) (by decide)
      refine og st55 ?_
      have ln55 := own_cplen (us := (List.range w.toNatClampNeg).map fun i => ([(.int bx_), (.int by_), (.int bz_)] : List Value).getD ((0 : Int32).toNatClampNeg + i) (.int (0 : Int32))) (ll55 ▸ lf55.1) (by simp) ll55
      generalize hvn55 : (([(.int (0 : Int32)), (.int (0 : Int32)), (.int (0 : Int32)), (.int (0 : Int32)), (.int (0 : Int32)), (.int (0 : Int32)), (.int (0 : Int32)), (.int (0 : Int32)), (.int (0 : Int32)), (.int (0 : Int32)), (.int (0 : Int32)), (.int (0 : Int32)), (.int (0 : Int32)), (.int (0 : Int32)), (.int (0 : Int32)), (.int (0 : Int32))] : List Value).take ((0 : Int32) * w).toNatClampNeg ++ (List.range w.toNatClampNeg).map (fun i => ([(.int bx_), (.int by_), (.int bz_)] : List Value).getD ((0 : Int32).toNatClampNeg + i) (.int (0 : Int32))) ++ ([(.int (0 : Int32)), (.int (0 : Int32)), (.int (0 : Int32)), (.int (0 : Int32)), (.int (0 : Int32)), (.int (0 : Int32)), (.int (0 : Int32)), (.int (0 : Int32)), (.int (0 : Int32)), (.int (0 : Int32)), (.int (0 : Int32)), (.int (0 : Int32)), (.int (0 : Int32)), (.int (0 : Int32)), (.int (0 : Int32)), (.int (0 : Int32))] : List Value).drop (((0 : Int32) * w).toNatClampNeg + w.toNatClampNeg)) = vn55 at A55 ln55
      show oG p e below _ (T55.setTop (mkF m 96 #[.val (.ref q), .val (.ref cb), .val (.ref t), .val (.int (1 : Int32)), .val (.int nd_), .val (.int (16 : Int32))] []))
      refine og (fun _ hr => XS.aloadN X55.here hx rfl (hb hby dc5_96) rfl rfl hr) ?_
      show oG p e below _ (T55.setTop (mkF m 97 #[.val (.ref q), .val (.ref cb), .val (.ref t), .val (.int (1 : Int32)), .val (.int nd_), .val (.int (16 : Int32))] [(.ref q)]))
      have f59 := (f49.keep K55 (ninS (Nat.ne_of_lt (Nat.lt_of_lt_of_le EQ.lt sz43_0)) nin0))
      obtain ⟨T60, X60, e60, st60⟩ := getF X55 hx hZ hown (host := "") (Or.inl (hw _ (own_m 34 rfl))) Via.refl e55 f59 (g := (mkF m 97 #[.val (.ref q), .val (.ref cb), .val (.ref t), .val (.int (1 : Int32)), .val (.int nd_), .val (.int (16 : Int32))] [(.ref q)])) rfl rfl (hb hby dc5_97)
      refine og st60 ?_
      show oG p e below _ (T60.setTop (mkF m 100 #[.val (.ref q), .val (.ref cb), .val (.ref t), .val (.int (1 : Int32)), .val (.int nd_), .val (.int (16 : Int32))] [(.ref S_)]))
      refine og (fun _ hr => XS.iloadN X60.here hx rfl (hb hby dc5_100) rfl hr) ?_
      show oG p e below _ (T60.setTop (mkF m 101 #[.val (.ref q), .val (.ref cb), .val (.ref t), .val (.int (1 : Int32)), .val (.int nd_), .val (.int (16 : Int32))] [(.int (1 : Int32)), (.ref S_)]))
      refine og (S' := T60.setTop (mkF m 102 #[.val (.ref q), .val (.ref cb), .val (.ref t), .val (.int (1 : Int32)), .val (.int nd_), .val (.int (16 : Int32))] [(.int (1 : Int32)), (.ref S_), (.int (1 : Int32)), (.ref S_)])) (fun _ hr => by
        jvm_step X60.here [X60.here.top, hx, (hb hby dc5_101), Value.category]
        exact hr) ?_
      show oG p e below _ (T60.setTop (mkF m 102 #[.val (.ref q), .val (.ref cb), .val (.ref t), .val (.int (1 : Int32)), .val (.int nd_), .val (.int (16 : Int32))] [(.int (1 : Int32)), (.ref S_), (.int (1 : Int32)), (.ref S_)]))
      have f61 := (f51.keep K55 (ninS (Nat.ne_of_lt (Nat.lt_of_lt_of_le VS.lt sz43_0)) nin0))
      refine og (fun _ hr => own_iaload X60 hx hZ e60 f61 (1 : Int32) (.int (0 : Int32)) ⟨by decide, by decide⟩ rfl rfl rfl (hb hby dc5_102) (XS.iconst X60.here hx rfl (hb hby dc5_103) (XS.iadd X60.here hx rfl (hb hby dc5_104) rfl hr))) ?_
      show oG p e below _ (T60.setTop (mkF m 105 #[.val (.ref q), .val (.ref cb), .val (.ref t), .val (.int (1 : Int32)), .val (.int nd_), .val (.int (16 : Int32))] [(.int (1 : Int32)), (.int (1 : Int32)), (.ref S_)]))
      refine own_stI X60 hx hZ e60 f61 (1 : Int32) (1 : Int32) 1 ⟨by decide, by decide⟩ rfl (Nat.le_of_ble_eq_true rfl)  [(.int s0_), (.int (1 : Int32)), (.int s2_), (.int s3_)] rfl N55 ge_S_ (hb hby dc5_105) ?_
      intro T62 h62 L62 X62 e62 W62 N62 f62
      show oG p e below _ (T62.setTop (mkF m 106 #[.val (.ref q), .val (.ref cb), .val (.ref t), .val (.int (1 : Int32)), .val (.int nd_), .val (.int (16 : Int32))] []))
      have K63 := ((((K0.trans K43 all0).wr W46 (Or.inl (List.mem_of_getElem? (i := 0) rfl))).trans K55 (allS (Or.inr sz44) all0)).wr W62 (Or.inl (List.mem_of_getElem? (i := 1) rfl)))
      have f64 := (EQ.keep K63)
      have f65 := ((f47.keep K55 (ninS (Nat.ne_of_lt (Nat.lt_of_lt_of_le EQ.lt sz43_0)) nin0)).other W62 (Or.inl ne_q_S_))
      have f66 := (f59.other W62 (Or.inl ne_q_S_))
      have f67 := ((f52.keep K55 (ninS (Nat.ne_of_lt (Nat.lt_of_lt_of_le EQ.lt sz43_0)) nin0)).other W62 (Or.inl ne_q_S_))
      have f68 := ((f46.keep K55 (ninS (Nat.ne_of_lt (Nat.lt_of_lt_of_le VC.lt sz43_0)) nin0)).other W62 ne_C__S_)
      have f69 := ((((VD0.keep K43 nin0).other W46 (Ne.symm ne_C__d0_)).keep K55 (ninS (Nat.ne_of_lt (Nat.lt_of_lt_of_le VD0.lt sz43_0)) nin0)).other W62 (Ne.symm ne_S__d0_))
      have f70 := (A55.other W62 (Ne.symm (Nat.ne_of_lt (Nat.lt_of_lt_of_le VS.lt sz43_0))))
      have f71 := ((((VD2.keep K43 nin0).other W46 (Ne.symm ne_C__d2_)).keep K55 (ninS (Nat.ne_of_lt (Nat.lt_of_lt_of_le VD2.lt sz43_0)) nin0)).other W62 (Ne.symm ne_S__d2_))
      have f72 := ((((VD3.keep K43 nin0).other W46 (Ne.symm ne_C__d3_)).keep K55 (ninS (Nat.ne_of_lt (Nat.lt_of_lt_of_le VD3.lt sz43_0)) nin0)).other W62 (Ne.symm ne_S__d3_))
      have f73 := ((f56.keep K55 (ninS (Nat.ne_of_lt (Nat.lt_of_lt_of_le VB.lt sz43_0)) nin0)).other W62 ne_cb_S_)
      have om74 : 0 ≤ s0_.toInt := by
        have q0 := rng32 s0_
        have r0 := rng32 s0_
        have q1 := rng32 w
        have r1 := rng32 w
        have q2 := c_imul (1 : Int32) w
        have r2 := rng32 ((1 : Int32) * w)
        have q3 := congrArg Int32.toInt hnd_
        have r3 := rng32 nd_
        have q4 := c_imul (0 : Int32) w
        have r4 := rng32 ((0 : Int32) * w)
        have p0 := hw0
        have p1 := hw3
        have p2 := c36
        have p3 := c41
        have p4 := c58
        try simp only [true_implies, Int32.lt_iff_toInt_lt, ← Int32.toInt_inj, Int32.reduceToInt, Int64.lt_iff_toInt_lt, ← Int64.toInt_inj, Int64.reduceToInt] at q0 q1 q2 q3 q4 p0 p1 p2 p3 p4
        first | omega | (simp only [Int32.reduceToInt, ← Int32.toInt_inj] <;> omega) | decide
      have om75 : 0 ≤ (1 : Int32).toInt := by
        have q0 := rng32 w
        have r0 := rng32 w
        have q1 := c_imul (1 : Int32) w
        have r1 := rng32 ((1 : Int32) * w)
        have q2 := congrArg Int32.toInt hnd_
        have r2 := rng32 nd_
        have q3 := c_imul (0 : Int32) w
        have r3 := rng32 ((0 : Int32) * w)
        have p0 := hw0
        have p1 := hw3
        have p2 := c36
        have p3 := c41
        have p4 := c58
        try simp only [true_implies, Int32.lt_iff_toInt_lt, ← Int32.toInt_inj, Int32.reduceToInt, Int64.lt_iff_toInt_lt, ← Int64.toInt_inj, Int64.reduceToInt] at q0 q1 q2 q3 p0 p1 p2 p3 p4
        first | omega | (simp only [Int32.reduceToInt, ← Int32.toInt_inj] <;> omega) | decide
      have om76 : 0 ≤ s2_.toInt := by
        have q0 := rng32 s2_
        have r0 := rng32 s2_
        have q1 := rng32 w
        have r1 := rng32 w
        have q2 := c_imul (1 : Int32) w
        have r2 := rng32 ((1 : Int32) * w)
        have q3 := congrArg Int32.toInt hnd_
        have r3 := rng32 nd_
        have q4 := c_imul (0 : Int32) w
        have r4 := rng32 ((0 : Int32) * w)
        have p0 := hw0
        have p1 := hw3
        have p2 := c36
        have p3 := c41
        have p4 := c58
        try simp only [true_implies, Int32.lt_iff_toInt_lt, ← Int32.toInt_inj, Int32.reduceToInt, Int64.lt_iff_toInt_lt, ← Int64.toInt_inj, Int64.reduceToInt] at q0 q1 q2 q3 q4 p0 p1 p2 p3 p4
        first | omega | (simp only [Int32.reduceToInt, ← Int32.toInt_inj] <;> omega) | decide
      have om77 : 0 ≤ s3_.toInt := by
        have q0 := rng32 s3_
        have r0 := rng32 s3_
        have q1 := rng32 w
        have r1 := rng32 w
        have q2 := c_imul (1 : Int32) w
        have r2 := rng32 ((1 : Int32) * w)
        have q3 := congrArg Int32.toInt hnd_
        have r3 := rng32 nd_
        have q4 := c_imul (0 : Int32) w
        have r4 := rng32 ((0 : Int32) * w)
        have p0 := hw0
        have p1 := hw3
        have p2 := c36
        have p3 := c41
        have p4 := c58
        try simp only [true_implies, Int32.lt_iff_toInt_lt, ← Int32.toInt_inj, Int32.reduceToInt, Int64.lt_iff_toInt_lt, ← Int64.toInt_inj, Int64.reduceToInt] at q0 q1 q2 q3 q4 p0 p1 p2 p3 p4
        first | omega | (simp only [Int32.reduceToInt, ← Int32.toInt_inj] <;> omega) | decide
      have om78 : s0_.toInt + (1 : Int32).toInt + s2_.toInt + s3_.toInt = cnt2.toInt := by
        have q0 := rng32 s0_
        have r0 := rng32 s0_
        have q1 := rng32 s2_
        have r1 := rng32 s2_
        have q2 := rng32 s3_
        have r2 := rng32 s3_
        have q3 := rng32 w
        have r3 := rng32 w
        have q4 := c_imul (1 : Int32) w
        have r4 := rng32 ((1 : Int32) * w)
        have q5 := congrArg Int32.toInt hnd_
        have r5 := rng32 nd_
        have q6 := c_imul (0 : Int32) w
        have r6 := rng32 ((0 : Int32) * w)
        have p0 := hw0
        have p1 := hw3
        have p2 := c36
        have p3 := c41
        have p4 := c58
        try simp only [true_implies, Int32.lt_iff_toInt_lt, ← Int32.toInt_inj, Int32.reduceToInt, Int64.lt_iff_toInt_lt, ← Int64.toInt_inj, Int64.reduceToInt] at q0 q1 q2 q3 q4 q5 q6 p0 p1 p2 p3 p4
        first | omega | (simp only [Int32.reduceToInt, ← Int32.toInt_inj] <;> omega) | decide
      exact own_ret0 X62 hx hlk Bd.returns (hb hby dc5_106) (by decide) (by decide) (by rw [e62]; exact ⟨rfl, N62, [C_, S_, d0_, d1_, d2_, d3_], K63, (fun x hx_ => by simp only [List.mem_cons, List.not_mem_nil, or_false] at hx_; rcases hx_ with rfl | rfl | rfl | rfl | rfl | rfl <;> assumption), ⟨C_, S_, d0_, b43_0, d2_, d3_, kC_, kS_, kb_, e0_, kb43_0, e2_, e3_, s0_, (1 : Int32), s2_, s3_, m0_, (16 : Int32), m2_, m3_, bx_, by_, bz_, v0_, vn55, v2_, v3_, f64, f65, f66, f67, f68, OV, f62, f69, f70, f71, f72, f73, g_C_, g_S_, g_d0_, (Nat.le_trans (Nat.le_trans g_C_ (Nat.le_of_lt VC.lt)) sz44), g_d2_, g_d3_, ne_C__S_, ne_C__d0_, (Nat.ne_of_lt (Nat.lt_of_lt_of_le VC.lt sz43_0)), ne_C__d2_, ne_C__d3_, ne_S__d0_, (Nat.ne_of_lt (Nat.lt_of_lt_of_le VS.lt sz43_0)), ne_S__d2_, ne_S__d3_, (Nat.ne_of_lt (Nat.lt_of_lt_of_le VD0.lt sz43_0)), ne_d0__d2_, ne_d0__d3_, (Ne.symm (Nat.ne_of_lt (Nat.lt_of_lt_of_le VD2.lt sz43_0))), (Ne.symm (Nat.ne_of_lt (Nat.lt_of_lt_of_le VD3.lt sz43_0))), ne_d2__d3_, ne_cb_C_, ne_cb_S_, ne_cb_d0_, (Nat.ne_of_lt (Nat.lt_of_lt_of_le VB.lt sz43_0)), ne_cb_d2_, ne_cb_d3_, ne_q_C_, ne_q_S_, ne_q_d0_, (Nat.ne_of_lt (Nat.lt_of_lt_of_le EQ.lt sz43_0)), ne_q_d2_, ne_q_d3_, om74, om75, om76, om77, om78, iM0_, (Or.inl rfl), iM2_, iM3_, iL0_, ln55, iL2_, iL3_, WB⟩⟩)
    refine og (fun _ hr => XS.icmpYes X35.here hx rfl (pc0 := 29) (pc' := 70) rfl (hb hby dc5_29) rfl (flt c36).2.2.2 (by decide) (by decide) hr) ?_
    show oG p e below _ (T35.setTop (mkF m 70 #[.val (.ref q), .val (.ref cb), .val (.ref t), .val (.int (1 : Int32)), .val (.int nd_), .unset] []))
    refine og (fun _ hr => XS.aloadN X35.here hx rfl (hb hby dc5_70) rfl rfl (XS.iconst X35.here hx rfl (hb hby dc5_71) (XS.aloadN X35.here hx rfl (hb hby dc5_72) rfl rfl hr))) ?_
    show oG p e below _ (T35.setTop (mkF m 73 #[.val (.ref q), .val (.ref cb), .val (.ref t), .val (.int (1 : Int32)), .val (.int nd_), .unset] [(.ref q), (.int (0 : Int32)), (.ref cb)]))
    obtain ⟨T79, X79, e79, st79⟩ := getF X35 hx hZ hown (host := "") (Or.inl (hw _ (own_m 32 rfl))) Via.refl e35 FC (g := (mkF m 73 #[.val (.ref q), .val (.ref cb), .val (.ref t), .val (.int (1 : Int32)), .val (.int nd_), .unset] [(.ref q), (.int (0 : Int32)), (.ref cb)])) rfl rfl (hb hby dc5_73)
    refine og st79 ?_
    show oG p e below _ (T79.setTop (mkF m 76 #[.val (.ref q), .val (.ref cb), .val (.ref t), .val (.int (1 : Int32)), .val (.int nd_), .unset] [(.ref C_), (.int (0 : Int32)), (.ref cb)]))
    refine og (fun _ hr => XS.iloadN X79.here hx rfl (hb hby dc5_76) rfl (own_aaload X79 hx hZ e79 VC (1 : Int32) (.ref d1_) ⟨by decide, by decide⟩ rfl rfl rfl rfl (hb hby dc5_77) (XS.aloadN X79.here hx rfl (hb hby dc5_78) rfl rfl hr))) ?_
    show oG p e below _ (T79.setTop (mkF m 79 #[.val (.ref q), .val (.ref cb), .val (.ref t), .val (.int (1 : Int32)), .val (.int nd_), .unset] [(.ref q), (.ref d1_), (.int (0 : Int32)), (.ref cb)]))
    obtain ⟨T80, X80, e80, st80⟩ := getF X79 hx hZ hown (host := "") (Or.inl (hw _ (own_m 34 rfl))) Via.refl e79 FS (g := (mkF m 79 #[.val (.ref q), .val (.ref cb), .val (.ref t), .val (.int (1 : Int32)), .val (.int nd_), .unset] [(.ref q), (.ref d1_), (.int (0 : Int32)), (.ref cb)])) rfl rfl (hb hby dc5_79)
    refine og st80 ?_
    show oG p e below _ (T80.setTop (mkF m 82 #[.val (.ref q), .val (.ref cb), .val (.ref t), .val (.int (1 : Int32)), .val (.int nd_), .unset] [(.ref S_), (.ref d1_), (.int (0 : Int32)), (.ref cb)]))
    refine og (fun _ hr => XS.iloadN X80.here hx rfl (hb hby dc5_82) rfl (own_iaload X80 hx hZ e80 VS (1 : Int32) (.int (0 : Int32)) ⟨by decide, by decide⟩ rfl rfl rfl (hb hby dc5_83) (XS.aloadN X80.here hx rfl (hb hby dc5_84) rfl rfl hr))) ?_
    show oG p e below _ (T80.setTop (mkF m 85 #[.val (.ref q), .val (.ref cb), .val (.ref t), .val (.int (1 : Int32)), .val (.int nd_), .unset] [(.ref q), (.int (0 : Int32)), (.ref d1_), (.int (0 : Int32)), (.ref cb)]))
    obtain ⟨T81, X81, e81, st81⟩ := getF X80 hx hZ hown (host := "") (Or.inl (hw _ (own_m 36 rfl))) Via.refl e80 FW (g := (mkF m 85 #[.val (.ref q), .val (.ref cb), .val (.ref t), .val (.int (1 : Int32)), .val (.int nd_), .unset] [(.ref q), (.int (0 : Int32)), (.ref d1_), (.int (0 : Int32)), (.ref cb)])) rfl rfl (hb hby dc5_85)
    refine og st81 ?_
    show oG p e below _ (T81.setTop (mkF m 88 #[.val (.ref q), .val (.ref cb), .val (.ref t), .val (.int (1 : Int32)), .val (.int nd_), .unset] [(.int w), (.int (0 : Int32)), (.ref d1_), (.int (0 : Int32)), (.ref cb)]))
    refine og (fun _ hr => XS.imul X81.here hx rfl (hb hby dc5_88) rfl (XS.aloadN X81.here hx rfl (hb hby dc5_89) rfl rfl hr)) ?_
    show oG p e below _ (T81.setTop (mkF m 90 #[.val (.ref q), .val (.ref cb), .val (.ref t), .val (.int (1 : Int32)), .val (.int nd_), .unset] [(.ref q), (.int ((0 : Int32) * w)), (.ref d1_), (.int (0 : Int32)), (.ref cb)]))
    obtain ⟨T82, X82, e82, st82⟩ := getF X81 hx hZ hown (host := "") (Or.inl (hw _ (own_m 36 rfl))) Via.refl e81 FW (g := (mkF m 90 #[.val (.ref q), .val (.ref cb), .val (.ref t), .val (.int (1 : Int32)), .val (.int nd_), .unset] [(.ref q), (.int ((0 : Int32) * w)), (.ref d1_), (.int (0 : Int32)), (.ref cb)])) rfl rfl (hb hby dc5_90)
    refine og st82 ?_
    show oG p e below _ (T82.setTop (mkF m 93 #[.val (.ref q), .val (.ref cb), .val (.ref t), .val (.int (1 : Int32)), .val (.int nd_), .unset] [(.int w), (.int ((0 : Int32) * w)), (.ref d1_), (.int (0 : Int32)), (.ref cb)]))
    have c84 : ¬ (((0 : Int32) * w) < (0 : Int32)) := by
      have q0 := rng32 w
      have q1 := c_imul (1 : Int32) w
      have r1 := rng32 ((1 : Int32) * w)
      have q2 := congrArg Int32.toInt hnd_
      have q3 := c_imul (0 : Int32) w
      have r3 := rng32 ((0 : Int32) * w)
      have p0 := hw0
      have p1 := hw3
      have p2 := c36
      simp only [true_implies, Int32.lt_iff_toInt_lt, ← Int32.toInt_inj, Int32.reduceToInt, Int64.lt_iff_toInt_lt, ← Int64.toInt_inj, Int64.reduceToInt] at q0 q1 q2 q3 p0 p1 p2 ⊢
      omega
    have le83 : ((0 : Int32) * w).toInt + w.toInt ≤ (0 : Int32).toInt ∧ w.toInt ≤ 3 ∧ 0 ≤ ((0 : Int32) * w).toInt ∧ 0 ≤ w.toInt ∧ 0 ≤ (0 : Int32).toInt := by
      have q0 := rng32 w
      have r0 := rng32 w
      have q1 := c_imul (0 : Int32) w
      have r1 := rng32 ((0 : Int32) * w)
      have q2 := c_imul (1 : Int32) w
      have r2 := rng32 ((1 : Int32) * w)
      have q3 := congrArg Int32.toInt hnd_
      have r3 := rng32 nd_
      have p0 := hw0
      have p1 := hw3
      have p2 := c36
      have p3 := c84
      try simp only [true_implies, Int32.lt_iff_toInt_lt, ← Int32.toInt_inj, Int32.reduceToInt, Int64.lt_iff_toInt_lt, ← Int64.toInt_inj, Int64.reduceToInt] at q0 q1 q2 q3 p0 p1 p2 p3
      try simp only [Int32.reduceToInt]
      omega
    have lf83 : ((0 : Int32) * w).toNatClampNeg + w.toNatClampNeg ≤ (0 : Int32).toNatClampNeg ∧ (0 : Int32).toNatClampNeg + w.toNatClampNeg ≤ (3 : Int32).toNatClampNeg := by
      have := own_tn ((0 : Int32) * w) (by omega)
      have := own_tn w (by omega)
      have := own_tn (0 : Int32) (by omega)
      have z0 : (0 : Int32).toNatClampNeg = 0 := rfl
      have z3 : (3 : Int32).toNatClampNeg = 3 := rfl
      omega
    have ll83 : ([] : List Value).length = (0 : Int32).toNatClampNeg := (by decide)
    obtain ⟨T83, h83, L83, X83, e83, N83, K83, A83, st83⟩ := cpA X82 hx hZ hown (hw _ (own_m 58 rfl)) (hw _ (own_m 61 rfl)) (hw _ (own_m 59 rfl)) (hw _ (own_m 60 rfl)) e82 VB VD1 (us := _) (Or.inl ⟨rfl, rfl⟩) (by decide) c84 hw0 lf83.2 lf83.1 rfl (ll83 ▸ lf83.1) N32 ge_d1_ (g := (mkF m 93 #[.val (.ref q), .val (.ref cb), .val (.ref t), .val (.int (1 : Int32)), .val (.int nd_), .unset] [(.int w), (.int ((0 : Int32) * w)), (.ref d1_), (.int (0 : Int32)), (.ref cb)])) rfl (by rw [hml]; rfl) rfl (hb hby dc5_93) (by decide) (W := 0) (by show 2 * 0 + _ ≤ _; exact Nat.le_of_eq rfl) (by decide)
    refine og st83 ?_
    have ln83 := own_cplen (us := (List.range w.toNatClampNeg).map fun i => ([(.int bx_), (.int by_), (.int bz_)] : List Value).getD ((0 : Int32).toNatClampNeg + i) (.int (0 : Int32))) (ll83 ▸ lf83.1) (by simp) ll83
    generalize hvn83 : (([] : List Value).take ((0 : Int32) * w).toNatClampNeg ++ (List.range w.toNatClampNeg).map (fun i => ([(.int bx_), (.int by_), (.int bz_)] : List Value).getD ((0 : Int32).toNatClampNeg + i) (.int (0 : Int32))) ++ ([] : List Value).drop (((0 : Int32) * w).toNatClampNeg + w.toNatClampNeg)) = vn83 at A83 ln83
    show oG p e below _ (T83.setTop (mkF m 96 #[.val (.ref q), .val (.ref cb), .val (.ref t), .val (.int (1 : Int32)), .val (.int nd_), .unset] []))
    refine og (fun _ hr => XS.aloadN X83.here hx rfl (hb hby dc5_96) rfl rfl hr) ?_
    show oG p e below _ (T83.setTop (mkF m 97 #[.val (.ref q), .val (.ref cb), .val (.ref t), .val (.int (1 : Int32)), .val (.int nd_), .unset] [(.ref q)]))
    have f85 := (FS.keep K83 (ninS ne_q_d1_ nin0))
    obtain ⟨T86, X86, e86, st86⟩ := getF X83 hx hZ hown (host := "") (Or.inl (hw _ (own_m 34 rfl))) Via.refl e83 f85 (g := (mkF m 97 #[.val (.ref q), .val (.ref cb), .val (.ref t), .val (.int (1 : Int32)), .val (.int nd_), .unset] [(.ref q)])) rfl rfl (hb hby dc5_97)
    refine og st86 ?_
    show oG p e below _ (T86.setTop (mkF m 100 #[.val (.ref q), .val (.ref cb), .val (.ref t), .val (.int (1 : Int32)), .val (.int nd_), .unset] [(.ref S_)]))
    refine og (fun _ hr => XS.iloadN X86.here hx rfl (hb hby dc5_100) rfl hr) ?_
    show oG p e below _ (T86.setTop (mkF m 101 #[.val (.ref q), .val (.ref cb), .val (.ref t), .val (.int (1 : Int32)), .val (.int nd_), .unset] [(.int (1 : Int32)), (.ref S_)]))
    refine og (S' := T86.setTop (mkF m 102 #[.val (.ref q), .val (.ref cb), .val (.ref t), .val (.int (1 : Int32)), .val (.int nd_), .unset] [(.int (1 : Int32)), (.ref S_), (.int (1 : Int32)), (.ref S_)])) (fun _ hr => by
      jvm_step X86.here [X86.here.top, hx, (hb hby dc5_101), Value.category]
      exact hr) ?_
    show oG p e below _ (T86.setTop (mkF m 102 #[.val (.ref q), .val (.ref cb), .val (.ref t), .val (.int (1 : Int32)), .val (.int nd_), .unset] [(.int (1 : Int32)), (.ref S_), (.int (1 : Int32)), (.ref S_)]))
    have f87 := (VS.keep K83 (ninS ne_S__d1_ nin0))
    refine og (fun _ hr => own_iaload X86 hx hZ e86 f87 (1 : Int32) (.int (0 : Int32)) ⟨by decide, by decide⟩ rfl rfl rfl (hb hby dc5_102) (XS.iconst X86.here hx rfl (hb hby dc5_103) (XS.iadd X86.here hx rfl (hb hby dc5_104) rfl hr))) ?_
    show oG p e below _ (T86.setTop (mkF m 105 #[.val (.ref q), .val (.ref cb), .val (.ref t), .val (.int (1 : Int32)), .val (.int nd_), .unset] [(.int (1 : Int32)), (.int (1 : Int32)), (.ref S_)]))
    refine own_stI X86 hx hZ e86 f87 (1 : Int32) (1 : Int32) 1 ⟨by decide, by decide⟩ rfl (Nat.le_of_ble_eq_true rfl)  [(.int s0_), (.int (1 : Int32)), (.int s2_), (.int s3_)] rfl N83 ge_S_ (hb hby dc5_105) ?_
    intro T88 h88 L88 X88 e88 W88 N88 f88
    show oG p e below _ (T88.setTop (mkF m 106 #[.val (.ref q), .val (.ref cb), .val (.ref t), .val (.int (1 : Int32)), .val (.int nd_), .unset] []))
    have f89 := ((EQ.keep K83).wr W88)
    have f90 := ((FC.keep K83 (ninS ne_q_d1_ nin0)).other W88 (Or.inl ne_q_S_))
    have f91 := (f85.other W88 (Or.inl ne_q_S_))
    have f92 := ((FW.keep K83 (ninS ne_q_d1_ nin0)).other W88 (Or.inl ne_q_S_))
    have f93 := ((VC.keep K83 (ninS ne_C__d1_ nin0)).other W88 ne_C__S_)
    have f94 := ((VD0.keep K83 (ninS ne_d0__d1_ nin0)).other W88 (Ne.symm ne_S__d0_))
    have f95 := (A83.other W88 (Ne.symm ne_S__d1_))
    have f96 := ((VD2.keep K83 (ninS (Ne.symm ne_d1__d2_) nin0)).other W88 (Ne.symm ne_S__d2_))
    have f97 := ((VD3.keep K83 (ninS (Ne.symm ne_d1__d3_) nin0)).other W88 (Ne.symm ne_S__d3_))
    have f98 := ((VB.keep K83 (ninS ne_cb_d1_ nin0)).other W88 ne_cb_S_)
    have om99 : 0 ≤ s0_.toInt := by
      have q0 := rng32 s0_
      have r0 := rng32 s0_
      have q1 := rng32 w
      have r1 := rng32 w
      have q2 := c_imul (1 : Int32) w
      have r2 := rng32 ((1 : Int32) * w)
      have q3 := congrArg Int32.toInt hnd_
      have r3 := rng32 nd_
      have q4 := c_imul (0 : Int32) w
      have r4 := rng32 ((0 : Int32) * w)
      have p0 := hw0
      have p1 := hw3
      have p2 := c36
      have p3 := c84
      try simp only [true_implies, Int32.lt_iff_toInt_lt, ← Int32.toInt_inj, Int32.reduceToInt, Int64.lt_iff_toInt_lt, ← Int64.toInt_inj, Int64.reduceToInt] at q0 q1 q2 q3 q4 p0 p1 p2 p3
      first | omega | (simp only [Int32.reduceToInt, ← Int32.toInt_inj] <;> omega) | decide
    have om100 : 0 ≤ (1 : Int32).toInt := by
      have q0 := rng32 w
      have r0 := rng32 w
      have q1 := c_imul (1 : Int32) w
      have r1 := rng32 ((1 : Int32) * w)
      have q2 := congrArg Int32.toInt hnd_
      have r2 := rng32 nd_
      have q3 := c_imul (0 : Int32) w
      have r3 := rng32 ((0 : Int32) * w)
      have p0 := hw0
      have p1 := hw3
      have p2 := c36
      have p3 := c84
      try simp only [true_implies, Int32.lt_iff_toInt_lt, ← Int32.toInt_inj, Int32.reduceToInt, Int64.lt_iff_toInt_lt, ← Int64.toInt_inj, Int64.reduceToInt] at q0 q1 q2 q3 p0 p1 p2 p3
      first | omega | (simp only [Int32.reduceToInt, ← Int32.toInt_inj] <;> omega) | decide
    have om101 : 0 ≤ s2_.toInt := by
      have q0 := rng32 s2_
      have r0 := rng32 s2_
      have q1 := rng32 w
      have r1 := rng32 w
      have q2 := c_imul (1 : Int32) w
      have r2 := rng32 ((1 : Int32) * w)
      have q3 := congrArg Int32.toInt hnd_
      have r3 := rng32 nd_
      have q4 := c_imul (0 : Int32) w
      have r4 := rng32 ((0 : Int32) * w)
      have p0 := hw0
      have p1 := hw3
      have p2 := c36
      have p3 := c84
      try simp only [true_implies, Int32.lt_iff_toInt_lt, ← Int32.toInt_inj, Int32.reduceToInt, Int64.lt_iff_toInt_lt, ← Int64.toInt_inj, Int64.reduceToInt] at q0 q1 q2 q3 q4 p0 p1 p2 p3
      first | omega | (simp only [Int32.reduceToInt, ← Int32.toInt_inj] <;> omega) | decide
    have om102 : 0 ≤ s3_.toInt := by
      have q0 := rng32 s3_
      have r0 := rng32 s3_
      have q1 := rng32 w
      have r1 := rng32 w
      have q2 := c_imul (1 : Int32) w
      have r2 := rng32 ((1 : Int32) * w)
      have q3 := congrArg Int32.toInt hnd_
      have r3 := rng32 nd_
      have q4 := c_imul (0 : Int32) w
      have r4 := rng32 ((0 : Int32) * w)
      have p0 := hw0
      have p1 := hw3
      have p2 := c36
      have p3 := c84
      try simp only [true_implies, Int32.lt_iff_toInt_lt, ← Int32.toInt_inj, Int32.reduceToInt, Int64.lt_iff_toInt_lt, ← Int64.toInt_inj, Int64.reduceToInt] at q0 q1 q2 q3 q4 p0 p1 p2 p3
      first | omega | (simp only [Int32.reduceToInt, ← Int32.toInt_inj] <;> omega) | decide
    have om103 : s0_.toInt + (1 : Int32).toInt + s2_.toInt + s3_.toInt = cnt2.toInt := by
      have q0 := rng32 s0_
      have r0 := rng32 s0_
      have q1 := rng32 s2_
      have r1 := rng32 s2_
      have q2 := rng32 s3_
      have r2 := rng32 s3_
      have q3 := rng32 w
      have r3 := rng32 w
      have q4 := c_imul (1 : Int32) w
      have r4 := rng32 ((1 : Int32) * w)
      have q5 := congrArg Int32.toInt hnd_
      have r5 := rng32 nd_
      have q6 := c_imul (0 : Int32) w
      have r6 := rng32 ((0 : Int32) * w)
      have p0 := hw0
      have p1 := hw3
      have p2 := c36
      have p3 := c84
      try simp only [true_implies, Int32.lt_iff_toInt_lt, ← Int32.toInt_inj, Int32.reduceToInt, Int64.lt_iff_toInt_lt, ← Int64.toInt_inj, Int64.reduceToInt] at q0 q1 q2 q3 q4 q5 q6 p0 p1 p2 p3
      first | omega | (simp only [Int32.reduceToInt, ← Int32.toInt_inj] <;> omega) | decide
    have om104 : w = (0 : Int32) := by
      have q0 := rng32 w
      have r0 := rng32 w
      have q1 := c_imul (1 : Int32) w
      have r1 := rng32 ((1 : Int32) * w)
      have q2 := congrArg Int32.toInt hnd_
      have r2 := rng32 nd_
      have q3 := c_imul (0 : Int32) w
      have r3 := rng32 ((0 : Int32) * w)
      have p0 := hw0
      have p1 := hw3
      have p2 := c36
      have p3 := c84
      try simp only [true_implies, Int32.lt_iff_toInt_lt, ← Int32.toInt_inj, Int32.reduceToInt, Int64.lt_iff_toInt_lt, ← Int64.toInt_inj, Int64.reduceToInt] at q0 q1 q2 q3 p0 p1 p2 p3
      first | omega | (simp only [Int32.reduceToInt, ← Int32.toInt_inj] <;> omega) | decide
    have K105 := ((K0.trans K83 (allS (Or.inl (List.mem_of_getElem? (i := 3) rfl)) all0)).wr W88 (Or.inl (List.mem_of_getElem? (i := 1) rfl)))
    exact own_ret0 X88 hx hlk Bd.returns (hb hby dc5_106) (by decide) (by decide) (by rw [e88]; exact ⟨rfl, N88, [C_, S_, d0_, d1_, d2_, d3_], K105, (fun x hx_ => by simp only [List.mem_cons, List.not_mem_nil, or_false] at hx_; rcases hx_ with rfl | rfl | rfl | rfl | rfl | rfl <;> assumption), ⟨C_, S_, d0_, d1_, d2_, d3_, kC_, kS_, kb_, e0_, e1_, e2_, e3_, s0_, (1 : Int32), s2_, s3_, m0_, (0 : Int32), m2_, m3_, bx_, by_, bz_, v0_, vn83, v2_, v3_, f89, f90, f91, f92, f93, OV, f88, f94, f95, f96, f97, f98, g_C_, g_S_, g_d0_, g_d1_, g_d2_, g_d3_, ne_C__S_, ne_C__d0_, ne_C__d1_, ne_C__d2_, ne_C__d3_, ne_S__d0_, ne_S__d1_, ne_S__d2_, ne_S__d3_, ne_d0__d1_, ne_d0__d2_, ne_d0__d3_, ne_d1__d2_, ne_d1__d3_, ne_d2__d3_, ne_cb_C_, ne_cb_S_, ne_cb_d0_, ne_cb_d1_, ne_cb_d2_, ne_cb_d3_, ne_q_C_, ne_q_S_, ne_q_d0_, ne_q_d1_, ne_q_d2_, ne_q_d3_, om99, om100, om101, om102, om103, iM0_, (Or.inr ⟨rfl, Or.inr om104⟩), iM2_, iM3_, iL0_, ln83, iL2_, iL3_, WB⟩⟩)
  · subst hm
    obtain rfl : v1_ = [] := List.eq_nil_of_length_eq_zero (iL1_.trans rfl)
    show oG p e below _ (s₁.setTop (mkF m 0 #[.val (.ref q), .val (.ref cb), .val (.ref t), .unset, .unset, .unset] []))
    refine og (fun _ hr => XS.aloadN X0.here hx rfl (hb hby dc5_0) rfl rfl hr) ?_
    show oG p e below _ (s₁.setTop (mkF m 1 #[.val (.ref q), .val (.ref cb), .val (.ref t), .unset, .unset, .unset] [(.ref t)]))
    refine own_cu X0 hx hZ hown (hw _ (own_m 49 rfl)) (hw _ (own_m 50 rfl)) (hw _ (own_m 51 rfl)) (hw _ (own_m 53 rfl)) (hw _ (own_m 52 rfl)) (hw _ (own_m 54 rfl)) (hw _ (own_m 55 rfl)) (by decide) Et (rm := { frames := 0, cells := 0, slots := 0, locals := 0 }) (rm_ordinal_5 l Z a0 hw [] t h0 n0 Z0 Ft) (by decide) (W := 0) (by decide) (by decide) (by decide) e0 (by rw [hml]; rfl) (argsL := []) (lenOf own_pd0 rfl) (rest := []) rfl rfl (Nat.le_of_eq rfl) (hb hby dc5_1) ?_
    intro _ T106 L106 X106 hQ106
    obtain ⟨rfl, N106q, e106⟩ := hQ106
    have N106 := Fr.app N0 N106q
    show oG p e below _ (T106.setTop (mkF m 4 #[.val (.ref q), .val (.ref cb), .val (.ref t), .unset, .unset, .unset] [(.int (1 : Int32))]))
    refine og (fun _ hr => XS.istoreN X106.here hx rfl (hb hby dc5_4) rfl (l' := #[.val (.ref q), .val (.ref cb), .val (.ref t), .val (.int (1 : Int32)), .unset, .unset]) rfl (XS.aloadN X106.here hx rfl (hb hby dc5_5) rfl rfl hr)) ?_
    show oG p e below _ (T106.setTop (mkF m 6 #[.val (.ref q), .val (.ref cb), .val (.ref t), .val (.int (1 : Int32)), .unset, .unset] [(.ref q)]))
    obtain ⟨T107, X107, e107, st107⟩ := getF X106 hx hZ hown (host := "") (Or.inl (hw _ (own_m 34 rfl))) Via.refl e106 FS (g := (mkF m 6 #[.val (.ref q), .val (.ref cb), .val (.ref t), .val (.int (1 : Int32)), .unset, .unset] [(.ref q)])) rfl rfl (hb hby dc5_6)
    refine og st107 ?_
    show oG p e below _ (T107.setTop (mkF m 9 #[.val (.ref q), .val (.ref cb), .val (.ref t), .val (.int (1 : Int32)), .unset, .unset] [(.ref S_)]))
    refine og (fun _ hr => XS.iloadN X107.here hx rfl (hb hby dc5_9) rfl (own_iaload X107 hx hZ e107 VS (1 : Int32) (.int s1_) ⟨by decide, by decide⟩ rfl rfl rfl (hb hby dc5_10) (XS.iconst X107.here hx rfl (hb hby dc5_11) (XS.iadd X107.here hx rfl (hb hby dc5_12) rfl (XS.aloadN X107.here hx rfl (hb hby dc5_13) rfl rfl hr))))) ?_
    show oG p e below _ (T107.setTop (mkF m 14 #[.val (.ref q), .val (.ref cb), .val (.ref t), .val (.int (1 : Int32)), .unset, .unset] [(.ref q), (.int (s1_ + (1 : Int32)))]))
    obtain ⟨T108, X108, e108, st108⟩ := getF X107 hx hZ hown (host := "") (Or.inl (hw _ (own_m 36 rfl))) Via.refl e107 FW (g := (mkF m 14 #[.val (.ref q), .val (.ref cb), .val (.ref t), .val (.int (1 : Int32)), .unset, .unset] [(.ref q), (.int (s1_ + (1 : Int32)))])) rfl rfl (hb hby dc5_14)
    refine og st108 ?_
    show oG p e below _ (T108.setTop (mkF m 17 #[.val (.ref q), .val (.ref cb), .val (.ref t), .val (.int (1 : Int32)), .unset, .unset] [(.int w), (.int (s1_ + (1 : Int32)))]))
    refine og (fun _ hr => XS.imul X108.here hx rfl (hb hby dc5_17) rfl (XS.istore X108.here hx rfl (hb hby dc5_18) rfl (l' := #[.val (.ref q), .val (.ref cb), .val (.ref t), .val (.int (1 : Int32)), .val (.int ((s1_ + (1 : Int32)) * w)), .unset]) rfl hr)) ?_
    show oG p e below _ (T108.setTop (mkF m 20 #[.val (.ref q), .val (.ref cb), .val (.ref t), .val (.int (1 : Int32)), .val (.int ((s1_ + (1 : Int32)) * w)), .unset] []))
    generalize hnd_ : ((s1_ + (1 : Int32)) * w) = nd_
    refine og (fun _ hr => XS.iload X108.here hx rfl (hb hby dc5_20) rfl (XS.aloadN X108.here hx rfl (hb hby dc5_22) rfl rfl hr)) ?_
    show oG p e below _ (T108.setTop (mkF m 23 #[.val (.ref q), .val (.ref cb), .val (.ref t), .val (.int (1 : Int32)), .val (.int nd_), .unset] [(.ref q), (.int nd_)]))
    obtain ⟨T109, X109, e109, st109⟩ := getF X108 hx hZ hown (host := "") (Or.inl (hw _ (own_m 32 rfl))) Via.refl e108 FC (g := (mkF m 23 #[.val (.ref q), .val (.ref cb), .val (.ref t), .val (.int (1 : Int32)), .val (.int nd_), .unset] [(.ref q), (.int nd_)])) rfl rfl (hb hby dc5_23)
    refine og st109 ?_
    show oG p e below _ (T109.setTop (mkF m 26 #[.val (.ref q), .val (.ref cb), .val (.ref t), .val (.int (1 : Int32)), .val (.int nd_), .unset] [(.ref C_), (.int nd_)]))
    refine og (fun _ hr => XS.iloadN X109.here hx rfl (hb hby dc5_26) rfl (own_aaload X109 hx hZ e109 VC (1 : Int32) (.ref d1_) ⟨by decide, by decide⟩ rfl rfl rfl rfl (hb hby dc5_27) (own_alen X109 hx hZ e109 VD1 rfl rfl (hb hby dc5_28) hr))) ?_
    show oG p e below _ (T109.setTop (mkF m 29 #[.val (.ref q), .val (.ref cb), .val (.ref t), .val (.int (1 : Int32)), .val (.int nd_), .unset] [(.int (0 : Int32)), (.int nd_)]))
    have c110 : ¬ ((0 : Int32) < nd_) := by
      have q0 := rng32 w
      have q1 := rng32 s1_
      have q2 := c_iadd s1_ (1 : Int32)
      have r2 := rng32 (s1_ + (1 : Int32))
      have q3 := own_prod (s1_ + (1 : Int32)) w
      have r3 := rng32 ((s1_ + (1 : Int32)) * w)
      have q4 := congrArg Int32.toInt hnd_
      have p0 := hw0
      have p1 := hw3
      have p2 := hp0
      have p3 := hp3
      have p4 := hz
      simp only [true_implies, Int32.lt_iff_toInt_lt, ← Int32.toInt_inj, Int32.reduceToInt, Int64.lt_iff_toInt_lt, ← Int64.toInt_inj, Int64.reduceToInt] at q0 q1 q2 q3 q4 p0 p1 p2 p3 p4 ⊢
      omega
    refine og (fun _ hr => XS.icmpYes X109.here hx rfl (pc0 := 29) (pc' := 70) rfl (hb hby dc5_29) rfl (flt c110).2.2.2 (by decide) (by decide) hr) ?_
    show oG p e below _ (T109.setTop (mkF m 70 #[.val (.ref q), .val (.ref cb), .val (.ref t), .val (.int (1 : Int32)), .val (.int nd_), .unset] []))
    refine og (fun _ hr => XS.aloadN X109.here hx rfl (hb hby dc5_70) rfl rfl (XS.iconst X109.here hx rfl (hb hby dc5_71) (XS.aloadN X109.here hx rfl (hb hby dc5_72) rfl rfl hr))) ?_
    show oG p e below _ (T109.setTop (mkF m 73 #[.val (.ref q), .val (.ref cb), .val (.ref t), .val (.int (1 : Int32)), .val (.int nd_), .unset] [(.ref q), (.int (0 : Int32)), (.ref cb)]))
    obtain ⟨T111, X111, e111, st111⟩ := getF X109 hx hZ hown (host := "") (Or.inl (hw _ (own_m 32 rfl))) Via.refl e109 FC (g := (mkF m 73 #[.val (.ref q), .val (.ref cb), .val (.ref t), .val (.int (1 : Int32)), .val (.int nd_), .unset] [(.ref q), (.int (0 : Int32)), (.ref cb)])) rfl rfl (hb hby dc5_73)
    refine og st111 ?_
    show oG p e below _ (T111.setTop (mkF m 76 #[.val (.ref q), .val (.ref cb), .val (.ref t), .val (.int (1 : Int32)), .val (.int nd_), .unset] [(.ref C_), (.int (0 : Int32)), (.ref cb)]))
    refine og (fun _ hr => XS.iloadN X111.here hx rfl (hb hby dc5_76) rfl (own_aaload X111 hx hZ e111 VC (1 : Int32) (.ref d1_) ⟨by decide, by decide⟩ rfl rfl rfl rfl (hb hby dc5_77) (XS.aloadN X111.here hx rfl (hb hby dc5_78) rfl rfl hr))) ?_
    show oG p e below _ (T111.setTop (mkF m 79 #[.val (.ref q), .val (.ref cb), .val (.ref t), .val (.int (1 : Int32)), .val (.int nd_), .unset] [(.ref q), (.ref d1_), (.int (0 : Int32)), (.ref cb)]))
    obtain ⟨T112, X112, e112, st112⟩ := getF X111 hx hZ hown (host := "") (Or.inl (hw _ (own_m 34 rfl))) Via.refl e111 FS (g := (mkF m 79 #[.val (.ref q), .val (.ref cb), .val (.ref t), .val (.int (1 : Int32)), .val (.int nd_), .unset] [(.ref q), (.ref d1_), (.int (0 : Int32)), (.ref cb)])) rfl rfl (hb hby dc5_79)
    refine og st112 ?_
    show oG p e below _ (T112.setTop (mkF m 82 #[.val (.ref q), .val (.ref cb), .val (.ref t), .val (.int (1 : Int32)), .val (.int nd_), .unset] [(.ref S_), (.ref d1_), (.int (0 : Int32)), (.ref cb)]))
    refine og (fun _ hr => XS.iloadN X112.here hx rfl (hb hby dc5_82) rfl (own_iaload X112 hx hZ e112 VS (1 : Int32) (.int s1_) ⟨by decide, by decide⟩ rfl rfl rfl (hb hby dc5_83) (XS.aloadN X112.here hx rfl (hb hby dc5_84) rfl rfl hr))) ?_
    show oG p e below _ (T112.setTop (mkF m 85 #[.val (.ref q), .val (.ref cb), .val (.ref t), .val (.int (1 : Int32)), .val (.int nd_), .unset] [(.ref q), (.int s1_), (.ref d1_), (.int (0 : Int32)), (.ref cb)]))
    obtain ⟨T113, X113, e113, st113⟩ := getF X112 hx hZ hown (host := "") (Or.inl (hw _ (own_m 36 rfl))) Via.refl e112 FW (g := (mkF m 85 #[.val (.ref q), .val (.ref cb), .val (.ref t), .val (.int (1 : Int32)), .val (.int nd_), .unset] [(.ref q), (.int s1_), (.ref d1_), (.int (0 : Int32)), (.ref cb)])) rfl rfl (hb hby dc5_85)
    refine og st113 ?_
    show oG p e below _ (T113.setTop (mkF m 88 #[.val (.ref q), .val (.ref cb), .val (.ref t), .val (.int (1 : Int32)), .val (.int nd_), .unset] [(.int w), (.int s1_), (.ref d1_), (.int (0 : Int32)), (.ref cb)]))
    refine og (fun _ hr => XS.imul X113.here hx rfl (hb hby dc5_88) rfl (XS.aloadN X113.here hx rfl (hb hby dc5_89) rfl rfl hr)) ?_
    show oG p e below _ (T113.setTop (mkF m 90 #[.val (.ref q), .val (.ref cb), .val (.ref t), .val (.int (1 : Int32)), .val (.int nd_), .unset] [(.ref q), (.int (s1_ * w)), (.ref d1_), (.int (0 : Int32)), (.ref cb)]))
    obtain ⟨T114, X114, e114, st114⟩ := getF X113 hx hZ hown (host := "") (Or.inl (hw _ (own_m 36 rfl))) Via.refl e113 FW (g := (mkF m 90 #[.val (.ref q), .val (.ref cb), .val (.ref t), .val (.int (1 : Int32)), .val (.int nd_), .unset] [(.ref q), (.int (s1_ * w)), (.ref d1_), (.int (0 : Int32)), (.ref cb)])) rfl rfl (hb hby dc5_90)
    refine og st114 ?_
    show oG p e below _ (T114.setTop (mkF m 93 #[.val (.ref q), .val (.ref cb), .val (.ref t), .val (.int (1 : Int32)), .val (.int nd_), .unset] [(.int w), (.int (s1_ * w)), (.ref d1_), (.int (0 : Int32)), (.ref cb)]))
    have c116 : ¬ ((s1_ * w) < (0 : Int32)) := by
      have q0 := rng32 w
      have q1 := rng32 s1_
      have q2 := c_iadd s1_ (1 : Int32)
      have r2 := rng32 (s1_ + (1 : Int32))
      have q3 := own_prod (s1_ + (1 : Int32)) w
      have r3 := rng32 ((s1_ + (1 : Int32)) * w)
      have q4 := congrArg Int32.toInt hnd_
      have q5 := own_prod s1_ w
      have r5 := rng32 (s1_ * w)
      have p0 := hw0
      have p1 := hw3
      have p2 := hp0
      have p3 := hp3
      have p4 := hz
      have p5 := c110
      simp only [true_implies, Int32.lt_iff_toInt_lt, ← Int32.toInt_inj, Int32.reduceToInt, Int64.lt_iff_toInt_lt, ← Int64.toInt_inj, Int64.reduceToInt] at q0 q1 q2 q3 q4 q5 p0 p1 p2 p3 p4 p5 ⊢
      omega
    have le115 : (s1_ * w).toInt + w.toInt ≤ (0 : Int32).toInt ∧ w.toInt ≤ 3 ∧ 0 ≤ (s1_ * w).toInt ∧ 0 ≤ w.toInt ∧ 0 ≤ (0 : Int32).toInt := by
      have q0 := rng32 s1_
      have r0 := rng32 s1_
      have q1 := rng32 w
      have r1 := rng32 w
      have q2 := own_prod s1_ w
      have r2 := rng32 (s1_ * w)
      have q3 := c_iadd s1_ (1 : Int32)
      have r3 := rng32 (s1_ + (1 : Int32))
      have q4 := own_prod (s1_ + (1 : Int32)) w
      have r4 := rng32 ((s1_ + (1 : Int32)) * w)
      have q5 := congrArg Int32.toInt hnd_
      have r5 := rng32 nd_
      have p0 := hw0
      have p1 := hw3
      have p2 := hp0
      have p3 := hp3
      have p4 := hz
      have p5 := c110
      have p6 := c116
      try simp only [true_implies, Int32.lt_iff_toInt_lt, ← Int32.toInt_inj, Int32.reduceToInt, Int64.lt_iff_toInt_lt, ← Int64.toInt_inj, Int64.reduceToInt] at q0 q1 q2 q3 q4 q5 p0 p1 p2 p3 p4 p5 p6
      try simp only [Int32.reduceToInt]
      omega
    have lf115 : (s1_ * w).toNatClampNeg + w.toNatClampNeg ≤ (0 : Int32).toNatClampNeg ∧ (0 : Int32).toNatClampNeg + w.toNatClampNeg ≤ (3 : Int32).toNatClampNeg := by
      have := own_tn (s1_ * w) (by omega)
      have := own_tn w (by omega)
      have := own_tn (0 : Int32) (by omega)
      have z0 : (0 : Int32).toNatClampNeg = 0 := rfl
      have z3 : (3 : Int32).toNatClampNeg = 3 := rfl
      omega
    have ll115 : ([] : List Value).length = (0 : Int32).toNatClampNeg := (by decide)
    obtain ⟨T115, h115, L115, X115, e115, N115, K115, A115, st115⟩ := cpA X114 hx hZ hown (hw _ (own_m 58 rfl)) (hw _ (own_m 61 rfl)) (hw _ (own_m 59 rfl)) (hw _ (own_m 60 rfl)) e114 VB VD1 (us := _) (Or.inl ⟨rfl, rfl⟩) (by decide) c116 hw0 lf115.2 lf115.1 rfl (ll115 ▸ lf115.1) N106 ge_d1_ (g := (mkF m 93 #[.val (.ref q), .val (.ref cb), .val (.ref t), .val (.int (1 : Int32)), .val (.int nd_), .unset] [(.int w), (.int (s1_ * w)), (.ref d1_), (.int (0 : Int32)), (.ref cb)])) rfl (by rw [hml]; rfl) rfl (hb hby dc5_93) (by decide) (W := 0) (by show 2 * 0 + _ ≤ _; exact Nat.le_of_eq rfl) (by decide)
    refine og st115 ?_
    have ln115 := own_cplen (us := (List.range w.toNatClampNeg).map fun i => ([(.int bx_), (.int by_), (.int bz_)] : List Value).getD ((0 : Int32).toNatClampNeg + i) (.int (0 : Int32))) (ll115 ▸ lf115.1) (by simp) ll115
    generalize hvn115 : (([] : List Value).take (s1_ * w).toNatClampNeg ++ (List.range w.toNatClampNeg).map (fun i => ([(.int bx_), (.int by_), (.int bz_)] : List Value).getD ((0 : Int32).toNatClampNeg + i) (.int (0 : Int32))) ++ ([] : List Value).drop ((s1_ * w).toNatClampNeg + w.toNatClampNeg)) = vn115 at A115 ln115
    show oG p e below _ (T115.setTop (mkF m 96 #[.val (.ref q), .val (.ref cb), .val (.ref t), .val (.int (1 : Int32)), .val (.int nd_), .unset] []))
    refine og (fun _ hr => XS.aloadN X115.here hx rfl (hb hby dc5_96) rfl rfl hr) ?_
    show oG p e below _ (T115.setTop (mkF m 97 #[.val (.ref q), .val (.ref cb), .val (.ref t), .val (.int (1 : Int32)), .val (.int nd_), .unset] [(.ref q)]))
    have f117 := (FS.keep K115 (ninS ne_q_d1_ nin0))
    obtain ⟨T118, X118, e118, st118⟩ := getF X115 hx hZ hown (host := "") (Or.inl (hw _ (own_m 34 rfl))) Via.refl e115 f117 (g := (mkF m 97 #[.val (.ref q), .val (.ref cb), .val (.ref t), .val (.int (1 : Int32)), .val (.int nd_), .unset] [(.ref q)])) rfl rfl (hb hby dc5_97)
    refine og st118 ?_
    show oG p e below _ (T118.setTop (mkF m 100 #[.val (.ref q), .val (.ref cb), .val (.ref t), .val (.int (1 : Int32)), .val (.int nd_), .unset] [(.ref S_)]))
    refine og (fun _ hr => XS.iloadN X118.here hx rfl (hb hby dc5_100) rfl hr) ?_
    show oG p e below _ (T118.setTop (mkF m 101 #[.val (.ref q), .val (.ref cb), .val (.ref t), .val (.int (1 : Int32)), .val (.int nd_), .unset] [(.int (1 : Int32)), (.ref S_)]))
    refine og (S' := T118.setTop (mkF m 102 #[.val (.ref q), .val (.ref cb), .val (.ref t), .val (.int (1 : Int32)), .val (.int nd_), .unset] [(.int (1 : Int32)), (.ref S_), (.int (1 : Int32)), (.ref S_)])) (fun _ hr => by
      jvm_step X118.here [X118.here.top, hx, (hb hby dc5_101), Value.category]
      exact hr) ?_
    show oG p e below _ (T118.setTop (mkF m 102 #[.val (.ref q), .val (.ref cb), .val (.ref t), .val (.int (1 : Int32)), .val (.int nd_), .unset] [(.int (1 : Int32)), (.ref S_), (.int (1 : Int32)), (.ref S_)]))
    have f119 := (VS.keep K115 (ninS ne_S__d1_ nin0))
    refine og (fun _ hr => own_iaload X118 hx hZ e118 f119 (1 : Int32) (.int s1_) ⟨by decide, by decide⟩ rfl rfl rfl (hb hby dc5_102) (XS.iconst X118.here hx rfl (hb hby dc5_103) (XS.iadd X118.here hx rfl (hb hby dc5_104) rfl hr))) ?_
    show oG p e below _ (T118.setTop (mkF m 105 #[.val (.ref q), .val (.ref cb), .val (.ref t), .val (.int (1 : Int32)), .val (.int nd_), .unset] [(.int (s1_ + (1 : Int32))), (.int (1 : Int32)), (.ref S_)]))
    refine own_stI X118 hx hZ e118 f119 (1 : Int32) (s1_ + (1 : Int32)) 1 ⟨by decide, by decide⟩ rfl (Nat.le_of_ble_eq_true rfl)  [(.int s0_), (.int (s1_ + (1 : Int32))), (.int s2_), (.int s3_)] rfl N115 ge_S_ (hb hby dc5_105) ?_
    intro T120 h120 L120 X120 e120 W120 N120 f120
    show oG p e below _ (T120.setTop (mkF m 106 #[.val (.ref q), .val (.ref cb), .val (.ref t), .val (.int (1 : Int32)), .val (.int nd_), .unset] []))
    have f121 := ((EQ.keep K115).wr W120)
    have f122 := ((FC.keep K115 (ninS ne_q_d1_ nin0)).other W120 (Or.inl ne_q_S_))
    have f123 := (f117.other W120 (Or.inl ne_q_S_))
    have f124 := ((FW.keep K115 (ninS ne_q_d1_ nin0)).other W120 (Or.inl ne_q_S_))
    have f125 := ((VC.keep K115 (ninS ne_C__d1_ nin0)).other W120 ne_C__S_)
    have f126 := ((VD0.keep K115 (ninS ne_d0__d1_ nin0)).other W120 (Ne.symm ne_S__d0_))
    have f127 := (A115.other W120 (Ne.symm ne_S__d1_))
    have f128 := ((VD2.keep K115 (ninS (Ne.symm ne_d1__d2_) nin0)).other W120 (Ne.symm ne_S__d2_))
    have f129 := ((VD3.keep K115 (ninS (Ne.symm ne_d1__d3_) nin0)).other W120 (Ne.symm ne_S__d3_))
    have f130 := ((VB.keep K115 (ninS ne_cb_d1_ nin0)).other W120 ne_cb_S_)
    have om131 : 0 ≤ s0_.toInt := by
      have q0 := rng32 s0_
      have r0 := rng32 s0_
      have q1 := rng32 w
      have r1 := rng32 w
      have q2 := rng32 s1_
      have r2 := rng32 s1_
      have q3 := c_iadd s1_ (1 : Int32)
      have r3 := rng32 (s1_ + (1 : Int32))
      have q4 := own_prod (s1_ + (1 : Int32)) w
      have r4 := rng32 ((s1_ + (1 : Int32)) * w)
      have q5 := congrArg Int32.toInt hnd_
      have r5 := rng32 nd_
      have q6 := own_prod s1_ w
      have r6 := rng32 (s1_ * w)
      have p0 := hw0
      have p1 := hw3
      have p2 := hp0
      have p3 := hp3
      have p4 := hz
      have p5 := c110
      have p6 := c116
      try simp only [true_implies, Int32.lt_iff_toInt_lt, ← Int32.toInt_inj, Int32.reduceToInt, Int64.lt_iff_toInt_lt, ← Int64.toInt_inj, Int64.reduceToInt] at q0 q1 q2 q3 q4 q5 q6 p0 p1 p2 p3 p4 p5 p6
      first | omega | (simp only [Int32.reduceToInt, ← Int32.toInt_inj] <;> omega) | decide
    have om132 : 0 ≤ (s1_ + (1 : Int32)).toInt := by
      have q0 := rng32 s1_
      have r0 := rng32 s1_
      have q1 := c_iadd s1_ (1 : Int32)
      have r1 := rng32 (s1_ + (1 : Int32))
      have q2 := rng32 w
      have r2 := rng32 w
      have q3 := own_prod (s1_ + (1 : Int32)) w
      have r3 := rng32 ((s1_ + (1 : Int32)) * w)
      have q4 := congrArg Int32.toInt hnd_
      have r4 := rng32 nd_
      have q5 := own_prod s1_ w
      have r5 := rng32 (s1_ * w)
      have p0 := hw0
      have p1 := hw3
      have p2 := hp0
      have p3 := hp3
      have p4 := hz
      have p5 := c110
      have p6 := c116
      try simp only [true_implies, Int32.lt_iff_toInt_lt, ← Int32.toInt_inj, Int32.reduceToInt, Int64.lt_iff_toInt_lt, ← Int64.toInt_inj, Int64.reduceToInt] at q0 q1 q2 q3 q4 q5 p0 p1 p2 p3 p4 p5 p6
      first | omega | (simp only [Int32.reduceToInt, ← Int32.toInt_inj] <;> omega) | decide
    have om133 : 0 ≤ s2_.toInt := by
      have q0 := rng32 s2_
      have r0 := rng32 s2_
      have q1 := rng32 w
      have r1 := rng32 w
      have q2 := rng32 s1_
      have r2 := rng32 s1_
      have q3 := c_iadd s1_ (1 : Int32)
      have r3 := rng32 (s1_ + (1 : Int32))
      have q4 := own_prod (s1_ + (1 : Int32)) w
      have r4 := rng32 ((s1_ + (1 : Int32)) * w)
      have q5 := congrArg Int32.toInt hnd_
      have r5 := rng32 nd_
      have q6 := own_prod s1_ w
      have r6 := rng32 (s1_ * w)
      have p0 := hw0
      have p1 := hw3
      have p2 := hp0
      have p3 := hp3
      have p4 := hz
      have p5 := c110
      have p6 := c116
      try simp only [true_implies, Int32.lt_iff_toInt_lt, ← Int32.toInt_inj, Int32.reduceToInt, Int64.lt_iff_toInt_lt, ← Int64.toInt_inj, Int64.reduceToInt] at q0 q1 q2 q3 q4 q5 q6 p0 p1 p2 p3 p4 p5 p6
      first | omega | (simp only [Int32.reduceToInt, ← Int32.toInt_inj] <;> omega) | decide
    have om134 : 0 ≤ s3_.toInt := by
      have q0 := rng32 s3_
      have r0 := rng32 s3_
      have q1 := rng32 w
      have r1 := rng32 w
      have q2 := rng32 s1_
      have r2 := rng32 s1_
      have q3 := c_iadd s1_ (1 : Int32)
      have r3 := rng32 (s1_ + (1 : Int32))
      have q4 := own_prod (s1_ + (1 : Int32)) w
      have r4 := rng32 ((s1_ + (1 : Int32)) * w)
      have q5 := congrArg Int32.toInt hnd_
      have r5 := rng32 nd_
      have q6 := own_prod s1_ w
      have r6 := rng32 (s1_ * w)
      have p0 := hw0
      have p1 := hw3
      have p2 := hp0
      have p3 := hp3
      have p4 := hz
      have p5 := c110
      have p6 := c116
      try simp only [true_implies, Int32.lt_iff_toInt_lt, ← Int32.toInt_inj, Int32.reduceToInt, Int64.lt_iff_toInt_lt, ← Int64.toInt_inj, Int64.reduceToInt] at q0 q1 q2 q3 q4 q5 q6 p0 p1 p2 p3 p4 p5 p6
      first | omega | (simp only [Int32.reduceToInt, ← Int32.toInt_inj] <;> omega) | decide
    have om135 : s0_.toInt + (s1_ + (1 : Int32)).toInt + s2_.toInt + s3_.toInt = cnt2.toInt := by
      have q0 := rng32 s0_
      have r0 := rng32 s0_
      have q1 := rng32 s1_
      have r1 := rng32 s1_
      have q2 := c_iadd s1_ (1 : Int32)
      have r2 := rng32 (s1_ + (1 : Int32))
      have q3 := rng32 s2_
      have r3 := rng32 s2_
      have q4 := rng32 s3_
      have r4 := rng32 s3_
      have q5 := rng32 w
      have r5 := rng32 w
      have q6 := own_prod (s1_ + (1 : Int32)) w
      have r6 := rng32 ((s1_ + (1 : Int32)) * w)
      have q7 := congrArg Int32.toInt hnd_
      have r7 := rng32 nd_
      have q8 := own_prod s1_ w
      have r8 := rng32 (s1_ * w)
      have p0 := hw0
      have p1 := hw3
      have p2 := hp0
      have p3 := hp3
      have p4 := hz
      have p5 := c110
      have p6 := c116
      try simp only [true_implies, Int32.lt_iff_toInt_lt, ← Int32.toInt_inj, Int32.reduceToInt, Int64.lt_iff_toInt_lt, ← Int64.toInt_inj, Int64.reduceToInt] at q0 q1 q2 q3 q4 q5 q6 q7 q8 p0 p1 p2 p3 p4 p5 p6
      first | omega | (simp only [Int32.reduceToInt, ← Int32.toInt_inj] <;> omega) | decide
    have om136 : w = (0 : Int32) := by
      have q0 := rng32 w
      have r0 := rng32 w
      have q1 := rng32 s1_
      have r1 := rng32 s1_
      have q2 := c_iadd s1_ (1 : Int32)
      have r2 := rng32 (s1_ + (1 : Int32))
      have q3 := own_prod (s1_ + (1 : Int32)) w
      have r3 := rng32 ((s1_ + (1 : Int32)) * w)
      have q4 := congrArg Int32.toInt hnd_
      have r4 := rng32 nd_
      have q5 := own_prod s1_ w
      have r5 := rng32 (s1_ * w)
      have p0 := hw0
      have p1 := hw3
      have p2 := hp0
      have p3 := hp3
      have p4 := hz
      have p5 := c110
      have p6 := c116
      try simp only [true_implies, Int32.lt_iff_toInt_lt, ← Int32.toInt_inj, Int32.reduceToInt, Int64.lt_iff_toInt_lt, ← Int64.toInt_inj, Int64.reduceToInt] at q0 q1 q2 q3 q4 q5 p0 p1 p2 p3 p4 p5 p6
      first | omega | (simp only [Int32.reduceToInt, ← Int32.toInt_inj] <;> omega) | decide
    have K137 := ((K0.trans K115 (allS (Or.inl (List.mem_of_getElem? (i := 3) rfl)) all0)).wr W120 (Or.inl (List.mem_of_getElem? (i := 1) rfl)))
    exact own_ret0 X120 hx hlk Bd.returns (hb hby dc5_106) (by decide) (by decide) (by rw [e120]; exact ⟨rfl, N120, [C_, S_, d0_, d1_, d2_, d3_], K137, (fun x hx_ => by simp only [List.mem_cons, List.not_mem_nil, or_false] at hx_; rcases hx_ with rfl | rfl | rfl | rfl | rfl | rfl <;> assumption), ⟨C_, S_, d0_, d1_, d2_, d3_, kC_, kS_, kb_, e0_, e1_, e2_, e3_, s0_, (s1_ + (1 : Int32)), s2_, s3_, m0_, (0 : Int32), m2_, m3_, bx_, by_, bz_, v0_, vn115, v2_, v3_, f121, f122, f123, f124, f125, OV, f120, f126, f127, f128, f129, f130, g_C_, g_S_, g_d0_, g_d1_, g_d2_, g_d3_, ne_C__S_, ne_C__d0_, ne_C__d1_, ne_C__d2_, ne_C__d3_, ne_S__d0_, ne_S__d1_, ne_S__d2_, ne_S__d3_, ne_d0__d1_, ne_d0__d2_, ne_d0__d3_, ne_d1__d2_, ne_d1__d3_, ne_d2__d3_, ne_cb_C_, ne_cb_S_, ne_cb_d0_, ne_cb_d1_, ne_cb_d2_, ne_cb_d3_, ne_q_C_, ne_q_S_, ne_q_d0_, ne_q_d1_, ne_q_d2_, ne_q_d3_, om131, om132, om133, om134, om135, iM0_, (Or.inr ⟨rfl, Or.inr om136⟩), iM2_, iM3_, iL0_, ln115, iL2_, iL3_, WB⟩⟩)
def Q_ordinal_6 (Z : State) (h0 : Heap) (n0 : Nat) (v : Option Value) (h : Heap) (L : List Loc) : Prop := v = some (.int (2 : Int32)) ∧ Fr n0 L ∧ h = h0
set_option maxRecDepth 65536 in
set_option maxHeartbeats 40000000 in
theorem rm_ordinal_6 (l : Launch) (Z : State) (a0 : Array Value) (hw : ∀ d ∈ tables_1, d.before a0 Z = true) (ws : List Jvm.Cond) (o0 : Addr) (h0 : Heap) (n0 : Nat) (Z0 : n0 ≤ h0.size) (P0 : Fld Z h0 o0 "java/lang/Enum" "ordinal" "I" (.int (2 : Int32))) :
    MetFree l (⟨"java/lang/Enum", "ordinal", "()I"⟩ : MethodName) (head1 (Jvm.Cond.code (⟨"java/lang/Enum", "ordinal", "()I"⟩ : MethodName) jdk_37_method_2_code 1 (some .int) :: ws) ({ frames := 0, cells := 0, slots := 0, locals := 0 } : Room)) (fun aA U => aA = #[(.ref o0)] ∧ Z.Warmed39 U.vm ∧ U.heap = h0) (fun _ _ _ _ _ => True) (fun _ U o U' => ∃ v L, o = .returned v ∧ Q_ordinal_6 Z h0 n0 v U'.heap L ∧ FrameEnd U o U' L ({ frames := 0, cells := 0, slots := 0, locals := 0 } : Room).cells ({ frames := 0, cells := 0, slots := 0, locals := 0 } : Room).slots) := by
  refine MetFree.of_bodySF (plainFor_of_name own_pn_java_lang_Enum) hisR ?_
  intro p e s m args below meth c s₁ Bd hml0 hP hK
  obtain ⟨rfl, hZ, hh⟩ := hP
  have hx := Bd.exec
  have hby := Bd.bytes
  have hlk : meth.locks = false := BodyLoose.notSynchronized Bd
  have hml : c.maxLocals = 1 := hml0
  have hown : s.vm.findClass "java/lang/Enum" = some m.cls := findClass_of_methodNamed Bd.named
  have hnm := (name_of_methodNamed Bd.named Bd.method).1
  have X0 : Stand p l e ({ frames := 0, cells := 0, slots := 0, locals := 0 } : Room) s m #[(.ref o0)] below meth c s₁ [] 0 0 := Stand.of_body Bd
  have e0 : s₁.heap = h0 := by rw [← hh, Bd.state]; rfl
  have N0 := Fr.nil n0
  show oG p e below (own_K s (Q_ordinal_6 Z h0 n0) ({ frames := 0, cells := 0, slots := 0, locals := 0 } : Room).cells ({ frames := 0, cells := 0, slots := 0, locals := 0 } : Room).slots) (s₁.setTop (entryFrame m #[(.ref o0)] 1))
  rw [(by first | (simp [entryFrame, mkF, argsToLocals, Value.category]; done) | rfl : entryFrame m #[(.ref o0)] 1 = mkF m 0 #[.val (.ref o0)] [])]
  show oG p e below _ (s₁.setTop (mkF m 0 #[.val (.ref o0)] []))
  refine og (fun _ hr => XS.aloadN X0.here hx rfl (hb hby dc6_0) rfl rfl hr) ?_
  show oG p e below _ (s₁.setTop (mkF m 1 #[.val (.ref o0)] [(.ref o0)]))
  obtain ⟨T1, X1, e1, st1⟩ := getF X0 hx hZ hown (host := "") (Or.inl (hw _ (own_m 56 rfl))) Via.refl e0 P0 (g := (mkF m 1 #[.val (.ref o0)] [(.ref o0)])) rfl rfl (hb hby dc6_1)
  refine og st1 ?_
  show oG p e below _ (T1.setTop (mkF m 4 #[.val (.ref o0)] [(.int (2 : Int32))]))
  exact own_retI X1 hx hlk Bd.returns (hb hby dc6_4) (by decide) (by decide) ⟨rfl, N0, e1⟩
def Q_add2 (Z : State) (q : Addr) (cb : Addr) (w : Int32) (cnt2 : Int32) (lo : Nat) (h0 : Heap) (n0 : Nat) (v : Option Value) (h : Heap) (L : List Loc) : Prop := (v = none ∧ Fr n0 L ∧ ∃ ws, Keep h0 h ws ∧ (∀ x ∈ ws, lo ≤ x) ∧ own_Inv Z h lo q cb w cnt2)
set_option maxRecDepth 65536 in
set_option maxHeartbeats 40000000 in
theorem rm_add2 (l : Launch) (Z : State) (a0 : Array Value) (hw : ∀ d ∈ tables_1, d.before a0 Z = true) (ws : List Jvm.Cond) (q : Addr) (cb : Addr) (t : Addr) (w : Int32) (cnt : Int32) (cnt2 : Int32) (lo : Nat) (h0 : Heap) (n0 : Nat) (Z0 : n0 ≤ h0.size) (hlo : n0 ≤ lo) (hI : own_Inv Z h0 lo q cb w cnt) (Et : Exa Z h0 t "com/example/candid_facts/candidfacts/Truth") (Ft : Fld Z h0 t "java/lang/Enum" "ordinal" "I" (.int (2 : Int32))) (hc : cnt.toInt ≤ 3) (hc2 : cnt2.toInt = cnt.toInt + 1) :
    MetFree l (⟨"com/example/candid_facts/candidfacts/Answer$Listed", "add", "([ILcom/example/candid_facts/candidfacts/Truth;)V"⟩ : MethodName) (head1 (Jvm.Cond.code (⟨"com/example/candid_facts/candidfacts/Answer$Listed", "add", "([ILcom/example/candid_facts/candidfacts/Truth;)V"⟩ : MethodName) prog_2_method_2_code 6 none :: ws) ({ frames := 2, cells := 1, slots := 16, locals := 56 } : Room)) (fun aA U => aA = #[(.ref q), (.ref cb), (.ref t)] ∧ Z.Warmed39 U.vm ∧ U.heap = h0) (fun _ _ _ _ _ => True) (fun _ U o U' => ∃ v L, o = .returned v ∧ Q_add2 Z q cb w cnt2 lo h0 n0 v U'.heap L ∧ FrameEnd U o U' L ({ frames := 2, cells := 1, slots := 16, locals := 56 } : Room).cells ({ frames := 2, cells := 1, slots := 16, locals := 56 } : Room).slots) := by
  refine MetFree.of_bodySF (plainFor_of_name own_pn_com_example_candid_facts_candidfacts_Answer_Listed) hisR ?_
  intro p e s m args below meth c s₁ Bd hml0 hP hK
  obtain ⟨rfl, hZ, hh⟩ := hP
  have hx := Bd.exec
  have hby := Bd.bytes
  have hlk : meth.locks = false := BodyLoose.notSynchronized Bd
  have hml : c.maxLocals = 6 := hml0
  have hown : s.vm.findClass "com/example/candid_facts/candidfacts/Answer$Listed" = some m.cls := findClass_of_methodNamed Bd.named
  have hnm := (name_of_methodNamed Bd.named Bd.method).1
  have X0 : Stand p l e ({ frames := 2, cells := 1, slots := 16, locals := 56 } : Room) s m #[(.ref q), (.ref cb), (.ref t)] below meth c s₁ [] 0 0 := Stand.of_body Bd
  have e0 : s₁.heap = h0 := by rw [← hh, Bd.state]; rfl
  have N0 := Fr.nil n0
  obtain ⟨C_, S_, d0_, d1_, d2_, d3_, kC_, kS_, kb_, e0_, e1_, e2_, e3_, s0_, s1_, s2_, s3_, m0_, m1_, m2_, m3_, bx_, by_, bz_, v0_, v1_, v2_, v3_, EQ, FC, FS, FW, VC, OV, VS, VD0, VD1, VD2, VD3, VB, g_C_, g_S_, g_d0_, g_d1_, g_d2_, g_d3_, ne_C__S_, ne_C__d0_, ne_C__d1_, ne_C__d2_, ne_C__d3_, ne_S__d0_, ne_S__d1_, ne_S__d2_, ne_S__d3_, ne_d0__d1_, ne_d0__d2_, ne_d0__d3_, ne_d1__d2_, ne_d1__d3_, ne_d2__d3_, ne_cb_C_, ne_cb_S_, ne_cb_d0_, ne_cb_d1_, ne_cb_d2_, ne_cb_d3_, ne_q_C_, ne_q_S_, ne_q_d0_, ne_q_d1_, ne_q_d2_, ne_q_d3_, iP0_, iP1_, iP2_, iP3_, SUM, iM0_, iM1_, iM2_, iM3_, iL0_, iL1_, iL2_, iL3_, WB⟩ := hI
  have ge_C_ : n0 ≤ C_ := Nat.le_trans hlo g_C_
  have ge_S_ : n0 ≤ S_ := Nat.le_trans hlo g_S_
  have ge_d0_ : n0 ≤ d0_ := Nat.le_trans hlo g_d0_
  have ge_d1_ : n0 ≤ d1_ := Nat.le_trans hlo g_d1_
  have ge_d2_ : n0 ≤ d2_ := Nat.le_trans hlo g_d2_
  have ge_d3_ : n0 ≤ d3_ := Nat.le_trans hlo g_d3_
  have K0 : Keep h0 h0 [C_, S_, d0_, d1_, d2_, d3_] := Keep.refl _ _
  show oG p e below (own_K s (Q_add2 Z q cb w cnt2 lo h0 n0) ({ frames := 2, cells := 1, slots := 16, locals := 56 } : Room).cells ({ frames := 2, cells := 1, slots := 16, locals := 56 } : Room).slots) (s₁.setTop (entryFrame m #[(.ref q), (.ref cb), (.ref t)] 6))
  rw [(by first | (simp [entryFrame, mkF, argsToLocals, Value.category]; done) | rfl : entryFrame m #[(.ref q), (.ref cb), (.ref t)] 6 = mkF m 0 #[.val (.ref q), .val (.ref cb), .val (.ref t), .unset, .unset, .unset] [])]
  show oG p e below _ (s₁.setTop (mkF m 0 #[.val (.ref q), .val (.ref cb), .val (.ref t), .unset, .unset, .unset] []))
  have hp0 : ¬ s2_ < 0 := by rw [Int32.lt_iff_toInt_lt]; simp only [Int32.reduceToInt]; omega
  have hp3 : ¬ (3 : Int32) < s2_ := by rw [Int32.lt_iff_toInt_lt]; simp only [Int32.reduceToInt]; omega
  have hw0 : ¬ w < 0 := by rw [Int32.lt_iff_toInt_lt]; simp only [Int32.reduceToInt]; omega
  have hw3 : ¬ (3 : Int32) < w := by rw [Int32.lt_iff_toInt_lt]; simp only [Int32.reduceToInt]; omega
  rcases iM2_ with hm | ⟨hm, hs | hz⟩
  · subst hm
    show oG p e below _ (s₁.setTop (mkF m 0 #[.val (.ref q), .val (.ref cb), .val (.ref t), .unset, .unset, .unset] []))
    refine og (fun _ hr => XS.aloadN X0.here hx rfl (hb hby dc5_0) rfl rfl hr) ?_
    show oG p e below _ (s₁.setTop (mkF m 1 #[.val (.ref q), .val (.ref cb), .val (.ref t), .unset, .unset, .unset] [(.ref t)]))
    refine own_cu X0 hx hZ hown (hw _ (own_m 49 rfl)) (hw _ (own_m 50 rfl)) (hw _ (own_m 51 rfl)) (hw _ (own_m 53 rfl)) (hw _ (own_m 52 rfl)) (hw _ (own_m 54 rfl)) (hw _ (own_m 55 rfl)) (by decide) Et (rm := { frames := 0, cells := 0, slots := 0, locals := 0 }) (rm_ordinal_6 l Z a0 hw [] t h0 n0 Z0 Ft) (by decide) (W := 0) (by decide) (by decide) (by decide) e0 (by rw [hml]; rfl) (argsL := []) (lenOf own_pd0 rfl) (rest := []) rfl rfl (Nat.le_of_eq rfl) (hb hby dc5_1) ?_
    intro _ T1 L1 X1 hQ1
    obtain ⟨rfl, N1q, e1⟩ := hQ1
    have N1 := Fr.app N0 N1q
    show oG p e below _ (T1.setTop (mkF m 4 #[.val (.ref q), .val (.ref cb), .val (.ref t), .unset, .unset, .unset] [(.int (2 : Int32))]))
    refine og (fun _ hr => XS.istoreN X1.here hx rfl (hb hby dc5_4) rfl (l' := #[.val (.ref q), .val (.ref cb), .val (.ref t), .val (.int (2 : Int32)), .unset, .unset]) rfl (XS.aloadN X1.here hx rfl (hb hby dc5_5) rfl rfl hr)) ?_
    show oG p e below _ (T1.setTop (mkF m 6 #[.val (.ref q), .val (.ref cb), .val (.ref t), .val (.int (2 : Int32)), .unset, .unset] [(.ref q)]))
    obtain ⟨T2, X2, e2, st2⟩ := getF X1 hx hZ hown (host := "") (Or.inl (hw _ (own_m 34 rfl))) Via.refl e1 FS (g := (mkF m 6 #[.val (.ref q), .val (.ref cb), .val (.ref t), .val (.int (2 : Int32)), .unset, .unset] [(.ref q)])) rfl rfl (hb hby dc5_6)
    refine og st2 ?_
    show oG p e below _ (T2.setTop (mkF m 9 #[.val (.ref q), .val (.ref cb), .val (.ref t), .val (.int (2 : Int32)), .unset, .unset] [(.ref S_)]))
    refine og (fun _ hr => XS.iloadN X2.here hx rfl (hb hby dc5_9) rfl (own_iaload X2 hx hZ e2 VS (2 : Int32) (.int s2_) ⟨by decide, by decide⟩ rfl rfl rfl (hb hby dc5_10) (XS.iconst X2.here hx rfl (hb hby dc5_11) (XS.iadd X2.here hx rfl (hb hby dc5_12) rfl (XS.aloadN X2.here hx rfl (hb hby dc5_13) rfl rfl hr))))) ?_
    show oG p e below _ (T2.setTop (mkF m 14 #[.val (.ref q), .val (.ref cb), .val (.ref t), .val (.int (2 : Int32)), .unset, .unset] [(.ref q), (.int (s2_ + (1 : Int32)))]))
    obtain ⟨T3, X3, e3, st3⟩ := getF X2 hx hZ hown (host := "") (Or.inl (hw _ (own_m 36 rfl))) Via.refl e2 FW (g := (mkF m 14 #[.val (.ref q), .val (.ref cb), .val (.ref t), .val (.int (2 : Int32)), .unset, .unset] [(.ref q), (.int (s2_ + (1 : Int32)))])) rfl rfl (hb hby dc5_14)
    refine og st3 ?_
    show oG p e below _ (T3.setTop (mkF m 17 #[.val (.ref q), .val (.ref cb), .val (.ref t), .val (.int (2 : Int32)), .unset, .unset] [(.int w), (.int (s2_ + (1 : Int32)))]))
    refine og (fun _ hr => XS.imul X3.here hx rfl (hb hby dc5_17) rfl (XS.istore X3.here hx rfl (hb hby dc5_18) rfl (l' := #[.val (.ref q), .val (.ref cb), .val (.ref t), .val (.int (2 : Int32)), .val (.int ((s2_ + (1 : Int32)) * w)), .unset]) rfl hr)) ?_
    show oG p e below _ (T3.setTop (mkF m 20 #[.val (.ref q), .val (.ref cb), .val (.ref t), .val (.int (2 : Int32)), .val (.int ((s2_ + (1 : Int32)) * w)), .unset] []))
    generalize hnd_ : ((s2_ + (1 : Int32)) * w) = nd_
    refine og (fun _ hr => XS.iload X3.here hx rfl (hb hby dc5_20) rfl (XS.aloadN X3.here hx rfl (hb hby dc5_22) rfl rfl hr)) ?_
    show oG p e below _ (T3.setTop (mkF m 23 #[.val (.ref q), .val (.ref cb), .val (.ref t), .val (.int (2 : Int32)), .val (.int nd_), .unset] [(.ref q), (.int nd_)]))
    obtain ⟨T4, X4, e4, st4⟩ := getF X3 hx hZ hown (host := "") (Or.inl (hw _ (own_m 32 rfl))) Via.refl e3 FC (g := (mkF m 23 #[.val (.ref q), .val (.ref cb), .val (.ref t), .val (.int (2 : Int32)), .val (.int nd_), .unset] [(.ref q), (.int nd_)])) rfl rfl (hb hby dc5_23)
    refine og st4 ?_
    show oG p e below _ (T4.setTop (mkF m 26 #[.val (.ref q), .val (.ref cb), .val (.ref t), .val (.int (2 : Int32)), .val (.int nd_), .unset] [(.ref C_), (.int nd_)]))
    refine og (fun _ hr => XS.iloadN X4.here hx rfl (hb hby dc5_26) rfl (own_aaload X4 hx hZ e4 VC (2 : Int32) (.ref d2_) ⟨by decide, by decide⟩ rfl rfl rfl rfl (hb hby dc5_27) (own_alen X4 hx hZ e4 VD2 rfl rfl (hb hby dc5_28) hr))) ?_
    show oG p e below _ (T4.setTop (mkF m 29 #[.val (.ref q), .val (.ref cb), .val (.ref t), .val (.int (2 : Int32)), .val (.int nd_), .unset] [(.int (16 : Int32)), (.int nd_)]))
    have c5 : ¬ ((16 : Int32) < nd_) := by
      have q0 := rng32 w
      have q1 := rng32 s2_
      have q2 := c_iadd s2_ (1 : Int32)
      have r2 := rng32 (s2_ + (1 : Int32))
      have q3 := own_prod (s2_ + (1 : Int32)) w
      have r3 := rng32 ((s2_ + (1 : Int32)) * w)
      have q4 := congrArg Int32.toInt hnd_
      have p0 := hw0
      have p1 := hw3
      have p2 := hp0
      have p3 := hp3
      simp only [true_implies, Int32.lt_iff_toInt_lt, ← Int32.toInt_inj, Int32.reduceToInt, Int64.lt_iff_toInt_lt, ← Int64.toInt_inj, Int64.reduceToInt] at q0 q1 q2 q3 q4 p0 p1 p2 p3 ⊢
      omega
    refine og (fun _ hr => XS.icmpYes X4.here hx rfl (pc0 := 29) (pc' := 70) rfl (hb hby dc5_29) rfl (flt c5).2.2.2 (by decide) (by decide) hr) ?_
    show oG p e below _ (T4.setTop (mkF m 70 #[.val (.ref q), .val (.ref cb), .val (.ref t), .val (.int (2 : Int32)), .val (.int nd_), .unset] []))
    refine og (fun _ hr => XS.aloadN X4.here hx rfl (hb hby dc5_70) rfl rfl (XS.iconst X4.here hx rfl (hb hby dc5_71) (XS.aloadN X4.here hx rfl (hb hby dc5_72) rfl rfl hr))) ?_
    show oG p e below _ (T4.setTop (mkF m 73 #[.val (.ref q), .val (.ref cb), .val (.ref t), .val (.int (2 : Int32)), .val (.int nd_), .unset] [(.ref q), (.int (0 : Int32)), (.ref cb)]))
    obtain ⟨T6, X6, e6, st6⟩ := getF X4 hx hZ hown (host := "") (Or.inl (hw _ (own_m 32 rfl))) Via.refl e4 FC (g := (mkF m 73 #[.val (.ref q), .val (.ref cb), .val (.ref t), .val (.int (2 : Int32)), .val (.int nd_), .unset] [(.ref q), (.int (0 : Int32)), (.ref cb)])) rfl rfl (hb hby dc5_73)
    refine og st6 ?_
    show oG p e below _ (T6.setTop (mkF m 76 #[.val (.ref q), .val (.ref cb), .val (.ref t), .val (.int (2 : Int32)), .val (.int nd_), .unset] [(.ref C_), (.int (0 : Int32)), (.ref cb)]))
    refine og (fun _ hr => XS.iloadN X6.here hx rfl (hb hby dc5_76) rfl (own_aaload X6 hx hZ e6 VC (2 : Int32) (.ref d2_) ⟨by decide, by decide⟩ rfl rfl rfl rfl (hb hby dc5_77) (XS.aloadN X6.here hx rfl (hb hby dc5_78) rfl rfl hr))) ?_
    show oG p e below _ (T6.setTop (mkF m 79 #[.val (.ref q), .val (.ref cb), .val (.ref t), .val (.int (2 : Int32)), .val (.int nd_), .unset] [(.ref q), (.ref d2_), (.int (0 : Int32)), (.ref cb)]))
    obtain ⟨T7, X7, e7, st7⟩ := getF X6 hx hZ hown (host := "") (Or.inl (hw _ (own_m 34 rfl))) Via.refl e6 FS (g := (mkF m 79 #[.val (.ref q), .val (.ref cb), .val (.ref t), .val (.int (2 : Int32)), .val (.int nd_), .unset] [(.ref q), (.ref d2_), (.int (0 : Int32)), (.ref cb)])) rfl rfl (hb hby dc5_79)
    refine og st7 ?_
    show oG p e below _ (T7.setTop (mkF m 82 #[.val (.ref q), .val (.ref cb), .val (.ref t), .val (.int (2 : Int32)), .val (.int nd_), .unset] [(.ref S_), (.ref d2_), (.int (0 : Int32)), (.ref cb)]))
    refine og (fun _ hr => XS.iloadN X7.here hx rfl (hb hby dc5_82) rfl (own_iaload X7 hx hZ e7 VS (2 : Int32) (.int s2_) ⟨by decide, by decide⟩ rfl rfl rfl (hb hby dc5_83) (XS.aloadN X7.here hx rfl (hb hby dc5_84) rfl rfl hr))) ?_
    show oG p e below _ (T7.setTop (mkF m 85 #[.val (.ref q), .val (.ref cb), .val (.ref t), .val (.int (2 : Int32)), .val (.int nd_), .unset] [(.ref q), (.int s2_), (.ref d2_), (.int (0 : Int32)), (.ref cb)]))
    obtain ⟨T8, X8, e8, st8⟩ := getF X7 hx hZ hown (host := "") (Or.inl (hw _ (own_m 36 rfl))) Via.refl e7 FW (g := (mkF m 85 #[.val (.ref q), .val (.ref cb), .val (.ref t), .val (.int (2 : Int32)), .val (.int nd_), .unset] [(.ref q), (.int s2_), (.ref d2_), (.int (0 : Int32)), (.ref cb)])) rfl rfl (hb hby dc5_85)
    refine og st8 ?_
    show oG p e below _ (T8.setTop (mkF m 88 #[.val (.ref q), .val (.ref cb), .val (.ref t), .val (.int (2 : Int32)), .val (.int nd_), .unset] [(.int w), (.int s2_), (.ref d2_), (.int (0 : Int32)), (.ref cb)]))
    refine og (fun _ hr => XS.imul X8.here hx rfl (hb hby dc5_88) rfl (XS.aloadN X8.here hx rfl (hb hby dc5_89) rfl rfl hr)) ?_
    show oG p e below _ (T8.setTop (mkF m 90 #[.val (.ref q), .val (.ref cb), .val (.ref t), .val (.int (2 : Int32)), .val (.int nd_), .unset] [(.ref q), (.int (s2_ * w)), (.ref d2_), (.int (0 : Int32)), (.ref cb)]))
    obtain ⟨T9, X9, e9, st9⟩ := getF X8 hx hZ hown (host := "") (Or.inl (hw _ (own_m 36 rfl))) Via.refl e8 FW (g := (mkF m 90 #[.val (.ref q), .val (.ref cb), .val (.ref t), .val (.int (2 : Int32)), .val (.int nd_), .unset] [(.ref q), (.int (s2_ * w)), (.ref d2_), (.int (0 : Int32)), (.ref cb)])) rfl rfl (hb hby dc5_90)
    refine og st9 ?_
    show oG p e below _ (T9.setTop (mkF m 93 #[.val (.ref q), .val (.ref cb), .val (.ref t), .val (.int (2 : Int32)), .val (.int nd_), .unset] [(.int w), (.int (s2_ * w)), (.ref d2_), (.int (0 : Int32)), (.ref cb)]))
    have c11 : ¬ ((s2_ * w) < (0 : Int32)) := by
      have q0 := rng32 w
      have q1 := rng32 s2_
      have q2 := c_iadd s2_ (1 : Int32)
      have r2 := rng32 (s2_ + (1 : Int32))
      have q3 := own_prod (s2_ + (1 : Int32)) w
      have r3 := rng32 ((s2_ + (1 : Int32)) * w)
      have q4 := congrArg Int32.toInt hnd_
      have q5 := own_prod s2_ w
      have r5 := rng32 (s2_ * w)
      have p0 := hw0
      have p1 := hw3
      have p2 := hp0
      have p3 := hp3
      have p4 := c5
      simp only [true_implies, Int32.lt_iff_toInt_lt, ← Int32.toInt_inj, Int32.reduceToInt, Int64.lt_iff_toInt_lt, ← Int64.toInt_inj, Int64.reduceToInt] at q0 q1 q2 q3 q4 q5 p0 p1 p2 p3 p4 ⊢
      omega
    have le10 : (s2_ * w).toInt + w.toInt ≤ (16 : Int32).toInt ∧ w.toInt ≤ 3 ∧ 0 ≤ (s2_ * w).toInt ∧ 0 ≤ w.toInt ∧ 0 ≤ (16 : Int32).toInt := by
      have q0 := rng32 s2_
      have r0 := rng32 s2_
      have q1 := rng32 w
      have r1 := rng32 w
      have q2 := own_prod s2_ w
      have r2 := rng32 (s2_ * w)
      have q3 := c_iadd s2_ (1 : Int32)
      have r3 := rng32 (s2_ + (1 : Int32))
      have q4 := own_prod (s2_ + (1 : Int32)) w
      have r4 := rng32 ((s2_ + (1 : Int32)) * w)
      have q5 := congrArg Int32.toInt hnd_
      have r5 := rng32 nd_
      have p0 := hw0
      have p1 := hw3
      have p2 := hp0
      have p3 := hp3
      have p4 := c5
      have p5 := c11
      try simp only [true_implies, Int32.lt_iff_toInt_lt, ← Int32.toInt_inj, Int32.reduceToInt, Int64.lt_iff_toInt_lt, ← Int64.toInt_inj, Int64.reduceToInt] at q0 q1 q2 q3 q4 q5 p0 p1 p2 p3 p4 p5
      try simp only [Int32.reduceToInt]
      omega
    have lf10 : (s2_ * w).toNatClampNeg + w.toNatClampNeg ≤ (16 : Int32).toNatClampNeg ∧ (0 : Int32).toNatClampNeg + w.toNatClampNeg ≤ (3 : Int32).toNatClampNeg := by
      have := own_tn (s2_ * w) (by omega)
      have := own_tn w (by omega)
      have := own_tn (16 : Int32) (by omega)
      have z0 : (0 : Int32).toNatClampNeg = 0 := rfl
      have z3 : (3 : Int32).toNatClampNeg = 3 := rfl
      omega
    have ll10 : v2_.length = (16 : Int32).toNatClampNeg := iL2_
    obtain ⟨T10, h10, L10, X10, e10, N10, K10, A10, st10⟩ := cpA X9 hx hZ hown (hw _ (own_m 58 rfl)) (hw _ (own_m 61 rfl)) (hw _ (own_m 59 rfl)) (hw _ (own_m 60 rfl)) e9 VB VD2 (us := _) (Or.inl ⟨rfl, rfl⟩) (by decide) c11 hw0 lf10.2 lf10.1 rfl (ll10 ▸ lf10.1) N1 ge_d2_ (g := (mkF m 93 #[.val (.ref q), .val (.ref cb), .val (.ref t), .val (.int (2 : Int32)), .val (.int nd_), .unset] [(.int w), (.int (s2_ * w)), (.ref d2_), (.int (0 : Int32)), (.ref cb)])) rfl (by rw [hml]; rfl) rfl (hb hby dc5_93) (by decide) (W := 0) (by show 2 * 0 + _ ≤ _; exact Nat.le_of_eq rfl) (by decide)
    refine og st10 ?_
    have ln10 := own_cplen (us := (List.range w.toNatClampNeg).map fun i => ([(.int bx_), (.int by_), (.int bz_)] : List Value).getD ((0 : Int32).toNatClampNeg + i) (.int (0 : Int32))) (ll10 ▸ lf10.1) (by simp) ll10
    generalize hvn10 : (v2_.take (s2_ * w).toNatClampNeg ++ (List.range w.toNatClampNeg).map (fun i => ([(.int bx_), (.int by_), (.int bz_)] : List Value).getD ((0 : Int32).toNatClampNeg + i) (.int (0 : Int32))) ++ v2_.drop ((s2_ * w).toNatClampNeg + w.toNatClampNeg)) = vn10 at A10 ln10
    show oG p e below _ (T10.setTop (mkF m 96 #[.val (.ref q), .val (.ref cb), .val (.ref t), .val (.int (2 : Int32)), .val (.int nd_), .unset] []))
    refine og (fun _ hr => XS.aloadN X10.here hx rfl (hb hby dc5_96) rfl rfl hr) ?_
    show oG p e below _ (T10.setTop (mkF m 97 #[.val (.ref q), .val (.ref cb), .val (.ref t), .val (.int (2 : Int32)), .val (.int nd_), .unset] [(.ref q)]))
    have f12 := (FS.keep K10 (ninS ne_q_d2_ nin0))
    obtain ⟨T13, X13, e13, st13⟩ := getF X10 hx hZ hown (host := "") (Or.inl (hw _ (own_m 34 rfl))) Via.refl e10 f12 (g := (mkF m 97 #[.val (.ref q), .val (.ref cb), .val (.ref t), .val (.int (2 : Int32)), .val (.int nd_), .unset] [(.ref q)])) rfl rfl (hb hby dc5_97)
    refine og st13 ?_
    show oG p e below _ (T13.setTop (mkF m 100 #[.val (.ref q), .val (.ref cb), .val (.ref t), .val (.int (2 : Int32)), .val (.int nd_), .unset] [(.ref S_)]))
    refine og (fun _ hr => XS.iloadN X13.here hx rfl (hb hby dc5_100) rfl hr) ?_
    show oG p e below _ (T13.setTop (mkF m 101 #[.val (.ref q), .val (.ref cb), .val (.ref t), .val (.int (2 : Int32)), .val (.int nd_), .unset] [(.int (2 : Int32)), (.ref S_)]))
    refine og (S' := T13.setTop (mkF m 102 #[.val (.ref q), .val (.ref cb), .val (.ref t), .val (.int (2 : Int32)), .val (.int nd_), .unset] [(.int (2 : Int32)), (.ref S_), (.int (2 : Int32)), (.ref S_)])) (fun _ hr => by
      jvm_step X13.here [X13.here.top, hx, (hb hby dc5_101), Value.category]
      exact hr) ?_
    show oG p e below _ (T13.setTop (mkF m 102 #[.val (.ref q), .val (.ref cb), .val (.ref t), .val (.int (2 : Int32)), .val (.int nd_), .unset] [(.int (2 : Int32)), (.ref S_), (.int (2 : Int32)), (.ref S_)]))
    have f14 := (VS.keep K10 (ninS ne_S__d2_ nin0))
    refine og (fun _ hr => own_iaload X13 hx hZ e13 f14 (2 : Int32) (.int s2_) ⟨by decide, by decide⟩ rfl rfl rfl (hb hby dc5_102) (XS.iconst X13.here hx rfl (hb hby dc5_103) (XS.iadd X13.here hx rfl (hb hby dc5_104) rfl hr))) ?_
    show oG p e below _ (T13.setTop (mkF m 105 #[.val (.ref q), .val (.ref cb), .val (.ref t), .val (.int (2 : Int32)), .val (.int nd_), .unset] [(.int (s2_ + (1 : Int32))), (.int (2 : Int32)), (.ref S_)]))
    refine own_stI X13 hx hZ e13 f14 (2 : Int32) (s2_ + (1 : Int32)) 2 ⟨by decide, by decide⟩ rfl (Nat.le_of_ble_eq_true rfl)  [(.int s0_), (.int s1_), (.int (s2_ + (1 : Int32))), (.int s3_)] rfl N10 ge_S_ (hb hby dc5_105) ?_
    intro T15 h15 L15 X15 e15 W15 N15 f15
    show oG p e below _ (T15.setTop (mkF m 106 #[.val (.ref q), .val (.ref cb), .val (.ref t), .val (.int (2 : Int32)), .val (.int nd_), .unset] []))
    have f16 := ((EQ.keep K10).wr W15)
    have f17 := ((FC.keep K10 (ninS ne_q_d2_ nin0)).other W15 (Or.inl ne_q_S_))
    have f18 := (f12.other W15 (Or.inl ne_q_S_))
    have f19 := ((FW.keep K10 (ninS ne_q_d2_ nin0)).other W15 (Or.inl ne_q_S_))
    have f20 := ((VC.keep K10 (ninS ne_C__d2_ nin0)).other W15 ne_C__S_)
    have f21 := ((VD0.keep K10 (ninS ne_d0__d2_ nin0)).other W15 (Ne.symm ne_S__d0_))
    have f22 := ((VD1.keep K10 (ninS ne_d1__d2_ nin0)).other W15 (Ne.symm ne_S__d1_))
    have f23 := (A10.other W15 (Ne.symm ne_S__d2_))
    have f24 := ((VD3.keep K10 (ninS (Ne.symm ne_d2__d3_) nin0)).other W15 (Ne.symm ne_S__d3_))
    have f25 := ((VB.keep K10 (ninS ne_cb_d2_ nin0)).other W15 ne_cb_S_)
    have om26 : 0 ≤ s0_.toInt := by
      have q0 := rng32 s0_
      have r0 := rng32 s0_
      have q1 := rng32 w
      have r1 := rng32 w
      have q2 := rng32 s2_
      have r2 := rng32 s2_
      have q3 := c_iadd s2_ (1 : Int32)
      have r3 := rng32 (s2_ + (1 : Int32))
      have q4 := own_prod (s2_ + (1 : Int32)) w
      have r4 := rng32 ((s2_ + (1 : Int32)) * w)
      have q5 := congrArg Int32.toInt hnd_
      have r5 := rng32 nd_
      have q6 := own_prod s2_ w
      have r6 := rng32 (s2_ * w)
      have p0 := hw0
      have p1 := hw3
      have p2 := hp0
      have p3 := hp3
      have p4 := c5
      have p5 := c11
      try simp only [true_implies, Int32.lt_iff_toInt_lt, ← Int32.toInt_inj, Int32.reduceToInt, Int64.lt_iff_toInt_lt, ← Int64.toInt_inj, Int64.reduceToInt] at q0 q1 q2 q3 q4 q5 q6 p0 p1 p2 p3 p4 p5
      first | omega | (simp only [Int32.reduceToInt, ← Int32.toInt_inj] <;> omega) | decide
    have om27 : 0 ≤ s1_.toInt := by
      have q0 := rng32 s1_
      have r0 := rng32 s1_
      have q1 := rng32 w
      have r1 := rng32 w
      have q2 := rng32 s2_
      have r2 := rng32 s2_
      have q3 := c_iadd s2_ (1 : Int32)
      have r3 := rng32 (s2_ + (1 : Int32))
      have q4 := own_prod (s2_ + (1 : Int32)) w
      have r4 := rng32 ((s2_ + (1 : Int32)) * w)
      have q5 := congrArg Int32.toInt hnd_
      have r5 := rng32 nd_
      have q6 := own_prod s2_ w
      have r6 := rng32 (s2_ * w)
      have p0 := hw0
      have p1 := hw3
      have p2 := hp0
      have p3 := hp3
      have p4 := c5
      have p5 := c11
      try simp only [true_implies, Int32.lt_iff_toInt_lt, ← Int32.toInt_inj, Int32.reduceToInt, Int64.lt_iff_toInt_lt, ← Int64.toInt_inj, Int64.reduceToInt] at q0 q1 q2 q3 q4 q5 q6 p0 p1 p2 p3 p4 p5
      first | omega | (simp only [Int32.reduceToInt, ← Int32.toInt_inj] <;> omega) | decide
    have om28 : 0 ≤ (s2_ + (1 : Int32)).toInt := by
      have q0 := rng32 s2_
      have r0 := rng32 s2_
      have q1 := c_iadd s2_ (1 : Int32)
      have r1 := rng32 (s2_ + (1 : Int32))
      have q2 := rng32 w
      have r2 := rng32 w
      have q3 := own_prod (s2_ + (1 : Int32)) w
      have r3 := rng32 ((s2_ + (1 : Int32)) * w)
      have q4 := congrArg Int32.toInt hnd_
      have r4 := rng32 nd_
      have q5 := own_prod s2_ w
      have r5 := rng32 (s2_ * w)
      have p0 := hw0
      have p1 := hw3
      have p2 := hp0
      have p3 := hp3
      have p4 := c5
      have p5 := c11
      try simp only [true_implies, Int32.lt_iff_toInt_lt, ← Int32.toInt_inj, Int32.reduceToInt, Int64.lt_iff_toInt_lt, ← Int64.toInt_inj, Int64.reduceToInt] at q0 q1 q2 q3 q4 q5 p0 p1 p2 p3 p4 p5
      first | omega | (simp only [Int32.reduceToInt, ← Int32.toInt_inj] <;> omega) | decide
    have om29 : 0 ≤ s3_.toInt := by
      have q0 := rng32 s3_
      have r0 := rng32 s3_
      have q1 := rng32 w
      have r1 := rng32 w
      have q2 := rng32 s2_
      have r2 := rng32 s2_
      have q3 := c_iadd s2_ (1 : Int32)
      have r3 := rng32 (s2_ + (1 : Int32))
      have q4 := own_prod (s2_ + (1 : Int32)) w
      have r4 := rng32 ((s2_ + (1 : Int32)) * w)
      have q5 := congrArg Int32.toInt hnd_
      have r5 := rng32 nd_
      have q6 := own_prod s2_ w
      have r6 := rng32 (s2_ * w)
      have p0 := hw0
      have p1 := hw3
      have p2 := hp0
      have p3 := hp3
      have p4 := c5
      have p5 := c11
      try simp only [true_implies, Int32.lt_iff_toInt_lt, ← Int32.toInt_inj, Int32.reduceToInt, Int64.lt_iff_toInt_lt, ← Int64.toInt_inj, Int64.reduceToInt] at q0 q1 q2 q3 q4 q5 q6 p0 p1 p2 p3 p4 p5
      first | omega | (simp only [Int32.reduceToInt, ← Int32.toInt_inj] <;> omega) | decide
    have om30 : s0_.toInt + s1_.toInt + (s2_ + (1 : Int32)).toInt + s3_.toInt = cnt2.toInt := by
      have q0 := rng32 s0_
      have r0 := rng32 s0_
      have q1 := rng32 s1_
      have r1 := rng32 s1_
      have q2 := rng32 s2_
      have r2 := rng32 s2_
      have q3 := c_iadd s2_ (1 : Int32)
      have r3 := rng32 (s2_ + (1 : Int32))
      have q4 := rng32 s3_
      have r4 := rng32 s3_
      have q5 := rng32 w
      have r5 := rng32 w
      have q6 := own_prod (s2_ + (1 : Int32)) w
      have r6 := rng32 ((s2_ + (1 : Int32)) * w)
      have q7 := congrArg Int32.toInt hnd_
      have r7 := rng32 nd_
      have q8 := own_prod s2_ w
      have r8 := rng32 (s2_ * w)
      have p0 := hw0
      have p1 := hw3
      have p2 := hp0
      have p3 := hp3
      have p4 := c5
      have p5 := c11
      try simp only [true_implies, Int32.lt_iff_toInt_lt, ← Int32.toInt_inj, Int32.reduceToInt, Int64.lt_iff_toInt_lt, ← Int64.toInt_inj, Int64.reduceToInt] at q0 q1 q2 q3 q4 q5 q6 q7 q8 p0 p1 p2 p3 p4 p5
      first | omega | (simp only [Int32.reduceToInt, ← Int32.toInt_inj] <;> omega) | decide
    have K31 := ((K0.trans K10 (allS (Or.inl (List.mem_of_getElem? (i := 4) rfl)) all0)).wr W15 (Or.inl (List.mem_of_getElem? (i := 1) rfl)))
    exact own_ret0 X15 hx hlk Bd.returns (hb hby dc5_106) (by decide) (by decide) (by rw [e15]; exact ⟨rfl, N15, [C_, S_, d0_, d1_, d2_, d3_], K31, (fun x hx_ => by simp only [List.mem_cons, List.not_mem_nil, or_false] at hx_; rcases hx_ with rfl | rfl | rfl | rfl | rfl | rfl <;> assumption), ⟨C_, S_, d0_, d1_, d2_, d3_, kC_, kS_, kb_, e0_, e1_, e2_, e3_, s0_, s1_, (s2_ + (1 : Int32)), s3_, m0_, m1_, (16 : Int32), m3_, bx_, by_, bz_, v0_, v1_, vn10, v3_, f16, f17, f18, f19, f20, OV, f15, f21, f22, f23, f24, f25, g_C_, g_S_, g_d0_, g_d1_, g_d2_, g_d3_, ne_C__S_, ne_C__d0_, ne_C__d1_, ne_C__d2_, ne_C__d3_, ne_S__d0_, ne_S__d1_, ne_S__d2_, ne_S__d3_, ne_d0__d1_, ne_d0__d2_, ne_d0__d3_, ne_d1__d2_, ne_d1__d3_, ne_d2__d3_, ne_cb_C_, ne_cb_S_, ne_cb_d0_, ne_cb_d1_, ne_cb_d2_, ne_cb_d3_, ne_q_C_, ne_q_S_, ne_q_d0_, ne_q_d1_, ne_q_d2_, ne_q_d3_, om26, om27, om28, om29, om30, iM0_, iM1_, (Or.inl rfl), iM3_, iL0_, iL1_, ln10, iL3_, WB⟩⟩)
  · subst hm
    obtain rfl : v2_ = [] := List.eq_nil_of_length_eq_zero (iL2_.trans rfl)
    obtain rfl : s2_ = 0 := Int32.toInt_inj.mp (hs.trans rfl)
    show oG p e below _ (s₁.setTop (mkF m 0 #[.val (.ref q), .val (.ref cb), .val (.ref t), .unset, .unset, .unset] []))
    refine og (fun _ hr => XS.aloadN X0.here hx rfl (hb hby dc5_0) rfl rfl hr) ?_
    show oG p e below _ (s₁.setTop (mkF m 1 #[.val (.ref q), .val (.ref cb), .val (.ref t), .unset, .unset, .unset] [(.ref t)]))
    refine own_cu X0 hx hZ hown (hw _ (own_m 49 rfl)) (hw _ (own_m 50 rfl)) (hw _ (own_m 51 rfl)) (hw _ (own_m 53 rfl)) (hw _ (own_m 52 rfl)) (hw _ (own_m 54 rfl)) (hw _ (own_m 55 rfl)) (by decide) Et (rm := { frames := 0, cells := 0, slots := 0, locals := 0 }) (rm_ordinal_6 l Z a0 hw [] t h0 n0 Z0 Ft) (by decide) (W := 0) (by decide) (by decide) (by decide) e0 (by rw [hml]; rfl) (argsL := []) (lenOf own_pd0 rfl) (rest := []) rfl rfl (Nat.le_of_eq rfl) (hb hby dc5_1) ?_
    intro _ T32 L32 X32 hQ32
    obtain ⟨rfl, N32q, e32⟩ := hQ32
    have N32 := Fr.app N0 N32q
    show oG p e below _ (T32.setTop (mkF m 4 #[.val (.ref q), .val (.ref cb), .val (.ref t), .unset, .unset, .unset] [(.int (2 : Int32))]))
    refine og (fun _ hr => XS.istoreN X32.here hx rfl (hb hby dc5_4) rfl (l' := #[.val (.ref q), .val (.ref cb), .val (.ref t), .val (.int (2 : Int32)), .unset, .unset]) rfl (XS.aloadN X32.here hx rfl (hb hby dc5_5) rfl rfl hr)) ?_
    show oG p e below _ (T32.setTop (mkF m 6 #[.val (.ref q), .val (.ref cb), .val (.ref t), .val (.int (2 : Int32)), .unset, .unset] [(.ref q)]))
    obtain ⟨T33, X33, e33, st33⟩ := getF X32 hx hZ hown (host := "") (Or.inl (hw _ (own_m 34 rfl))) Via.refl e32 FS (g := (mkF m 6 #[.val (.ref q), .val (.ref cb), .val (.ref t), .val (.int (2 : Int32)), .unset, .unset] [(.ref q)])) rfl rfl (hb hby dc5_6)
    refine og st33 ?_
    show oG p e below _ (T33.setTop (mkF m 9 #[.val (.ref q), .val (.ref cb), .val (.ref t), .val (.int (2 : Int32)), .unset, .unset] [(.ref S_)]))
    refine og (fun _ hr => XS.iloadN X33.here hx rfl (hb hby dc5_9) rfl (own_iaload X33 hx hZ e33 VS (2 : Int32) (.int (0 : Int32)) ⟨by decide, by decide⟩ rfl rfl rfl (hb hby dc5_10) (XS.iconst X33.here hx rfl (hb hby dc5_11) (XS.iadd X33.here hx rfl (hb hby dc5_12) rfl (XS.aloadN X33.here hx rfl (hb hby dc5_13) rfl rfl hr))))) ?_
    show oG p e below _ (T33.setTop (mkF m 14 #[.val (.ref q), .val (.ref cb), .val (.ref t), .val (.int (2 : Int32)), .unset, .unset] [(.ref q), (.int (1 : Int32))]))
    obtain ⟨T34, X34, e34, st34⟩ := getF X33 hx hZ hown (host := "") (Or.inl (hw _ (own_m 36 rfl))) Via.refl e33 FW (g := (mkF m 14 #[.val (.ref q), .val (.ref cb), .val (.ref t), .val (.int (2 : Int32)), .unset, .unset] [(.ref q), (.int (1 : Int32))])) rfl rfl (hb hby dc5_14)
    refine og st34 ?_
    show oG p e below _ (T34.setTop (mkF m 17 #[.val (.ref q), .val (.ref cb), .val (.ref t), .val (.int (2 : Int32)), .unset, .unset] [(.int w), (.int (1 : Int32))]))
    refine og (fun _ hr => XS.imul X34.here hx rfl (hb hby dc5_17) rfl (XS.istore X34.here hx rfl (hb hby dc5_18) rfl (l' := #[.val (.ref q), .val (.ref cb), .val (.ref t), .val (.int (2 : Int32)), .val (.int ((1 : Int32) * w)), .unset]) rfl hr)) ?_
    show oG p e below _ (T34.setTop (mkF m 20 #[.val (.ref q), .val (.ref cb), .val (.ref t), .val (.int (2 : Int32)), .val (.int ((1 : Int32) * w)), .unset] []))
    generalize hnd_ : ((1 : Int32) * w) = nd_
    refine og (fun _ hr => XS.iload X34.here hx rfl (hb hby dc5_20) rfl (XS.aloadN X34.here hx rfl (hb hby dc5_22) rfl rfl hr)) ?_
    show oG p e below _ (T34.setTop (mkF m 23 #[.val (.ref q), .val (.ref cb), .val (.ref t), .val (.int (2 : Int32)), .val (.int nd_), .unset] [(.ref q), (.int nd_)]))
    obtain ⟨T35, X35, e35, st35⟩ := getF X34 hx hZ hown (host := "") (Or.inl (hw _ (own_m 32 rfl))) Via.refl e34 FC (g := (mkF m 23 #[.val (.ref q), .val (.ref cb), .val (.ref t), .val (.int (2 : Int32)), .val (.int nd_), .unset] [(.ref q), (.int nd_)])) rfl rfl (hb hby dc5_23)
    refine og st35 ?_
    show oG p e below _ (T35.setTop (mkF m 26 #[.val (.ref q), .val (.ref cb), .val (.ref t), .val (.int (2 : Int32)), .val (.int nd_), .unset] [(.ref C_), (.int nd_)]))
    refine og (fun _ hr => XS.iloadN X35.here hx rfl (hb hby dc5_26) rfl (own_aaload X35 hx hZ e35 VC (2 : Int32) (.ref d2_) ⟨by decide, by decide⟩ rfl rfl rfl rfl (hb hby dc5_27) (own_alen X35 hx hZ e35 VD2 rfl rfl (hb hby dc5_28) hr))) ?_
    show oG p e below _ (T35.setTop (mkF m 29 #[.val (.ref q), .val (.ref cb), .val (.ref t), .val (.int (2 : Int32)), .val (.int nd_), .unset] [(.int (0 : Int32)), (.int nd_)]))
    rcases Classical.em ((0 : Int32) < nd_) with c36 | c36
    · skip
      refine og (fun _ hr => XS.icmpNo X35.here hx rfl (hb hby dc5_29) rfl (tlt c36).2.2.2 hr) ?_
      show oG p e below _ (T35.setTop (mkF m 32 #[.val (.ref q), .val (.ref cb), .val (.ref t), .val (.int (2 : Int32)), .val (.int nd_), .unset] []))
      refine og (fun _ hr => XS.bipush X35.here hx rfl (hb hby dc5_32) (XS.iconst X35.here hx rfl (hb hby dc5_34) (XS.aloadN X35.here hx rfl (hb hby dc5_35) rfl rfl hr))) ?_
      show oG p e below _ (T35.setTop (mkF m 36 #[.val (.ref q), .val (.ref cb), .val (.ref t), .val (.int (2 : Int32)), .val (.int nd_), .unset] [(.ref q), (.int (2 : Int32)), (.int (16 : Int32))]))
      obtain ⟨T37, X37, e37, st37⟩ := getF X35 hx hZ hown (host := "") (Or.inl (hw _ (own_m 32 rfl))) Via.refl e35 FC (g := (mkF m 36 #[.val (.ref q), .val (.ref cb), .val (.ref t), .val (.int (2 : Int32)), .val (.int nd_), .unset] [(.ref q), (.int (2 : Int32)), (.int (16 : Int32))])) rfl rfl (hb hby dc5_36)
      refine og st37 ?_
      show oG p e below _ (T37.setTop (mkF m 39 #[.val (.ref q), .val (.ref cb), .val (.ref t), .val (.int (2 : Int32)), .val (.int nd_), .unset] [(.ref C_), (.int (2 : Int32)), (.int (16 : Int32))]))
      refine og (fun _ hr => XS.iloadN X37.here hx rfl (hb hby dc5_39) rfl (own_aaload X37 hx hZ e37 VC (2 : Int32) (.ref d2_) ⟨by decide, by decide⟩ rfl rfl rfl rfl (hb hby dc5_40) (own_alen X37 hx hZ e37 VD2 rfl rfl (hb hby dc5_41) (XS.imul X37.here hx rfl (hb hby dc5_42) rfl hr)))) ?_
      show oG p e below _ (T37.setTop (mkF m 43 #[.val (.ref q), .val (.ref cb), .val (.ref t), .val (.int (2 : Int32)), .val (.int nd_), .unset] [(.int (0 : Int32)), (.int (16 : Int32))]))
      refine own_cs X37 hx hZ hown (hw _ (own_m 70 rfl)) (hw _ (own_m 71 rfl)) (hw _ (own_m 72 rfl)) (hw _ (own_m 73 rfl)) (by decide) (rm := { frames := 0, cells := 0, slots := 0, locals := 0 }) (rm_max_1 l Z a0 hw []  h0 n0 Z0 ) (by decide) (W := 0) (by decide) (by decide) (by decide) e37 (by rw [hml]; rfl) (argsL := [(.int (16 : Int32)), (.int (0 : Int32))]) (lenOf own_pd1 rfl) (rest := []) rfl rfl (Nat.le_of_eq rfl) (hb hby dc5_43) ?_
      intro _ T38 L38 X38 hQ38
      obtain ⟨rfl, N38q, e38⟩ := hQ38
      have N38 := Fr.app N32 N38q
      show oG p e below _ (T38.setTop (mkF m 46 #[.val (.ref q), .val (.ref cb), .val (.ref t), .val (.int (2 : Int32)), .val (.int nd_), .unset] [(.int (16 : Int32))]))
      refine og (fun _ hr => XS.istore X38.here hx rfl (hb hby dc5_46) rfl (l' := #[.val (.ref q), .val (.ref cb), .val (.ref t), .val (.int (2 : Int32)), .val (.int nd_), .val (.int (16 : Int32))]) rfl (XS.aloadN X38.here hx rfl (hb hby dc5_48) rfl rfl hr)) ?_
      show oG p e below _ (T38.setTop (mkF m 49 #[.val (.ref q), .val (.ref cb), .val (.ref t), .val (.int (2 : Int32)), .val (.int nd_), .val (.int (16 : Int32))] [(.ref q)]))
      obtain ⟨T39, X39, e39, st39⟩ := getF X38 hx hZ hown (host := "") (Or.inl (hw _ (own_m 32 rfl))) Via.refl e38 FC (g := (mkF m 49 #[.val (.ref q), .val (.ref cb), .val (.ref t), .val (.int (2 : Int32)), .val (.int nd_), .val (.int (16 : Int32))] [(.ref q)])) rfl rfl (hb hby dc5_49)
      refine og st39 ?_
      show oG p e below _ (T39.setTop (mkF m 52 #[.val (.ref q), .val (.ref cb), .val (.ref t), .val (.int (2 : Int32)), .val (.int nd_), .val (.int (16 : Int32))] [(.ref C_)]))
      refine og (fun _ hr => XS.iloadN X39.here hx rfl (hb hby dc5_52) rfl (XS.aloadN X39.here hx rfl (hb hby dc5_53) rfl rfl hr)) ?_
      show oG p e below _ (T39.setTop (mkF m 54 #[.val (.ref q), .val (.ref cb), .val (.ref t), .val (.int (2 : Int32)), .val (.int nd_), .val (.int (16 : Int32))] [(.ref q), (.int (2 : Int32)), (.ref C_)]))
      obtain ⟨T40, X40, e40, st40⟩ := getF X39 hx hZ hown (host := "") (Or.inl (hw _ (own_m 32 rfl))) Via.refl e39 FC (g := (mkF m 54 #[.val (.ref q), .val (.ref cb), .val (.ref t), .val (.int (2 : Int32)), .val (.int nd_), .val (.int (16 : Int32))] [(.ref q), (.int (2 : Int32)), (.ref C_)])) rfl rfl (hb hby dc5_54)
      refine og st40 ?_
      show oG p e below _ (T40.setTop (mkF m 57 #[.val (.ref q), .val (.ref cb), .val (.ref t), .val (.int (2 : Int32)), .val (.int nd_), .val (.int (16 : Int32))] [(.ref C_), (.int (2 : Int32)), (.ref C_)]))
      refine og (fun _ hr => XS.iloadN X40.here hx rfl (hb hby dc5_57) rfl (own_aaload X40 hx hZ e40 VC (2 : Int32) (.ref d2_) ⟨by decide, by decide⟩ rfl rfl rfl rfl (hb hby dc5_58) (XS.iload X40.here hx rfl (hb hby dc5_59) rfl (XS.iload X40.here hx rfl (hb hby dc5_61) rfl hr)))) ?_
      show oG p e below _ (T40.setTop (mkF m 63 #[.val (.ref q), .val (.ref cb), .val (.ref t), .val (.int (2 : Int32)), .val (.int nd_), .val (.int (16 : Int32))] [(.int (16 : Int32)), (.int nd_), (.ref d2_), (.int (2 : Int32)), (.ref C_)]))
      have c41 : nd_ < (16 : Int32) := by
        have q0 := rng32 w
        have q1 := c_imul (1 : Int32) w
        have r1 := rng32 ((1 : Int32) * w)
        have q2 := congrArg Int32.toInt hnd_
        have p0 := hw0
        have p1 := hw3
        have p2 := c36
        simp only [true_implies, Int32.lt_iff_toInt_lt, ← Int32.toInt_inj, Int32.reduceToInt, Int64.lt_iff_toInt_lt, ← Int64.toInt_inj, Int64.reduceToInt] at q0 q1 q2 p0 p1 p2 ⊢
        omega
      refine own_cs X40 hx hZ hown (hw _ (own_m 70 rfl)) (hw _ (own_m 71 rfl)) (hw _ (own_m 72 rfl)) (hw _ (own_m 73 rfl)) (by decide) (rm := { frames := 0, cells := 0, slots := 0, locals := 0 }) (rm_max_2 l Z a0 hw [] nd_ h0 n0 Z0 c41) (by decide) (W := 3) (by decide) (by decide) (by decide) e40 (by rw [hml]; rfl) (argsL := [(.int nd_), (.int (16 : Int32))]) (lenOf own_pd1 rfl) (rest := [(.ref d2_), (.int (2 : Int32)), (.ref C_)]) rfl rfl (Nat.le_of_eq rfl) (hb hby dc5_63) ?_
      intro _ T42 L42 X42 hQ42
      obtain ⟨rfl, N42q, e42⟩ := hQ42
      have N42 := Fr.app N38 N42q
      show oG p e below _ (T42.setTop (mkF m 66 #[.val (.ref q), .val (.ref cb), .val (.ref t), .val (.int (2 : Int32)), .val (.int nd_), .val (.int (16 : Int32))] [(.int (16 : Int32)), (.ref d2_), (.int (2 : Int32)), (.ref C_)]))
      refine own_cs X42 hx hZ hown (hw _ (own_m 74 rfl)) (hw _ (own_m 75 rfl)) (hw _ (own_m 76 rfl)) (hw _ (own_m 77 rfl)) (by decide) (rm := { frames := 1, cells := 1, slots := 16, locals := 40 }) (rm_copyOf_4 l Z a0 hw [] d2_ e2_ h0 n0 Z0 VD2) (by decide) (W := 2) (by decide) (by decide) (by decide) e42 (by rw [hml]; rfl) (argsL := [(.ref d2_), (.int (16 : Int32))]) (lenOf own_pd2 rfl) (rest := [(.int (2 : Int32)), (.ref C_)]) rfl rfl (Nat.le_of_eq rfl) (hb hby dc5_66) ?_
      intro _ T43 L43 X43 hQ43
      obtain ⟨b43_0, kb43_0, rfl, N43q, K43, ge43_0, sz43_0, f43_0, f43_1⟩ := hQ43
      have N43 := Fr.app N42 N43q
      have sz44 : h0.size ≤ b43_0 := Nat.le_trans K0.1 sz43_0
      show oG p e below _ (T43.setTop (mkF m 69 #[.val (.ref q), .val (.ref cb), .val (.ref t), .val (.int (2 : Int32)), .val (.int nd_), .val (.int (16 : Int32))] [(.ref b43_0), (.int (2 : Int32)), (.ref C_)]))
      have f45 := (VC.keep K43 nin0)
      refine own_stR X43 hx hZ rfl f45 (2 : Int32) (.ref b43_0) 2 ⟨by decide, by decide⟩ rfl (Nat.le_of_ble_eq_true rfl) (fun _ A q => Sto.ofVA A q OV (Ins.self f43_0)) rfl [(.ref d0_), (.ref d1_), (.ref b43_0), (.ref d3_)] rfl N43 ge_C_ (hb hby dc5_69) ?_
      intro T46 h46 L46 X46 e46 W46 N46 f46
      show oG p e below _ (T46.setTop (mkF m 70 #[.val (.ref q), .val (.ref cb), .val (.ref t), .val (.int (2 : Int32)), .val (.int nd_), .val (.int (16 : Int32))] []))
      refine og (fun _ hr => XS.aloadN X46.here hx rfl (hb hby dc5_70) rfl rfl (XS.iconst X46.here hx rfl (hb hby dc5_71) (XS.aloadN X46.here hx rfl (hb hby dc5_72) rfl rfl hr))) ?_
      show oG p e below _ (T46.setTop (mkF m 73 #[.val (.ref q), .val (.ref cb), .val (.ref t), .val (.int (2 : Int32)), .val (.int nd_), .val (.int (16 : Int32))] [(.ref q), (.int (0 : Int32)), (.ref cb)]))
      have f47 := ((FC.keep K43 nin0).other W46 (Or.inl ne_q_C_))
      obtain ⟨T48, X48, e48, st48⟩ := getF X46 hx hZ hown (host := "") (Or.inl (hw _ (own_m 32 rfl))) Via.refl e46 f47 (g := (mkF m 73 #[.val (.ref q), .val (.ref cb), .val (.ref t), .val (.int (2 : Int32)), .val (.int nd_), .val (.int (16 : Int32))] [(.ref q), (.int (0 : Int32)), (.ref cb)])) rfl rfl (hb hby dc5_73)
      refine og st48 ?_
      show oG p e below _ (T48.setTop (mkF m 76 #[.val (.ref q), .val (.ref cb), .val (.ref t), .val (.int (2 : Int32)), .val (.int nd_), .val (.int (16 : Int32))] [(.ref C_), (.int (0 : Int32)), (.ref cb)]))
      refine og (fun _ hr => XS.iloadN X48.here hx rfl (hb hby dc5_76) rfl (own_aaload X48 hx hZ e48 f46 (2 : Int32) (.ref b43_0) ⟨by decide, by decide⟩ rfl rfl rfl rfl (hb hby dc5_77) (XS.aloadN X48.here hx rfl (hb hby dc5_78) rfl rfl hr))) ?_
      show oG p e below _ (T48.setTop (mkF m 79 #[.val (.ref q), .val (.ref cb), .val (.ref t), .val (.int (2 : Int32)), .val (.int nd_), .val (.int (16 : Int32))] [(.ref q), (.ref b43_0), (.int (0 : Int32)), (.ref cb)]))
      have f49 := ((FS.keep K43 nin0).other W46 (Or.inl ne_q_C_))
      obtain ⟨T50, X50, e50, st50⟩ := getF X48 hx hZ hown (host := "") (Or.inl (hw _ (own_m 34 rfl))) Via.refl e48 f49 (g := (mkF m 79 #[.val (.ref q), .val (.ref cb), .val (.ref t), .val (.int (2 : Int32)), .val (.int nd_), .val (.int (16 : Int32))] [(.ref q), (.ref b43_0), (.int (0 : Int32)), (.ref cb)])) rfl rfl (hb hby dc5_79)
      refine og st50 ?_
      show oG p e below _ (T50.setTop (mkF m 82 #[.val (.ref q), .val (.ref cb), .val (.ref t), .val (.int (2 : Int32)), .val (.int nd_), .val (.int (16 : Int32))] [(.ref S_), (.ref b43_0), (.int (0 : Int32)), (.ref cb)]))
      have f51 := ((VS.keep K43 nin0).other W46 (Ne.symm ne_C__S_))
      refine og (fun _ hr => XS.iloadN X50.here hx rfl (hb hby dc5_82) rfl (own_iaload X50 hx hZ e50 f51 (2 : Int32) (.int (0 : Int32)) ⟨by decide, by decide⟩ rfl rfl rfl (hb hby dc5_83) (XS.aloadN X50.here hx rfl (hb hby dc5_84) rfl rfl hr))) ?_
      show oG p e below _ (T50.setTop (mkF m 85 #[.val (.ref q), .val (.ref cb), .val (.ref t), .val (.int (2 : Int32)), .val (.int nd_), .val (.int (16 : Int32))] [(.ref q), (.int (0 : Int32)), (.ref b43_0), (.int (0 : Int32)), (.ref cb)]))
      have f52 := ((FW.keep K43 nin0).other W46 (Or.inl ne_q_C_))
      obtain ⟨T53, X53, e53, st53⟩ := getF X50 hx hZ hown (host := "") (Or.inl (hw _ (own_m 36 rfl))) Via.refl e50 f52 (g := (mkF m 85 #[.val (.ref q), .val (.ref cb), .val (.ref t), .val (.int (2 : Int32)), .val (.int nd_), .val (.int (16 : Int32))] [(.ref q), (.int (0 : Int32)), (.ref b43_0), (.int (0 : Int32)), (.ref cb)])) rfl rfl (hb hby dc5_85)
      refine og st53 ?_
      show oG p e below _ (T53.setTop (mkF m 88 #[.val (.ref q), .val (.ref cb), .val (.ref t), .val (.int (2 : Int32)), .val (.int nd_), .val (.int (16 : Int32))] [(.int w), (.int (0 : Int32)), (.ref b43_0), (.int (0 : Int32)), (.ref cb)]))
      refine og (fun _ hr => XS.imul X53.here hx rfl (hb hby dc5_88) rfl (XS.aloadN X53.here hx rfl (hb hby dc5_89) rfl rfl hr)) ?_
      show oG p e below _ (T53.setTop (mkF m 90 #[.val (.ref q), .val (.ref cb), .val (.ref t), .val (.int (2 : Int32)), .val (.int nd_), .val (.int (16 : Int32))] [(.ref q), (.int ((0 : Int32) * w)), (.ref b43_0), (.int (0 : Int32)), (.ref cb)]))
      obtain ⟨T54, X54, e54, st54⟩ := getF X53 hx hZ hown (host := "") (Or.inl (hw _ (own_m 36 rfl))) Via.refl e53 f52 (g := (mkF m 90 #[.val (.ref q), .val (.ref cb), .val (.ref t), .val (.int (2 : Int32)), .val (.int nd_), .val (.int (16 : Int32))] [(.ref q), (.int ((0 : Int32) * w)), (.ref b43_0), (.int (0 : Int32)), (.ref cb)])) rfl rfl (hb hby dc5_90)
      refine og st54 ?_
      show oG p e below _ (T54.setTop (mkF m 93 #[.val (.ref q), .val (.ref cb), .val (.ref t), .val (.int (2 : Int32)), .val (.int nd_), .val (.int (16 : Int32))] [(.int w), (.int ((0 : Int32) * w)), (.ref b43_0), (.int (0 : Int32)), (.ref cb)]))
      have f56 := ((VB.keep K43 nin0).other W46 ne_cb_C_)
      have f57 := (f43_1.other W46 (Ne.symm (Nat.ne_of_lt (Nat.lt_of_lt_of_le VC.lt sz43_0))))
      have c58 : ¬ (((0 : Int32) * w) < (0 : Int32)) := by
        have q0 := rng32 w
        have q1 := c_imul (1 : Int32) w
        have r1 := rng32 ((1 : Int32) * w)
        have q2 := congrArg Int32.toInt hnd_
        have q3 := c_imul (0 : Int32) w
        have r3 := rng32 ((0 : Int32) * w)
        have p0 := hw0
        have p1 := hw3
        have p2 := c36
        have p3 := c41
        simp only [true_implies, Int32.lt_iff_toInt_lt, ← Int32.toInt_inj, Int32.reduceToInt, Int64.lt_iff_toInt_lt, ← Int64.toInt_inj, Int64.reduceToInt] at q0 q1 q2 q3 p0 p1 p2 p3 ⊢
        omega
      have le55 : ((0 : Int32) * w).toInt + w.toInt ≤ (16 : Int32).toInt ∧ w.toInt ≤ 3 ∧ 0 ≤ ((0 : Int32) * w).toInt ∧ 0 ≤ w.toInt ∧ 0 ≤ (16 : Int32).toInt := by
        have q0 := rng32 w
        have r0 := rng32 w
        have q1 := c_imul (0 : Int32) w
        have r1 := rng32 ((0 : Int32) * w)
        have q2 := c_imul (1 : Int32) w
        have r2 := rng32 ((1 : Int32) * w)
        have q3 := congrArg Int32.toInt hnd_
        have r3 := rng32 nd_
        have p0 := hw0
        have p1 := hw3
        have p2 := c36
        have p3 := c41
        have p4 := c58
        try simp only [true_implies, Int32.lt_iff_toInt_lt, ← Int32.toInt_inj, Int32.reduceToInt, Int64.lt_iff_toInt_lt, ← Int64.toInt_inj, Int64.reduceToInt] at q0 q1 q2 q3 p0 p1 p2 p3 p4
        try simp only [Int32.reduceToInt]
        omega
      have lf55 : ((0 : Int32) * w).toNatClampNeg + w.toNatClampNeg ≤ (16 : Int32).toNatClampNeg ∧ (0 : Int32).toNatClampNeg + w.toNatClampNeg ≤ (3 : Int32).toNatClampNeg := by
        have := own_tn ((0 : Int32) * w) (by omega)
        have := own_tn w (by omega)
        have := own_tn (16 : Int32) (by omega)
        have z0 : (0 : Int32).toNatClampNeg = 0 := rfl
        have z3 : (3 : Int32).toNatClampNeg = 3 := rfl
        omega
      have ll55 : ([(.int (0 : Int32)), (.int (0 : Int32)), (.int (0 : Int32)), (.int (0 : Int32)), (.int (0 : Int32)), (.int (0 : Int32)), (.int (0 : Int32)), (.int (0 : Int32)), (.int (0 : Int32)), (.int (0 : Int32)), (.int (0 : Int32)), (.int (0 : Int32)), (.int (0 : Int32)), (.int (0 : Int32)), (.int (0 : Int32)), (.int (0 : Int32))] : List Value).length = (16 : Int32).toNatClampNeg := (by decide)
      obtain ⟨T55, h55, L55, X55, e55, N55, K55, A55, st55⟩ := cpA X54 hx hZ hown (hw _ (own_m 58 rfl)) (hw _ (own_m 61 rfl)) (hw _ (own_m 59 rfl)) (hw _ (own_m 60 rfl)) e54 f56 f57 (us := _) (Or.inl ⟨rfl, rfl⟩) (by decide) c58 hw0 lf55.2 lf55.1 rfl (ll55 ▸ lf55.1) N46 ge43_0 (g := (mkF m 93 #[.val (.ref q), .val (.ref cb), .val (.ref t), .val (.int (2 : Int32)), .val (.int nd_), .val (.int (16 : Int32))] [(.int w), (.int ((0 : Int32) * w)), (.ref b43_0), (.int (0 : Int32)), (.ref cb)])) rfl (by rw [hml]; rfl) rfl (hb hby dc5_93) (by decide) (W := 0) (by show 2 * 0 + _ ≤ _; exact Nat.le_of_eq rfl) (by decide)
      refine og st55 ?_
      have ln55 := own_cplen (us := (List.range w.toNatClampNeg).map fun i => ([(.int bx_), (.int by_), (.int bz_)] : List Value).getD ((0 : Int32).toNatClampNeg + i) (.int (0 : Int32))) (ll55 ▸ lf55.1) (by simp) ll55
      generalize hvn55 : (([(.int (0 : Int32)), (.int (0 : Int32)), (.int (0 : Int32)), (.int (0 : Int32)), (.int (0 : Int32)), (.int (0 : Int32)), (.int (0 : Int32)), (.int (0 : Int32)), (.int (0 : Int32)), (.int (0 : Int32)), (.int (0 : Int32)), (.int (0 : Int32)), (.int (0 : Int32)), (.int (0 : Int32)), (.int (0 : Int32)), (.int (0 : Int32))] : List Value).take ((0 : Int32) * w).toNatClampNeg ++ (List.range w.toNatClampNeg).map (fun i => ([(.int bx_), (.int by_), (.int bz_)] : List Value).getD ((0 : Int32).toNatClampNeg + i) (.int (0 : Int32))) ++ ([(.int (0 : Int32)), (.int (0 : Int32)), (.int (0 : Int32)), (.int (0 : Int32)), (.int (0 : Int32)), (.int (0 : Int32)), (.int (0 : Int32)), (.int (0 : Int32)), (.int (0 : Int32)), (.int (0 : Int32)), (.int (0 : Int32)), (.int (0 : Int32)), (.int (0 : Int32)), (.int (0 : Int32)), (.int (0 : Int32)), (.int (0 : Int32))] : List Value).drop (((0 : Int32) * w).toNatClampNeg + w.toNatClampNeg)) = vn55 at A55 ln55
      show oG p e below _ (T55.setTop (mkF m 96 #[.val (.ref q), .val (.ref cb), .val (.ref t), .val (.int (2 : Int32)), .val (.int nd_), .val (.int (16 : Int32))] []))
      refine og (fun _ hr => XS.aloadN X55.here hx rfl (hb hby dc5_96) rfl rfl hr) ?_
      show oG p e below _ (T55.setTop (mkF m 97 #[.val (.ref q), .val (.ref cb), .val (.ref t), .val (.int (2 : Int32)), .val (.int nd_), .val (.int (16 : Int32))] [(.ref q)]))
      have f59 := (f49.keep K55 (ninS (Nat.ne_of_lt (Nat.lt_of_lt_of_le EQ.lt sz43_0)) nin0))
      obtain ⟨T60, X60, e60, st60⟩ := getF X55 hx hZ hown (host := "") (Or.inl (hw _ (own_m 34 rfl))) Via.refl e55 f59 (g := (mkF m 97 #[.val (.ref q), .val (.ref cb), .val (.ref t), .val (.int (2 : Int32)), .val (.int nd_), .val (.int (16 : Int32))] [(.ref q)])) rfl rfl (hb hby dc5_97)
      refine og st60 ?_
      show oG p e below _ (T60.setTop (mkF m 100 #[.val (.ref q), .val (.ref cb), .val (.ref t), .val (.int (2 : Int32)), .val (.int nd_), .val (.int (16 : Int32))] [(.ref S_)]))
      refine og (fun _ hr => XS.iloadN X60.here hx rfl (hb hby dc5_100) rfl hr) ?_
      show oG p e below _ (T60.setTop (mkF m 101 #[.val (.ref q), .val (.ref cb), .val (.ref t), .val (.int (2 : Int32)), .val (.int nd_), .val (.int (16 : Int32))] [(.int (2 : Int32)), (.ref S_)]))
      refine og (S' := T60.setTop (mkF m 102 #[.val (.ref q), .val (.ref cb), .val (.ref t), .val (.int (2 : Int32)), .val (.int nd_), .val (.int (16 : Int32))] [(.int (2 : Int32)), (.ref S_), (.int (2 : Int32)), (.ref S_)])) (fun _ hr => by
        jvm_step X60.here [X60.here.top, hx, (hb hby dc5_101), Value.category]
        exact hr) ?_
      show oG p e below _ (T60.setTop (mkF m 102 #[.val (.ref q), .val (.ref cb), .val (.ref t), .val (.int (2 : Int32)), .val (.int nd_), .val (.int (16 : Int32))] [(.int (2 : Int32)), (.ref S_), (.int (2 : Int32)), (.ref S_)]))
      have f61 := (f51.keep K55 (ninS (Nat.ne_of_lt (Nat.lt_of_lt_of_le VS.lt sz43_0)) nin0))
      refine og (fun _ hr => own_iaload X60 hx hZ e60 f61 (2 : Int32) (.int (0 : Int32)) ⟨by decide, by decide⟩ rfl rfl rfl (hb hby dc5_102) (XS.iconst X60.here hx rfl (hb hby dc5_103) (XS.iadd X60.here hx rfl (hb hby dc5_104) rfl hr))) ?_
      show oG p e below _ (T60.setTop (mkF m 105 #[.val (.ref q), .val (.ref cb), .val (.ref t), .val (.int (2 : Int32)), .val (.int nd_), .val (.int (16 : Int32))] [(.int (1 : Int32)), (.int (2 : Int32)), (.ref S_)]))
      refine own_stI X60 hx hZ e60 f61 (2 : Int32) (1 : Int32) 2 ⟨by decide, by decide⟩ rfl (Nat.le_of_ble_eq_true rfl)  [(.int s0_), (.int s1_), (.int (1 : Int32)), (.int s3_)] rfl N55 ge_S_ (hb hby dc5_105) ?_
      intro T62 h62 L62 X62 e62 W62 N62 f62
      show oG p e below _ (T62.setTop (mkF m 106 #[.val (.ref q), .val (.ref cb), .val (.ref t), .val (.int (2 : Int32)), .val (.int nd_), .val (.int (16 : Int32))] []))
      have K63 := ((((K0.trans K43 all0).wr W46 (Or.inl (List.mem_of_getElem? (i := 0) rfl))).trans K55 (allS (Or.inr sz44) all0)).wr W62 (Or.inl (List.mem_of_getElem? (i := 1) rfl)))
      have f64 := (EQ.keep K63)
      have f65 := ((f47.keep K55 (ninS (Nat.ne_of_lt (Nat.lt_of_lt_of_le EQ.lt sz43_0)) nin0)).other W62 (Or.inl ne_q_S_))
      have f66 := (f59.other W62 (Or.inl ne_q_S_))
      have f67 := ((f52.keep K55 (ninS (Nat.ne_of_lt (Nat.lt_of_lt_of_le EQ.lt sz43_0)) nin0)).other W62 (Or.inl ne_q_S_))
      have f68 := ((f46.keep K55 (ninS (Nat.ne_of_lt (Nat.lt_of_lt_of_le VC.lt sz43_0)) nin0)).other W62 ne_C__S_)
      have f69 := ((((VD0.keep K43 nin0).other W46 (Ne.symm ne_C__d0_)).keep K55 (ninS (Nat.ne_of_lt (Nat.lt_of_lt_of_le VD0.lt sz43_0)) nin0)).other W62 (Ne.symm ne_S__d0_))
      have f70 := ((((VD1.keep K43 nin0).other W46 (Ne.symm ne_C__d1_)).keep K55 (ninS (Nat.ne_of_lt (Nat.lt_of_lt_of_le VD1.lt sz43_0)) nin0)).other W62 (Ne.symm ne_S__d1_))
      have f71 := (A55.other W62 (Ne.symm (Nat.ne_of_lt (Nat.lt_of_lt_of_le VS.lt sz43_0))))
      have f72 := ((((VD3.keep K43 nin0).other W46 (Ne.symm ne_C__d3_)).keep K55 (ninS (Nat.ne_of_lt (Nat.lt_of_lt_of_le VD3.lt sz43_0)) nin0)).other W62 (Ne.symm ne_S__d3_))
      have f73 := ((f56.keep K55 (ninS (Nat.ne_of_lt (Nat.lt_of_lt_of_le VB.lt sz43_0)) nin0)).other W62 ne_cb_S_)
      have om74 : 0 ≤ s0_.toInt := by
        have q0 := rng32 s0_
        have r0 := rng32 s0_
        have q1 := rng32 w
        have r1 := rng32 w
        have q2 := c_imul (1 : Int32) w
        have r2 := rng32 ((1 : Int32) * w)
        have q3 := congrArg Int32.toInt hnd_
        have r3 := rng32 nd_
        have q4 := c_imul (0 : Int32) w
        have r4 := rng32 ((0 : Int32) * w)
        have p0 := hw0
        have p1 := hw3
        have p2 := c36
        have p3 := c41
        have p4 := c58
        try simp only [true_implies, Int32.lt_iff_toInt_lt, ← Int32.toInt_inj, Int32.reduceToInt, Int64.lt_iff_toInt_lt, ← Int64.toInt_inj, Int64.reduceToInt] at q0 q1 q2 q3 q4 p0 p1 p2 p3 p4
        first | omega | (simp only [Int32.reduceToInt, ← Int32.toInt_inj] <;> omega) | decide
      have om75 : 0 ≤ s1_.toInt := by
        have q0 := rng32 s1_
        have r0 := rng32 s1_
        have q1 := rng32 w
        have r1 := rng32 w
        have q2 := c_imul (1 : Int32) w
        have r2 := rng32 ((1 : Int32) * w)
        have q3 := congrArg Int32.toInt hnd_
        have r3 := rng32 nd_
        have q4 := c_imul (0 : Int32) w
        have r4 := rng32 ((0 : Int32) * w)
        have p0 := hw0
        have p1 := hw3
        have p2 := c36
        have p3 := c41
        have p4 := c58
        try simp only [true_implies, Int32.lt_iff_toInt_lt, ← Int32.toInt_inj, Int32.reduceToInt, Int64.lt_iff_toInt_lt, ← Int64.toInt_inj, Int64.reduceToInt] at q0 q1 q2 q3 q4 p0 p1 p2 p3 p4
        first | omega | (simp only [Int32.reduceToInt, ← Int32.toInt_inj] <;> omega) | decide
      have om76 : 0 ≤ (1 : Int32).toInt := by
        have q0 := rng32 w
        have r0 := rng32 w
        have q1 := c_imul (1 : Int32) w
        have r1 := rng32 ((1 : Int32) * w)
        have q2 := congrArg Int32.toInt hnd_
        have r2 := rng32 nd_
        have q3 := c_imul (0 : Int32) w
        have r3 := rng32 ((0 : Int32) * w)
        have p0 := hw0
        have p1 := hw3
        have p2 := c36
        have p3 := c41
        have p4 := c58
        try simp only [true_implies, Int32.lt_iff_toInt_lt, ← Int32.toInt_inj, Int32.reduceToInt, Int64.lt_iff_toInt_lt, ← Int64.toInt_inj, Int64.reduceToInt] at q0 q1 q2 q3 p0 p1 p2 p3 p4
        first | omega | (simp only [Int32.reduceToInt, ← Int32.toInt_inj] <;> omega) | decide
      have om77 : 0 ≤ s3_.toInt := by
        have q0 := rng32 s3_
        have r0 := rng32 s3_
        have q1 := rng32 w
        have r1 := rng32 w
        have q2 := c_imul (1 : Int32) w
        have r2 := rng32 ((1 : Int32) * w)
        have q3 := congrArg Int32.toInt hnd_
        have r3 := rng32 nd_
        have q4 := c_imul (0 : Int32) w
        have r4 := rng32 ((0 : Int32) * w)
        have p0 := hw0
        have p1 := hw3
        have p2 := c36
        have p3 := c41
        have p4 := c58
        try simp only [true_implies, Int32.lt_iff_toInt_lt, ← Int32.toInt_inj, Int32.reduceToInt, Int64.lt_iff_toInt_lt, ← Int64.toInt_inj, Int64.reduceToInt] at q0 q1 q2 q3 q4 p0 p1 p2 p3 p4
        first | omega | (simp only [Int32.reduceToInt, ← Int32.toInt_inj] <;> omega) | decide
      have om78 : s0_.toInt + s1_.toInt + (1 : Int32).toInt + s3_.toInt = cnt2.toInt := by
        have q0 := rng32 s0_
        have r0 := rng32 s0_
        have q1 := rng32 s1_
        have r1 := rng32 s1_
        have q2 := rng32 s3_
        have r2 := rng32 s3_
        have q3 := rng32 w
        have r3 := rng32 w
        have q4 := c_imul (1 : Int32) w
        have r4 := rng32 ((1 : Int32) * w)
        have q5 := congrArg Int32.toInt hnd_
        have r5 := rng32 nd_
        have q6 := c_imul (0 : Int32) w
        have r6 := rng32 ((0 : Int32) * w)
        have p0 := hw0
        have p1 := hw3
        have p2 := c36
        have p3 := c41
        have p4 := c58
        try simp only [true_implies, Int32.lt_iff_toInt_lt, ← Int32.toInt_inj, Int32.reduceToInt, Int64.lt_iff_toInt_lt, ← Int64.toInt_inj, Int64.reduceToInt] at q0 q1 q2 q3 q4 q5 q6 p0 p1 p2 p3 p4
        first | omega | (simp only [Int32.reduceToInt, ← Int32.toInt_inj] <;> omega) | decide
      exact own_ret0 X62 hx hlk Bd.returns (hb hby dc5_106) (by decide) (by decide) (by rw [e62]; exact ⟨rfl, N62, [C_, S_, d0_, d1_, d2_, d3_], K63, (fun x hx_ => by simp only [List.mem_cons, List.not_mem_nil, or_false] at hx_; rcases hx_ with rfl | rfl | rfl | rfl | rfl | rfl <;> assumption), ⟨C_, S_, d0_, d1_, b43_0, d3_, kC_, kS_, kb_, e0_, e1_, kb43_0, e3_, s0_, s1_, (1 : Int32), s3_, m0_, m1_, (16 : Int32), m3_, bx_, by_, bz_, v0_, v1_, vn55, v3_, f64, f65, f66, f67, f68, OV, f62, f69, f70, f71, f72, f73, g_C_, g_S_, g_d0_, g_d1_, (Nat.le_trans (Nat.le_trans g_C_ (Nat.le_of_lt VC.lt)) sz44), g_d3_, ne_C__S_, ne_C__d0_, ne_C__d1_, (Nat.ne_of_lt (Nat.lt_of_lt_of_le VC.lt sz43_0)), ne_C__d3_, ne_S__d0_, ne_S__d1_, (Nat.ne_of_lt (Nat.lt_of_lt_of_le VS.lt sz43_0)), ne_S__d3_, ne_d0__d1_, (Nat.ne_of_lt (Nat.lt_of_lt_of_le VD0.lt sz43_0)), ne_d0__d3_, (Nat.ne_of_lt (Nat.lt_of_lt_of_le VD1.lt sz43_0)), ne_d1__d3_, (Ne.symm (Nat.ne_of_lt (Nat.lt_of_lt_of_le VD3.lt sz43_0))), ne_cb_C_, ne_cb_S_, ne_cb_d0_, ne_cb_d1_, (Nat.ne_of_lt (Nat.lt_of_lt_of_le VB.lt sz43_0)), ne_cb_d3_, ne_q_C_, ne_q_S_, ne_q_d0_, ne_q_d1_, (Nat.ne_of_lt (Nat.lt_of_lt_of_le EQ.lt sz43_0)), ne_q_d3_, om74, om75, om76, om77, om78, iM0_, iM1_, (Or.inl rfl), iM3_, iL0_, iL1_, ln55, iL3_, WB⟩⟩)
    refine og (fun _ hr => XS.icmpYes X35.here hx rfl (pc0 := 29) (pc' := 70) rfl (hb hby dc5_29) rfl (flt c36).2.2.2 (by decide) (by decide) hr) ?_
    show oG p e below _ (T35.setTop (mkF m 70 #[.val (.ref q), .val (.ref cb), .val (.ref t), .val (.int (2 : Int32)), .val (.int nd_), .unset] []))
    refine og (fun _ hr => XS.aloadN X35.here hx rfl (hb hby dc5_70) rfl rfl (XS.iconst X35.here hx rfl (hb hby dc5_71) (XS.aloadN X35.here hx rfl (hb hby dc5_72) rfl rfl hr))) ?_
    show oG p e below _ (T35.setTop (mkF m 73 #[.val (.ref q), .val (.ref cb), .val (.ref t), .val (.int (2 : Int32)), .val (.int nd_), .unset] [(.ref q), (.int (0 : Int32)), (.ref cb)]))
    obtain ⟨T79, X79, e79, st79⟩ := getF X35 hx hZ hown (host := "") (Or.inl (hw _ (own_m 32 rfl))) Via.refl e35 FC (g := (mkF m 73 #[.val (.ref q), .val (.ref cb), .val (.ref t), .val (.int (2 : Int32)), .val (.int nd_), .unset] [(.ref q), (.int (0 : Int32)), (.ref cb)])) rfl rfl (hb hby dc5_73)
    refine og st79 ?_
    show oG p e below _ (T79.setTop (mkF m 76 #[.val (.ref q), .val (.ref cb), .val (.ref t), .val (.int (2 : Int32)), .val (.int nd_), .unset] [(.ref C_), (.int (0 : Int32)), (.ref cb)]))
    refine og (fun _ hr => XS.iloadN X79.here hx rfl (hb hby dc5_76) rfl (own_aaload X79 hx hZ e79 VC (2 : Int32) (.ref d2_) ⟨by decide, by decide⟩ rfl rfl rfl rfl (hb hby dc5_77) (XS.aloadN X79.here hx rfl (hb hby dc5_78) rfl rfl hr))) ?_
    show oG p e below _ (T79.setTop (mkF m 79 #[.val (.ref q), .val (.ref cb), .val (.ref t), .val (.int (2 : Int32)), .val (.int nd_), .unset] [(.ref q), (.ref d2_), (.int (0 : Int32)), (.ref cb)]))
    obtain ⟨T80, X80, e80, st80⟩ := getF X79 hx hZ hown (host := "") (Or.inl (hw _ (own_m 34 rfl))) Via.refl e79 FS (g := (mkF m 79 #[.val (.ref q), .val (.ref cb), .val (.ref t), .val (.int (2 : Int32)), .val (.int nd_), .unset] [(.ref q), (.ref d2_), (.int (0 : Int32)), (.ref cb)])) rfl rfl (hb hby dc5_79)
    refine og st80 ?_
    show oG p e below _ (T80.setTop (mkF m 82 #[.val (.ref q), .val (.ref cb), .val (.ref t), .val (.int (2 : Int32)), .val (.int nd_), .unset] [(.ref S_), (.ref d2_), (.int (0 : Int32)), (.ref cb)]))
    refine og (fun _ hr => XS.iloadN X80.here hx rfl (hb hby dc5_82) rfl (own_iaload X80 hx hZ e80 VS (2 : Int32) (.int (0 : Int32)) ⟨by decide, by decide⟩ rfl rfl rfl (hb hby dc5_83) (XS.aloadN X80.here hx rfl (hb hby dc5_84) rfl rfl hr))) ?_
    show oG p e below _ (T80.setTop (mkF m 85 #[.val (.ref q), .val (.ref cb), .val (.ref t), .val (.int (2 : Int32)), .val (.int nd_), .unset] [(.ref q), (.int (0 : Int32)), (.ref d2_), (.int (0 : Int32)), (.ref cb)]))
    obtain ⟨T81, X81, e81, st81⟩ := getF X80 hx hZ hown (host := "") (Or.inl (hw _ (own_m 36 rfl))) Via.refl e80 FW (g := (mkF m 85 #[.val (.ref q), .val (.ref cb), .val (.ref t), .val (.int (2 : Int32)), .val (.int nd_), .unset] [(.ref q), (.int (0 : Int32)), (.ref d2_), (.int (0 : Int32)), (.ref cb)])) rfl rfl (hb hby dc5_85)
    refine og st81 ?_
    show oG p e below _ (T81.setTop (mkF m 88 #[.val (.ref q), .val (.ref cb), .val (.ref t), .val (.int (2 : Int32)), .val (.int nd_), .unset] [(.int w), (.int (0 : Int32)), (.ref d2_), (.int (0 : Int32)), (.ref cb)]))
    refine og (fun _ hr => XS.imul X81.here hx rfl (hb hby dc5_88) rfl (XS.aloadN X81.here hx rfl (hb hby dc5_89) rfl rfl hr)) ?_
    show oG p e below _ (T81.setTop (mkF m 90 #[.val (.ref q), .val (.ref cb), .val (.ref t), .val (.int (2 : Int32)), .val (.int nd_), .unset] [(.ref q), (.int ((0 : Int32) * w)), (.ref d2_), (.int (0 : Int32)), (.ref cb)]))
    obtain ⟨T82, X82, e82, st82⟩ := getF X81 hx hZ hown (host := "") (Or.inl (hw _ (own_m 36 rfl))) Via.refl e81 FW (g := (mkF m 90 #[.val (.ref q), .val (.ref cb), .val (.ref t), .val (.int (2 : Int32)), .val (.int nd_), .unset] [(.ref q), (.int ((0 : Int32) * w)), (.ref d2_), (.int (0 : Int32)), (.ref cb)])) rfl rfl (hb hby dc5_90)
    refine og st82 ?_
    show oG p e below _ (T82.setTop (mkF m 93 #[.val (.ref q), .val (.ref cb), .val (.ref t), .val (.int (2 : Int32)), .val (.int nd_), .unset] [(.int w), (.int ((0 : Int32) * w)), (.ref d2_), (.int (0 : Int32)), (.ref cb)]))
    have c84 : ¬ (((0 : Int32) * w) < (0 : Int32)) := by
      have q0 := rng32 w
      have q1 := c_imul (1 : Int32) w
      have r1 := rng32 ((1 : Int32) * w)
      have q2 := congrArg Int32.toInt hnd_
      have q3 := c_imul (0 : Int32) w
      have r3 := rng32 ((0 : Int32) * w)
      have p0 := hw0
      have p1 := hw3
      have p2 := c36
      simp only [true_implies, Int32.lt_iff_toInt_lt, ← Int32.toInt_inj, Int32.reduceToInt, Int64.lt_iff_toInt_lt, ← Int64.toInt_inj, Int64.reduceToInt] at q0 q1 q2 q3 p0 p1 p2 ⊢
      omega
    have le83 : ((0 : Int32) * w).toInt + w.toInt ≤ (0 : Int32).toInt ∧ w.toInt ≤ 3 ∧ 0 ≤ ((0 : Int32) * w).toInt ∧ 0 ≤ w.toInt ∧ 0 ≤ (0 : Int32).toInt := by
      have q0 := rng32 w
      have r0 := rng32 w
      have q1 := c_imul (0 : Int32) w
      have r1 := rng32 ((0 : Int32) * w)
      have q2 := c_imul (1 : Int32) w
      have r2 := rng32 ((1 : Int32) * w)
      have q3 := congrArg Int32.toInt hnd_
      have r3 := rng32 nd_
      have p0 := hw0
      have p1 := hw3
      have p2 := c36
      have p3 := c84
      try simp only [true_implies, Int32.lt_iff_toInt_lt, ← Int32.toInt_inj, Int32.reduceToInt, Int64.lt_iff_toInt_lt, ← Int64.toInt_inj, Int64.reduceToInt] at q0 q1 q2 q3 p0 p1 p2 p3
      try simp only [Int32.reduceToInt]
      omega
    have lf83 : ((0 : Int32) * w).toNatClampNeg + w.toNatClampNeg ≤ (0 : Int32).toNatClampNeg ∧ (0 : Int32).toNatClampNeg + w.toNatClampNeg ≤ (3 : Int32).toNatClampNeg := by
      have := own_tn ((0 : Int32) * w) (by omega)
      have := own_tn w (by omega)
      have := own_tn (0 : Int32) (by omega)
      have z0 : (0 : Int32).toNatClampNeg = 0 := rfl
      have z3 : (3 : Int32).toNatClampNeg = 3 := rfl
      omega
    have ll83 : ([] : List Value).length = (0 : Int32).toNatClampNeg := (by decide)
    obtain ⟨T83, h83, L83, X83, e83, N83, K83, A83, st83⟩ := cpA X82 hx hZ hown (hw _ (own_m 58 rfl)) (hw _ (own_m 61 rfl)) (hw _ (own_m 59 rfl)) (hw _ (own_m 60 rfl)) e82 VB VD2 (us := _) (Or.inl ⟨rfl, rfl⟩) (by decide) c84 hw0 lf83.2 lf83.1 rfl (ll83 ▸ lf83.1) N32 ge_d2_ (g := (mkF m 93 #[.val (.ref q), .val (.ref cb), .val (.ref t), .val (.int (2 : Int32)), .val (.int nd_), .unset] [(.int w), (.int ((0 : Int32) * w)), (.ref d2_), (.int (0 : Int32)), (.ref cb)])) rfl (by rw [hml]; rfl) rfl (hb hby dc5_93) (by decide) (W := 0) (by show 2 * 0 + _ ≤ _; exact Nat.le_of_eq rfl) (by decide)
    refine og st83 ?_
    have ln83 := own_cplen (us := (List.range w.toNatClampNeg).map fun i => ([(.int bx_), (.int by_), (.int bz_)] : List Value).getD ((0 : Int32).toNatClampNeg + i) (.int (0 : Int32))) (ll83 ▸ lf83.1) (by simp) ll83
    generalize hvn83 : (([] : List Value).take ((0 : Int32) * w).toNatClampNeg ++ (List.range w.toNatClampNeg).map (fun i => ([(.int bx_), (.int by_), (.int bz_)] : List Value).getD ((0 : Int32).toNatClampNeg + i) (.int (0 : Int32))) ++ ([] : List Value).drop (((0 : Int32) * w).toNatClampNeg + w.toNatClampNeg)) = vn83 at A83 ln83
    show oG p e below _ (T83.setTop (mkF m 96 #[.val (.ref q), .val (.ref cb), .val (.ref t), .val (.int (2 : Int32)), .val (.int nd_), .unset] []))
    refine og (fun _ hr => XS.aloadN X83.here hx rfl (hb hby dc5_96) rfl rfl hr) ?_
    show oG p e below _ (T83.setTop (mkF m 97 #[.val (.ref q), .val (.ref cb), .val (.ref t), .val (.int (2 : Int32)), .val (.int nd_), .unset] [(.ref q)]))
    have f85 := (FS.keep K83 (ninS ne_q_d2_ nin0))
    obtain ⟨T86, X86, e86, st86⟩ := getF X83 hx hZ hown (host := "") (Or.inl (hw _ (own_m 34 rfl))) Via.refl e83 f85 (g := (mkF m 97 #[.val (.ref q), .val (.ref cb), .val (.ref t), .val (.int (2 : Int32)), .val (.int nd_), .unset] [(.ref q)])) rfl rfl (hb hby dc5_97)
    refine og st86 ?_
    show oG p e below _ (T86.setTop (mkF m 100 #[.val (.ref q), .val (.ref cb), .val (.ref t), .val (.int (2 : Int32)), .val (.int nd_), .unset] [(.ref S_)]))
    refine og (fun _ hr => XS.iloadN X86.here hx rfl (hb hby dc5_100) rfl hr) ?_
    show oG p e below _ (T86.setTop (mkF m 101 #[.val (.ref q), .val (.ref cb), .val (.ref t), .val (.int (2 : Int32)), .val (.int nd_), .unset] [(.int (2 : Int32)), (.ref S_)]))
    refine og (S' := T86.setTop (mkF m 102 #[.val (.ref q), .val (.ref cb), .val (.ref t), .val (.int (2 : Int32)), .val (.int nd_), .unset] [(.int (2 : Int32)), (.ref S_), (.int (2 : Int32)), (.ref S_)])) (fun _ hr => by
      jvm_step X86.here [X86.here.top, hx, (hb hby dc5_101), Value.category]
      exact hr) ?_
    show oG p e below _ (T86.setTop (mkF m 102 #[.val (.ref q), .val (.ref cb), .val (.ref t), .val (.int (2 : Int32)), .val (.int nd_), .unset] [(.int (2 : Int32)), (.ref S_), (.int (2 : Int32)), (.ref S_)]))
    have f87 := (VS.keep K83 (ninS ne_S__d2_ nin0))
    refine og (fun _ hr => own_iaload X86 hx hZ e86 f87 (2 : Int32) (.int (0 : Int32)) ⟨by decide, by decide⟩ rfl rfl rfl (hb hby dc5_102) (XS.iconst X86.here hx rfl (hb hby dc5_103) (XS.iadd X86.here hx rfl (hb hby dc5_104) rfl hr))) ?_
    show oG p e below _ (T86.setTop (mkF m 105 #[.val (.ref q), .val (.ref cb), .val (.ref t), .val (.int (2 : Int32)), .val (.int nd_), .unset] [(.int (1 : Int32)), (.int (2 : Int32)), (.ref S_)]))
    refine own_stI X86 hx hZ e86 f87 (2 : Int32) (1 : Int32) 2 ⟨by decide, by decide⟩ rfl (Nat.le_of_ble_eq_true rfl)  [(.int s0_), (.int s1_), (.int (1 : Int32)), (.int s3_)] rfl N83 ge_S_ (hb hby dc5_105) ?_
    intro T88 h88 L88 X88 e88 W88 N88 f88
    show oG p e below _ (T88.setTop (mkF m 106 #[.val (.ref q), .val (.ref cb), .val (.ref t), .val (.int (2 : Int32)), .val (.int nd_), .unset] []))
    have f89 := ((EQ.keep K83).wr W88)
    have f90 := ((FC.keep K83 (ninS ne_q_d2_ nin0)).other W88 (Or.inl ne_q_S_))
    have f91 := (f85.other W88 (Or.inl ne_q_S_))
    have f92 := ((FW.keep K83 (ninS ne_q_d2_ nin0)).other W88 (Or.inl ne_q_S_))
    have f93 := ((VC.keep K83 (ninS ne_C__d2_ nin0)).other W88 ne_C__S_)
    have f94 := ((VD0.keep K83 (ninS ne_d0__d2_ nin0)).other W88 (Ne.symm ne_S__d0_))
    have f95 := ((VD1.keep K83 (ninS ne_d1__d2_ nin0)).other W88 (Ne.symm ne_S__d1_))
    have f96 := (A83.other W88 (Ne.symm ne_S__d2_))
    have f97 := ((VD3.keep K83 (ninS (Ne.symm ne_d2__d3_) nin0)).other W88 (Ne.symm ne_S__d3_))
    have f98 := ((VB.keep K83 (ninS ne_cb_d2_ nin0)).other W88 ne_cb_S_)
    have om99 : 0 ≤ s0_.toInt := by
      have q0 := rng32 s0_
      have r0 := rng32 s0_
      have q1 := rng32 w
      have r1 := rng32 w
      have q2 := c_imul (1 : Int32) w
      have r2 := rng32 ((1 : Int32) * w)
      have q3 := congrArg Int32.toInt hnd_
      have r3 := rng32 nd_
      have q4 := c_imul (0 : Int32) w
      have r4 := rng32 ((0 : Int32) * w)
      have p0 := hw0
      have p1 := hw3
      have p2 := c36
      have p3 := c84
      try simp only [true_implies, Int32.lt_iff_toInt_lt, ← Int32.toInt_inj, Int32.reduceToInt, Int64.lt_iff_toInt_lt, ← Int64.toInt_inj, Int64.reduceToInt] at q0 q1 q2 q3 q4 p0 p1 p2 p3
      first | omega | (simp only [Int32.reduceToInt, ← Int32.toInt_inj] <;> omega) | decide
    have om100 : 0 ≤ s1_.toInt := by
      have q0 := rng32 s1_
      have r0 := rng32 s1_
      have q1 := rng32 w
      have r1 := rng32 w
      have q2 := c_imul (1 : Int32) w
      have r2 := rng32 ((1 : Int32) * w)
      have q3 := congrArg Int32.toInt hnd_
      have r3 := rng32 nd_
      have q4 := c_imul (0 : Int32) w
      have r4 := rng32 ((0 : Int32) * w)
      have p0 := hw0
      have p1 := hw3
      have p2 := c36
      have p3 := c84
      try simp only [true_implies, Int32.lt_iff_toInt_lt, ← Int32.toInt_inj, Int32.reduceToInt, Int64.lt_iff_toInt_lt, ← Int64.toInt_inj, Int64.reduceToInt] at q0 q1 q2 q3 q4 p0 p1 p2 p3
      first | omega | (simp only [Int32.reduceToInt, ← Int32.toInt_inj] <;> omega) | decide
    have om101 : 0 ≤ (1 : Int32).toInt := by
      have q0 := rng32 w
      have r0 := rng32 w
      have q1 := c_imul (1 : Int32) w
      have r1 := rng32 ((1 : Int32) * w)
      have q2 := congrArg Int32.toInt hnd_
      have r2 := rng32 nd_
      have q3 := c_imul (0 : Int32) w
      have r3 := rng32 ((0 : Int32) * w)
      have p0 := hw0
      have p1 := hw3
      have p2 := c36
      have p3 := c84
      try simp only [true_implies, Int32.lt_iff_toInt_lt, ← Int32.toInt_inj, Int32.reduceToInt, Int64.lt_iff_toInt_lt, ← Int64.toInt_inj, Int64.reduceToInt] at q0 q1 q2 q3 p0 p1 p2 p3
      first | omega | (simp only [Int32.reduceToInt, ← Int32.toInt_inj] <;> omega) | decide
    have om102 : 0 ≤ s3_.toInt := by
      have q0 := rng32 s3_
      have r0 := rng32 s3_
      have q1 := rng32 w
      have r1 := rng32 w
      have q2 := c_imul (1 : Int32) w
      have r2 := rng32 ((1 : Int32) * w)
      have q3 := congrArg Int32.toInt hnd_
      have r3 := rng32 nd_
      have q4 := c_imul (0 : Int32) w
      have r4 := rng32 ((0 : Int32) * w)
      have p0 := hw0
      have p1 := hw3
      have p2 := c36
      have p3 := c84
      try simp only [true_implies, Int32.lt_iff_toInt_lt, ← Int32.toInt_inj, Int32.reduceToInt, Int64.lt_iff_toInt_lt, ← Int64.toInt_inj, Int64.reduceToInt] at q0 q1 q2 q3 q4 p0 p1 p2 p3
      first | omega | (simp only [Int32.reduceToInt, ← Int32.toInt_inj] <;> omega) | decide
    have om103 : s0_.toInt + s1_.toInt + (1 : Int32).toInt + s3_.toInt = cnt2.toInt := by
      have q0 := rng32 s0_
      have r0 := rng32 s0_
      have q1 := rng32 s1_
      have r1 := rng32 s1_
      have q2 := rng32 s3_
      have r2 := rng32 s3_
      have q3 := rng32 w
      have r3 := rng32 w
      have q4 := c_imul (1 : Int32) w
      have r4 := rng32 ((1 : Int32) * w)
      have q5 := congrArg Int32.toInt hnd_
      have r5 := rng32 nd_
      have q6 := c_imul (0 : Int32) w
      have r6 := rng32 ((0 : Int32) * w)
      have p0 := hw0
      have p1 := hw3
      have p2 := c36
      have p3 := c84
      try simp only [true_implies, Int32.lt_iff_toInt_lt, ← Int32.toInt_inj, Int32.reduceToInt, Int64.lt_iff_toInt_lt, ← Int64.toInt_inj, Int64.reduceToInt] at q0 q1 q2 q3 q4 q5 q6 p0 p1 p2 p3
      first | omega | (simp only [Int32.reduceToInt, ← Int32.toInt_inj] <;> omega) | decide
    have om104 : w = (0 : Int32) := by
      have q0 := rng32 w
      have r0 := rng32 w
      have q1 := c_imul (1 : Int32) w
      have r1 := rng32 ((1 : Int32) * w)
      have q2 := congrArg Int32.toInt hnd_
      have r2 := rng32 nd_
      have q3 := c_imul (0 : Int32) w
      have r3 := rng32 ((0 : Int32) * w)
      have p0 := hw0
      have p1 := hw3
      have p2 := c36
      have p3 := c84
      try simp only [true_implies, Int32.lt_iff_toInt_lt, ← Int32.toInt_inj, Int32.reduceToInt, Int64.lt_iff_toInt_lt, ← Int64.toInt_inj, Int64.reduceToInt] at q0 q1 q2 q3 p0 p1 p2 p3
      first | omega | (simp only [Int32.reduceToInt, ← Int32.toInt_inj] <;> omega) | decide
    have K105 := ((K0.trans K83 (allS (Or.inl (List.mem_of_getElem? (i := 4) rfl)) all0)).wr W88 (Or.inl (List.mem_of_getElem? (i := 1) rfl)))
    exact own_ret0 X88 hx hlk Bd.returns (hb hby dc5_106) (by decide) (by decide) (by rw [e88]; exact ⟨rfl, N88, [C_, S_, d0_, d1_, d2_, d3_], K105, (fun x hx_ => by simp only [List.mem_cons, List.not_mem_nil, or_false] at hx_; rcases hx_ with rfl | rfl | rfl | rfl | rfl | rfl <;> assumption), ⟨C_, S_, d0_, d1_, d2_, d3_, kC_, kS_, kb_, e0_, e1_, e2_, e3_, s0_, s1_, (1 : Int32), s3_, m0_, m1_, (0 : Int32), m3_, bx_, by_, bz_, v0_, v1_, vn83, v3_, f89, f90, f91, f92, f93, OV, f88, f94, f95, f96, f97, f98, g_C_, g_S_, g_d0_, g_d1_, g_d2_, g_d3_, ne_C__S_, ne_C__d0_, ne_C__d1_, ne_C__d2_, ne_C__d3_, ne_S__d0_, ne_S__d1_, ne_S__d2_, ne_S__d3_, ne_d0__d1_, ne_d0__d2_, ne_d0__d3_, ne_d1__d2_, ne_d1__d3_, ne_d2__d3_, ne_cb_C_, ne_cb_S_, ne_cb_d0_, ne_cb_d1_, ne_cb_d2_, ne_cb_d3_, ne_q_C_, ne_q_S_, ne_q_d0_, ne_q_d1_, ne_q_d2_, ne_q_d3_, om99, om100, om101, om102, om103, iM0_, iM1_, (Or.inr ⟨rfl, Or.inr om104⟩), iM3_, iL0_, iL1_, ln83, iL3_, WB⟩⟩)
  · subst hm
    obtain rfl : v2_ = [] := List.eq_nil_of_length_eq_zero (iL2_.trans rfl)
    show oG p e below _ (s₁.setTop (mkF m 0 #[.val (.ref q), .val (.ref cb), .val (.ref t), .unset, .unset, .unset] []))
    refine og (fun _ hr => XS.aloadN X0.here hx rfl (hb hby dc5_0) rfl rfl hr) ?_
    show oG p e below _ (s₁.setTop (mkF m 1 #[.val (.ref q), .val (.ref cb), .val (.ref t), .unset, .unset, .unset] [(.ref t)]))
    refine own_cu X0 hx hZ hown (hw _ (own_m 49 rfl)) (hw _ (own_m 50 rfl)) (hw _ (own_m 51 rfl)) (hw _ (own_m 53 rfl)) (hw _ (own_m 52 rfl)) (hw _ (own_m 54 rfl)) (hw _ (own_m 55 rfl)) (by decide) Et (rm := { frames := 0, cells := 0, slots := 0, locals := 0 }) (rm_ordinal_6 l Z a0 hw [] t h0 n0 Z0 Ft) (by decide) (W := 0) (by decide) (by decide) (by decide) e0 (by rw [hml]; rfl) (argsL := []) (lenOf own_pd0 rfl) (rest := []) rfl rfl (Nat.le_of_eq rfl) (hb hby dc5_1) ?_
    intro _ T106 L106 X106 hQ106
    obtain ⟨rfl, N106q, e106⟩ := hQ106
    have N106 := Fr.app N0 N106q
    show oG p e below _ (T106.setTop (mkF m 4 #[.val (.ref q), .val (.ref cb), .val (.ref t), .unset, .unset, .unset] [(.int (2 : Int32))]))
    refine og (fun _ hr => XS.istoreN X106.here hx rfl (hb hby dc5_4) rfl (l' := #[.val (.ref q), .val (.ref cb), .val (.ref t), .val (.int (2 : Int32)), .unset, .unset]) rfl (XS.aloadN X106.here hx rfl (hb hby dc5_5) rfl rfl hr)) ?_
    show oG p e below _ (T106.setTop (mkF m 6 #[.val (.ref q), .val (.ref cb), .val (.ref t), .val (.int (2 : Int32)), .unset, .unset] [(.ref q)]))
    obtain ⟨T107, X107, e107, st107⟩ := getF X106 hx hZ hown (host := "") (Or.inl (hw _ (own_m 34 rfl))) Via.refl e106 FS (g := (mkF m 6 #[.val (.ref q), .val (.ref cb), .val (.ref t), .val (.int (2 : Int32)), .unset, .unset] [(.ref q)])) rfl rfl (hb hby dc5_6)
    refine og st107 ?_
    show oG p e below _ (T107.setTop (mkF m 9 #[.val (.ref q), .val (.ref cb), .val (.ref t), .val (.int (2 : Int32)), .unset, .unset] [(.ref S_)]))
    refine og (fun _ hr => XS.iloadN X107.here hx rfl (hb hby dc5_9) rfl (own_iaload X107 hx hZ e107 VS (2 : Int32) (.int s2_) ⟨by decide, by decide⟩ rfl rfl rfl (hb hby dc5_10) (XS.iconst X107.here hx rfl (hb hby dc5_11) (XS.iadd X107.here hx rfl (hb hby dc5_12) rfl (XS.aloadN X107.here hx rfl (hb hby dc5_13) rfl rfl hr))))) ?_
    show oG p e below _ (T107.setTop (mkF m 14 #[.val (.ref q), .val (.ref cb), .val (.ref t), .val (.int (2 : Int32)), .unset, .unset] [(.ref q), (.int (s2_ + (1 : Int32)))]))
    obtain ⟨T108, X108, e108, st108⟩ := getF X107 hx hZ hown (host := "") (Or.inl (hw _ (own_m 36 rfl))) Via.refl e107 FW (g := (mkF m 14 #[.val (.ref q), .val (.ref cb), .val (.ref t), .val (.int (2 : Int32)), .unset, .unset] [(.ref q), (.int (s2_ + (1 : Int32)))])) rfl rfl (hb hby dc5_14)
    refine og st108 ?_
    show oG p e below _ (T108.setTop (mkF m 17 #[.val (.ref q), .val (.ref cb), .val (.ref t), .val (.int (2 : Int32)), .unset, .unset] [(.int w), (.int (s2_ + (1 : Int32)))]))
    refine og (fun _ hr => XS.imul X108.here hx rfl (hb hby dc5_17) rfl (XS.istore X108.here hx rfl (hb hby dc5_18) rfl (l' := #[.val (.ref q), .val (.ref cb), .val (.ref t), .val (.int (2 : Int32)), .val (.int ((s2_ + (1 : Int32)) * w)), .unset]) rfl hr)) ?_
    show oG p e below _ (T108.setTop (mkF m 20 #[.val (.ref q), .val (.ref cb), .val (.ref t), .val (.int (2 : Int32)), .val (.int ((s2_ + (1 : Int32)) * w)), .unset] []))
    generalize hnd_ : ((s2_ + (1 : Int32)) * w) = nd_
    refine og (fun _ hr => XS.iload X108.here hx rfl (hb hby dc5_20) rfl (XS.aloadN X108.here hx rfl (hb hby dc5_22) rfl rfl hr)) ?_
    show oG p e below _ (T108.setTop (mkF m 23 #[.val (.ref q), .val (.ref cb), .val (.ref t), .val (.int (2 : Int32)), .val (.int nd_), .unset] [(.ref q), (.int nd_)]))
    obtain ⟨T109, X109, e109, st109⟩ := getF X108 hx hZ hown (host := "") (Or.inl (hw _ (own_m 32 rfl))) Via.refl e108 FC (g := (mkF m 23 #[.val (.ref q), .val (.ref cb), .val (.ref t), .val (.int (2 : Int32)), .val (.int nd_), .unset] [(.ref q), (.int nd_)])) rfl rfl (hb hby dc5_23)
    refine og st109 ?_
    show oG p e below _ (T109.setTop (mkF m 26 #[.val (.ref q), .val (.ref cb), .val (.ref t), .val (.int (2 : Int32)), .val (.int nd_), .unset] [(.ref C_), (.int nd_)]))
    refine og (fun _ hr => XS.iloadN X109.here hx rfl (hb hby dc5_26) rfl (own_aaload X109 hx hZ e109 VC (2 : Int32) (.ref d2_) ⟨by decide, by decide⟩ rfl rfl rfl rfl (hb hby dc5_27) (own_alen X109 hx hZ e109 VD2 rfl rfl (hb hby dc5_28) hr))) ?_
    show oG p e below _ (T109.setTop (mkF m 29 #[.val (.ref q), .val (.ref cb), .val (.ref t), .val (.int (2 : Int32)), .val (.int nd_), .unset] [(.int (0 : Int32)), (.int nd_)]))
    have c110 : ¬ ((0 : Int32) < nd_) := by
      have q0 := rng32 w
      have q1 := rng32 s2_
      have q2 := c_iadd s2_ (1 : Int32)
      have r2 := rng32 (s2_ + (1 : Int32))
      have q3 := own_prod (s2_ + (1 : Int32)) w
      have r3 := rng32 ((s2_ + (1 : Int32)) * w)
      have q4 := congrArg Int32.toInt hnd_
      have p0 := hw0
      have p1 := hw3
      have p2 := hp0
      have p3 := hp3
      have p4 := hz
      simp only [true_implies, Int32.lt_iff_toInt_lt, ← Int32.toInt_inj, Int32.reduceToInt, Int64.lt_iff_toInt_lt, ← Int64.toInt_inj, Int64.reduceToInt] at q0 q1 q2 q3 q4 p0 p1 p2 p3 p4 ⊢
      omega
    refine og (fun _ hr => XS.icmpYes X109.here hx rfl (pc0 := 29) (pc' := 70) rfl (hb hby dc5_29) rfl (flt c110).2.2.2 (by decide) (by decide) hr) ?_
    show oG p e below _ (T109.setTop (mkF m 70 #[.val (.ref q), .val (.ref cb), .val (.ref t), .val (.int (2 : Int32)), .val (.int nd_), .unset] []))
    refine og (fun _ hr => XS.aloadN X109.here hx rfl (hb hby dc5_70) rfl rfl (XS.iconst X109.here hx rfl (hb hby dc5_71) (XS.aloadN X109.here hx rfl (hb hby dc5_72) rfl rfl hr))) ?_
    show oG p e below _ (T109.setTop (mkF m 73 #[.val (.ref q), .val (.ref cb), .val (.ref t), .val (.int (2 : Int32)), .val (.int nd_), .unset] [(.ref q), (.int (0 : Int32)), (.ref cb)]))
    obtain ⟨T111, X111, e111, st111⟩ := getF X109 hx hZ hown (host := "") (Or.inl (hw _ (own_m 32 rfl))) Via.refl e109 FC (g := (mkF m 73 #[.val (.ref q), .val (.ref cb), .val (.ref t), .val (.int (2 : Int32)), .val (.int nd_), .unset] [(.ref q), (.int (0 : Int32)), (.ref cb)])) rfl rfl (hb hby dc5_73)
    refine og st111 ?_
    show oG p e below _ (T111.setTop (mkF m 76 #[.val (.ref q), .val (.ref cb), .val (.ref t), .val (.int (2 : Int32)), .val (.int nd_), .unset] [(.ref C_), (.int (0 : Int32)), (.ref cb)]))
    refine og (fun _ hr => XS.iloadN X111.here hx rfl (hb hby dc5_76) rfl (own_aaload X111 hx hZ e111 VC (2 : Int32) (.ref d2_) ⟨by decide, by decide⟩ rfl rfl rfl rfl (hb hby dc5_77) (XS.aloadN X111.here hx rfl (hb hby dc5_78) rfl rfl hr))) ?_
    show oG p e below _ (T111.setTop (mkF m 79 #[.val (.ref q), .val (.ref cb), .val (.ref t), .val (.int (2 : Int32)), .val (.int nd_), .unset] [(.ref q), (.ref d2_), (.int (0 : Int32)), (.ref cb)]))
    obtain ⟨T112, X112, e112, st112⟩ := getF X111 hx hZ hown (host := "") (Or.inl (hw _ (own_m 34 rfl))) Via.refl e111 FS (g := (mkF m 79 #[.val (.ref q), .val (.ref cb), .val (.ref t), .val (.int (2 : Int32)), .val (.int nd_), .unset] [(.ref q), (.ref d2_), (.int (0 : Int32)), (.ref cb)])) rfl rfl (hb hby dc5_79)
    refine og st112 ?_
    show oG p e below _ (T112.setTop (mkF m 82 #[.val (.ref q), .val (.ref cb), .val (.ref t), .val (.int (2 : Int32)), .val (.int nd_), .unset] [(.ref S_), (.ref d2_), (.int (0 : Int32)), (.ref cb)]))
    refine og (fun _ hr => XS.iloadN X112.here hx rfl (hb hby dc5_82) rfl (own_iaload X112 hx hZ e112 VS (2 : Int32) (.int s2_) ⟨by decide, by decide⟩ rfl rfl rfl (hb hby dc5_83) (XS.aloadN X112.here hx rfl (hb hby dc5_84) rfl rfl hr))) ?_
    show oG p e below _ (T112.setTop (mkF m 85 #[.val (.ref q), .val (.ref cb), .val (.ref t), .val (.int (2 : Int32)), .val (.int nd_), .unset] [(.ref q), (.int s2_), (.ref d2_), (.int (0 : Int32)), (.ref cb)]))
    obtain ⟨T113, X113, e113, st113⟩ := getF X112 hx hZ hown (host := "") (Or.inl (hw _ (own_m 36 rfl))) Via.refl e112 FW (g := (mkF m 85 #[.val (.ref q), .val (.ref cb), .val (.ref t), .val (.int (2 : Int32)), .val (.int nd_), .unset] [(.ref q), (.int s2_), (.ref d2_), (.int (0 : Int32)), (.ref cb)])) rfl rfl (hb hby dc5_85)
    refine og st113 ?_
    show oG p e below _ (T113.setTop (mkF m 88 #[.val (.ref q), .val (.ref cb), .val (.ref t), .val (.int (2 : Int32)), .val (.int nd_), .unset] [(.int w), (.int s2_), (.ref d2_), (.int (0 : Int32)), (.ref cb)]))
    refine og (fun _ hr => XS.imul X113.here hx rfl (hb hby dc5_88) rfl (XS.aloadN X113.here hx rfl (hb hby dc5_89) rfl rfl hr)) ?_
    show oG p e below _ (T113.setTop (mkF m 90 #[.val (.ref q), .val (.ref cb), .val (.ref t), .val (.int (2 : Int32)), .val (.int nd_), .unset] [(.ref q), (.int (s2_ * w)), (.ref d2_), (.int (0 : Int32)), (.ref cb)]))
    obtain ⟨T114, X114, e114, st114⟩ := getF X113 hx hZ hown (host := "") (Or.inl (hw _ (own_m 36 rfl))) Via.refl e113 FW (g := (mkF m 90 #[.val (.ref q), .val (.ref cb), .val (.ref t), .val (.int (2 : Int32)), .val (.int nd_), .unset] [(.ref q), (.int (s2_ * w)), (.ref d2_), (.int (0 : Int32)), (.ref cb)])) rfl rfl (hb hby dc5_90)
    refine og st114 ?_
    show oG p e below _ (T114.setTop (mkF m 93 #[.val (.ref q), .val (.ref cb), .val (.ref t), .val (.int (2 : Int32)), .val (.int nd_), .unset] [(.int w), (.int (s2_ * w)), (.ref d2_), (.int (0 : Int32)), (.ref cb)]))
    have c116 : ¬ ((s2_ * w) < (0 : Int32)) := by
      have q0 := rng32 w
      have q1 := rng32 s2_
      have q2 := c_iadd s2_ (1 : Int32)
      have r2 := rng32 (s2_ + (1 : Int32))
      have q3 := own_prod (s2_ + (1 : Int32)) w
      have r3 := rng32 ((s2_ + (1 : Int32)) * w)
      have q4 := congrArg Int32.toInt hnd_
      have q5 := own_prod s2_ w
      have r5 := rng32 (s2_ * w)
      have p0 := hw0
      have p1 := hw3
      have p2 := hp0
      have p3 := hp3
      have p4 := hz
      have p5 := c110
      simp only [true_implies, Int32.lt_iff_toInt_lt, ← Int32.toInt_inj, Int32.reduceToInt, Int64.lt_iff_toInt_lt, ← Int64.toInt_inj, Int64.reduceToInt] at q0 q1 q2 q3 q4 q5 p0 p1 p2 p3 p4 p5 ⊢
      omega
    have le115 : (s2_ * w).toInt + w.toInt ≤ (0 : Int32).toInt ∧ w.toInt ≤ 3 ∧ 0 ≤ (s2_ * w).toInt ∧ 0 ≤ w.toInt ∧ 0 ≤ (0 : Int32).toInt := by
      have q0 := rng32 s2_
      have r0 := rng32 s2_
      have q1 := rng32 w
      have r1 := rng32 w
      have q2 := own_prod s2_ w
      have r2 := rng32 (s2_ * w)
      have q3 := c_iadd s2_ (1 : Int32)
      have r3 := rng32 (s2_ + (1 : Int32))
      have q4 := own_prod (s2_ + (1 : Int32)) w
      have r4 := rng32 ((s2_ + (1 : Int32)) * w)
      have q5 := congrArg Int32.toInt hnd_
      have r5 := rng32 nd_
      have p0 := hw0
      have p1 := hw3
      have p2 := hp0
      have p3 := hp3
      have p4 := hz
      have p5 := c110
      have p6 := c116
      try simp only [true_implies, Int32.lt_iff_toInt_lt, ← Int32.toInt_inj, Int32.reduceToInt, Int64.lt_iff_toInt_lt, ← Int64.toInt_inj, Int64.reduceToInt] at q0 q1 q2 q3 q4 q5 p0 p1 p2 p3 p4 p5 p6
      try simp only [Int32.reduceToInt]
      omega
    have lf115 : (s2_ * w).toNatClampNeg + w.toNatClampNeg ≤ (0 : Int32).toNatClampNeg ∧ (0 : Int32).toNatClampNeg + w.toNatClampNeg ≤ (3 : Int32).toNatClampNeg := by
      have := own_tn (s2_ * w) (by omega)
      have := own_tn w (by omega)
      have := own_tn (0 : Int32) (by omega)
      have z0 : (0 : Int32).toNatClampNeg = 0 := rfl
      have z3 : (3 : Int32).toNatClampNeg = 3 := rfl
      omega
    have ll115 : ([] : List Value).length = (0 : Int32).toNatClampNeg := (by decide)
    obtain ⟨T115, h115, L115, X115, e115, N115, K115, A115, st115⟩ := cpA X114 hx hZ hown (hw _ (own_m 58 rfl)) (hw _ (own_m 61 rfl)) (hw _ (own_m 59 rfl)) (hw _ (own_m 60 rfl)) e114 VB VD2 (us := _) (Or.inl ⟨rfl, rfl⟩) (by decide) c116 hw0 lf115.2 lf115.1 rfl (ll115 ▸ lf115.1) N106 ge_d2_ (g := (mkF m 93 #[.val (.ref q), .val (.ref cb), .val (.ref t), .val (.int (2 : Int32)), .val (.int nd_), .unset] [(.int w), (.int (s2_ * w)), (.ref d2_), (.int (0 : Int32)), (.ref cb)])) rfl (by rw [hml]; rfl) rfl (hb hby dc5_93) (by decide) (W := 0) (by show 2 * 0 + _ ≤ _; exact Nat.le_of_eq rfl) (by decide)
    refine og st115 ?_
    have ln115 := own_cplen (us := (List.range w.toNatClampNeg).map fun i => ([(.int bx_), (.int by_), (.int bz_)] : List Value).getD ((0 : Int32).toNatClampNeg + i) (.int (0 : Int32))) (ll115 ▸ lf115.1) (by simp) ll115
    generalize hvn115 : (([] : List Value).take (s2_ * w).toNatClampNeg ++ (List.range w.toNatClampNeg).map (fun i => ([(.int bx_), (.int by_), (.int bz_)] : List Value).getD ((0 : Int32).toNatClampNeg + i) (.int (0 : Int32))) ++ ([] : List Value).drop ((s2_ * w).toNatClampNeg + w.toNatClampNeg)) = vn115 at A115 ln115
    show oG p e below _ (T115.setTop (mkF m 96 #[.val (.ref q), .val (.ref cb), .val (.ref t), .val (.int (2 : Int32)), .val (.int nd_), .unset] []))
    refine og (fun _ hr => XS.aloadN X115.here hx rfl (hb hby dc5_96) rfl rfl hr) ?_
    show oG p e below _ (T115.setTop (mkF m 97 #[.val (.ref q), .val (.ref cb), .val (.ref t), .val (.int (2 : Int32)), .val (.int nd_), .unset] [(.ref q)]))
    have f117 := (FS.keep K115 (ninS ne_q_d2_ nin0))
    obtain ⟨T118, X118, e118, st118⟩ := getF X115 hx hZ hown (host := "") (Or.inl (hw _ (own_m 34 rfl))) Via.refl e115 f117 (g := (mkF m 97 #[.val (.ref q), .val (.ref cb), .val (.ref t), .val (.int (2 : Int32)), .val (.int nd_), .unset] [(.ref q)])) rfl rfl (hb hby dc5_97)
    refine og st118 ?_
    show oG p e below _ (T118.setTop (mkF m 100 #[.val (.ref q), .val (.ref cb), .val (.ref t), .val (.int (2 : Int32)), .val (.int nd_), .unset] [(.ref S_)]))
    refine og (fun _ hr => XS.iloadN X118.here hx rfl (hb hby dc5_100) rfl hr) ?_
    show oG p e below _ (T118.setTop (mkF m 101 #[.val (.ref q), .val (.ref cb), .val (.ref t), .val (.int (2 : Int32)), .val (.int nd_), .unset] [(.int (2 : Int32)), (.ref S_)]))
    refine og (S' := T118.setTop (mkF m 102 #[.val (.ref q), .val (.ref cb), .val (.ref t), .val (.int (2 : Int32)), .val (.int nd_), .unset] [(.int (2 : Int32)), (.ref S_), (.int (2 : Int32)), (.ref S_)])) (fun _ hr => by
      jvm_step X118.here [X118.here.top, hx, (hb hby dc5_101), Value.category]
      exact hr) ?_
    show oG p e below _ (T118.setTop (mkF m 102 #[.val (.ref q), .val (.ref cb), .val (.ref t), .val (.int (2 : Int32)), .val (.int nd_), .unset] [(.int (2 : Int32)), (.ref S_), (.int (2 : Int32)), (.ref S_)]))
    have f119 := (VS.keep K115 (ninS ne_S__d2_ nin0))
    refine og (fun _ hr => own_iaload X118 hx hZ e118 f119 (2 : Int32) (.int s2_) ⟨by decide, by decide⟩ rfl rfl rfl (hb hby dc5_102) (XS.iconst X118.here hx rfl (hb hby dc5_103) (XS.iadd X118.here hx rfl (hb hby dc5_104) rfl hr))) ?_
    show oG p e below _ (T118.setTop (mkF m 105 #[.val (.ref q), .val (.ref cb), .val (.ref t), .val (.int (2 : Int32)), .val (.int nd_), .unset] [(.int (s2_ + (1 : Int32))), (.int (2 : Int32)), (.ref S_)]))
    refine own_stI X118 hx hZ e118 f119 (2 : Int32) (s2_ + (1 : Int32)) 2 ⟨by decide, by decide⟩ rfl (Nat.le_of_ble_eq_true rfl)  [(.int s0_), (.int s1_), (.int (s2_ + (1 : Int32))), (.int s3_)] rfl N115 ge_S_ (hb hby dc5_105) ?_
    intro T120 h120 L120 X120 e120 W120 N120 f120
    show oG p e below _ (T120.setTop (mkF m 106 #[.val (.ref q), .val (.ref cb), .val (.ref t), .val (.int (2 : Int32)), .val (.int nd_), .unset] []))
    have f121 := ((EQ.keep K115).wr W120)
    have f122 := ((FC.keep K115 (ninS ne_q_d2_ nin0)).other W120 (Or.inl ne_q_S_))
    have f123 := (f117.other W120 (Or.inl ne_q_S_))
    have f124 := ((FW.keep K115 (ninS ne_q_d2_ nin0)).other W120 (Or.inl ne_q_S_))
    have f125 := ((VC.keep K115 (ninS ne_C__d2_ nin0)).other W120 ne_C__S_)
    have f126 := ((VD0.keep K115 (ninS ne_d0__d2_ nin0)).other W120 (Ne.symm ne_S__d0_))
    have f127 := ((VD1.keep K115 (ninS ne_d1__d2_ nin0)).other W120 (Ne.symm ne_S__d1_))
    have f128 := (A115.other W120 (Ne.symm ne_S__d2_))
    have f129 := ((VD3.keep K115 (ninS (Ne.symm ne_d2__d3_) nin0)).other W120 (Ne.symm ne_S__d3_))
    have f130 := ((VB.keep K115 (ninS ne_cb_d2_ nin0)).other W120 ne_cb_S_)
    have om131 : 0 ≤ s0_.toInt := by
      have q0 := rng32 s0_
      have r0 := rng32 s0_
      have q1 := rng32 w
      have r1 := rng32 w
      have q2 := rng32 s2_
      have r2 := rng32 s2_
      have q3 := c_iadd s2_ (1 : Int32)
      have r3 := rng32 (s2_ + (1 : Int32))
      have q4 := own_prod (s2_ + (1 : Int32)) w
      have r4 := rng32 ((s2_ + (1 : Int32)) * w)
      have q5 := congrArg Int32.toInt hnd_
      have r5 := rng32 nd_
      have q6 := own_prod s2_ w
      have r6 := rng32 (s2_ * w)
      have p0 := hw0
      have p1 := hw3
      have p2 := hp0
      have p3 := hp3
      have p4 := hz
      have p5 := c110
      have p6 := c116
      try simp only [true_implies, Int32.lt_iff_toInt_lt, ← Int32.toInt_inj, Int32.reduceToInt, Int64.lt_iff_toInt_lt, ← Int64.toInt_inj, Int64.reduceToInt] at q0 q1 q2 q3 q4 q5 q6 p0 p1 p2 p3 p4 p5 p6
      first | omega | (simp only [Int32.reduceToInt, ← Int32.toInt_inj] <;> omega) | decide
    have om132 : 0 ≤ s1_.toInt := by
      have q0 := rng32 s1_
      have r0 := rng32 s1_
      have q1 := rng32 w
      have r1 := rng32 w
      have q2 := rng32 s2_
      have r2 := rng32 s2_
      have q3 := c_iadd s2_ (1 : Int32)
      have r3 := rng32 (s2_ + (1 : Int32))
      have q4 := own_prod (s2_ + (1 : Int32)) w
      have r4 := rng32 ((s2_ + (1 : Int32)) * w)
      have q5 := congrArg Int32.toInt hnd_
      have r5 := rng32 nd_
      have q6 := own_prod s2_ w
      have r6 := rng32 (s2_ * w)
      have p0 := hw0
      have p1 := hw3
      have p2 := hp0
      have p3 := hp3
      have p4 := hz
      have p5 := c110
      have p6 := c116
      try simp only [true_implies, Int32.lt_iff_toInt_lt, ← Int32.toInt_inj, Int32.reduceToInt, Int64.lt_iff_toInt_lt, ← Int64.toInt_inj, Int64.reduceToInt] at q0 q1 q2 q3 q4 q5 q6 p0 p1 p2 p3 p4 p5 p6
      first | omega | (simp only [Int32.reduceToInt, ← Int32.toInt_inj] <;> omega) | decide
    have om133 : 0 ≤ (s2_ + (1 : Int32)).toInt := by
      have q0 := rng32 s2_
      have r0 := rng32 s2_
      have q1 := c_iadd s2_ (1 : Int32)
      have r1 := rng32 (s2_ + (1 : Int32))
      have q2 := rng32 w
      have r2 := rng32 w
      have q3 := own_prod (s2_ + (1 : Int32)) w
      have r3 := rng32 ((s2_ + (1 : Int32)) * w)
      have q4 := congrArg Int32.toInt hnd_
      have r4 := rng32 nd_
      have q5 := own_prod s2_ w
      have r5 := rng32 (s2_ * w)
      have p0 := hw0
      have p1 := hw3
      have p2 := hp0
      have p3 := hp3
      have p4 := hz
      have p5 := c110
      have p6 := c116
      try simp only [true_implies, Int32.lt_iff_toInt_lt, ← Int32.toInt_inj, Int32.reduceToInt, Int64.lt_iff_toInt_lt, ← Int64.toInt_inj, Int64.reduceToInt] at q0 q1 q2 q3 q4 q5 p0 p1 p2 p3 p4 p5 p6
      first | omega | (simp only [Int32.reduceToInt, ← Int32.toInt_inj] <;> omega) | decide
    have om134 : 0 ≤ s3_.toInt := by
      have q0 := rng32 s3_
      have r0 := rng32 s3_
      have q1 := rng32 w
      have r1 := rng32 w
      have q2 := rng32 s2_
      have r2 := rng32 s2_
      have q3 := c_iadd s2_ (1 : Int32)
      have r3 := rng32 (s2_ + (1 : Int32))
      have q4 := own_prod (s2_ + (1 : Int32)) w
      have r4 := rng32 ((s2_ + (1 : Int32)) * w)
      have q5 := congrArg Int32.toInt hnd_
      have r5 := rng32 nd_
      have q6 := own_prod s2_ w
      have r6 := rng32 (s2_ * w)
      have p0 := hw0
      have p1 := hw3
      have p2 := hp0
      have p3 := hp3
      have p4 := hz
      have p5 := c110
      have p6 := c116
      try simp only [true_implies, Int32.lt_iff_toInt_lt, ← Int32.toInt_inj, Int32.reduceToInt, Int64.lt_iff_toInt_lt, ← Int64.toInt_inj, Int64.reduceToInt] at q0 q1 q2 q3 q4 q5 q6 p0 p1 p2 p3 p4 p5 p6
      first | omega | (simp only [Int32.reduceToInt, ← Int32.toInt_inj] <;> omega) | decide
    have om135 : s0_.toInt + s1_.toInt + (s2_ + (1 : Int32)).toInt + s3_.toInt = cnt2.toInt := by
      have q0 := rng32 s0_
      have r0 := rng32 s0_
      have q1 := rng32 s1_
      have r1 := rng32 s1_
      have q2 := rng32 s2_
      have r2 := rng32 s2_
      have q3 := c_iadd s2_ (1 : Int32)
      have r3 := rng32 (s2_ + (1 : Int32))
      have q4 := rng32 s3_
      have r4 := rng32 s3_
      have q5 := rng32 w
      have r5 := rng32 w
      have q6 := own_prod (s2_ + (1 : Int32)) w
      have r6 := rng32 ((s2_ + (1 : Int32)) * w)
      have q7 := congrArg Int32.toInt hnd_
      have r7 := rng32 nd_
      have q8 := own_prod s2_ w
      have r8 := rng32 (s2_ * w)
      have p0 := hw0
      have p1 := hw3
      have p2 := hp0
      have p3 := hp3
      have p4 := hz
      have p5 := c110
      have p6 := c116
      try simp only [true_implies, Int32.lt_iff_toInt_lt, ← Int32.toInt_inj, Int32.reduceToInt, Int64.lt_iff_toInt_lt, ← Int64.toInt_inj, Int64.reduceToInt] at q0 q1 q2 q3 q4 q5 q6 q7 q8 p0 p1 p2 p3 p4 p5 p6
      first | omega | (simp only [Int32.reduceToInt, ← Int32.toInt_inj] <;> omega) | decide
    have om136 : w = (0 : Int32) := by
      have q0 := rng32 w
      have r0 := rng32 w
      have q1 := rng32 s2_
      have r1 := rng32 s2_
      have q2 := c_iadd s2_ (1 : Int32)
      have r2 := rng32 (s2_ + (1 : Int32))
      have q3 := own_prod (s2_ + (1 : Int32)) w
      have r3 := rng32 ((s2_ + (1 : Int32)) * w)
      have q4 := congrArg Int32.toInt hnd_
      have r4 := rng32 nd_
      have q5 := own_prod s2_ w
      have r5 := rng32 (s2_ * w)
      have p0 := hw0
      have p1 := hw3
      have p2 := hp0
      have p3 := hp3
      have p4 := hz
      have p5 := c110
      have p6 := c116
      try simp only [true_implies, Int32.lt_iff_toInt_lt, ← Int32.toInt_inj, Int32.reduceToInt, Int64.lt_iff_toInt_lt, ← Int64.toInt_inj, Int64.reduceToInt] at q0 q1 q2 q3 q4 q5 p0 p1 p2 p3 p4 p5 p6
      first | omega | (simp only [Int32.reduceToInt, ← Int32.toInt_inj] <;> omega) | decide
    have K137 := ((K0.trans K115 (allS (Or.inl (List.mem_of_getElem? (i := 4) rfl)) all0)).wr W120 (Or.inl (List.mem_of_getElem? (i := 1) rfl)))
    exact own_ret0 X120 hx hlk Bd.returns (hb hby dc5_106) (by decide) (by decide) (by rw [e120]; exact ⟨rfl, N120, [C_, S_, d0_, d1_, d2_, d3_], K137, (fun x hx_ => by simp only [List.mem_cons, List.not_mem_nil, or_false] at hx_; rcases hx_ with rfl | rfl | rfl | rfl | rfl | rfl <;> assumption), ⟨C_, S_, d0_, d1_, d2_, d3_, kC_, kS_, kb_, e0_, e1_, e2_, e3_, s0_, s1_, (s2_ + (1 : Int32)), s3_, m0_, m1_, (0 : Int32), m3_, bx_, by_, bz_, v0_, v1_, vn115, v3_, f121, f122, f123, f124, f125, OV, f120, f126, f127, f128, f129, f130, g_C_, g_S_, g_d0_, g_d1_, g_d2_, g_d3_, ne_C__S_, ne_C__d0_, ne_C__d1_, ne_C__d2_, ne_C__d3_, ne_S__d0_, ne_S__d1_, ne_S__d2_, ne_S__d3_, ne_d0__d1_, ne_d0__d2_, ne_d0__d3_, ne_d1__d2_, ne_d1__d3_, ne_d2__d3_, ne_cb_C_, ne_cb_S_, ne_cb_d0_, ne_cb_d1_, ne_cb_d2_, ne_cb_d3_, ne_q_C_, ne_q_S_, ne_q_d0_, ne_q_d1_, ne_q_d2_, ne_q_d3_, om131, om132, om133, om134, om135, iM0_, iM1_, (Or.inr ⟨rfl, Or.inr om136⟩), iM3_, iL0_, iL1_, ln115, iL3_, WB⟩⟩)
def Q_ordinal_7 (Z : State) (h0 : Heap) (n0 : Nat) (v : Option Value) (h : Heap) (L : List Loc) : Prop := v = some (.int (3 : Int32)) ∧ Fr n0 L ∧ h = h0
set_option maxRecDepth 65536 in
set_option maxHeartbeats 40000000 in
theorem rm_ordinal_7 (l : Launch) (Z : State) (a0 : Array Value) (hw : ∀ d ∈ tables_1, d.before a0 Z = true) (ws : List Jvm.Cond) (o0 : Addr) (h0 : Heap) (n0 : Nat) (Z0 : n0 ≤ h0.size) (P0 : Fld Z h0 o0 "java/lang/Enum" "ordinal" "I" (.int (3 : Int32))) :
    MetFree l (⟨"java/lang/Enum", "ordinal", "()I"⟩ : MethodName) (head1 (Jvm.Cond.code (⟨"java/lang/Enum", "ordinal", "()I"⟩ : MethodName) jdk_37_method_2_code 1 (some .int) :: ws) ({ frames := 0, cells := 0, slots := 0, locals := 0 } : Room)) (fun aA U => aA = #[(.ref o0)] ∧ Z.Warmed39 U.vm ∧ U.heap = h0) (fun _ _ _ _ _ => True) (fun _ U o U' => ∃ v L, o = .returned v ∧ Q_ordinal_7 Z h0 n0 v U'.heap L ∧ FrameEnd U o U' L ({ frames := 0, cells := 0, slots := 0, locals := 0 } : Room).cells ({ frames := 0, cells := 0, slots := 0, locals := 0 } : Room).slots) := by
  refine MetFree.of_bodySF (plainFor_of_name own_pn_java_lang_Enum) hisR ?_
  intro p e s m args below meth c s₁ Bd hml0 hP hK
  obtain ⟨rfl, hZ, hh⟩ := hP
  have hx := Bd.exec
  have hby := Bd.bytes
  have hlk : meth.locks = false := BodyLoose.notSynchronized Bd
  have hml : c.maxLocals = 1 := hml0
  have hown : s.vm.findClass "java/lang/Enum" = some m.cls := findClass_of_methodNamed Bd.named
  have hnm := (name_of_methodNamed Bd.named Bd.method).1
  have X0 : Stand p l e ({ frames := 0, cells := 0, slots := 0, locals := 0 } : Room) s m #[(.ref o0)] below meth c s₁ [] 0 0 := Stand.of_body Bd
  have e0 : s₁.heap = h0 := by rw [← hh, Bd.state]; rfl
  have N0 := Fr.nil n0
  show oG p e below (own_K s (Q_ordinal_7 Z h0 n0) ({ frames := 0, cells := 0, slots := 0, locals := 0 } : Room).cells ({ frames := 0, cells := 0, slots := 0, locals := 0 } : Room).slots) (s₁.setTop (entryFrame m #[(.ref o0)] 1))
  rw [(by first | (simp [entryFrame, mkF, argsToLocals, Value.category]; done) | rfl : entryFrame m #[(.ref o0)] 1 = mkF m 0 #[.val (.ref o0)] [])]
  show oG p e below _ (s₁.setTop (mkF m 0 #[.val (.ref o0)] []))
  refine og (fun _ hr => XS.aloadN X0.here hx rfl (hb hby dc6_0) rfl rfl hr) ?_
  show oG p e below _ (s₁.setTop (mkF m 1 #[.val (.ref o0)] [(.ref o0)]))
  obtain ⟨T1, X1, e1, st1⟩ := getF X0 hx hZ hown (host := "") (Or.inl (hw _ (own_m 56 rfl))) Via.refl e0 P0 (g := (mkF m 1 #[.val (.ref o0)] [(.ref o0)])) rfl rfl (hb hby dc6_1)
  refine og st1 ?_
  show oG p e below _ (T1.setTop (mkF m 4 #[.val (.ref o0)] [(.int (3 : Int32))]))
  exact own_retI X1 hx hlk Bd.returns (hb hby dc6_4) (by decide) (by decide) ⟨rfl, N0, e1⟩
def Q_add3 (Z : State) (q : Addr) (cb : Addr) (w : Int32) (cnt2 : Int32) (lo : Nat) (h0 : Heap) (n0 : Nat) (v : Option Value) (h : Heap) (L : List Loc) : Prop := (v = none ∧ Fr n0 L ∧ ∃ ws, Keep h0 h ws ∧ (∀ x ∈ ws, lo ≤ x) ∧ own_Inv Z h lo q cb w cnt2)
set_option maxRecDepth 65536 in
set_option maxHeartbeats 40000000 in
theorem rm_add3 (l : Launch) (Z : State) (a0 : Array Value) (hw : ∀ d ∈ tables_1, d.before a0 Z = true) (ws : List Jvm.Cond) (q : Addr) (cb : Addr) (t : Addr) (w : Int32) (cnt : Int32) (cnt2 : Int32) (lo : Nat) (h0 : Heap) (n0 : Nat) (Z0 : n0 ≤ h0.size) (hlo : n0 ≤ lo) (hI : own_Inv Z h0 lo q cb w cnt) (Et : Exa Z h0 t "com/example/candid_facts/candidfacts/Truth") (Ft : Fld Z h0 t "java/lang/Enum" "ordinal" "I" (.int (3 : Int32))) (hc : cnt.toInt ≤ 3) (hc2 : cnt2.toInt = cnt.toInt + 1) :
    MetFree l (⟨"com/example/candid_facts/candidfacts/Answer$Listed", "add", "([ILcom/example/candid_facts/candidfacts/Truth;)V"⟩ : MethodName) (head1 (Jvm.Cond.code (⟨"com/example/candid_facts/candidfacts/Answer$Listed", "add", "([ILcom/example/candid_facts/candidfacts/Truth;)V"⟩ : MethodName) prog_2_method_2_code 6 none :: ws) ({ frames := 2, cells := 1, slots := 16, locals := 56 } : Room)) (fun aA U => aA = #[(.ref q), (.ref cb), (.ref t)] ∧ Z.Warmed39 U.vm ∧ U.heap = h0) (fun _ _ _ _ _ => True) (fun _ U o U' => ∃ v L, o = .returned v ∧ Q_add3 Z q cb w cnt2 lo h0 n0 v U'.heap L ∧ FrameEnd U o U' L ({ frames := 2, cells := 1, slots := 16, locals := 56 } : Room).cells ({ frames := 2, cells := 1, slots := 16, locals := 56 } : Room).slots) := by
  refine MetFree.of_bodySF (plainFor_of_name own_pn_com_example_candid_facts_candidfacts_Answer_Listed) hisR ?_
  intro p e s m args below meth c s₁ Bd hml0 hP hK
  obtain ⟨rfl, hZ, hh⟩ := hP
  have hx := Bd.exec
  have hby := Bd.bytes
  have hlk : meth.locks = false := BodyLoose.notSynchronized Bd
  have hml : c.maxLocals = 6 := hml0
  have hown : s.vm.findClass "com/example/candid_facts/candidfacts/Answer$Listed" = some m.cls := findClass_of_methodNamed Bd.named
  have hnm := (name_of_methodNamed Bd.named Bd.method).1
  have X0 : Stand p l e ({ frames := 2, cells := 1, slots := 16, locals := 56 } : Room) s m #[(.ref q), (.ref cb), (.ref t)] below meth c s₁ [] 0 0 := Stand.of_body Bd
  have e0 : s₁.heap = h0 := by rw [← hh, Bd.state]; rfl
  have N0 := Fr.nil n0
  obtain ⟨C_, S_, d0_, d1_, d2_, d3_, kC_, kS_, kb_, e0_, e1_, e2_, e3_, s0_, s1_, s2_, s3_, m0_, m1_, m2_, m3_, bx_, by_, bz_, v0_, v1_, v2_, v3_, EQ, FC, FS, FW, VC, OV, VS, VD0, VD1, VD2, VD3, VB, g_C_, g_S_, g_d0_, g_d1_, g_d2_, g_d3_, ne_C__S_, ne_C__d0_, ne_C__d1_, ne_C__d2_, ne_C__d3_, ne_S__d0_, ne_S__d1_, ne_S__d2_, ne_S__d3_, ne_d0__d1_, ne_d0__d2_, ne_d0__d3_, ne_d1__d2_, ne_d1__d3_, ne_d2__d3_, ne_cb_C_, ne_cb_S_, ne_cb_d0_, ne_cb_d1_, ne_cb_d2_, ne_cb_d3_, ne_q_C_, ne_q_S_, ne_q_d0_, ne_q_d1_, ne_q_d2_, ne_q_d3_, iP0_, iP1_, iP2_, iP3_, SUM, iM0_, iM1_, iM2_, iM3_, iL0_, iL1_, iL2_, iL3_, WB⟩ := hI
  have ge_C_ : n0 ≤ C_ := Nat.le_trans hlo g_C_
  have ge_S_ : n0 ≤ S_ := Nat.le_trans hlo g_S_
  have ge_d0_ : n0 ≤ d0_ := Nat.le_trans hlo g_d0_
  have ge_d1_ : n0 ≤ d1_ := Nat.le_trans hlo g_d1_
  have ge_d2_ : n0 ≤ d2_ := Nat.le_trans hlo g_d2_
  have ge_d3_ : n0 ≤ d3_ := Nat.le_trans hlo g_d3_
  have K0 : Keep h0 h0 [C_, S_, d0_, d1_, d2_, d3_] := Keep.refl _ _
  show oG p e below (own_K s (Q_add3 Z q cb w cnt2 lo h0 n0) ({ frames := 2, cells := 1, slots := 16, locals := 56 } : Room).cells ({ frames := 2, cells := 1, slots := 16, locals := 56 } : Room).slots) (s₁.setTop (entryFrame m #[(.ref q), (.ref cb), (.ref t)] 6))
  rw [(by first | (simp [entryFrame, mkF, argsToLocals, Value.category]; done) | rfl : entryFrame m #[(.ref q), (.ref cb), (.ref t)] 6 = mkF m 0 #[.val (.ref q), .val (.ref cb), .val (.ref t), .unset, .unset, .unset] [])]
  show oG p e below _ (s₁.setTop (mkF m 0 #[.val (.ref q), .val (.ref cb), .val (.ref t), .unset, .unset, .unset] []))
  have hp0 : ¬ s3_ < 0 := by rw [Int32.lt_iff_toInt_lt]; simp only [Int32.reduceToInt]; omega
  have hp3 : ¬ (3 : Int32) < s3_ := by rw [Int32.lt_iff_toInt_lt]; simp only [Int32.reduceToInt]; omega
  have hw0 : ¬ w < 0 := by rw [Int32.lt_iff_toInt_lt]; simp only [Int32.reduceToInt]; omega
  have hw3 : ¬ (3 : Int32) < w := by rw [Int32.lt_iff_toInt_lt]; simp only [Int32.reduceToInt]; omega
  rcases iM3_ with hm | ⟨hm, hs | hz⟩
  · subst hm
    show oG p e below _ (s₁.setTop (mkF m 0 #[.val (.ref q), .val (.ref cb), .val (.ref t), .unset, .unset, .unset] []))
    refine og (fun _ hr => XS.aloadN X0.here hx rfl (hb hby dc5_0) rfl rfl hr) ?_
    show oG p e below _ (s₁.setTop (mkF m 1 #[.val (.ref q), .val (.ref cb), .val (.ref t), .unset, .unset, .unset] [(.ref t)]))
    refine own_cu X0 hx hZ hown (hw _ (own_m 49 rfl)) (hw _ (own_m 50 rfl)) (hw _ (own_m 51 rfl)) (hw _ (own_m 53 rfl)) (hw _ (own_m 52 rfl)) (hw _ (own_m 54 rfl)) (hw _ (own_m 55 rfl)) (by decide) Et (rm := { frames := 0, cells := 0, slots := 0, locals := 0 }) (rm_ordinal_7 l Z a0 hw [] t h0 n0 Z0 Ft) (by decide) (W := 0) (by decide) (by decide) (by decide) e0 (by rw [hml]; rfl) (argsL := []) (lenOf own_pd0 rfl) (rest := []) rfl rfl (Nat.le_of_eq rfl) (hb hby dc5_1) ?_
    intro _ T1 L1 X1 hQ1
    obtain ⟨rfl, N1q, e1⟩ := hQ1
    have N1 := Fr.app N0 N1q
    show oG p e below _ (T1.setTop (mkF m 4 #[.val (.ref q), .val (.ref cb), .val (.ref t), .unset, .unset, .unset] [(.int (3 : Int32))]))
    refine og (fun _ hr => XS.istoreN X1.here hx rfl (hb hby dc5_4) rfl (l' := #[.val (.ref q), .val (.ref cb), .val (.ref t), .val (.int (3 : Int32)), .unset, .unset]) rfl (XS.aloadN X1.here hx rfl (hb hby dc5_5) rfl rfl hr)) ?_
    show oG p e below _ (T1.setTop (mkF m 6 #[.val (.ref q), .val (.ref cb), .val (.ref t), .val (.int (3 : Int32)), .unset, .unset] [(.ref q)]))
    obtain ⟨T2, X2, e2, st2⟩ := getF X1 hx hZ hown (host := "") (Or.inl (hw _ (own_m 34 rfl))) Via.refl e1 FS (g := (mkF m 6 #[.val (.ref q), .val (.ref cb), .val (.ref t), .val (.int (3 : Int32)), .unset, .unset] [(.ref q)])) rfl rfl (hb hby dc5_6)
    refine og st2 ?_
    show oG p e below _ (T2.setTop (mkF m 9 #[.val (.ref q), .val (.ref cb), .val (.ref t), .val (.int (3 : Int32)), .unset, .unset] [(.ref S_)]))
    refine og (fun _ hr => XS.iloadN X2.here hx rfl (hb hby dc5_9) rfl (own_iaload X2 hx hZ e2 VS (3 : Int32) (.int s3_) ⟨by decide, by decide⟩ rfl rfl rfl (hb hby dc5_10) (XS.iconst X2.here hx rfl (hb hby dc5_11) (XS.iadd X2.here hx rfl (hb hby dc5_12) rfl (XS.aloadN X2.here hx rfl (hb hby dc5_13) rfl rfl hr))))) ?_
    show oG p e below _ (T2.setTop (mkF m 14 #[.val (.ref q), .val (.ref cb), .val (.ref t), .val (.int (3 : Int32)), .unset, .unset] [(.ref q), (.int (s3_ + (1 : Int32)))]))
    obtain ⟨T3, X3, e3, st3⟩ := getF X2 hx hZ hown (host := "") (Or.inl (hw _ (own_m 36 rfl))) Via.refl e2 FW (g := (mkF m 14 #[.val (.ref q), .val (.ref cb), .val (.ref t), .val (.int (3 : Int32)), .unset, .unset] [(.ref q), (.int (s3_ + (1 : Int32)))])) rfl rfl (hb hby dc5_14)
    refine og st3 ?_
    show oG p e below _ (T3.setTop (mkF m 17 #[.val (.ref q), .val (.ref cb), .val (.ref t), .val (.int (3 : Int32)), .unset, .unset] [(.int w), (.int (s3_ + (1 : Int32)))]))
    refine og (fun _ hr => XS.imul X3.here hx rfl (hb hby dc5_17) rfl (XS.istore X3.here hx rfl (hb hby dc5_18) rfl (l' := #[.val (.ref q), .val (.ref cb), .val (.ref t), .val (.int (3 : Int32)), .val (.int ((s3_ + (1 : Int32)) * w)), .unset]) rfl hr)) ?_
    show oG p e below _ (T3.setTop (mkF m 20 #[.val (.ref q), .val (.ref cb), .val (.ref t), .val (.int (3 : Int32)), .val (.int ((s3_ + (1 : Int32)) * w)), .unset] []))
    generalize hnd_ : ((s3_ + (1 : Int32)) * w) = nd_
    refine og (fun _ hr => XS.iload X3.here hx rfl (hb hby dc5_20) rfl (XS.aloadN X3.here hx rfl (hb hby dc5_22) rfl rfl hr)) ?_
    show oG p e below _ (T3.setTop (mkF m 23 #[.val (.ref q), .val (.ref cb), .val (.ref t), .val (.int (3 : Int32)), .val (.int nd_), .unset] [(.ref q), (.int nd_)]))
    obtain ⟨T4, X4, e4, st4⟩ := getF X3 hx hZ hown (host := "") (Or.inl (hw _ (own_m 32 rfl))) Via.refl e3 FC (g := (mkF m 23 #[.val (.ref q), .val (.ref cb), .val (.ref t), .val (.int (3 : Int32)), .val (.int nd_), .unset] [(.ref q), (.int nd_)])) rfl rfl (hb hby dc5_23)
    refine og st4 ?_
    show oG p e below _ (T4.setTop (mkF m 26 #[.val (.ref q), .val (.ref cb), .val (.ref t), .val (.int (3 : Int32)), .val (.int nd_), .unset] [(.ref C_), (.int nd_)]))
    refine og (fun _ hr => XS.iloadN X4.here hx rfl (hb hby dc5_26) rfl (own_aaload X4 hx hZ e4 VC (3 : Int32) (.ref d3_) ⟨by decide, by decide⟩ rfl rfl rfl rfl (hb hby dc5_27) (own_alen X4 hx hZ e4 VD3 rfl rfl (hb hby dc5_28) hr))) ?_
    show oG p e below _ (T4.setTop (mkF m 29 #[.val (.ref q), .val (.ref cb), .val (.ref t), .val (.int (3 : Int32)), .val (.int nd_), .unset] [(.int (16 : Int32)), (.int nd_)]))
    have c5 : ¬ ((16 : Int32) < nd_) := by
      have q0 := rng32 w
      have q1 := rng32 s3_
      have q2 := c_iadd s3_ (1 : Int32)
      have r2 := rng32 (s3_ + (1 : Int32))
      have q3 := own_prod (s3_ + (1 : Int32)) w
      have r3 := rng32 ((s3_ + (1 : Int32)) * w)
      have q4 := congrArg Int32.toInt hnd_
      have p0 := hw0
      have p1 := hw3
      have p2 := hp0
      have p3 := hp3
      simp only [true_implies, Int32.lt_iff_toInt_lt, ← Int32.toInt_inj, Int32.reduceToInt, Int64.lt_iff_toInt_lt, ← Int64.toInt_inj, Int64.reduceToInt] at q0 q1 q2 q3 q4 p0 p1 p2 p3 ⊢
      omega
    refine og (fun _ hr => XS.icmpYes X4.here hx rfl (pc0 := 29) (pc' := 70) rfl (hb hby dc5_29) rfl (flt c5).2.2.2 (by decide) (by decide) hr) ?_
    show oG p e below _ (T4.setTop (mkF m 70 #[.val (.ref q), .val (.ref cb), .val (.ref t), .val (.int (3 : Int32)), .val (.int nd_), .unset] []))
    refine og (fun _ hr => XS.aloadN X4.here hx rfl (hb hby dc5_70) rfl rfl (XS.iconst X4.here hx rfl (hb hby dc5_71) (XS.aloadN X4.here hx rfl (hb hby dc5_72) rfl rfl hr))) ?_
    show oG p e below _ (T4.setTop (mkF m 73 #[.val (.ref q), .val (.ref cb), .val (.ref t), .val (.int (3 : Int32)), .val (.int nd_), .unset] [(.ref q), (.int (0 : Int32)), (.ref cb)]))
    obtain ⟨T6, X6, e6, st6⟩ := getF X4 hx hZ hown (host := "") (Or.inl (hw _ (own_m 32 rfl))) Via.refl e4 FC (g := (mkF m 73 #[.val (.ref q), .val (.ref cb), .val (.ref t), .val (.int (3 : Int32)), .val (.int nd_), .unset] [(.ref q), (.int (0 : Int32)), (.ref cb)])) rfl rfl (hb hby dc5_73)
    refine og st6 ?_
    show oG p e below _ (T6.setTop (mkF m 76 #[.val (.ref q), .val (.ref cb), .val (.ref t), .val (.int (3 : Int32)), .val (.int nd_), .unset] [(.ref C_), (.int (0 : Int32)), (.ref cb)]))
    refine og (fun _ hr => XS.iloadN X6.here hx rfl (hb hby dc5_76) rfl (own_aaload X6 hx hZ e6 VC (3 : Int32) (.ref d3_) ⟨by decide, by decide⟩ rfl rfl rfl rfl (hb hby dc5_77) (XS.aloadN X6.here hx rfl (hb hby dc5_78) rfl rfl hr))) ?_
    show oG p e below _ (T6.setTop (mkF m 79 #[.val (.ref q), .val (.ref cb), .val (.ref t), .val (.int (3 : Int32)), .val (.int nd_), .unset] [(.ref q), (.ref d3_), (.int (0 : Int32)), (.ref cb)]))
    obtain ⟨T7, X7, e7, st7⟩ := getF X6 hx hZ hown (host := "") (Or.inl (hw _ (own_m 34 rfl))) Via.refl e6 FS (g := (mkF m 79 #[.val (.ref q), .val (.ref cb), .val (.ref t), .val (.int (3 : Int32)), .val (.int nd_), .unset] [(.ref q), (.ref d3_), (.int (0 : Int32)), (.ref cb)])) rfl rfl (hb hby dc5_79)
    refine og st7 ?_
    show oG p e below _ (T7.setTop (mkF m 82 #[.val (.ref q), .val (.ref cb), .val (.ref t), .val (.int (3 : Int32)), .val (.int nd_), .unset] [(.ref S_), (.ref d3_), (.int (0 : Int32)), (.ref cb)]))
    refine og (fun _ hr => XS.iloadN X7.here hx rfl (hb hby dc5_82) rfl (own_iaload X7 hx hZ e7 VS (3 : Int32) (.int s3_) ⟨by decide, by decide⟩ rfl rfl rfl (hb hby dc5_83) (XS.aloadN X7.here hx rfl (hb hby dc5_84) rfl rfl hr))) ?_
    show oG p e below _ (T7.setTop (mkF m 85 #[.val (.ref q), .val (.ref cb), .val (.ref t), .val (.int (3 : Int32)), .val (.int nd_), .unset] [(.ref q), (.int s3_), (.ref d3_), (.int (0 : Int32)), (.ref cb)]))
    obtain ⟨T8, X8, e8, st8⟩ := getF X7 hx hZ hown (host := "") (Or.inl (hw _ (own_m 36 rfl))) Via.refl e7 FW (g := (mkF m 85 #[.val (.ref q), .val (.ref cb), .val (.ref t), .val (.int (3 : Int32)), .val (.int nd_), .unset] [(.ref q), (.int s3_), (.ref d3_), (.int (0 : Int32)), (.ref cb)])) rfl rfl (hb hby dc5_85)
    refine og st8 ?_
    show oG p e below _ (T8.setTop (mkF m 88 #[.val (.ref q), .val (.ref cb), .val (.ref t), .val (.int (3 : Int32)), .val (.int nd_), .unset] [(.int w), (.int s3_), (.ref d3_), (.int (0 : Int32)), (.ref cb)]))
    refine og (fun _ hr => XS.imul X8.here hx rfl (hb hby dc5_88) rfl (XS.aloadN X8.here hx rfl (hb hby dc5_89) rfl rfl hr)) ?_
    show oG p e below _ (T8.setTop (mkF m 90 #[.val (.ref q), .val (.ref cb), .val (.ref t), .val (.int (3 : Int32)), .val (.int nd_), .unset] [(.ref q), (.int (s3_ * w)), (.ref d3_), (.int (0 : Int32)), (.ref cb)]))
    obtain ⟨T9, X9, e9, st9⟩ := getF X8 hx hZ hown (host := "") (Or.inl (hw _ (own_m 36 rfl))) Via.refl e8 FW (g := (mkF m 90 #[.val (.ref q), .val (.ref cb), .val (.ref t), .val (.int (3 : Int32)), .val (.int nd_), .unset] [(.ref q), (.int (s3_ * w)), (.ref d3_), (.int (0 : Int32)), (.ref cb)])) rfl rfl (hb hby dc5_90)
    refine og st9 ?_
    show oG p e below _ (T9.setTop (mkF m 93 #[.val (.ref q), .val (.ref cb), .val (.ref t), .val (.int (3 : Int32)), .val (.int nd_), .unset] [(.int w), (.int (s3_ * w)), (.ref d3_), (.int (0 : Int32)), (.ref cb)]))
    have c11 : ¬ ((s3_ * w) < (0 : Int32)) := by
      have q0 := rng32 w
      have q1 := rng32 s3_
      have q2 := c_iadd s3_ (1 : Int32)
      have r2 := rng32 (s3_ + (1 : Int32))
      have q3 := own_prod (s3_ + (1 : Int32)) w
      have r3 := rng32 ((s3_ + (1 : Int32)) * w)
      have q4 := congrArg Int32.toInt hnd_
      have q5 := own_prod s3_ w
      have r5 := rng32 (s3_ * w)
      have p0 := hw0
      have p1 := hw3
      have p2 := hp0
      have p3 := hp3
      have p4 := c5
      simp only [true_implies, Int32.lt_iff_toInt_lt, ← Int32.toInt_inj, Int32.reduceToInt, Int64.lt_iff_toInt_lt, ← Int64.toInt_inj, Int64.reduceToInt] at q0 q1 q2 q3 q4 q5 p0 p1 p2 p3 p4 ⊢
      omega
    have le10 : (s3_ * w).toInt + w.toInt ≤ (16 : Int32).toInt ∧ w.toInt ≤ 3 ∧ 0 ≤ (s3_ * w).toInt ∧ 0 ≤ w.toInt ∧ 0 ≤ (16 : Int32).toInt := by
      have q0 := rng32 s3_
      have r0 := rng32 s3_
      have q1 := rng32 w
      have r1 := rng32 w
      have q2 := own_prod s3_ w
      have r2 := rng32 (s3_ * w)
      have q3 := c_iadd s3_ (1 : Int32)
      have r3 := rng32 (s3_ + (1 : Int32))
      have q4 := own_prod (s3_ + (1 : Int32)) w
      have r4 := rng32 ((s3_ + (1 : Int32)) * w)
      have q5 := congrArg Int32.toInt hnd_
      have r5 := rng32 nd_
      have p0 := hw0
      have p1 := hw3
      have p2 := hp0
      have p3 := hp3
      have p4 := c5
      have p5 := c11
      try simp only [true_implies, Int32.lt_iff_toInt_lt, ← Int32.toInt_inj, Int32.reduceToInt, Int64.lt_iff_toInt_lt, ← Int64.toInt_inj, Int64.reduceToInt] at q0 q1 q2 q3 q4 q5 p0 p1 p2 p3 p4 p5
      try simp only [Int32.reduceToInt]
      omega
    have lf10 : (s3_ * w).toNatClampNeg + w.toNatClampNeg ≤ (16 : Int32).toNatClampNeg ∧ (0 : Int32).toNatClampNeg + w.toNatClampNeg ≤ (3 : Int32).toNatClampNeg := by
      have := own_tn (s3_ * w) (by omega)
      have := own_tn w (by omega)
      have := own_tn (16 : Int32) (by omega)
      have z0 : (0 : Int32).toNatClampNeg = 0 := rfl
      have z3 : (3 : Int32).toNatClampNeg = 3 := rfl
      omega
    have ll10 : v3_.length = (16 : Int32).toNatClampNeg := iL3_
    obtain ⟨T10, h10, L10, X10, e10, N10, K10, A10, st10⟩ := cpA X9 hx hZ hown (hw _ (own_m 58 rfl)) (hw _ (own_m 61 rfl)) (hw _ (own_m 59 rfl)) (hw _ (own_m 60 rfl)) e9 VB VD3 (us := _) (Or.inl ⟨rfl, rfl⟩) (by decide) c11 hw0 lf10.2 lf10.1 rfl (ll10 ▸ lf10.1) N1 ge_d3_ (g := (mkF m 93 #[.val (.ref q), .val (.ref cb), .val (.ref t), .val (.int (3 : Int32)), .val (.int nd_), .unset] [(.int w), (.int (s3_ * w)), (.ref d3_), (.int (0 : Int32)), (.ref cb)])) rfl (by rw [hml]; rfl) rfl (hb hby dc5_93) (by decide) (W := 0) (by show 2 * 0 + _ ≤ _; exact Nat.le_of_eq rfl) (by decide)
    refine og st10 ?_
    have ln10 := own_cplen (us := (List.range w.toNatClampNeg).map fun i => ([(.int bx_), (.int by_), (.int bz_)] : List Value).getD ((0 : Int32).toNatClampNeg + i) (.int (0 : Int32))) (ll10 ▸ lf10.1) (by simp) ll10
    generalize hvn10 : (v3_.take (s3_ * w).toNatClampNeg ++ (List.range w.toNatClampNeg).map (fun i => ([(.int bx_), (.int by_), (.int bz_)] : List Value).getD ((0 : Int32).toNatClampNeg + i) (.int (0 : Int32))) ++ v3_.drop ((s3_ * w).toNatClampNeg + w.toNatClampNeg)) = vn10 at A10 ln10
    show oG p e below _ (T10.setTop (mkF m 96 #[.val (.ref q), .val (.ref cb), .val (.ref t), .val (.int (3 : Int32)), .val (.int nd_), .unset] []))
    refine og (fun _ hr => XS.aloadN X10.here hx rfl (hb hby dc5_96) rfl rfl hr) ?_
    show oG p e below _ (T10.setTop (mkF m 97 #[.val (.ref q), .val (.ref cb), .val (.ref t), .val (.int (3 : Int32)), .val (.int nd_), .unset] [(.ref q)]))
    have f12 := (FS.keep K10 (ninS ne_q_d3_ nin0))
    obtain ⟨T13, X13, e13, st13⟩ := getF X10 hx hZ hown (host := "") (Or.inl (hw _ (own_m 34 rfl))) Via.refl e10 f12 (g := (mkF m 97 #[.val (.ref q), .val (.ref cb), .val (.ref t), .val (.int (3 : Int32)), .val (.int nd_), .unset] [(.ref q)])) rfl rfl (hb hby dc5_97)
    refine og st13 ?_
    show oG p e below _ (T13.setTop (mkF m 100 #[.val (.ref q), .val (.ref cb), .val (.ref t), .val (.int (3 : Int32)), .val (.int nd_), .unset] [(.ref S_)]))
    refine og (fun _ hr => XS.iloadN X13.here hx rfl (hb hby dc5_100) rfl hr) ?_
    show oG p e below _ (T13.setTop (mkF m 101 #[.val (.ref q), .val (.ref cb), .val (.ref t), .val (.int (3 : Int32)), .val (.int nd_), .unset] [(.int (3 : Int32)), (.ref S_)]))
    refine og (S' := T13.setTop (mkF m 102 #[.val (.ref q), .val (.ref cb), .val (.ref t), .val (.int (3 : Int32)), .val (.int nd_), .unset] [(.int (3 : Int32)), (.ref S_), (.int (3 : Int32)), (.ref S_)])) (fun _ hr => by
      jvm_step X13.here [X13.here.top, hx, (hb hby dc5_101), Value.category]
      exact hr) ?_
    show oG p e below _ (T13.setTop (mkF m 102 #[.val (.ref q), .val (.ref cb), .val (.ref t), .val (.int (3 : Int32)), .val (.int nd_), .unset] [(.int (3 : Int32)), (.ref S_), (.int (3 : Int32)), (.ref S_)]))
    have f14 := (VS.keep K10 (ninS ne_S__d3_ nin0))
    refine og (fun _ hr => own_iaload X13 hx hZ e13 f14 (3 : Int32) (.int s3_) ⟨by decide, by decide⟩ rfl rfl rfl (hb hby dc5_102) (XS.iconst X13.here hx rfl (hb hby dc5_103) (XS.iadd X13.here hx rfl (hb hby dc5_104) rfl hr))) ?_
    show oG p e below _ (T13.setTop (mkF m 105 #[.val (.ref q), .val (.ref cb), .val (.ref t), .val (.int (3 : Int32)), .val (.int nd_), .unset] [(.int (s3_ + (1 : Int32))), (.int (3 : Int32)), (.ref S_)]))
    refine own_stI X13 hx hZ e13 f14 (3 : Int32) (s3_ + (1 : Int32)) 3 ⟨by decide, by decide⟩ rfl (Nat.le_of_ble_eq_true rfl)  [(.int s0_), (.int s1_), (.int s2_), (.int (s3_ + (1 : Int32)))] rfl N10 ge_S_ (hb hby dc5_105) ?_
    intro T15 h15 L15 X15 e15 W15 N15 f15
    show oG p e below _ (T15.setTop (mkF m 106 #[.val (.ref q), .val (.ref cb), .val (.ref t), .val (.int (3 : Int32)), .val (.int nd_), .unset] []))
    have f16 := ((EQ.keep K10).wr W15)
    have f17 := ((FC.keep K10 (ninS ne_q_d3_ nin0)).other W15 (Or.inl ne_q_S_))
    have f18 := (f12.other W15 (Or.inl ne_q_S_))
    have f19 := ((FW.keep K10 (ninS ne_q_d3_ nin0)).other W15 (Or.inl ne_q_S_))
    have f20 := ((VC.keep K10 (ninS ne_C__d3_ nin0)).other W15 ne_C__S_)
    have f21 := ((VD0.keep K10 (ninS ne_d0__d3_ nin0)).other W15 (Ne.symm ne_S__d0_))
    have f22 := ((VD1.keep K10 (ninS ne_d1__d3_ nin0)).other W15 (Ne.symm ne_S__d1_))
    have f23 := ((VD2.keep K10 (ninS ne_d2__d3_ nin0)).other W15 (Ne.symm ne_S__d2_))
    have f24 := (A10.other W15 (Ne.symm ne_S__d3_))
    have f25 := ((VB.keep K10 (ninS ne_cb_d3_ nin0)).other W15 ne_cb_S_)
    have om26 : 0 ≤ s0_.toInt := by
      have q0 := rng32 s0_
      have r0 := rng32 s0_
      have q1 := rng32 w
      have r1 := rng32 w
      have q2 := rng32 s3_
      have r2 := rng32 s3_
      have q3 := c_iadd s3_ (1 : Int32)
      have r3 := rng32 (s3_ + (1 : Int32))
      have q4 := own_prod (s3_ + (1 : Int32)) w
      have r4 := rng32 ((s3_ + (1 : Int32)) * w)
      have q5 := congrArg Int32.toInt hnd_
      have r5 := rng32 nd_
      have q6 := own_prod s3_ w
      have r6 := rng32 (s3_ * w)
      have p0 := hw0
      have p1 := hw3
      have p2 := hp0
      have p3 := hp3
      have p4 := c5
      have p5 := c11
      try simp only [true_implies, Int32.lt_iff_toInt_lt, ← Int32.toInt_inj, Int32.reduceToInt, Int64.lt_iff_toInt_lt, ← Int64.toInt_inj, Int64.reduceToInt] at q0 q1 q2 q3 q4 q5 q6 p0 p1 p2 p3 p4 p5
      first | omega | (simp only [Int32.reduceToInt, ← Int32.toInt_inj] <;> omega) | decide
    have om27 : 0 ≤ s1_.toInt := by
      have q0 := rng32 s1_
      have r0 := rng32 s1_
      have q1 := rng32 w
      have r1 := rng32 w
      have q2 := rng32 s3_
      have r2 := rng32 s3_
      have q3 := c_iadd s3_ (1 : Int32)
      have r3 := rng32 (s3_ + (1 : Int32))
      have q4 := own_prod (s3_ + (1 : Int32)) w
      have r4 := rng32 ((s3_ + (1 : Int32)) * w)
      have q5 := congrArg Int32.toInt hnd_
      have r5 := rng32 nd_
      have q6 := own_prod s3_ w
      have r6 := rng32 (s3_ * w)
      have p0 := hw0
      have p1 := hw3
      have p2 := hp0
      have p3 := hp3
      have p4 := c5
      have p5 := c11
      try simp only [true_implies, Int32.lt_iff_toInt_lt, ← Int32.toInt_inj, Int32.reduceToInt, Int64.lt_iff_toInt_lt, ← Int64.toInt_inj, Int64.reduceToInt] at q0 q1 q2 q3 q4 q5 q6 p0 p1 p2 p3 p4 p5
      first | omega | (simp only [Int32.reduceToInt, ← Int32.toInt_inj] <;> omega) | decide
    have om28 : 0 ≤ s2_.toInt := by
      have q0 := rng32 s2_
      have r0 := rng32 s2_
      have q1 := rng32 w
      have r1 := rng32 w
      have q2 := rng32 s3_
      have r2 := rng32 s3_
      have q3 := c_iadd s3_ (1 : Int32)
      have r3 := rng32 (s3_ + (1 : Int32))
      have q4 := own_prod (s3_ + (1 : Int32)) w
      have r4 := rng32 ((s3_ + (1 : Int32)) * w)
      have q5 := congrArg Int32.toInt hnd_
      have r5 := rng32 nd_
      have q6 := own_prod s3_ w
      have r6 := rng32 (s3_ * w)
      have p0 := hw0
      have p1 := hw3
      have p2 := hp0
      have p3 := hp3
      have p4 := c5
      have p5 := c11
      try simp only [true_implies, Int32.lt_iff_toInt_lt, ← Int32.toInt_inj, Int32.reduceToInt, Int64.lt_iff_toInt_lt, ← Int64.toInt_inj, Int64.reduceToInt] at q0 q1 q2 q3 q4 q5 q6 p0 p1 p2 p3 p4 p5
      first | omega | (simp only [Int32.reduceToInt, ← Int32.toInt_inj] <;> omega) | decide
    have om29 : 0 ≤ (s3_ + (1 : Int32)).toInt := by
      have q0 := rng32 s3_
      have r0 := rng32 s3_
      have q1 := c_iadd s3_ (1 : Int32)
      have r1 := rng32 (s3_ + (1 : Int32))
      have q2 := rng32 w
      have r2 := rng32 w
      have q3 := own_prod (s3_ + (1 : Int32)) w
      have r3 := rng32 ((s3_ + (1 : Int32)) * w)
      have q4 := congrArg Int32.toInt hnd_
      have r4 := rng32 nd_
      have q5 := own_prod s3_ w
      have r5 := rng32 (s3_ * w)
      have p0 := hw0
      have p1 := hw3
      have p2 := hp0
      have p3 := hp3
      have p4 := c5
      have p5 := c11
      try simp only [true_implies, Int32.lt_iff_toInt_lt, ← Int32.toInt_inj, Int32.reduceToInt, Int64.lt_iff_toInt_lt, ← Int64.toInt_inj, Int64.reduceToInt] at q0 q1 q2 q3 q4 q5 p0 p1 p2 p3 p4 p5
      first | omega | (simp only [Int32.reduceToInt, ← Int32.toInt_inj] <;> omega) | decide
    have om30 : s0_.toInt + s1_.toInt + s2_.toInt + (s3_ + (1 : Int32)).toInt = cnt2.toInt := by
      have q0 := rng32 s0_
      have r0 := rng32 s0_
      have q1 := rng32 s1_
      have r1 := rng32 s1_
      have q2 := rng32 s2_
      have r2 := rng32 s2_
      have q3 := rng32 s3_
      have r3 := rng32 s3_
      have q4 := c_iadd s3_ (1 : Int32)
      have r4 := rng32 (s3_ + (1 : Int32))
      have q5 := rng32 w
      have r5 := rng32 w
      have q6 := own_prod (s3_ + (1 : Int32)) w
      have r6 := rng32 ((s3_ + (1 : Int32)) * w)
      have q7 := congrArg Int32.toInt hnd_
      have r7 := rng32 nd_
      have q8 := own_prod s3_ w
      have r8 := rng32 (s3_ * w)
      have p0 := hw0
      have p1 := hw3
      have p2 := hp0
      have p3 := hp3
      have p4 := c5
      have p5 := c11
      try simp only [true_implies, Int32.lt_iff_toInt_lt, ← Int32.toInt_inj, Int32.reduceToInt, Int64.lt_iff_toInt_lt, ← Int64.toInt_inj, Int64.reduceToInt] at q0 q1 q2 q3 q4 q5 q6 q7 q8 p0 p1 p2 p3 p4 p5
      first | omega | (simp only [Int32.reduceToInt, ← Int32.toInt_inj] <;> omega) | decide
    have K31 := ((K0.trans K10 (allS (Or.inl (List.mem_of_getElem? (i := 5) rfl)) all0)).wr W15 (Or.inl (List.mem_of_getElem? (i := 1) rfl)))
    exact own_ret0 X15 hx hlk Bd.returns (hb hby dc5_106) (by decide) (by decide) (by rw [e15]; exact ⟨rfl, N15, [C_, S_, d0_, d1_, d2_, d3_], K31, (fun x hx_ => by simp only [List.mem_cons, List.not_mem_nil, or_false] at hx_; rcases hx_ with rfl | rfl | rfl | rfl | rfl | rfl <;> assumption), ⟨C_, S_, d0_, d1_, d2_, d3_, kC_, kS_, kb_, e0_, e1_, e2_, e3_, s0_, s1_, s2_, (s3_ + (1 : Int32)), m0_, m1_, m2_, (16 : Int32), bx_, by_, bz_, v0_, v1_, v2_, vn10, f16, f17, f18, f19, f20, OV, f15, f21, f22, f23, f24, f25, g_C_, g_S_, g_d0_, g_d1_, g_d2_, g_d3_, ne_C__S_, ne_C__d0_, ne_C__d1_, ne_C__d2_, ne_C__d3_, ne_S__d0_, ne_S__d1_, ne_S__d2_, ne_S__d3_, ne_d0__d1_, ne_d0__d2_, ne_d0__d3_, ne_d1__d2_, ne_d1__d3_, ne_d2__d3_, ne_cb_C_, ne_cb_S_, ne_cb_d0_, ne_cb_d1_, ne_cb_d2_, ne_cb_d3_, ne_q_C_, ne_q_S_, ne_q_d0_, ne_q_d1_, ne_q_d2_, ne_q_d3_, om26, om27, om28, om29, om30, iM0_, iM1_, iM2_, (Or.inl rfl), iL0_, iL1_, iL2_, ln10, WB⟩⟩)
  · subst hm
    obtain rfl : v3_ = [] := List.eq_nil_of_length_eq_zero (iL3_.trans rfl)
    obtain rfl : s3_ = 0 := Int32.toInt_inj.mp (hs.trans rfl)
    show oG p e below _ (s₁.setTop (mkF m 0 #[.val (.ref q), .val (.ref cb), .val (.ref t), .unset, .unset, .unset] []))
    refine og (fun _ hr => XS.aloadN X0.here hx rfl (hb hby dc5_0) rfl rfl hr) ?_
    show oG p e below _ (s₁.setTop (mkF m 1 #[.val (.ref q), .val (.ref cb), .val (.ref t), .unset, .unset, .unset] [(.ref t)]))
    refine own_cu X0 hx hZ hown (hw _ (own_m 49 rfl)) (hw _ (own_m 50 rfl)) (hw _ (own_m 51 rfl)) (hw _ (own_m 53 rfl)) (hw _ (own_m 52 rfl)) (hw _ (own_m 54 rfl)) (hw _ (own_m 55 rfl)) (by decide) Et (rm := { frames := 0, cells := 0, slots := 0, locals := 0 }) (rm_ordinal_7 l Z a0 hw [] t h0 n0 Z0 Ft) (by decide) (W := 0) (by decide) (by decide) (by decide) e0 (by rw [hml]; rfl) (argsL := []) (lenOf own_pd0 rfl) (rest := []) rfl rfl (Nat.le_of_eq rfl) (hb hby dc5_1) ?_
    intro _ T32 L32 X32 hQ32
    obtain ⟨rfl, N32q, e32⟩ := hQ32
    have N32 := Fr.app N0 N32q
    show oG p e below _ (T32.setTop (mkF m 4 #[.val (.ref q), .val (.ref cb), .val (.ref t), .unset, .unset, .unset] [(.int (3 : Int32))]))
    refine og (fun _ hr => XS.istoreN X32.here hx rfl (hb hby dc5_4) rfl (l' := #[.val (.ref q), .val (.ref cb), .val (.ref t), .val (.int (3 : Int32)), .unset, .unset]) rfl (XS.aloadN X32.here hx rfl (hb hby dc5_5) rfl rfl hr)) ?_
    show oG p e below _ (T32.setTop (mkF m 6 #[.val (.ref q), .val (.ref cb), .val (.ref t), .val (.int (3 : Int32)), .unset, .unset] [(.ref q)]))
    obtain ⟨T33, X33, e33, st33⟩ := getF X32 hx hZ hown (host := "") (Or.inl (hw _ (own_m 34 rfl))) Via.refl e32 FS (g := (mkF m 6 #[.val (.ref q), .val (.ref cb), .val (.ref t), .val (.int (3 : Int32)), .unset, .unset] [(.ref q)])) rfl rfl (hb hby dc5_6)
    refine og st33 ?_
    show oG p e below _ (T33.setTop (mkF m 9 #[.val (.ref q), .val (.ref cb), .val (.ref t), .val (.int (3 : Int32)), .unset, .unset] [(.ref S_)]))
    refine og (fun _ hr => XS.iloadN X33.here hx rfl (hb hby dc5_9) rfl (own_iaload X33 hx hZ e33 VS (3 : Int32) (.int (0 : Int32)) ⟨by decide, by decide⟩ rfl rfl rfl (hb hby dc5_10) (XS.iconst X33.here hx rfl (hb hby dc5_11) (XS.iadd X33.here hx rfl (hb hby dc5_12) rfl (XS.aloadN X33.here hx rfl (hb hby dc5_13) rfl rfl hr))))) ?_
    show oG p e below _ (T33.setTop (mkF m 14 #[.val (.ref q), .val (.ref cb), .val (.ref t), .val (.int (3 : Int32)), .unset, .unset] [(.ref q), (.int (1 : Int32))]))
    obtain ⟨T34, X34, e34, st34⟩ := getF X33 hx hZ hown (host := "") (Or.inl (hw _ (own_m 36 rfl))) Via.refl e33 FW (g := (mkF m 14 #[.val (.ref q), .val (.ref cb), .val (.ref t), .val (.int (3 : Int32)), .unset, .unset] [(.ref q), (.int (1 : Int32))])) rfl rfl (hb hby dc5_14)
    refine og st34 ?_
    show oG p e below _ (T34.setTop (mkF m 17 #[.val (.ref q), .val (.ref cb), .val (.ref t), .val (.int (3 : Int32)), .unset, .unset] [(.int w), (.int (1 : Int32))]))
    refine og (fun _ hr => XS.imul X34.here hx rfl (hb hby dc5_17) rfl (XS.istore X34.here hx rfl (hb hby dc5_18) rfl (l' := #[.val (.ref q), .val (.ref cb), .val (.ref t), .val (.int (3 : Int32)), .val (.int ((1 : Int32) * w)), .unset]) rfl hr)) ?_
    show oG p e below _ (T34.setTop (mkF m 20 #[.val (.ref q), .val (.ref cb), .val (.ref t), .val (.int (3 : Int32)), .val (.int ((1 : Int32) * w)), .unset] []))
    generalize hnd_ : ((1 : Int32) * w) = nd_
    refine og (fun _ hr => XS.iload X34.here hx rfl (hb hby dc5_20) rfl (XS.aloadN X34.here hx rfl (hb hby dc5_22) rfl rfl hr)) ?_
    show oG p e below _ (T34.setTop (mkF m 23 #[.val (.ref q), .val (.ref cb), .val (.ref t), .val (.int (3 : Int32)), .val (.int nd_), .unset] [(.ref q), (.int nd_)]))
    obtain ⟨T35, X35, e35, st35⟩ := getF X34 hx hZ hown (host := "") (Or.inl (hw _ (own_m 32 rfl))) Via.refl e34 FC (g := (mkF m 23 #[.val (.ref q), .val (.ref cb), .val (.ref t), .val (.int (3 : Int32)), .val (.int nd_), .unset] [(.ref q), (.int nd_)])) rfl rfl (hb hby dc5_23)
    refine og st35 ?_
    show oG p e below _ (T35.setTop (mkF m 26 #[.val (.ref q), .val (.ref cb), .val (.ref t), .val (.int (3 : Int32)), .val (.int nd_), .unset] [(.ref C_), (.int nd_)]))
    refine og (fun _ hr => XS.iloadN X35.here hx rfl (hb hby dc5_26) rfl (own_aaload X35 hx hZ e35 VC (3 : Int32) (.ref d3_) ⟨by decide, by decide⟩ rfl rfl rfl rfl (hb hby dc5_27) (own_alen X35 hx hZ e35 VD3 rfl rfl (hb hby dc5_28) hr))) ?_
    show oG p e below _ (T35.setTop (mkF m 29 #[.val (.ref q), .val (.ref cb), .val (.ref t), .val (.int (3 : Int32)), .val (.int nd_), .unset] [(.int (0 : Int32)), (.int nd_)]))
    rcases Classical.em ((0 : Int32) < nd_) with c36 | c36
    · skip
      refine og (fun _ hr => XS.icmpNo X35.here hx rfl (hb hby dc5_29) rfl (tlt c36).2.2.2 hr) ?_
      show oG p e below _ (T35.setTop (mkF m 32 #[.val (.ref q), .val (.ref cb), .val (.ref t), .val (.int (3 : Int32)), .val (.int nd_), .unset] []))
      refine og (fun _ hr => XS.bipush X35.here hx rfl (hb hby dc5_32) (XS.iconst X35.here hx rfl (hb hby dc5_34) (XS.aloadN X35.here hx rfl (hb hby dc5_35) rfl rfl hr))) ?_
      show oG p e below _ (T35.setTop (mkF m 36 #[.val (.ref q), .val (.ref cb), .val (.ref t), .val (.int (3 : Int32)), .val (.int nd_), .unset] [(.ref q), (.int (2 : Int32)), (.int (16 : Int32))]))
      obtain ⟨T37, X37, e37, st37⟩ := getF X35 hx hZ hown (host := "") (Or.inl (hw _ (own_m 32 rfl))) Via.refl e35 FC (g := (mkF m 36 #[.val (.ref q), .val (.ref cb), .val (.ref t), .val (.int (3 : Int32)), .val (.int nd_), .unset] [(.ref q), (.int (2 : Int32)), (.int (16 : Int32))])) rfl rfl (hb hby dc5_36)
      refine og st37 ?_
      show oG p e below _ (T37.setTop (mkF m 39 #[.val (.ref q), .val (.ref cb), .val (.ref t), .val (.int (3 : Int32)), .val (.int nd_), .unset] [(.ref C_), (.int (2 : Int32)), (.int (16 : Int32))]))
      refine og (fun _ hr => XS.iloadN X37.here hx rfl (hb hby dc5_39) rfl (own_aaload X37 hx hZ e37 VC (3 : Int32) (.ref d3_) ⟨by decide, by decide⟩ rfl rfl rfl rfl (hb hby dc5_40) (own_alen X37 hx hZ e37 VD3 rfl rfl (hb hby dc5_41) (XS.imul X37.here hx rfl (hb hby dc5_42) rfl hr)))) ?_
      show oG p e below _ (T37.setTop (mkF m 43 #[.val (.ref q), .val (.ref cb), .val (.ref t), .val (.int (3 : Int32)), .val (.int nd_), .unset] [(.int (0 : Int32)), (.int (16 : Int32))]))
      refine own_cs X37 hx hZ hown (hw _ (own_m 70 rfl)) (hw _ (own_m 71 rfl)) (hw _ (own_m 72 rfl)) (hw _ (own_m 73 rfl)) (by decide) (rm := { frames := 0, cells := 0, slots := 0, locals := 0 }) (rm_max_1 l Z a0 hw []  h0 n0 Z0 ) (by decide) (W := 0) (by decide) (by decide) (by decide) e37 (by rw [hml]; rfl) (argsL := [(.int (16 : Int32)), (.int (0 : Int32))]) (lenOf own_pd1 rfl) (rest := []) rfl rfl (Nat.le_of_eq rfl) (hb hby dc5_43) ?_
      intro _ T38 L38 X38 hQ38
      obtain ⟨rfl, N38q, e38⟩ := hQ38
      have N38 := Fr.app N32 N38q
      show oG p e below _ (T38.setTop (mkF m 46 #[.val (.ref q), .val (.ref cb), .val (.ref t), .val (.int (3 : Int32)), .val (.int nd_), .unset] [(.int (16 : Int32))]))
      refine og (fun _ hr => XS.istore X38.here hx rfl (hb hby dc5_46) rfl (l' := #[.val (.ref q), .val (.ref cb), .val (.ref t), .val (.int (3 : Int32)), .val (.int nd_), .val (.int (16 : Int32))]) rfl (XS.aloadN X38.here hx rfl (hb hby dc5_48) rfl rfl hr)) ?_
      show oG p e below _ (T38.setTop (mkF m 49 #[.val (.ref q), .val (.ref cb), .val (.ref t), .val (.int (3 : Int32)), .val (.int nd_), .val (.int (16 : Int32))] [(.ref q)]))
      obtain ⟨T39, X39, e39, st39⟩ := getF X38 hx hZ hown (host := "") (Or.inl (hw _ (own_m 32 rfl))) Via.refl e38 FC (g := (mkF m 49 #[.val (.ref q), .val (.ref cb), .val (.ref t), .val (.int (3 : Int32)), .val (.int nd_), .val (.int (16 : Int32))] [(.ref q)])) rfl rfl (hb hby dc5_49)
      refine og st39 ?_
      show oG p e below _ (T39.setTop (mkF m 52 #[.val (.ref q), .val (.ref cb), .val (.ref t), .val (.int (3 : Int32)), .val (.int nd_), .val (.int (16 : Int32))] [(.ref C_)]))
      refine og (fun _ hr => XS.iloadN X39.here hx rfl (hb hby dc5_52) rfl (XS.aloadN X39.here hx rfl (hb hby dc5_53) rfl rfl hr)) ?_
      show oG p e below _ (T39.setTop (mkF m 54 #[.val (.ref q), .val (.ref cb), .val (.ref t), .val (.int (3 : Int32)), .val (.int nd_), .val (.int (16 : Int32))] [(.ref q), (.int (3 : Int32)), (.ref C_)]))
      obtain ⟨T40, X40, e40, st40⟩ := getF X39 hx hZ hown (host := "") (Or.inl (hw _ (own_m 32 rfl))) Via.refl e39 FC (g := (mkF m 54 #[.val (.ref q), .val (.ref cb), .val (.ref t), .val (.int (3 : Int32)), .val (.int nd_), .val (.int (16 : Int32))] [(.ref q), (.int (3 : Int32)), (.ref C_)])) rfl rfl (hb hby dc5_54)
      refine og st40 ?_
      show oG p e below _ (T40.setTop (mkF m 57 #[.val (.ref q), .val (.ref cb), .val (.ref t), .val (.int (3 : Int32)), .val (.int nd_), .val (.int (16 : Int32))] [(.ref C_), (.int (3 : Int32)), (.ref C_)]))
      refine og (fun _ hr => XS.iloadN X40.here hx rfl (hb hby dc5_57) rfl (own_aaload X40 hx hZ e40 VC (3 : Int32) (.ref d3_) ⟨by decide, by decide⟩ rfl rfl rfl rfl (hb hby dc5_58) (XS.iload X40.here hx rfl (hb hby dc5_59) rfl (XS.iload X40.here hx rfl (hb hby dc5_61) rfl hr)))) ?_
      show oG p e below _ (T40.setTop (mkF m 63 #[.val (.ref q), .val (.ref cb), .val (.ref t), .val (.int (3 : Int32)), .val (.int nd_), .val (.int (16 : Int32))] [(.int (16 : Int32)), (.int nd_), (.ref d3_), (.int (3 : Int32)), (.ref C_)]))
      have c41 : nd_ < (16 : Int32) := by
        have q0 := rng32 w
        have q1 := c_imul (1 : Int32) w
        have r1 := rng32 ((1 : Int32) * w)
        have q2 := congrArg Int32.toInt hnd_
        have p0 := hw0
        have p1 := hw3
        have p2 := c36
        simp only [true_implies, Int32.lt_iff_toInt_lt, ← Int32.toInt_inj, Int32.reduceToInt, Int64.lt_iff_toInt_lt, ← Int64.toInt_inj, Int64.reduceToInt] at q0 q1 q2 p0 p1 p2 ⊢
        omega
      refine own_cs X40 hx hZ hown (hw _ (own_m 70 rfl)) (hw _ (own_m 71 rfl)) (hw _ (own_m 72 rfl)) (hw _ (own_m 73 rfl)) (by decide) (rm := { frames := 0, cells := 0, slots := 0, locals := 0 }) (rm_max_2 l Z a0 hw [] nd_ h0 n0 Z0 c41) (by decide) (W := 3) (by decide) (by decide) (by decide) e40 (by rw [hml]; rfl) (argsL := [(.int nd_), (.int (16 : Int32))]) (lenOf own_pd1 rfl) (rest := [(.ref d3_), (.int (3 : Int32)), (.ref C_)]) rfl rfl (Nat.le_of_eq rfl) (hb hby dc5_63) ?_
      intro _ T42 L42 X42 hQ42
      obtain ⟨rfl, N42q, e42⟩ := hQ42
      have N42 := Fr.app N38 N42q
      show oG p e below _ (T42.setTop (mkF m 66 #[.val (.ref q), .val (.ref cb), .val (.ref t), .val (.int (3 : Int32)), .val (.int nd_), .val (.int (16 : Int32))] [(.int (16 : Int32)), (.ref d3_), (.int (3 : Int32)), (.ref C_)]))
      refine own_cs X42 hx hZ hown (hw _ (own_m 74 rfl)) (hw _ (own_m 75 rfl)) (hw _ (own_m 76 rfl)) (hw _ (own_m 77 rfl)) (by decide) (rm := { frames := 1, cells := 1, slots := 16, locals := 40 }) (rm_copyOf_4 l Z a0 hw [] d3_ e3_ h0 n0 Z0 VD3) (by decide) (W := 2) (by decide) (by decide) (by decide) e42 (by rw [hml]; rfl) (argsL := [(.ref d3_), (.int (16 : Int32))]) (lenOf own_pd2 rfl) (rest := [(.int (3 : Int32)), (.ref C_)]) rfl rfl (Nat.le_of_eq rfl) (hb hby dc5_66) ?_
      intro _ T43 L43 X43 hQ43
      obtain ⟨b43_0, kb43_0, rfl, N43q, K43, ge43_0, sz43_0, f43_0, f43_1⟩ := hQ43
      have N43 := Fr.app N42 N43q
      have sz44 : h0.size ≤ b43_0 := Nat.le_trans K0.1 sz43_0
      show oG p e below _ (T43.setTop (mkF m 69 #[.val (.ref q), .val (.ref cb), .val (.ref t), .val (.int (3 : Int32)), .val (.int nd_), .val (.int (16 : Int32))] [(.ref b43_0), (.int (3 : Int32)), (.ref C_)]))
      have f45 := (VC.keep K43 nin0)
      refine own_stR X43 hx hZ rfl f45 (3 : Int32) (.ref b43_0) 3 ⟨by decide, by decide⟩ rfl (Nat.le_of_ble_eq_true rfl) (fun _ A q => Sto.ofVA A q OV (Ins.self f43_0)) rfl [(.ref d0_), (.ref d1_), (.ref d2_), (.ref b43_0)] rfl N43 ge_C_ (hb hby dc5_69) ?_
      intro T46 h46 L46 X46 e46 W46 N46 f46
      show oG p e below _ (T46.setTop (mkF m 70 #[.val (.ref q), .val (.ref cb), .val (.ref t), .val (.int (3 : Int32)), .val (.int nd_), .val (.int (16 : Int32))] []))
      refine og (fun _ hr => XS.aloadN X46.here hx rfl (hb hby dc5_70) rfl rfl (XS.iconst X46.here hx rfl (hb hby dc5_71) (XS.aloadN X46.here hx rfl (hb hby dc5_72) rfl rfl hr))) ?_
      show oG p e below _ (T46.setTop (mkF m 73 #[.val (.ref q), .val (.ref cb), .val (.ref t), .val (.int (3 : Int32)), .val (.int nd_), .val (.int (16 : Int32))] [(.ref q), (.int (0 : Int32)), (.ref cb)]))
      have f47 := ((FC.keep K43 nin0).other W46 (Or.inl ne_q_C_))
      obtain ⟨T48, X48, e48, st48⟩ := getF X46 hx hZ hown (host := "") (Or.inl (hw _ (own_m 32 rfl))) Via.refl e46 f47 (g := (mkF m 73 #[.val (.ref q), .val (.ref cb), .val (.ref t), .val (.int (3 : Int32)), .val (.int nd_), .val (.int (16 : Int32))] [(.ref q), (.int (0 : Int32)), (.ref cb)])) rfl rfl (hb hby dc5_73)
      refine og st48 ?_
      show oG p e below _ (T48.setTop (mkF m 76 #[.val (.ref q), .val (.ref cb), .val (.ref t), .val (.int (3 : Int32)), .val (.int nd_), .val (.int (16 : Int32))] [(.ref C_), (.int (0 : Int32)), (.ref cb)]))
      refine og (fun _ hr => XS.iloadN X48.here hx rfl (hb hby dc5_76) rfl (own_aaload X48 hx hZ e48 f46 (3 : Int32) (.ref b43_0) ⟨by decide, by decide⟩ rfl rfl rfl rfl (hb hby dc5_77) (XS.aloadN X48.here hx rfl (hb hby dc5_78) rfl rfl hr))) ?_
      show oG p e below _ (T48.setTop (mkF m 79 #[.val (.ref q), .val (.ref cb), .val (.ref t), .val (.int (3 : Int32)), .val (.int nd_), .val (.int (16 : Int32))] [(.ref q), (.ref b43_0), (.int (0 : Int32)), (.ref cb)]))
      have f49 := ((FS.keep K43 nin0).other W46 (Or.inl ne_q_C_))
      obtain ⟨T50, X50, e50, st50⟩ := getF X48 hx hZ hown (host := "") (Or.inl (hw _ (own_m 34 rfl))) Via.refl e48 f49 (g := (mkF m 79 #[.val (.ref q), .val (.ref cb), .val (.ref t), .val (.int (3 : Int32)), .val (.int nd_), .val (.int (16 : Int32))] [(.ref q), (.ref b43_0), (.int (0 : Int32)), (.ref cb)])) rfl rfl (hb hby dc5_79)
      refine og st50 ?_
      show oG p e below _ (T50.setTop (mkF m 82 #[.val (.ref q), .val (.ref cb), .val (.ref t), .val (.int (3 : Int32)), .val (.int nd_), .val (.int (16 : Int32))] [(.ref S_), (.ref b43_0), (.int (0 : Int32)), (.ref cb)]))
      have f51 := ((VS.keep K43 nin0).other W46 (Ne.symm ne_C__S_))
      refine og (fun _ hr => XS.iloadN X50.here hx rfl (hb hby dc5_82) rfl (own_iaload X50 hx hZ e50 f51 (3 : Int32) (.int (0 : Int32)) ⟨by decide, by decide⟩ rfl rfl rfl (hb hby dc5_83) (XS.aloadN X50.here hx rfl (hb hby dc5_84) rfl rfl hr))) ?_
      show oG p e below _ (T50.setTop (mkF m 85 #[.val (.ref q), .val (.ref cb), .val (.ref t), .val (.int (3 : Int32)), .val (.int nd_), .val (.int (16 : Int32))] [(.ref q), (.int (0 : Int32)), (.ref b43_0), (.int (0 : Int32)), (.ref cb)]))
      have f52 := ((FW.keep K43 nin0).other W46 (Or.inl ne_q_C_))
      obtain ⟨T53, X53, e53, st53⟩ := getF X50 hx hZ hown (host := "") (Or.inl (hw _ (own_m 36 rfl))) Via.refl e50 f52 (g := (mkF m 85 #[.val (.ref q), .val (.ref cb), .val (.ref t), .val (.int (3 : Int32)), .val (.int nd_), .val (.int (16 : Int32))] [(.ref q), (.int (0 : Int32)), (.ref b43_0), (.int (0 : Int32)), (.ref cb)])) rfl rfl (hb hby dc5_85)
      refine og st53 ?_
      show oG p e below _ (T53.setTop (mkF m 88 #[.val (.ref q), .val (.ref cb), .val (.ref t), .val (.int (3 : Int32)), .val (.int nd_), .val (.int (16 : Int32))] [(.int w), (.int (0 : Int32)), (.ref b43_0), (.int (0 : Int32)), (.ref cb)]))
      refine og (fun _ hr => XS.imul X53.here hx rfl (hb hby dc5_88) rfl (XS.aloadN X53.here hx rfl (hb hby dc5_89) rfl rfl hr)) ?_
      show oG p e below _ (T53.setTop (mkF m 90 #[.val (.ref q), .val (.ref cb), .val (.ref t), .val (.int (3 : Int32)), .val (.int nd_), .val (.int (16 : Int32))] [(.ref q), (.int ((0 : Int32) * w)), (.ref b43_0), (.int (0 : Int32)), (.ref cb)]))
      obtain ⟨T54, X54, e54, st54⟩ := getF X53 hx hZ hown (host := "") (Or.inl (hw _ (own_m 36 rfl))) Via.refl e53 f52 (g := (mkF m 90 #[.val (.ref q), .val (.ref cb), .val (.ref t), .val (.int (3 : Int32)), .val (.int nd_), .val (.int (16 : Int32))] [(.ref q), (.int ((0 : Int32) * w)), (.ref b43_0), (.int (0 : Int32)), (.ref cb)])) rfl rfl (hb hby dc5_90)
      refine og st54 ?_
      show oG p e below _ (T54.setTop (mkF m 93 #[.val (.ref q), .val (.ref cb), .val (.ref t), .val (.int (3 : Int32)), .val (.int nd_), .val (.int (16 : Int32))] [(.int w), (.int ((0 : Int32) * w)), (.ref b43_0), (.int (0 : Int32)), (.ref cb)]))
      have f56 := ((VB.keep K43 nin0).other W46 ne_cb_C_)
      have f57 := (f43_1.other W46 (Ne.symm (Nat.ne_of_lt (Nat.lt_of_lt_of_le VC.lt sz43_0))))
      have c58 : ¬ (((0 : Int32) * w) < (0 : Int32)) := by
        have q0 := rng32 w
        have q1 := c_imul (1 : Int32) w
        have r1 := rng32 ((1 : Int32) * w)
        have q2 := congrArg Int32.toInt hnd_
        have q3 := c_imul (0 : Int32) w
        have r3 := rng32 ((0 : Int32) * w)
        have p0 := hw0
        have p1 := hw3
        have p2 := c36
        have p3 := c41
        simp only [true_implies, Int32.lt_iff_toInt_lt, ← Int32.toInt_inj, Int32.reduceToInt, Int64.lt_iff_toInt_lt, ← Int64.toInt_inj, Int64.reduceToInt] at q0 q1 q2 q3 p0 p1 p2 p3 ⊢
        omega
      have le55 : ((0 : Int32) * w).toInt + w.toInt ≤ (16 : Int32).toInt ∧ w.toInt ≤ 3 ∧ 0 ≤ ((0 : Int32) * w).toInt ∧ 0 ≤ w.toInt ∧ 0 ≤ (16 : Int32).toInt := by
        have q0 := rng32 w
        have r0 := rng32 w
        have q1 := c_imul (0 : Int32) w
        have r1 := rng32 ((0 : Int32) * w)
        have q2 := c_imul (1 : Int32) w
        have r2 := rng32 ((1 : Int32) * w)
        have q3 := congrArg Int32.toInt hnd_
        have r3 := rng32 nd_
        have p0 := hw0
        have p1 := hw3
        have p2 := c36
        have p3 := c41
        have p4 := c58
        try simp only [true_implies, Int32.lt_iff_toInt_lt, ← Int32.toInt_inj, Int32.reduceToInt, Int64.lt_iff_toInt_lt, ← Int64.toInt_inj, Int64.reduceToInt] at q0 q1 q2 q3 p0 p1 p2 p3 p4
        try simp only [Int32.reduceToInt]
        omega
      have lf55 : ((0 : Int32) * w).toNatClampNeg + w.toNatClampNeg ≤ (16 : Int32).toNatClampNeg ∧ (0 : Int32).toNatClampNeg + w.toNatClampNeg ≤ (3 : Int32).toNatClampNeg := by
        have := own_tn ((0 : Int32) * w) (by omega)
        have := own_tn w (by omega)
        have := own_tn (16 : Int32) (by omega)
        have z0 : (0 : Int32).toNatClampNeg = 0 := rfl
        have z3 : (3 : Int32).toNatClampNeg = 3 := rfl
        omega
      have ll55 : ([(.int (0 : Int32)), (.int (0 : Int32)), (.int (0 : Int32)), (.int (0 : Int32)), (.int (0 : Int32)), (.int (0 : Int32)), (.int (0 : Int32)), (.int (0 : Int32)), (.int (0 : Int32)), (.int (0 : Int32)), (.int (0 : Int32)), (.int (0 : Int32)), (.int (0 : Int32)), (.int (0 : Int32)), (.int (0 : Int32)), (.int (0 : Int32))] : List Value).length = (16 : Int32).toNatClampNeg := (by decide)
      obtain ⟨T55, h55, L55, X55, e55, N55, K55, A55, st55⟩ := cpA X54 hx hZ hown (hw _ (own_m 58 rfl)) (hw _ (own_m 61 rfl)) (hw _ (own_m 59 rfl)) (hw _ (own_m 60 rfl)) e54 f56 f57 (us := _) (Or.inl ⟨rfl, rfl⟩) (by decide) c58 hw0 lf55.2 lf55.1 rfl (ll55 ▸ lf55.1) N46 ge43_0 (g := (mkF m 93 #[.val (.ref q), .val (.ref cb), .val (.ref t), .val (.int (3 : Int32)), .val (.int nd_), .val (.int (16 : Int32))] [(.int w), (.int ((0 : Int32) * w)), (.ref b43_0), (.int (0 : Int32)), (.ref cb)])) rfl (by rw [hml]; rfl) rfl (hb hby dc5_93) (by decide) (W := 0) (by show 2 * 0 + _ ≤ _; exact Nat.le_of_eq rfl) (by decide)
      refine og st55 ?_
      have ln55 := own_cplen (us := (List.range w.toNatClampNeg).map fun i => ([(.int bx_), (.int by_), (.int bz_)] : List Value).getD ((0 : Int32).toNatClampNeg + i) (.int (0 : Int32))) (ll55 ▸ lf55.1) (by simp) ll55
      generalize hvn55 : (([(.int (0 : Int32)), (.int (0 : Int32)), (.int (0 : Int32)), (.int (0 : Int32)), (.int (0 : Int32)), (.int (0 : Int32)), (.int (0 : Int32)), (.int (0 : Int32)), (.int (0 : Int32)), (.int (0 : Int32)), (.int (0 : Int32)), (.int (0 : Int32)), (.int (0 : Int32)), (.int (0 : Int32)), (.int (0 : Int32)), (.int (0 : Int32))] : List Value).take ((0 : Int32) * w).toNatClampNeg ++ (List.range w.toNatClampNeg).map (fun i => ([(.int bx_), (.int by_), (.int bz_)] : List Value).getD ((0 : Int32).toNatClampNeg + i) (.int (0 : Int32))) ++ ([(.int (0 : Int32)), (.int (0 : Int32)), (.int (0 : Int32)), (.int (0 : Int32)), (.int (0 : Int32)), (.int (0 : Int32)), (.int (0 : Int32)), (.int (0 : Int32)), (.int (0 : Int32)), (.int (0 : Int32)), (.int (0 : Int32)), (.int (0 : Int32)), (.int (0 : Int32)), (.int (0 : Int32)), (.int (0 : Int32)), (.int (0 : Int32))] : List Value).drop (((0 : Int32) * w).toNatClampNeg + w.toNatClampNeg)) = vn55 at A55 ln55
      show oG p e below _ (T55.setTop (mkF m 96 #[.val (.ref q), .val (.ref cb), .val (.ref t), .val (.int (3 : Int32)), .val (.int nd_), .val (.int (16 : Int32))] []))
      refine og (fun _ hr => XS.aloadN X55.here hx rfl (hb hby dc5_96) rfl rfl hr) ?_
      show oG p e below _ (T55.setTop (mkF m 97 #[.val (.ref q), .val (.ref cb), .val (.ref t), .val (.int (3 : Int32)), .val (.int nd_), .val (.int (16 : Int32))] [(.ref q)]))
      have f59 := (f49.keep K55 (ninS (Nat.ne_of_lt (Nat.lt_of_lt_of_le EQ.lt sz43_0)) nin0))
      obtain ⟨T60, X60, e60, st60⟩ := getF X55 hx hZ hown (host := "") (Or.inl (hw _ (own_m 34 rfl))) Via.refl e55 f59 (g := (mkF m 97 #[.val (.ref q), .val (.ref cb), .val (.ref t), .val (.int (3 : Int32)), .val (.int nd_), .val (.int (16 : Int32))] [(.ref q)])) rfl rfl (hb hby dc5_97)
      refine og st60 ?_
      show oG p e below _ (T60.setTop (mkF m 100 #[.val (.ref q), .val (.ref cb), .val (.ref t), .val (.int (3 : Int32)), .val (.int nd_), .val (.int (16 : Int32))] [(.ref S_)]))
      refine og (fun _ hr => XS.iloadN X60.here hx rfl (hb hby dc5_100) rfl hr) ?_
      show oG p e below _ (T60.setTop (mkF m 101 #[.val (.ref q), .val (.ref cb), .val (.ref t), .val (.int (3 : Int32)), .val (.int nd_), .val (.int (16 : Int32))] [(.int (3 : Int32)), (.ref S_)]))
      refine og (S' := T60.setTop (mkF m 102 #[.val (.ref q), .val (.ref cb), .val (.ref t), .val (.int (3 : Int32)), .val (.int nd_), .val (.int (16 : Int32))] [(.int (3 : Int32)), (.ref S_), (.int (3 : Int32)), (.ref S_)])) (fun _ hr => by
        jvm_step X60.here [X60.here.top, hx, (hb hby dc5_101), Value.category]
        exact hr) ?_
      show oG p e below _ (T60.setTop (mkF m 102 #[.val (.ref q), .val (.ref cb), .val (.ref t), .val (.int (3 : Int32)), .val (.int nd_), .val (.int (16 : Int32))] [(.int (3 : Int32)), (.ref S_), (.int (3 : Int32)), (.ref S_)]))
      have f61 := (f51.keep K55 (ninS (Nat.ne_of_lt (Nat.lt_of_lt_of_le VS.lt sz43_0)) nin0))
      refine og (fun _ hr => own_iaload X60 hx hZ e60 f61 (3 : Int32) (.int (0 : Int32)) ⟨by decide, by decide⟩ rfl rfl rfl (hb hby dc5_102) (XS.iconst X60.here hx rfl (hb hby dc5_103) (XS.iadd X60.here hx rfl (hb hby dc5_104) rfl hr))) ?_
      show oG p e below _ (T60.setTop (mkF m 105 #[.val (.ref q), .val (.ref cb), .val (.ref t), .val (.int (3 : Int32)), .val (.int nd_), .val (.int (16 : Int32))] [(.int (1 : Int32)), (.int (3 : Int32)), (.ref S_)]))
      refine own_stI X60 hx hZ e60 f61 (3 : Int32) (1 : Int32) 3 ⟨by decide, by decide⟩ rfl (Nat.le_of_ble_eq_true rfl)  [(.int s0_), (.int s1_), (.int s2_), (.int (1 : Int32))] rfl N55 ge_S_ (hb hby dc5_105) ?_
      intro T62 h62 L62 X62 e62 W62 N62 f62
      show oG p e below _ (T62.setTop (mkF m 106 #[.val (.ref q), .val (.ref cb), .val (.ref t), .val (.int (3 : Int32)), .val (.int nd_), .val (.int (16 : Int32))] []))
      have K63 := ((((K0.trans K43 all0).wr W46 (Or.inl (List.mem_of_getElem? (i := 0) rfl))).trans K55 (allS (Or.inr sz44) all0)).wr W62 (Or.inl (List.mem_of_getElem? (i := 1) rfl)))
      have f64 := (EQ.keep K63)
      have f65 := ((f47.keep K55 (ninS (Nat.ne_of_lt (Nat.lt_of_lt_of_le EQ.lt sz43_0)) nin0)).other W62 (Or.inl ne_q_S_))
      have f66 := (f59.other W62 (Or.inl ne_q_S_))
      have f67 := ((f52.keep K55 (ninS (Nat.ne_of_lt (Nat.lt_of_lt_of_le EQ.lt sz43_0)) nin0)).other W62 (Or.inl ne_q_S_))
      have f68 := ((f46.keep K55 (ninS (Nat.ne_of_lt (Nat.lt_of_lt_of_le VC.lt sz43_0)) nin0)).other W62 ne_C__S_)
      have f69 := ((((VD0.keep K43 nin0).other W46 (Ne.symm ne_C__d0_)).keep K55 (ninS (Nat.ne_of_lt (Nat.lt_of_lt_of_le VD0.lt sz43_0)) nin0)).other W62 (Ne.symm ne_S__d0_))
      have f70 := ((((VD1.keep K43 nin0).other W46 (Ne.symm ne_C__d1_)).keep K55 (ninS (Nat.ne_of_lt (Nat.lt_of_lt_of_le VD1.lt sz43_0)) nin0)).other W62 (Ne.symm ne_S__d1_))
      have f71 := ((((VD2.keep K43 nin0).other W46 (Ne.symm ne_C__d2_)).keep K55 (ninS (Nat.ne_of_lt (Nat.lt_of_lt_of_le VD2.lt sz43_0)) nin0)).other W62 (Ne.symm ne_S__d2_))
      have f72 := (A55.other W62 (Ne.symm (Nat.ne_of_lt (Nat.lt_of_lt_of_le VS.lt sz43_0))))
      have f73 := ((f56.keep K55 (ninS (Nat.ne_of_lt (Nat.lt_of_lt_of_le VB.lt sz43_0)) nin0)).other W62 ne_cb_S_)
      have om74 : 0 ≤ s0_.toInt := by
        have q0 := rng32 s0_
        have r0 := rng32 s0_
        have q1 := rng32 w
        have r1 := rng32 w
        have q2 := c_imul (1 : Int32) w
        have r2 := rng32 ((1 : Int32) * w)
        have q3 := congrArg Int32.toInt hnd_
        have r3 := rng32 nd_
        have q4 := c_imul (0 : Int32) w
        have r4 := rng32 ((0 : Int32) * w)
        have p0 := hw0
        have p1 := hw3
        have p2 := c36
        have p3 := c41
        have p4 := c58
        try simp only [true_implies, Int32.lt_iff_toInt_lt, ← Int32.toInt_inj, Int32.reduceToInt, Int64.lt_iff_toInt_lt, ← Int64.toInt_inj, Int64.reduceToInt] at q0 q1 q2 q3 q4 p0 p1 p2 p3 p4
        first | omega | (simp only [Int32.reduceToInt, ← Int32.toInt_inj] <;> omega) | decide
      have om75 : 0 ≤ s1_.toInt := by
        have q0 := rng32 s1_
        have r0 := rng32 s1_
        have q1 := rng32 w
        have r1 := rng32 w
        have q2 := c_imul (1 : Int32) w
        have r2 := rng32 ((1 : Int32) * w)
        have q3 := congrArg Int32.toInt hnd_
        have r3 := rng32 nd_
        have q4 := c_imul (0 : Int32) w
        have r4 := rng32 ((0 : Int32) * w)
        have p0 := hw0
        have p1 := hw3
        have p2 := c36
        have p3 := c41
        have p4 := c58
        try simp only [true_implies, Int32.lt_iff_toInt_lt, ← Int32.toInt_inj, Int32.reduceToInt, Int64.lt_iff_toInt_lt, ← Int64.toInt_inj, Int64.reduceToInt] at q0 q1 q2 q3 q4 p0 p1 p2 p3 p4
        first | omega | (simp only [Int32.reduceToInt, ← Int32.toInt_inj] <;> omega) | decide
      have om76 : 0 ≤ s2_.toInt := by
        have q0 := rng32 s2_
        have r0 := rng32 s2_
        have q1 := rng32 w
        have r1 := rng32 w
        have q2 := c_imul (1 : Int32) w
        have r2 := rng32 ((1 : Int32) * w)
        have q3 := congrArg Int32.toInt hnd_
        have r3 := rng32 nd_
        have q4 := c_imul (0 : Int32) w
        have r4 := rng32 ((0 : Int32) * w)
        have p0 := hw0
        have p1 := hw3
        have p2 := c36
        have p3 := c41
        have p4 := c58
        try simp only [true_implies, Int32.lt_iff_toInt_lt, ← Int32.toInt_inj, Int32.reduceToInt, Int64.lt_iff_toInt_lt, ← Int64.toInt_inj, Int64.reduceToInt] at q0 q1 q2 q3 q4 p0 p1 p2 p3 p4
        first | omega | (simp only [Int32.reduceToInt, ← Int32.toInt_inj] <;> omega) | decide
      have om77 : 0 ≤ (1 : Int32).toInt := by
        have q0 := rng32 w
        have r0 := rng32 w
        have q1 := c_imul (1 : Int32) w
        have r1 := rng32 ((1 : Int32) * w)
        have q2 := congrArg Int32.toInt hnd_
        have r2 := rng32 nd_
        have q3 := c_imul (0 : Int32) w
        have r3 := rng32 ((0 : Int32) * w)
        have p0 := hw0
        have p1 := hw3
        have p2 := c36
        have p3 := c41
        have p4 := c58
        try simp only [true_implies, Int32.lt_iff_toInt_lt, ← Int32.toInt_inj, Int32.reduceToInt, Int64.lt_iff_toInt_lt, ← Int64.toInt_inj, Int64.reduceToInt] at q0 q1 q2 q3 p0 p1 p2 p3 p4
        first | omega | (simp only [Int32.reduceToInt, ← Int32.toInt_inj] <;> omega) | decide
      have om78 : s0_.toInt + s1_.toInt + s2_.toInt + (1 : Int32).toInt = cnt2.toInt := by
        have q0 := rng32 s0_
        have r0 := rng32 s0_
        have q1 := rng32 s1_
        have r1 := rng32 s1_
        have q2 := rng32 s2_
        have r2 := rng32 s2_
        have q3 := rng32 w
        have r3 := rng32 w
        have q4 := c_imul (1 : Int32) w
        have r4 := rng32 ((1 : Int32) * w)
        have q5 := congrArg Int32.toInt hnd_
        have r5 := rng32 nd_
        have q6 := c_imul (0 : Int32) w
        have r6 := rng32 ((0 : Int32) * w)
        have p0 := hw0
        have p1 := hw3
        have p2 := c36
        have p3 := c41
        have p4 := c58
        try simp only [true_implies, Int32.lt_iff_toInt_lt, ← Int32.toInt_inj, Int32.reduceToInt, Int64.lt_iff_toInt_lt, ← Int64.toInt_inj, Int64.reduceToInt] at q0 q1 q2 q3 q4 q5 q6 p0 p1 p2 p3 p4
        first | omega | (simp only [Int32.reduceToInt, ← Int32.toInt_inj] <;> omega) | decide
      exact own_ret0 X62 hx hlk Bd.returns (hb hby dc5_106) (by decide) (by decide) (by rw [e62]; exact ⟨rfl, N62, [C_, S_, d0_, d1_, d2_, d3_], K63, (fun x hx_ => by simp only [List.mem_cons, List.not_mem_nil, or_false] at hx_; rcases hx_ with rfl | rfl | rfl | rfl | rfl | rfl <;> assumption), ⟨C_, S_, d0_, d1_, d2_, b43_0, kC_, kS_, kb_, e0_, e1_, e2_, kb43_0, s0_, s1_, s2_, (1 : Int32), m0_, m1_, m2_, (16 : Int32), bx_, by_, bz_, v0_, v1_, v2_, vn55, f64, f65, f66, f67, f68, OV, f62, f69, f70, f71, f72, f73, g_C_, g_S_, g_d0_, g_d1_, g_d2_, (Nat.le_trans (Nat.le_trans g_C_ (Nat.le_of_lt VC.lt)) sz44), ne_C__S_, ne_C__d0_, ne_C__d1_, ne_C__d2_, (Nat.ne_of_lt (Nat.lt_of_lt_of_le VC.lt sz43_0)), ne_S__d0_, ne_S__d1_, ne_S__d2_, (Nat.ne_of_lt (Nat.lt_of_lt_of_le VS.lt sz43_0)), ne_d0__d1_, ne_d0__d2_, (Nat.ne_of_lt (Nat.lt_of_lt_of_le VD0.lt sz43_0)), ne_d1__d2_, (Nat.ne_of_lt (Nat.lt_of_lt_of_le VD1.lt sz43_0)), (Nat.ne_of_lt (Nat.lt_of_lt_of_le VD2.lt sz43_0)), ne_cb_C_, ne_cb_S_, ne_cb_d0_, ne_cb_d1_, ne_cb_d2_, (Nat.ne_of_lt (Nat.lt_of_lt_of_le VB.lt sz43_0)), ne_q_C_, ne_q_S_, ne_q_d0_, ne_q_d1_, ne_q_d2_, (Nat.ne_of_lt (Nat.lt_of_lt_of_le EQ.lt sz43_0)), om74, om75, om76, om77, om78, iM0_, iM1_, iM2_, (Or.inl rfl), iL0_, iL1_, iL2_, ln55, WB⟩⟩)
    refine og (fun _ hr => XS.icmpYes X35.here hx rfl (pc0 := 29) (pc' := 70) rfl (hb hby dc5_29) rfl (flt c36).2.2.2 (by decide) (by decide) hr) ?_
    show oG p e below _ (T35.setTop (mkF m 70 #[.val (.ref q), .val (.ref cb), .val (.ref t), .val (.int (3 : Int32)), .val (.int nd_), .unset] []))
    refine og (fun _ hr => XS.aloadN X35.here hx rfl (hb hby dc5_70) rfl rfl (XS.iconst X35.here hx rfl (hb hby dc5_71) (XS.aloadN X35.here hx rfl (hb hby dc5_72) rfl rfl hr))) ?_
    show oG p e below _ (T35.setTop (mkF m 73 #[.val (.ref q), .val (.ref cb), .val (.ref t), .val (.int (3 : Int32)), .val (.int nd_), .unset] [(.ref q), (.int (0 : Int32)), (.ref cb)]))
    obtain ⟨T79, X79, e79, st79⟩ := getF X35 hx hZ hown (host := "") (Or.inl (hw _ (own_m 32 rfl))) Via.refl e35 FC (g := (mkF m 73 #[.val (.ref q), .val (.ref cb), .val (.ref t), .val (.int (3 : Int32)), .val (.int nd_), .unset] [(.ref q), (.int (0 : Int32)), (.ref cb)])) rfl rfl (hb hby dc5_73)
    refine og st79 ?_
    show oG p e below _ (T79.setTop (mkF m 76 #[.val (.ref q), .val (.ref cb), .val (.ref t), .val (.int (3 : Int32)), .val (.int nd_), .unset] [(.ref C_), (.int (0 : Int32)), (.ref cb)]))
    refine og (fun _ hr => XS.iloadN X79.here hx rfl (hb hby dc5_76) rfl (own_aaload X79 hx hZ e79 VC (3 : Int32) (.ref d3_) ⟨by decide, by decide⟩ rfl rfl rfl rfl (hb hby dc5_77) (XS.aloadN X79.here hx rfl (hb hby dc5_78) rfl rfl hr))) ?_
    show oG p e below _ (T79.setTop (mkF m 79 #[.val (.ref q), .val (.ref cb), .val (.ref t), .val (.int (3 : Int32)), .val (.int nd_), .unset] [(.ref q), (.ref d3_), (.int (0 : Int32)), (.ref cb)]))
    obtain ⟨T80, X80, e80, st80⟩ := getF X79 hx hZ hown (host := "") (Or.inl (hw _ (own_m 34 rfl))) Via.refl e79 FS (g := (mkF m 79 #[.val (.ref q), .val (.ref cb), .val (.ref t), .val (.int (3 : Int32)), .val (.int nd_), .unset] [(.ref q), (.ref d3_), (.int (0 : Int32)), (.ref cb)])) rfl rfl (hb hby dc5_79)
    refine og st80 ?_
    show oG p e below _ (T80.setTop (mkF m 82 #[.val (.ref q), .val (.ref cb), .val (.ref t), .val (.int (3 : Int32)), .val (.int nd_), .unset] [(.ref S_), (.ref d3_), (.int (0 : Int32)), (.ref cb)]))
    refine og (fun _ hr => XS.iloadN X80.here hx rfl (hb hby dc5_82) rfl (own_iaload X80 hx hZ e80 VS (3 : Int32) (.int (0 : Int32)) ⟨by decide, by decide⟩ rfl rfl rfl (hb hby dc5_83) (XS.aloadN X80.here hx rfl (hb hby dc5_84) rfl rfl hr))) ?_
    show oG p e below _ (T80.setTop (mkF m 85 #[.val (.ref q), .val (.ref cb), .val (.ref t), .val (.int (3 : Int32)), .val (.int nd_), .unset] [(.ref q), (.int (0 : Int32)), (.ref d3_), (.int (0 : Int32)), (.ref cb)]))
    obtain ⟨T81, X81, e81, st81⟩ := getF X80 hx hZ hown (host := "") (Or.inl (hw _ (own_m 36 rfl))) Via.refl e80 FW (g := (mkF m 85 #[.val (.ref q), .val (.ref cb), .val (.ref t), .val (.int (3 : Int32)), .val (.int nd_), .unset] [(.ref q), (.int (0 : Int32)), (.ref d3_), (.int (0 : Int32)), (.ref cb)])) rfl rfl (hb hby dc5_85)
    refine og st81 ?_
    show oG p e below _ (T81.setTop (mkF m 88 #[.val (.ref q), .val (.ref cb), .val (.ref t), .val (.int (3 : Int32)), .val (.int nd_), .unset] [(.int w), (.int (0 : Int32)), (.ref d3_), (.int (0 : Int32)), (.ref cb)]))
    refine og (fun _ hr => XS.imul X81.here hx rfl (hb hby dc5_88) rfl (XS.aloadN X81.here hx rfl (hb hby dc5_89) rfl rfl hr)) ?_
    show oG p e below _ (T81.setTop (mkF m 90 #[.val (.ref q), .val (.ref cb), .val (.ref t), .val (.int (3 : Int32)), .val (.int nd_), .unset] [(.ref q), (.int ((0 : Int32) * w)), (.ref d3_), (.int (0 : Int32)), (.ref cb)]))
    obtain ⟨T82, X82, e82, st82⟩ := getF X81 hx hZ hown (host := "") (Or.inl (hw _ (own_m 36 rfl))) Via.refl e81 FW (g := (mkF m 90 #[.val (.ref q), .val (.ref cb), .val (.ref t), .val (.int (3 : Int32)), .val (.int nd_), .unset] [(.ref q), (.int ((0 : Int32) * w)), (.ref d3_), (.int (0 : Int32)), (.ref cb)])) rfl rfl (hb hby dc5_90)
    refine og st82 ?_
    show oG p e below _ (T82.setTop (mkF m 93 #[.val (.ref q), .val (.ref cb), .val (.ref t), .val (.int (3 : Int32)), .val (.int nd_), .unset] [(.int w), (.int ((0 : Int32) * w)), (.ref d3_), (.int (0 : Int32)), (.ref cb)]))
    have c84 : ¬ (((0 : Int32) * w) < (0 : Int32)) := by
      have q0 := rng32 w
      have q1 := c_imul (1 : Int32) w
      have r1 := rng32 ((1 : Int32) * w)
      have q2 := congrArg Int32.toInt hnd_
      have q3 := c_imul (0 : Int32) w
      have r3 := rng32 ((0 : Int32) * w)
      have p0 := hw0
      have p1 := hw3
      have p2 := c36
      simp only [true_implies, Int32.lt_iff_toInt_lt, ← Int32.toInt_inj, Int32.reduceToInt, Int64.lt_iff_toInt_lt, ← Int64.toInt_inj, Int64.reduceToInt] at q0 q1 q2 q3 p0 p1 p2 ⊢
      omega
    have le83 : ((0 : Int32) * w).toInt + w.toInt ≤ (0 : Int32).toInt ∧ w.toInt ≤ 3 ∧ 0 ≤ ((0 : Int32) * w).toInt ∧ 0 ≤ w.toInt ∧ 0 ≤ (0 : Int32).toInt := by
      have q0 := rng32 w
      have r0 := rng32 w
      have q1 := c_imul (0 : Int32) w
      have r1 := rng32 ((0 : Int32) * w)
      have q2 := c_imul (1 : Int32) w
      have r2 := rng32 ((1 : Int32) * w)
      have q3 := congrArg Int32.toInt hnd_
      have r3 := rng32 nd_
      have p0 := hw0
      have p1 := hw3
      have p2 := c36
      have p3 := c84
      try simp only [true_implies, Int32.lt_iff_toInt_lt, ← Int32.toInt_inj, Int32.reduceToInt, Int64.lt_iff_toInt_lt, ← Int64.toInt_inj, Int64.reduceToInt] at q0 q1 q2 q3 p0 p1 p2 p3
      try simp only [Int32.reduceToInt]
      omega
    have lf83 : ((0 : Int32) * w).toNatClampNeg + w.toNatClampNeg ≤ (0 : Int32).toNatClampNeg ∧ (0 : Int32).toNatClampNeg + w.toNatClampNeg ≤ (3 : Int32).toNatClampNeg := by
      have := own_tn ((0 : Int32) * w) (by omega)
      have := own_tn w (by omega)
      have := own_tn (0 : Int32) (by omega)
      have z0 : (0 : Int32).toNatClampNeg = 0 := rfl
      have z3 : (3 : Int32).toNatClampNeg = 3 := rfl
      omega
    have ll83 : ([] : List Value).length = (0 : Int32).toNatClampNeg := (by decide)
    obtain ⟨T83, h83, L83, X83, e83, N83, K83, A83, st83⟩ := cpA X82 hx hZ hown (hw _ (own_m 58 rfl)) (hw _ (own_m 61 rfl)) (hw _ (own_m 59 rfl)) (hw _ (own_m 60 rfl)) e82 VB VD3 (us := _) (Or.inl ⟨rfl, rfl⟩) (by decide) c84 hw0 lf83.2 lf83.1 rfl (ll83 ▸ lf83.1) N32 ge_d3_ (g := (mkF m 93 #[.val (.ref q), .val (.ref cb), .val (.ref t), .val (.int (3 : Int32)), .val (.int nd_), .unset] [(.int w), (.int ((0 : Int32) * w)), (.ref d3_), (.int (0 : Int32)), (.ref cb)])) rfl (by rw [hml]; rfl) rfl (hb hby dc5_93) (by decide) (W := 0) (by show 2 * 0 + _ ≤ _; exact Nat.le_of_eq rfl) (by decide)
    refine og st83 ?_
    have ln83 := own_cplen (us := (List.range w.toNatClampNeg).map fun i => ([(.int bx_), (.int by_), (.int bz_)] : List Value).getD ((0 : Int32).toNatClampNeg + i) (.int (0 : Int32))) (ll83 ▸ lf83.1) (by simp) ll83
    generalize hvn83 : (([] : List Value).take ((0 : Int32) * w).toNatClampNeg ++ (List.range w.toNatClampNeg).map (fun i => ([(.int bx_), (.int by_), (.int bz_)] : List Value).getD ((0 : Int32).toNatClampNeg + i) (.int (0 : Int32))) ++ ([] : List Value).drop (((0 : Int32) * w).toNatClampNeg + w.toNatClampNeg)) = vn83 at A83 ln83
    show oG p e below _ (T83.setTop (mkF m 96 #[.val (.ref q), .val (.ref cb), .val (.ref t), .val (.int (3 : Int32)), .val (.int nd_), .unset] []))
    refine og (fun _ hr => XS.aloadN X83.here hx rfl (hb hby dc5_96) rfl rfl hr) ?_
    show oG p e below _ (T83.setTop (mkF m 97 #[.val (.ref q), .val (.ref cb), .val (.ref t), .val (.int (3 : Int32)), .val (.int nd_), .unset] [(.ref q)]))
    have f85 := (FS.keep K83 (ninS ne_q_d3_ nin0))
    obtain ⟨T86, X86, e86, st86⟩ := getF X83 hx hZ hown (host := "") (Or.inl (hw _ (own_m 34 rfl))) Via.refl e83 f85 (g := (mkF m 97 #[.val (.ref q), .val (.ref cb), .val (.ref t), .val (.int (3 : Int32)), .val (.int nd_), .unset] [(.ref q)])) rfl rfl (hb hby dc5_97)
    refine og st86 ?_
    show oG p e below _ (T86.setTop (mkF m 100 #[.val (.ref q), .val (.ref cb), .val (.ref t), .val (.int (3 : Int32)), .val (.int nd_), .unset] [(.ref S_)]))
    refine og (fun _ hr => XS.iloadN X86.here hx rfl (hb hby dc5_100) rfl hr) ?_
    show oG p e below _ (T86.setTop (mkF m 101 #[.val (.ref q), .val (.ref cb), .val (.ref t), .val (.int (3 : Int32)), .val (.int nd_), .unset] [(.int (3 : Int32)), (.ref S_)]))
    refine og (S' := T86.setTop (mkF m 102 #[.val (.ref q), .val (.ref cb), .val (.ref t), .val (.int (3 : Int32)), .val (.int nd_), .unset] [(.int (3 : Int32)), (.ref S_), (.int (3 : Int32)), (.ref S_)])) (fun _ hr => by
      jvm_step X86.here [X86.here.top, hx, (hb hby dc5_101), Value.category]
      exact hr) ?_
    show oG p e below _ (T86.setTop (mkF m 102 #[.val (.ref q), .val (.ref cb), .val (.ref t), .val (.int (3 : Int32)), .val (.int nd_), .unset] [(.int (3 : Int32)), (.ref S_), (.int (3 : Int32)), (.ref S_)]))
    have f87 := (VS.keep K83 (ninS ne_S__d3_ nin0))
    refine og (fun _ hr => own_iaload X86 hx hZ e86 f87 (3 : Int32) (.int (0 : Int32)) ⟨by decide, by decide⟩ rfl rfl rfl (hb hby dc5_102) (XS.iconst X86.here hx rfl (hb hby dc5_103) (XS.iadd X86.here hx rfl (hb hby dc5_104) rfl hr))) ?_
    show oG p e below _ (T86.setTop (mkF m 105 #[.val (.ref q), .val (.ref cb), .val (.ref t), .val (.int (3 : Int32)), .val (.int nd_), .unset] [(.int (1 : Int32)), (.int (3 : Int32)), (.ref S_)]))
    refine own_stI X86 hx hZ e86 f87 (3 : Int32) (1 : Int32) 3 ⟨by decide, by decide⟩ rfl (Nat.le_of_ble_eq_true rfl)  [(.int s0_), (.int s1_), (.int s2_), (.int (1 : Int32))] rfl N83 ge_S_ (hb hby dc5_105) ?_
    intro T88 h88 L88 X88 e88 W88 N88 f88
    show oG p e below _ (T88.setTop (mkF m 106 #[.val (.ref q), .val (.ref cb), .val (.ref t), .val (.int (3 : Int32)), .val (.int nd_), .unset] []))
    have f89 := ((EQ.keep K83).wr W88)
    have f90 := ((FC.keep K83 (ninS ne_q_d3_ nin0)).other W88 (Or.inl ne_q_S_))
    have f91 := (f85.other W88 (Or.inl ne_q_S_))
    have f92 := ((FW.keep K83 (ninS ne_q_d3_ nin0)).other W88 (Or.inl ne_q_S_))
    have f93 := ((VC.keep K83 (ninS ne_C__d3_ nin0)).other W88 ne_C__S_)
    have f94 := ((VD0.keep K83 (ninS ne_d0__d3_ nin0)).other W88 (Ne.symm ne_S__d0_))
    have f95 := ((VD1.keep K83 (ninS ne_d1__d3_ nin0)).other W88 (Ne.symm ne_S__d1_))
    have f96 := ((VD2.keep K83 (ninS ne_d2__d3_ nin0)).other W88 (Ne.symm ne_S__d2_))
    have f97 := (A83.other W88 (Ne.symm ne_S__d3_))
    have f98 := ((VB.keep K83 (ninS ne_cb_d3_ nin0)).other W88 ne_cb_S_)
    have om99 : 0 ≤ s0_.toInt := by
      have q0 := rng32 s0_
      have r0 := rng32 s0_
      have q1 := rng32 w
      have r1 := rng32 w
      have q2 := c_imul (1 : Int32) w
      have r2 := rng32 ((1 : Int32) * w)
      have q3 := congrArg Int32.toInt hnd_
      have r3 := rng32 nd_
      have q4 := c_imul (0 : Int32) w
      have r4 := rng32 ((0 : Int32) * w)
      have p0 := hw0
      have p1 := hw3
      have p2 := c36
      have p3 := c84
      try simp only [true_implies, Int32.lt_iff_toInt_lt, ← Int32.toInt_inj, Int32.reduceToInt, Int64.lt_iff_toInt_lt, ← Int64.toInt_inj, Int64.reduceToInt] at q0 q1 q2 q3 q4 p0 p1 p2 p3
      first | omega | (simp only [Int32.reduceToInt, ← Int32.toInt_inj] <;> omega) | decide
    have om100 : 0 ≤ s1_.toInt := by
      have q0 := rng32 s1_
      have r0 := rng32 s1_
      have q1 := rng32 w
      have r1 := rng32 w
      have q2 := c_imul (1 : Int32) w
      have r2 := rng32 ((1 : Int32) * w)
      have q3 := congrArg Int32.toInt hnd_
      have r3 := rng32 nd_
      have q4 := c_imul (0 : Int32) w
      have r4 := rng32 ((0 : Int32) * w)
      have p0 := hw0
      have p1 := hw3
      have p2 := c36
      have p3 := c84
      try simp only [true_implies, Int32.lt_iff_toInt_lt, ← Int32.toInt_inj, Int32.reduceToInt, Int64.lt_iff_toInt_lt, ← Int64.toInt_inj, Int64.reduceToInt] at q0 q1 q2 q3 q4 p0 p1 p2 p3
      first | omega | (simp only [Int32.reduceToInt, ← Int32.toInt_inj] <;> omega) | decide
    have om101 : 0 ≤ s2_.toInt := by
      have q0 := rng32 s2_
      have r0 := rng32 s2_
      have q1 := rng32 w
      have r1 := rng32 w
      have q2 := c_imul (1 : Int32) w
      have r2 := rng32 ((1 : Int32) * w)
      have q3 := congrArg Int32.toInt hnd_
      have r3 := rng32 nd_
      have q4 := c_imul (0 : Int32) w
      have r4 := rng32 ((0 : Int32) * w)
      have p0 := hw0
      have p1 := hw3
      have p2 := c36
      have p3 := c84
      try simp only [true_implies, Int32.lt_iff_toInt_lt, ← Int32.toInt_inj, Int32.reduceToInt, Int64.lt_iff_toInt_lt, ← Int64.toInt_inj, Int64.reduceToInt] at q0 q1 q2 q3 q4 p0 p1 p2 p3
      first | omega | (simp only [Int32.reduceToInt, ← Int32.toInt_inj] <;> omega) | decide
    have om102 : 0 ≤ (1 : Int32).toInt := by
      have q0 := rng32 w
      have r0 := rng32 w
      have q1 := c_imul (1 : Int32) w
      have r1 := rng32 ((1 : Int32) * w)
      have q2 := congrArg Int32.toInt hnd_
      have r2 := rng32 nd_
      have q3 := c_imul (0 : Int32) w
      have r3 := rng32 ((0 : Int32) * w)
      have p0 := hw0
      have p1 := hw3
      have p2 := c36
      have p3 := c84
      try simp only [true_implies, Int32.lt_iff_toInt_lt, ← Int32.toInt_inj, Int32.reduceToInt, Int64.lt_iff_toInt_lt, ← Int64.toInt_inj, Int64.reduceToInt] at q0 q1 q2 q3 p0 p1 p2 p3
      first | omega | (simp only [Int32.reduceToInt, ← Int32.toInt_inj] <;> omega) | decide
    have om103 : s0_.toInt + s1_.toInt + s2_.toInt + (1 : Int32).toInt = cnt2.toInt := by
      have q0 := rng32 s0_
      have r0 := rng32 s0_
      have q1 := rng32 s1_
      have r1 := rng32 s1_
      have q2 := rng32 s2_
      have r2 := rng32 s2_
      have q3 := rng32 w
      have r3 := rng32 w
      have q4 := c_imul (1 : Int32) w
      have r4 := rng32 ((1 : Int32) * w)
      have q5 := congrArg Int32.toInt hnd_
      have r5 := rng32 nd_
      have q6 := c_imul (0 : Int32) w
      have r6 := rng32 ((0 : Int32) * w)
      have p0 := hw0
      have p1 := hw3
      have p2 := c36
      have p3 := c84
      try simp only [true_implies, Int32.lt_iff_toInt_lt, ← Int32.toInt_inj, Int32.reduceToInt, Int64.lt_iff_toInt_lt, ← Int64.toInt_inj, Int64.reduceToInt] at q0 q1 q2 q3 q4 q5 q6 p0 p1 p2 p3
      first | omega | (simp only [Int32.reduceToInt, ← Int32.toInt_inj] <;> omega) | decide
    have om104 : w = (0 : Int32) := by
      have q0 := rng32 w
      have r0 := rng32 w
      have q1 := c_imul (1 : Int32) w
      have r1 := rng32 ((1 : Int32) * w)
      have q2 := congrArg Int32.toInt hnd_
      have r2 := rng32 nd_
      have q3 := c_imul (0 : Int32) w
      have r3 := rng32 ((0 : Int32) * w)
      have p0 := hw0
      have p1 := hw3
      have p2 := c36
      have p3 := c84
      try simp only [true_implies, Int32.lt_iff_toInt_lt, ← Int32.toInt_inj, Int32.reduceToInt, Int64.lt_iff_toInt_lt, ← Int64.toInt_inj, Int64.reduceToInt] at q0 q1 q2 q3 p0 p1 p2 p3
      first | omega | (simp only [Int32.reduceToInt, ← Int32.toInt_inj] <;> omega) | decide
    have K105 := ((K0.trans K83 (allS (Or.inl (List.mem_of_getElem? (i := 5) rfl)) all0)).wr W88 (Or.inl (List.mem_of_getElem? (i := 1) rfl)))
    exact own_ret0 X88 hx hlk Bd.returns (hb hby dc5_106) (by decide) (by decide) (by rw [e88]; exact ⟨rfl, N88, [C_, S_, d0_, d1_, d2_, d3_], K105, (fun x hx_ => by simp only [List.mem_cons, List.not_mem_nil, or_false] at hx_; rcases hx_ with rfl | rfl | rfl | rfl | rfl | rfl <;> assumption), ⟨C_, S_, d0_, d1_, d2_, d3_, kC_, kS_, kb_, e0_, e1_, e2_, e3_, s0_, s1_, s2_, (1 : Int32), m0_, m1_, m2_, (0 : Int32), bx_, by_, bz_, v0_, v1_, v2_, vn83, f89, f90, f91, f92, f93, OV, f88, f94, f95, f96, f97, f98, g_C_, g_S_, g_d0_, g_d1_, g_d2_, g_d3_, ne_C__S_, ne_C__d0_, ne_C__d1_, ne_C__d2_, ne_C__d3_, ne_S__d0_, ne_S__d1_, ne_S__d2_, ne_S__d3_, ne_d0__d1_, ne_d0__d2_, ne_d0__d3_, ne_d1__d2_, ne_d1__d3_, ne_d2__d3_, ne_cb_C_, ne_cb_S_, ne_cb_d0_, ne_cb_d1_, ne_cb_d2_, ne_cb_d3_, ne_q_C_, ne_q_S_, ne_q_d0_, ne_q_d1_, ne_q_d2_, ne_q_d3_, om99, om100, om101, om102, om103, iM0_, iM1_, iM2_, (Or.inr ⟨rfl, Or.inr om104⟩), iL0_, iL1_, iL2_, ln83, WB⟩⟩)
  · subst hm
    obtain rfl : v3_ = [] := List.eq_nil_of_length_eq_zero (iL3_.trans rfl)
    show oG p e below _ (s₁.setTop (mkF m 0 #[.val (.ref q), .val (.ref cb), .val (.ref t), .unset, .unset, .unset] []))
    refine og (fun _ hr => XS.aloadN X0.here hx rfl (hb hby dc5_0) rfl rfl hr) ?_
    show oG p e below _ (s₁.setTop (mkF m 1 #[.val (.ref q), .val (.ref cb), .val (.ref t), .unset, .unset, .unset] [(.ref t)]))
    refine own_cu X0 hx hZ hown (hw _ (own_m 49 rfl)) (hw _ (own_m 50 rfl)) (hw _ (own_m 51 rfl)) (hw _ (own_m 53 rfl)) (hw _ (own_m 52 rfl)) (hw _ (own_m 54 rfl)) (hw _ (own_m 55 rfl)) (by decide) Et (rm := { frames := 0, cells := 0, slots := 0, locals := 0 }) (rm_ordinal_7 l Z a0 hw [] t h0 n0 Z0 Ft) (by decide) (W := 0) (by decide) (by decide) (by decide) e0 (by rw [hml]; rfl) (argsL := []) (lenOf own_pd0 rfl) (rest := []) rfl rfl (Nat.le_of_eq rfl) (hb hby dc5_1) ?_
    intro _ T106 L106 X106 hQ106
    obtain ⟨rfl, N106q, e106⟩ := hQ106
    have N106 := Fr.app N0 N106q
    show oG p e below _ (T106.setTop (mkF m 4 #[.val (.ref q), .val (.ref cb), .val (.ref t), .unset, .unset, .unset] [(.int (3 : Int32))]))
    refine og (fun _ hr => XS.istoreN X106.here hx rfl (hb hby dc5_4) rfl (l' := #[.val (.ref q), .val (.ref cb), .val (.ref t), .val (.int (3 : Int32)), .unset, .unset]) rfl (XS.aloadN X106.here hx rfl (hb hby dc5_5) rfl rfl hr)) ?_
    show oG p e below _ (T106.setTop (mkF m 6 #[.val (.ref q), .val (.ref cb), .val (.ref t), .val (.int (3 : Int32)), .unset, .unset] [(.ref q)]))
    obtain ⟨T107, X107, e107, st107⟩ := getF X106 hx hZ hown (host := "") (Or.inl (hw _ (own_m 34 rfl))) Via.refl e106 FS (g := (mkF m 6 #[.val (.ref q), .val (.ref cb), .val (.ref t), .val (.int (3 : Int32)), .unset, .unset] [(.ref q)])) rfl rfl (hb hby dc5_6)
    refine og st107 ?_
    show oG p e below _ (T107.setTop (mkF m 9 #[.val (.ref q), .val (.ref cb), .val (.ref t), .val (.int (3 : Int32)), .unset, .unset] [(.ref S_)]))
    refine og (fun _ hr => XS.iloadN X107.here hx rfl (hb hby dc5_9) rfl (own_iaload X107 hx hZ e107 VS (3 : Int32) (.int s3_) ⟨by decide, by decide⟩ rfl rfl rfl (hb hby dc5_10) (XS.iconst X107.here hx rfl (hb hby dc5_11) (XS.iadd X107.here hx rfl (hb hby dc5_12) rfl (XS.aloadN X107.here hx rfl (hb hby dc5_13) rfl rfl hr))))) ?_
    show oG p e below _ (T107.setTop (mkF m 14 #[.val (.ref q), .val (.ref cb), .val (.ref t), .val (.int (3 : Int32)), .unset, .unset] [(.ref q), (.int (s3_ + (1 : Int32)))]))
    obtain ⟨T108, X108, e108, st108⟩ := getF X107 hx hZ hown (host := "") (Or.inl (hw _ (own_m 36 rfl))) Via.refl e107 FW (g := (mkF m 14 #[.val (.ref q), .val (.ref cb), .val (.ref t), .val (.int (3 : Int32)), .unset, .unset] [(.ref q), (.int (s3_ + (1 : Int32)))])) rfl rfl (hb hby dc5_14)
    refine og st108 ?_
    show oG p e below _ (T108.setTop (mkF m 17 #[.val (.ref q), .val (.ref cb), .val (.ref t), .val (.int (3 : Int32)), .unset, .unset] [(.int w), (.int (s3_ + (1 : Int32)))]))
    refine og (fun _ hr => XS.imul X108.here hx rfl (hb hby dc5_17) rfl (XS.istore X108.here hx rfl (hb hby dc5_18) rfl (l' := #[.val (.ref q), .val (.ref cb), .val (.ref t), .val (.int (3 : Int32)), .val (.int ((s3_ + (1 : Int32)) * w)), .unset]) rfl hr)) ?_
    show oG p e below _ (T108.setTop (mkF m 20 #[.val (.ref q), .val (.ref cb), .val (.ref t), .val (.int (3 : Int32)), .val (.int ((s3_ + (1 : Int32)) * w)), .unset] []))
    generalize hnd_ : ((s3_ + (1 : Int32)) * w) = nd_
    refine og (fun _ hr => XS.iload X108.here hx rfl (hb hby dc5_20) rfl (XS.aloadN X108.here hx rfl (hb hby dc5_22) rfl rfl hr)) ?_
    show oG p e below _ (T108.setTop (mkF m 23 #[.val (.ref q), .val (.ref cb), .val (.ref t), .val (.int (3 : Int32)), .val (.int nd_), .unset] [(.ref q), (.int nd_)]))
    obtain ⟨T109, X109, e109, st109⟩ := getF X108 hx hZ hown (host := "") (Or.inl (hw _ (own_m 32 rfl))) Via.refl e108 FC (g := (mkF m 23 #[.val (.ref q), .val (.ref cb), .val (.ref t), .val (.int (3 : Int32)), .val (.int nd_), .unset] [(.ref q), (.int nd_)])) rfl rfl (hb hby dc5_23)
    refine og st109 ?_
    show oG p e below _ (T109.setTop (mkF m 26 #[.val (.ref q), .val (.ref cb), .val (.ref t), .val (.int (3 : Int32)), .val (.int nd_), .unset] [(.ref C_), (.int nd_)]))
    refine og (fun _ hr => XS.iloadN X109.here hx rfl (hb hby dc5_26) rfl (own_aaload X109 hx hZ e109 VC (3 : Int32) (.ref d3_) ⟨by decide, by decide⟩ rfl rfl rfl rfl (hb hby dc5_27) (own_alen X109 hx hZ e109 VD3 rfl rfl (hb hby dc5_28) hr))) ?_
    show oG p e below _ (T109.setTop (mkF m 29 #[.val (.ref q), .val (.ref cb), .val (.ref t), .val (.int (3 : Int32)), .val (.int nd_), .unset] [(.int (0 : Int32)), (.int nd_)]))
    have c110 : ¬ ((0 : Int32) < nd_) := by
      have q0 := rng32 w
      have q1 := rng32 s3_
      have q2 := c_iadd s3_ (1 : Int32)
      have r2 := rng32 (s3_ + (1 : Int32))
      have q3 := own_prod (s3_ + (1 : Int32)) w
      have r3 := rng32 ((s3_ + (1 : Int32)) * w)
      have q4 := congrArg Int32.toInt hnd_
      have p0 := hw0
      have p1 := hw3
      have p2 := hp0
      have p3 := hp3
      have p4 := hz
      simp only [true_implies, Int32.lt_iff_toInt_lt, ← Int32.toInt_inj, Int32.reduceToInt, Int64.lt_iff_toInt_lt, ← Int64.toInt_inj, Int64.reduceToInt] at q0 q1 q2 q3 q4 p0 p1 p2 p3 p4 ⊢
      omega
    refine og (fun _ hr => XS.icmpYes X109.here hx rfl (pc0 := 29) (pc' := 70) rfl (hb hby dc5_29) rfl (flt c110).2.2.2 (by decide) (by decide) hr) ?_
    show oG p e below _ (T109.setTop (mkF m 70 #[.val (.ref q), .val (.ref cb), .val (.ref t), .val (.int (3 : Int32)), .val (.int nd_), .unset] []))
    refine og (fun _ hr => XS.aloadN X109.here hx rfl (hb hby dc5_70) rfl rfl (XS.iconst X109.here hx rfl (hb hby dc5_71) (XS.aloadN X109.here hx rfl (hb hby dc5_72) rfl rfl hr))) ?_
    show oG p e below _ (T109.setTop (mkF m 73 #[.val (.ref q), .val (.ref cb), .val (.ref t), .val (.int (3 : Int32)), .val (.int nd_), .unset] [(.ref q), (.int (0 : Int32)), (.ref cb)]))
    obtain ⟨T111, X111, e111, st111⟩ := getF X109 hx hZ hown (host := "") (Or.inl (hw _ (own_m 32 rfl))) Via.refl e109 FC (g := (mkF m 73 #[.val (.ref q), .val (.ref cb), .val (.ref t), .val (.int (3 : Int32)), .val (.int nd_), .unset] [(.ref q), (.int (0 : Int32)), (.ref cb)])) rfl rfl (hb hby dc5_73)
    refine og st111 ?_
    show oG p e below _ (T111.setTop (mkF m 76 #[.val (.ref q), .val (.ref cb), .val (.ref t), .val (.int (3 : Int32)), .val (.int nd_), .unset] [(.ref C_), (.int (0 : Int32)), (.ref cb)]))
    refine og (fun _ hr => XS.iloadN X111.here hx rfl (hb hby dc5_76) rfl (own_aaload X111 hx hZ e111 VC (3 : Int32) (.ref d3_) ⟨by decide, by decide⟩ rfl rfl rfl rfl (hb hby dc5_77) (XS.aloadN X111.here hx rfl (hb hby dc5_78) rfl rfl hr))) ?_
    show oG p e below _ (T111.setTop (mkF m 79 #[.val (.ref q), .val (.ref cb), .val (.ref t), .val (.int (3 : Int32)), .val (.int nd_), .unset] [(.ref q), (.ref d3_), (.int (0 : Int32)), (.ref cb)]))
    obtain ⟨T112, X112, e112, st112⟩ := getF X111 hx hZ hown (host := "") (Or.inl (hw _ (own_m 34 rfl))) Via.refl e111 FS (g := (mkF m 79 #[.val (.ref q), .val (.ref cb), .val (.ref t), .val (.int (3 : Int32)), .val (.int nd_), .unset] [(.ref q), (.ref d3_), (.int (0 : Int32)), (.ref cb)])) rfl rfl (hb hby dc5_79)
    refine og st112 ?_
    show oG p e below _ (T112.setTop (mkF m 82 #[.val (.ref q), .val (.ref cb), .val (.ref t), .val (.int (3 : Int32)), .val (.int nd_), .unset] [(.ref S_), (.ref d3_), (.int (0 : Int32)), (.ref cb)]))
    refine og (fun _ hr => XS.iloadN X112.here hx rfl (hb hby dc5_82) rfl (own_iaload X112 hx hZ e112 VS (3 : Int32) (.int s3_) ⟨by decide, by decide⟩ rfl rfl rfl (hb hby dc5_83) (XS.aloadN X112.here hx rfl (hb hby dc5_84) rfl rfl hr))) ?_
    show oG p e below _ (T112.setTop (mkF m 85 #[.val (.ref q), .val (.ref cb), .val (.ref t), .val (.int (3 : Int32)), .val (.int nd_), .unset] [(.ref q), (.int s3_), (.ref d3_), (.int (0 : Int32)), (.ref cb)]))
    obtain ⟨T113, X113, e113, st113⟩ := getF X112 hx hZ hown (host := "") (Or.inl (hw _ (own_m 36 rfl))) Via.refl e112 FW (g := (mkF m 85 #[.val (.ref q), .val (.ref cb), .val (.ref t), .val (.int (3 : Int32)), .val (.int nd_), .unset] [(.ref q), (.int s3_), (.ref d3_), (.int (0 : Int32)), (.ref cb)])) rfl rfl (hb hby dc5_85)
    refine og st113 ?_
    show oG p e below _ (T113.setTop (mkF m 88 #[.val (.ref q), .val (.ref cb), .val (.ref t), .val (.int (3 : Int32)), .val (.int nd_), .unset] [(.int w), (.int s3_), (.ref d3_), (.int (0 : Int32)), (.ref cb)]))
    refine og (fun _ hr => XS.imul X113.here hx rfl (hb hby dc5_88) rfl (XS.aloadN X113.here hx rfl (hb hby dc5_89) rfl rfl hr)) ?_
    show oG p e below _ (T113.setTop (mkF m 90 #[.val (.ref q), .val (.ref cb), .val (.ref t), .val (.int (3 : Int32)), .val (.int nd_), .unset] [(.ref q), (.int (s3_ * w)), (.ref d3_), (.int (0 : Int32)), (.ref cb)]))
    obtain ⟨T114, X114, e114, st114⟩ := getF X113 hx hZ hown (host := "") (Or.inl (hw _ (own_m 36 rfl))) Via.refl e113 FW (g := (mkF m 90 #[.val (.ref q), .val (.ref cb), .val (.ref t), .val (.int (3 : Int32)), .val (.int nd_), .unset] [(.ref q), (.int (s3_ * w)), (.ref d3_), (.int (0 : Int32)), (.ref cb)])) rfl rfl (hb hby dc5_90)
    refine og st114 ?_
    show oG p e below _ (T114.setTop (mkF m 93 #[.val (.ref q), .val (.ref cb), .val (.ref t), .val (.int (3 : Int32)), .val (.int nd_), .unset] [(.int w), (.int (s3_ * w)), (.ref d3_), (.int (0 : Int32)), (.ref cb)]))
    have c116 : ¬ ((s3_ * w) < (0 : Int32)) := by
      have q0 := rng32 w
      have q1 := rng32 s3_
      have q2 := c_iadd s3_ (1 : Int32)
      have r2 := rng32 (s3_ + (1 : Int32))
      have q3 := own_prod (s3_ + (1 : Int32)) w
      have r3 := rng32 ((s3_ + (1 : Int32)) * w)
      have q4 := congrArg Int32.toInt hnd_
      have q5 := own_prod s3_ w
      have r5 := rng32 (s3_ * w)
      have p0 := hw0
      have p1 := hw3
      have p2 := hp0
      have p3 := hp3
      have p4 := hz
      have p5 := c110
      simp only [true_implies, Int32.lt_iff_toInt_lt, ← Int32.toInt_inj, Int32.reduceToInt, Int64.lt_iff_toInt_lt, ← Int64.toInt_inj, Int64.reduceToInt] at q0 q1 q2 q3 q4 q5 p0 p1 p2 p3 p4 p5 ⊢
      omega
    have le115 : (s3_ * w).toInt + w.toInt ≤ (0 : Int32).toInt ∧ w.toInt ≤ 3 ∧ 0 ≤ (s3_ * w).toInt ∧ 0 ≤ w.toInt ∧ 0 ≤ (0 : Int32).toInt := by
      have q0 := rng32 s3_
      have r0 := rng32 s3_
      have q1 := rng32 w
      have r1 := rng32 w
      have q2 := own_prod s3_ w
      have r2 := rng32 (s3_ * w)
      have q3 := c_iadd s3_ (1 : Int32)
      have r3 := rng32 (s3_ + (1 : Int32))
      have q4 := own_prod (s3_ + (1 : Int32)) w
      have r4 := rng32 ((s3_ + (1 : Int32)) * w)
      have q5 := congrArg Int32.toInt hnd_
      have r5 := rng32 nd_
      have p0 := hw0
      have p1 := hw3
      have p2 := hp0
      have p3 := hp3
      have p4 := hz
      have p5 := c110
      have p6 := c116
      try simp only [true_implies, Int32.lt_iff_toInt_lt, ← Int32.toInt_inj, Int32.reduceToInt, Int64.lt_iff_toInt_lt, ← Int64.toInt_inj, Int64.reduceToInt] at q0 q1 q2 q3 q4 q5 p0 p1 p2 p3 p4 p5 p6
      try simp only [Int32.reduceToInt]
      omega
    have lf115 : (s3_ * w).toNatClampNeg + w.toNatClampNeg ≤ (0 : Int32).toNatClampNeg ∧ (0 : Int32).toNatClampNeg + w.toNatClampNeg ≤ (3 : Int32).toNatClampNeg := by
      have := own_tn (s3_ * w) (by omega)
      have := own_tn w (by omega)
      have := own_tn (0 : Int32) (by omega)
      have z0 : (0 : Int32).toNatClampNeg = 0 := rfl
      have z3 : (3 : Int32).toNatClampNeg = 3 := rfl
      omega
    have ll115 : ([] : List Value).length = (0 : Int32).toNatClampNeg := (by decide)
    obtain ⟨T115, h115, L115, X115, e115, N115, K115, A115, st115⟩ := cpA X114 hx hZ hown (hw _ (own_m 58 rfl)) (hw _ (own_m 61 rfl)) (hw _ (own_m 59 rfl)) (hw _ (own_m 60 rfl)) e114 VB VD3 (us := _) (Or.inl ⟨rfl, rfl⟩) (by decide) c116 hw0 lf115.2 lf115.1 rfl (ll115 ▸ lf115.1) N106 ge_d3_ (g := (mkF m 93 #[.val (.ref q), .val (.ref cb), .val (.ref t), .val (.int (3 : Int32)), .val (.int nd_), .unset] [(.int w), (.int (s3_ * w)), (.ref d3_), (.int (0 : Int32)), (.ref cb)])) rfl (by rw [hml]; rfl) rfl (hb hby dc5_93) (by decide) (W := 0) (by show 2 * 0 + _ ≤ _; exact Nat.le_of_eq rfl) (by decide)
    refine og st115 ?_
    have ln115 := own_cplen (us := (List.range w.toNatClampNeg).map fun i => ([(.int bx_), (.int by_), (.int bz_)] : List Value).getD ((0 : Int32).toNatClampNeg + i) (.int (0 : Int32))) (ll115 ▸ lf115.1) (by simp) ll115
    generalize hvn115 : (([] : List Value).take (s3_ * w).toNatClampNeg ++ (List.range w.toNatClampNeg).map (fun i => ([(.int bx_), (.int by_), (.int bz_)] : List Value).getD ((0 : Int32).toNatClampNeg + i) (.int (0 : Int32))) ++ ([] : List Value).drop ((s3_ * w).toNatClampNeg + w.toNatClampNeg)) = vn115 at A115 ln115
    show oG p e below _ (T115.setTop (mkF m 96 #[.val (.ref q), .val (.ref cb), .val (.ref t), .val (.int (3 : Int32)), .val (.int nd_), .unset] []))
    refine og (fun _ hr => XS.aloadN X115.here hx rfl (hb hby dc5_96) rfl rfl hr) ?_
    show oG p e below _ (T115.setTop (mkF m 97 #[.val (.ref q), .val (.ref cb), .val (.ref t), .val (.int (3 : Int32)), .val (.int nd_), .unset] [(.ref q)]))
    have f117 := (FS.keep K115 (ninS ne_q_d3_ nin0))
    obtain ⟨T118, X118, e118, st118⟩ := getF X115 hx hZ hown (host := "") (Or.inl (hw _ (own_m 34 rfl))) Via.refl e115 f117 (g := (mkF m 97 #[.val (.ref q), .val (.ref cb), .val (.ref t), .val (.int (3 : Int32)), .val (.int nd_), .unset] [(.ref q)])) rfl rfl (hb hby dc5_97)
    refine og st118 ?_
    show oG p e below _ (T118.setTop (mkF m 100 #[.val (.ref q), .val (.ref cb), .val (.ref t), .val (.int (3 : Int32)), .val (.int nd_), .unset] [(.ref S_)]))
    refine og (fun _ hr => XS.iloadN X118.here hx rfl (hb hby dc5_100) rfl hr) ?_
    show oG p e below _ (T118.setTop (mkF m 101 #[.val (.ref q), .val (.ref cb), .val (.ref t), .val (.int (3 : Int32)), .val (.int nd_), .unset] [(.int (3 : Int32)), (.ref S_)]))
    refine og (S' := T118.setTop (mkF m 102 #[.val (.ref q), .val (.ref cb), .val (.ref t), .val (.int (3 : Int32)), .val (.int nd_), .unset] [(.int (3 : Int32)), (.ref S_), (.int (3 : Int32)), (.ref S_)])) (fun _ hr => by
      jvm_step X118.here [X118.here.top, hx, (hb hby dc5_101), Value.category]
      exact hr) ?_
    show oG p e below _ (T118.setTop (mkF m 102 #[.val (.ref q), .val (.ref cb), .val (.ref t), .val (.int (3 : Int32)), .val (.int nd_), .unset] [(.int (3 : Int32)), (.ref S_), (.int (3 : Int32)), (.ref S_)]))
    have f119 := (VS.keep K115 (ninS ne_S__d3_ nin0))
    refine og (fun _ hr => own_iaload X118 hx hZ e118 f119 (3 : Int32) (.int s3_) ⟨by decide, by decide⟩ rfl rfl rfl (hb hby dc5_102) (XS.iconst X118.here hx rfl (hb hby dc5_103) (XS.iadd X118.here hx rfl (hb hby dc5_104) rfl hr))) ?_
    show oG p e below _ (T118.setTop (mkF m 105 #[.val (.ref q), .val (.ref cb), .val (.ref t), .val (.int (3 : Int32)), .val (.int nd_), .unset] [(.int (s3_ + (1 : Int32))), (.int (3 : Int32)), (.ref S_)]))
    refine own_stI X118 hx hZ e118 f119 (3 : Int32) (s3_ + (1 : Int32)) 3 ⟨by decide, by decide⟩ rfl (Nat.le_of_ble_eq_true rfl)  [(.int s0_), (.int s1_), (.int s2_), (.int (s3_ + (1 : Int32)))] rfl N115 ge_S_ (hb hby dc5_105) ?_
    intro T120 h120 L120 X120 e120 W120 N120 f120
    show oG p e below _ (T120.setTop (mkF m 106 #[.val (.ref q), .val (.ref cb), .val (.ref t), .val (.int (3 : Int32)), .val (.int nd_), .unset] []))
    have f121 := ((EQ.keep K115).wr W120)
    have f122 := ((FC.keep K115 (ninS ne_q_d3_ nin0)).other W120 (Or.inl ne_q_S_))
    have f123 := (f117.other W120 (Or.inl ne_q_S_))
    have f124 := ((FW.keep K115 (ninS ne_q_d3_ nin0)).other W120 (Or.inl ne_q_S_))
    have f125 := ((VC.keep K115 (ninS ne_C__d3_ nin0)).other W120 ne_C__S_)
    have f126 := ((VD0.keep K115 (ninS ne_d0__d3_ nin0)).other W120 (Ne.symm ne_S__d0_))
    have f127 := ((VD1.keep K115 (ninS ne_d1__d3_ nin0)).other W120 (Ne.symm ne_S__d1_))
    have f128 := ((VD2.keep K115 (ninS ne_d2__d3_ nin0)).other W120 (Ne.symm ne_S__d2_))
    have f129 := (A115.other W120 (Ne.symm ne_S__d3_))
    have f130 := ((VB.keep K115 (ninS ne_cb_d3_ nin0)).other W120 ne_cb_S_)
    have om131 : 0 ≤ s0_.toInt := by
      have q0 := rng32 s0_
      have r0 := rng32 s0_
      have q1 := rng32 w
      have r1 := rng32 w
      have q2 := rng32 s3_
      have r2 := rng32 s3_
      have q3 := c_iadd s3_ (1 : Int32)
      have r3 := rng32 (s3_ + (1 : Int32))
      have q4 := own_prod (s3_ + (1 : Int32)) w
      have r4 := rng32 ((s3_ + (1 : Int32)) * w)
      have q5 := congrArg Int32.toInt hnd_
      have r5 := rng32 nd_
      have q6 := own_prod s3_ w
      have r6 := rng32 (s3_ * w)
      have p0 := hw0
      have p1 := hw3
      have p2 := hp0
      have p3 := hp3
      have p4 := hz
      have p5 := c110
      have p6 := c116
      try simp only [true_implies, Int32.lt_iff_toInt_lt, ← Int32.toInt_inj, Int32.reduceToInt, Int64.lt_iff_toInt_lt, ← Int64.toInt_inj, Int64.reduceToInt] at q0 q1 q2 q3 q4 q5 q6 p0 p1 p2 p3 p4 p5 p6
      first | omega | (simp only [Int32.reduceToInt, ← Int32.toInt_inj] <;> omega) | decide
    have om132 : 0 ≤ s1_.toInt := by
      have q0 := rng32 s1_
      have r0 := rng32 s1_
      have q1 := rng32 w
      have r1 := rng32 w
      have q2 := rng32 s3_
      have r2 := rng32 s3_
      have q3 := c_iadd s3_ (1 : Int32)
      have r3 := rng32 (s3_ + (1 : Int32))
      have q4 := own_prod (s3_ + (1 : Int32)) w
      have r4 := rng32 ((s3_ + (1 : Int32)) * w)
      have q5 := congrArg Int32.toInt hnd_
      have r5 := rng32 nd_
      have q6 := own_prod s3_ w
      have r6 := rng32 (s3_ * w)
      have p0 := hw0
      have p1 := hw3
      have p2 := hp0
      have p3 := hp3
      have p4 := hz
      have p5 := c110
      have p6 := c116
      try simp only [true_implies, Int32.lt_iff_toInt_lt, ← Int32.toInt_inj, Int32.reduceToInt, Int64.lt_iff_toInt_lt, ← Int64.toInt_inj, Int64.reduceToInt] at q0 q1 q2 q3 q4 q5 q6 p0 p1 p2 p3 p4 p5 p6
      first | omega | (simp only [Int32.reduceToInt, ← Int32.toInt_inj] <;> omega) | decide
    have om133 : 0 ≤ s2_.toInt := by
      have q0 := rng32 s2_
      have r0 := rng32 s2_
      have q1 := rng32 w
      have r1 := rng32 w
      have q2 := rng32 s3_
      have r2 := rng32 s3_
      have q3 := c_iadd s3_ (1 : Int32)
      have r3 := rng32 (s3_ + (1 : Int32))
      have q4 := own_prod (s3_ + (1 : Int32)) w
      have r4 := rng32 ((s3_ + (1 : Int32)) * w)
      have q5 := congrArg Int32.toInt hnd_
      have r5 := rng32 nd_
      have q6 := own_prod s3_ w
      have r6 := rng32 (s3_ * w)
      have p0 := hw0
      have p1 := hw3
      have p2 := hp0
      have p3 := hp3
      have p4 := hz
      have p5 := c110
      have p6 := c116
      try simp only [true_implies, Int32.lt_iff_toInt_lt, ← Int32.toInt_inj, Int32.reduceToInt, Int64.lt_iff_toInt_lt, ← Int64.toInt_inj, Int64.reduceToInt] at q0 q1 q2 q3 q4 q5 q6 p0 p1 p2 p3 p4 p5 p6
      first | omega | (simp only [Int32.reduceToInt, ← Int32.toInt_inj] <;> omega) | decide
    have om134 : 0 ≤ (s3_ + (1 : Int32)).toInt := by
      have q0 := rng32 s3_
      have r0 := rng32 s3_
      have q1 := c_iadd s3_ (1 : Int32)
      have r1 := rng32 (s3_ + (1 : Int32))
      have q2 := rng32 w
      have r2 := rng32 w
      have q3 := own_prod (s3_ + (1 : Int32)) w
      have r3 := rng32 ((s3_ + (1 : Int32)) * w)
      have q4 := congrArg Int32.toInt hnd_
      have r4 := rng32 nd_
      have q5 := own_prod s3_ w
      have r5 := rng32 (s3_ * w)
      have p0 := hw0
      have p1 := hw3
      have p2 := hp0
      have p3 := hp3
      have p4 := hz
      have p5 := c110
      have p6 := c116
      try simp only [true_implies, Int32.lt_iff_toInt_lt, ← Int32.toInt_inj, Int32.reduceToInt, Int64.lt_iff_toInt_lt, ← Int64.toInt_inj, Int64.reduceToInt] at q0 q1 q2 q3 q4 q5 p0 p1 p2 p3 p4 p5 p6
      first | omega | (simp only [Int32.reduceToInt, ← Int32.toInt_inj] <;> omega) | decide
    have om135 : s0_.toInt + s1_.toInt + s2_.toInt + (s3_ + (1 : Int32)).toInt = cnt2.toInt := by
      have q0 := rng32 s0_
      have r0 := rng32 s0_
      have q1 := rng32 s1_
      have r1 := rng32 s1_
      have q2 := rng32 s2_
      have r2 := rng32 s2_
      have q3 := rng32 s3_
      have r3 := rng32 s3_
      have q4 := c_iadd s3_ (1 : Int32)
      have r4 := rng32 (s3_ + (1 : Int32))
      have q5 := rng32 w
      have r5 := rng32 w
      have q6 := own_prod (s3_ + (1 : Int32)) w
      have r6 := rng32 ((s3_ + (1 : Int32)) * w)
      have q7 := congrArg Int32.toInt hnd_
      have r7 := rng32 nd_
      have q8 := own_prod s3_ w
      have r8 := rng32 (s3_ * w)
      have p0 := hw0
      have p1 := hw3
      have p2 := hp0
      have p3 := hp3
      have p4 := hz
      have p5 := c110
      have p6 := c116
      try simp only [true_implies, Int32.lt_iff_toInt_lt, ← Int32.toInt_inj, Int32.reduceToInt, Int64.lt_iff_toInt_lt, ← Int64.toInt_inj, Int64.reduceToInt] at q0 q1 q2 q3 q4 q5 q6 q7 q8 p0 p1 p2 p3 p4 p5 p6
      first | omega | (simp only [Int32.reduceToInt, ← Int32.toInt_inj] <;> omega) | decide
    have om136 : w = (0 : Int32) := by
      have q0 := rng32 w
      have r0 := rng32 w
      have q1 := rng32 s3_
      have r1 := rng32 s3_
      have q2 := c_iadd s3_ (1 : Int32)
      have r2 := rng32 (s3_ + (1 : Int32))
      have q3 := own_prod (s3_ + (1 : Int32)) w
      have r3 := rng32 ((s3_ + (1 : Int32)) * w)
      have q4 := congrArg Int32.toInt hnd_
      have r4 := rng32 nd_
      have q5 := own_prod s3_ w
      have r5 := rng32 (s3_ * w)
      have p0 := hw0
      have p1 := hw3
      have p2 := hp0
      have p3 := hp3
      have p4 := hz
      have p5 := c110
      have p6 := c116
      try simp only [true_implies, Int32.lt_iff_toInt_lt, ← Int32.toInt_inj, Int32.reduceToInt, Int64.lt_iff_toInt_lt, ← Int64.toInt_inj, Int64.reduceToInt] at q0 q1 q2 q3 q4 q5 p0 p1 p2 p3 p4 p5 p6
      first | omega | (simp only [Int32.reduceToInt, ← Int32.toInt_inj] <;> omega) | decide
    have K137 := ((K0.trans K115 (allS (Or.inl (List.mem_of_getElem? (i := 5) rfl)) all0)).wr W120 (Or.inl (List.mem_of_getElem? (i := 1) rfl)))
    exact own_ret0 X120 hx hlk Bd.returns (hb hby dc5_106) (by decide) (by decide) (by rw [e120]; exact ⟨rfl, N120, [C_, S_, d0_, d1_, d2_, d3_], K137, (fun x hx_ => by simp only [List.mem_cons, List.not_mem_nil, or_false] at hx_; rcases hx_ with rfl | rfl | rfl | rfl | rfl | rfl <;> assumption), ⟨C_, S_, d0_, d1_, d2_, d3_, kC_, kS_, kb_, e0_, e1_, e2_, e3_, s0_, s1_, s2_, (s3_ + (1 : Int32)), m0_, m1_, m2_, (0 : Int32), bx_, by_, bz_, v0_, v1_, v2_, vn115, f121, f122, f123, f124, f125, OV, f120, f126, f127, f128, f129, f130, g_C_, g_S_, g_d0_, g_d1_, g_d2_, g_d3_, ne_C__S_, ne_C__d0_, ne_C__d1_, ne_C__d2_, ne_C__d3_, ne_S__d0_, ne_S__d1_, ne_S__d2_, ne_S__d3_, ne_d0__d1_, ne_d0__d2_, ne_d0__d3_, ne_d1__d2_, ne_d1__d3_, ne_d2__d3_, ne_cb_C_, ne_cb_S_, ne_cb_d0_, ne_cb_d1_, ne_cb_d2_, ne_cb_d3_, ne_q_C_, ne_q_S_, ne_q_d0_, ne_q_d1_, ne_q_d2_, ne_q_d3_, om131, om132, om133, om134, om135, iM0_, iM1_, iM2_, (Or.inr ⟨rfl, Or.inr om136⟩), iL0_, iL1_, iL2_, ln115, WB⟩⟩)
set_option maxHeartbeats 4000000 in
theorem rm_add (l : Launch) (Z : State) (a0 : Array Value) (hw : ∀ d ∈ tables_1, d.before a0 Z = true) (ws : List Jvm.Cond) (q : Addr) (cb : Addr) (t : Addr) (r_TRUE : Addr) (r_FALSE : Addr) (r_UNKNOWN : Addr) (r_INCONSISTENT : Addr) (w : Int32) (cnt : Int32) (cnt2 : Int32) (lo : Nat) (h0 : Heap) (n0 : Nat) (Z0 : n0 ≤ h0.size) (hlo : n0 ≤ lo) (hI : own_Inv Z h0 lo q cb w cnt) (ht : r_TRUE = t ∨ r_FALSE = t ∨ r_UNKNOWN = t ∨ r_INCONSISTENT = t) (E_TRUE : Exa Z h0 r_TRUE "com/example/candid_facts/candidfacts/Truth") (F_TRUE_ordinal : Fld Z h0 r_TRUE "java/lang/Enum" "ordinal" "I" (.int (0 : Int32))) (E_FALSE : Exa Z h0 r_FALSE "com/example/candid_facts/candidfacts/Truth") (F_FALSE_ordinal : Fld Z h0 r_FALSE "java/lang/Enum" "ordinal" "I" (.int (1 : Int32))) (E_UNKNOWN : Exa Z h0 r_UNKNOWN "com/example/candid_facts/candidfacts/Truth") (F_UNKNOWN_ordinal : Fld Z h0 r_UNKNOWN "java/lang/Enum" "ordinal" "I" (.int (2 : Int32))) (E_INCONSISTENT : Exa Z h0 r_INCONSISTENT "com/example/candid_facts/candidfacts/Truth") (F_INCONSISTENT_ordinal : Fld Z h0 r_INCONSISTENT "java/lang/Enum" "ordinal" "I" (.int (3 : Int32))) (hc : cnt.toInt ≤ 3) (hc2 : cnt2.toInt = cnt.toInt + 1) :
    MetFree l (⟨"com/example/candid_facts/candidfacts/Answer$Listed", "add", "([ILcom/example/candid_facts/candidfacts/Truth;)V"⟩ : MethodName) (head1 (Jvm.Cond.code (⟨"com/example/candid_facts/candidfacts/Answer$Listed", "add", "([ILcom/example/candid_facts/candidfacts/Truth;)V"⟩ : MethodName) prog_2_method_2_code 6 none :: ws) ({ frames := 2, cells := 1, slots := 16, locals := 56 } : Room)) (fun aA U => aA = #[(.ref q), (.ref cb), (.ref t)] ∧ Z.Warmed39 U.vm ∧ U.heap = h0) (fun _ _ _ _ _ => True) (fun _ U o U' => ∃ v L, o = .returned v ∧ Q_add0 Z q cb w cnt2 lo h0 n0 v U'.heap L ∧ FrameEnd U o U' L ({ frames := 2, cells := 1, slots := 16, locals := 56 } : Room).cells ({ frames := 2, cells := 1, slots := 16, locals := 56 } : Room).slots) := by
  rcases ht with h | h | h | h
  · subst h; exact rm_add0 l Z a0 hw ws q cb r_TRUE w cnt cnt2 lo h0 n0 Z0 hlo hI E_TRUE F_TRUE_ordinal hc hc2
  · subst h; exact rm_add1 l Z a0 hw ws q cb r_FALSE w cnt cnt2 lo h0 n0 Z0 hlo hI E_FALSE F_FALSE_ordinal hc hc2
  · subst h; exact rm_add2 l Z a0 hw ws q cb r_UNKNOWN w cnt cnt2 lo h0 n0 Z0 hlo hI E_UNKNOWN F_UNKNOWN_ordinal hc hc2
  · subst h; exact rm_add3 l Z a0 hw ws q cb r_INCONSISTENT w cnt cnt2 lo h0 n0 Z0 hlo hI E_INCONSISTENT F_INCONSISTENT_ordinal hc hc2
theorem dc4_0 : decode method_2_code 0 = .ok (.iload_n 0, 1) := by decide +kernel
theorem dc4_1 : decode method_2_code 1 = .ok (.iconst 3, 1) := by decide +kernel
theorem dc4_2 : decode method_2_code 2 = .ok (.iand, 1) := by decide +kernel
theorem dc4_3 : decode method_2_code 3 = .ok (.istore_n 1, 1) := by decide +kernel
theorem dc4_4 : decode method_2_code 4 = .ok (.iload_n 1, 1) := by decide +kernel
theorem dc4_5 : decode method_2_code 5 = .ok (.ifCond .ne 7, 3) := by decide +kernel
theorem dc4_8 : decode method_2_code 8 = .ok (.getstatic 7, 3) := by decide +kernel
theorem dc4_11 : decode method_2_code 11 = .ok (.areturn, 1) := by decide +kernel
theorem dc4_12 : decode method_2_code 12 = .ok (.iload_n 1, 1) := by decide +kernel
theorem dc4_13 : decode method_2_code 13 = .ok (.iconst 1, 1) := by decide +kernel
theorem dc4_14 : decode method_2_code 14 = .ok (.if_icmp .ne 7, 3) := by decide +kernel
theorem dc4_17 : decode method_2_code 17 = .ok (.getstatic 13, 3) := by decide +kernel
theorem dc4_20 : decode method_2_code 20 = .ok (.areturn, 1) := by decide +kernel
theorem dc4_21 : decode method_2_code 21 = .ok (.iload_n 1, 1) := by decide +kernel
theorem dc4_22 : decode method_2_code 22 = .ok (.iconst 2, 1) := by decide +kernel
theorem dc4_23 : decode method_2_code 23 = .ok (.if_icmp .ne 7, 3) := by decide +kernel
theorem dc4_26 : decode method_2_code 26 = .ok (.getstatic 16, 3) := by decide +kernel
theorem dc4_29 : decode method_2_code 29 = .ok (.areturn, 1) := by decide +kernel
theorem dc4_30 : decode method_2_code 30 = .ok (.getstatic 19, 3) := by decide +kernel
theorem dc4_33 : decode method_2_code 33 = .ok (.areturn, 1) := by decide +kernel
theorem own_pn_com_example_candid_facts_candidfacts_ListedSizePinLaw : plainName "com/example/candid_facts/candidfacts/ListedSizePinLaw" = true := by first | (simp [plainName, overriddenIn]; done) | decide +kernel
def Q_truth (Z : State) (r_TRUE : Addr) (r_FALSE : Addr) (r_UNKNOWN : Addr) (r_INCONSISTENT : Addr) (h0 : Heap) (n0 : Nat) (v : Option Value) (h : Heap) (L : List Loc) : Prop := (∃ t, v = some (.ref t) ∧ (r_TRUE = t ∨ r_FALSE = t ∨ r_UNKNOWN = t ∨ r_INCONSISTENT = t) ∧ Fr n0 L ∧ h = h0)
set_option maxRecDepth 65536 in
set_option maxHeartbeats 40000000 in
theorem rm_truth (l : Launch) (Z : State) (a0 : Array Value) (hw : ∀ d ∈ tables_1, d.before a0 Z = true) (ws : List Jvm.Cond) (xx_ : Int32) (r_TRUE : Addr) (r_FALSE : Addr) (r_UNKNOWN : Addr) (r_INCONSISTENT : Addr) (h0 : Heap) (n0 : Nat) (Z0 : n0 ≤ h0.size) (S_TRUE : Sta Z h0 "com/example/candid_facts/candidfacts/Truth" "TRUE" "Lcom/example/candid_facts/candidfacts/Truth;" (.ref r_TRUE)) (S_FALSE : Sta Z h0 "com/example/candid_facts/candidfacts/Truth" "FALSE" "Lcom/example/candid_facts/candidfacts/Truth;" (.ref r_FALSE)) (S_UNKNOWN : Sta Z h0 "com/example/candid_facts/candidfacts/Truth" "UNKNOWN" "Lcom/example/candid_facts/candidfacts/Truth;" (.ref r_UNKNOWN)) (S_INCONSISTENT : Sta Z h0 "com/example/candid_facts/candidfacts/Truth" "INCONSISTENT" "Lcom/example/candid_facts/candidfacts/Truth;" (.ref r_INCONSISTENT)) :
    MetFree l (⟨"com/example/candid_facts/candidfacts/ListedSizePinLaw", "truthOf", "(I)Lcom/example/candid_facts/candidfacts/Truth;"⟩ : MethodName) (head1 (Jvm.Cond.code (⟨"com/example/candid_facts/candidfacts/ListedSizePinLaw", "truthOf", "(I)Lcom/example/candid_facts/candidfacts/Truth;"⟩ : MethodName) method_2_code 2 (some (.object "com/example/candid_facts/candidfacts/Truth")) :: ws) ({ frames := 0, cells := 0, slots := 0, locals := 0 } : Room)) (fun aA U => aA = #[(.int xx_)] ∧ Z.Warmed39 U.vm ∧ U.heap = h0) (fun _ _ _ _ _ => True) (fun _ U o U' => ∃ v L, o = .returned v ∧ Q_truth Z r_TRUE r_FALSE r_UNKNOWN r_INCONSISTENT h0 n0 v U'.heap L ∧ FrameEnd U o U' L ({ frames := 0, cells := 0, slots := 0, locals := 0 } : Room).cells ({ frames := 0, cells := 0, slots := 0, locals := 0 } : Room).slots) := by
  refine MetFree.of_bodySF (plainFor_of_name own_pn_com_example_candid_facts_candidfacts_ListedSizePinLaw) hisR ?_
  intro p e s m args below meth c s₁ Bd hml0 hP hK
  obtain ⟨rfl, hZ, hh⟩ := hP
  have hx := Bd.exec
  have hby := Bd.bytes
  have hlk : meth.locks = false := BodyLoose.notSynchronized Bd
  have hml : c.maxLocals = 2 := hml0
  have hown : s.vm.findClass "com/example/candid_facts/candidfacts/ListedSizePinLaw" = some m.cls := findClass_of_methodNamed Bd.named
  have hnm := (name_of_methodNamed Bd.named Bd.method).1
  have X0 : Stand p l e ({ frames := 0, cells := 0, slots := 0, locals := 0 } : Room) s m #[(.int xx_)] below meth c s₁ [] 0 0 := Stand.of_body Bd
  have e0 : s₁.heap = h0 := by rw [← hh, Bd.state]; rfl
  have N0 := Fr.nil n0
  show oG p e below (own_K s (Q_truth Z r_TRUE r_FALSE r_UNKNOWN r_INCONSISTENT h0 n0) ({ frames := 0, cells := 0, slots := 0, locals := 0 } : Room).cells ({ frames := 0, cells := 0, slots := 0, locals := 0 } : Room).slots) (s₁.setTop (entryFrame m #[(.int xx_)] 2))
  rw [(by first | (simp [entryFrame, mkF, argsToLocals, Value.category]; done) | rfl : entryFrame m #[(.int xx_)] 2 = mkF m 0 #[.val (.int xx_), .unset] [])]
  show oG p e below _ (s₁.setTop (mkF m 0 #[.val (.int xx_), .unset] []))
  refine og (fun _ hr => XS.iloadN X0.here hx rfl (hb hby dc4_0) rfl (XS.iconst X0.here hx rfl (hb hby dc4_1) (XS.iand X0.here hx rfl (hb hby dc4_2) rfl (XS.istoreN X0.here hx rfl (hb hby dc4_3) rfl (l' := #[.val (.int xx_), .val (.int (xx_ &&& (3 : Int32)))]) rfl (XS.iloadN X0.here hx rfl (hb hby dc4_4) rfl hr))))) ?_
  show oG p e below _ (s₁.setTop (mkF m 5 #[.val (.int xx_), .val (.int (xx_ &&& (3 : Int32)))] [(.int (xx_ &&& (3 : Int32)))]))
  rcases Classical.em ((xx_ &&& (3 : Int32)) = (0 : Int32)) with c1 | c1
  · skip
    refine og (fun _ hr => XS.ifNo X0.here hx rfl (hb hby dc4_5) rfl ((if0 _ _).trans (teq c1).2) hr) ?_
    show oG p e below _ (s₁.setTop (mkF m 8 #[.val (.int xx_), .val (.int (xx_ &&& (3 : Int32)))] []))
    obtain ⟨T2, X2, e2, st2⟩ := getS2 X0 hx hZ hown (host := "") (Or.inl (hw _ (own_m 63 rfl))) Via.refl e0 S_TRUE (g := (mkF m 8 #[.val (.int xx_), .val (.int (xx_ &&& (3 : Int32)))] [])) rfl (hb hby dc4_8)
    refine og st2 ?_
    show oG p e below _ (T2.setTop (mkF m 11 #[.val (.int xx_), .val (.int (xx_ &&& (3 : Int32)))] [(.ref r_TRUE)]))
    exact own_retR X2 hx hlk Bd.returns rfl rfl (hb hby dc4_11) (by decide) (by decide) ⟨r_TRUE, rfl, Or.inl rfl, N0, e2⟩
  refine og (fun _ hr => XS.ifYes X0.here hx rfl (pc0 := 5) (pc' := 12) rfl (hb hby dc4_5) rfl ((if0 _ _).trans (feq c1).2) (by decide) (by decide) hr) ?_
  show oG p e below _ (s₁.setTop (mkF m 12 #[.val (.int xx_), .val (.int (xx_ &&& (3 : Int32)))] []))
  refine og (fun _ hr => XS.iloadN X0.here hx rfl (hb hby dc4_12) rfl (XS.iconst X0.here hx rfl (hb hby dc4_13) hr)) ?_
  show oG p e below _ (s₁.setTop (mkF m 14 #[.val (.int xx_), .val (.int (xx_ &&& (3 : Int32)))] [(.int (1 : Int32)), (.int (xx_ &&& (3 : Int32)))]))
  rcases Classical.em ((xx_ &&& (3 : Int32)) = (1 : Int32)) with c3 | c3
  · skip
    refine og (fun _ hr => XS.icmpNo X0.here hx rfl (hb hby dc4_14) rfl (teq c3).2 hr) ?_
    show oG p e below _ (s₁.setTop (mkF m 17 #[.val (.int xx_), .val (.int (xx_ &&& (3 : Int32)))] []))
    obtain ⟨T4, X4, e4, st4⟩ := getS2 X0 hx hZ hown (host := "") (Or.inl (hw _ (own_m 62 rfl))) Via.refl e0 S_FALSE (g := (mkF m 17 #[.val (.int xx_), .val (.int (xx_ &&& (3 : Int32)))] [])) rfl (hb hby dc4_17)
    refine og st4 ?_
    show oG p e below _ (T4.setTop (mkF m 20 #[.val (.int xx_), .val (.int (xx_ &&& (3 : Int32)))] [(.ref r_FALSE)]))
    exact own_retR X4 hx hlk Bd.returns rfl rfl (hb hby dc4_20) (by decide) (by decide) ⟨r_FALSE, rfl, Or.inr (Or.inl rfl), N0, e4⟩
  refine og (fun _ hr => XS.icmpYes X0.here hx rfl (pc0 := 14) (pc' := 21) rfl (hb hby dc4_14) rfl (feq c3).2 (by decide) (by decide) hr) ?_
  show oG p e below _ (s₁.setTop (mkF m 21 #[.val (.int xx_), .val (.int (xx_ &&& (3 : Int32)))] []))
  refine og (fun _ hr => XS.iloadN X0.here hx rfl (hb hby dc4_21) rfl (XS.iconst X0.here hx rfl (hb hby dc4_22) hr)) ?_
  show oG p e below _ (s₁.setTop (mkF m 23 #[.val (.int xx_), .val (.int (xx_ &&& (3 : Int32)))] [(.int (2 : Int32)), (.int (xx_ &&& (3 : Int32)))]))
  rcases Classical.em ((xx_ &&& (3 : Int32)) = (2 : Int32)) with c5 | c5
  · skip
    refine og (fun _ hr => XS.icmpNo X0.here hx rfl (hb hby dc4_23) rfl (teq c5).2 hr) ?_
    show oG p e below _ (s₁.setTop (mkF m 26 #[.val (.int xx_), .val (.int (xx_ &&& (3 : Int32)))] []))
    obtain ⟨T6, X6, e6, st6⟩ := getS2 X0 hx hZ hown (host := "") (Or.inl (hw _ (own_m 43 rfl))) Via.refl e0 S_UNKNOWN (g := (mkF m 26 #[.val (.int xx_), .val (.int (xx_ &&& (3 : Int32)))] [])) rfl (hb hby dc4_26)
    refine og st6 ?_
    show oG p e below _ (T6.setTop (mkF m 29 #[.val (.int xx_), .val (.int (xx_ &&& (3 : Int32)))] [(.ref r_UNKNOWN)]))
    exact own_retR X6 hx hlk Bd.returns rfl rfl (hb hby dc4_29) (by decide) (by decide) ⟨r_UNKNOWN, rfl, Or.inr (Or.inr (Or.inl rfl)), N0, e6⟩
  refine og (fun _ hr => XS.icmpYes X0.here hx rfl (pc0 := 23) (pc' := 30) rfl (hb hby dc4_23) rfl (feq c5).2 (by decide) (by decide) hr) ?_
  show oG p e below _ (s₁.setTop (mkF m 30 #[.val (.int xx_), .val (.int (xx_ &&& (3 : Int32)))] []))
  obtain ⟨T7, X7, e7, st7⟩ := getS2 X0 hx hZ hown (host := "") (Or.inl (hw _ (own_m 69 rfl))) Via.refl e0 S_INCONSISTENT (g := (mkF m 30 #[.val (.int xx_), .val (.int (xx_ &&& (3 : Int32)))] [])) rfl (hb hby dc4_30)
  refine og st7 ?_
  show oG p e below _ (T7.setTop (mkF m 33 #[.val (.int xx_), .val (.int (xx_ &&& (3 : Int32)))] [(.ref r_INCONSISTENT)]))
  exact own_retR X7 hx hlk Bd.returns rfl rfl (hb hby dc4_33) (by decide) (by decide) ⟨r_INCONSISTENT, rfl, Or.inr (Or.inr (Or.inr (rfl))), N0, e7⟩
theorem dc7_0 : decode prog_2_method_4_code 0 = .ok (.lconst 0, 1) := by decide +kernel
theorem dc7_1 : decode prog_2_method_4_code 1 = .ok (.lstore_n 1, 1) := by decide +kernel
theorem dc7_2 : decode prog_2_method_4_code 2 = .ok (.aload_n 0, 1) := by decide +kernel
theorem dc7_3 : decode prog_2_method_4_code 3 = .ok (.getfield 21, 3) := by decide +kernel
theorem dc7_6 : decode prog_2_method_4_code 6 = .ok (.astore_n 3, 1) := by decide +kernel
theorem dc7_7 : decode prog_2_method_4_code 7 = .ok (.aload_n 3, 1) := by decide +kernel
theorem dc7_8 : decode prog_2_method_4_code 8 = .ok (.arraylength, 1) := by decide +kernel
theorem dc7_9 : decode prog_2_method_4_code 9 = .ok (.istore 4, 2) := by decide +kernel
theorem dc7_11 : decode prog_2_method_4_code 11 = .ok (.iconst 0, 1) := by decide +kernel
theorem dc7_12 : decode prog_2_method_4_code 12 = .ok (.istore 5, 2) := by decide +kernel
theorem dc7_14 : decode prog_2_method_4_code 14 = .ok (.iload 5, 2) := by decide +kernel
theorem dc7_16 : decode prog_2_method_4_code 16 = .ok (.iload 4, 2) := by decide +kernel
theorem dc7_18 : decode prog_2_method_4_code 18 = .ok (.if_icmp .ge 21, 3) := by decide +kernel
theorem dc7_21 : decode prog_2_method_4_code 21 = .ok (.aload_n 3, 1) := by decide +kernel
theorem dc7_22 : decode prog_2_method_4_code 22 = .ok (.iload 5, 2) := by decide +kernel
theorem dc7_24 : decode prog_2_method_4_code 24 = .ok (.iaload, 1) := by decide +kernel
theorem dc7_25 : decode prog_2_method_4_code 25 = .ok (.istore 6, 2) := by decide +kernel
theorem dc7_27 : decode prog_2_method_4_code 27 = .ok (.lload_n 1, 1) := by decide +kernel
theorem dc7_28 : decode prog_2_method_4_code 28 = .ok (.iload 6, 2) := by decide +kernel
theorem dc7_30 : decode prog_2_method_4_code 30 = .ok (.i2l, 1) := by decide +kernel
theorem dc7_31 : decode prog_2_method_4_code 31 = .ok (.ladd, 1) := by decide +kernel
theorem dc7_32 : decode prog_2_method_4_code 32 = .ok (.lstore_n 1, 1) := by decide +kernel
theorem dc7_33 : decode prog_2_method_4_code 33 = .ok (.iinc 5 1, 3) := by decide +kernel
theorem dc7_36 : decode prog_2_method_4_code 36 = .ok (.goto (-22), 3) := by decide +kernel
theorem dc7_39 : decode prog_2_method_4_code 39 = .ok (.lload_n 1, 1) := by decide +kernel
theorem dc7_40 : decode prog_2_method_4_code 40 = .ok (.lreturn, 1) := by decide +kernel
def Q_size (Z : State) (cnt : Int32) (h0 : Heap) (n0 : Nat) (v : Option Value) (h : Heap) (L : List Loc) : Prop := v = some (.long cnt.toInt64) ∧ Fr n0 L ∧ h = h0
set_option maxRecDepth 65536 in
set_option maxHeartbeats 40000000 in
theorem rm_size (l : Launch) (Z : State) (a0 : Array Value) (hw : ∀ d ∈ tables_1, d.before a0 Z = true) (ws : List Jvm.Cond) (q : Addr) (cb : Addr) (w : Int32) (cnt : Int32) (lo : Nat) (h0 : Heap) (n0 : Nat) (Z0 : n0 ≤ h0.size) (hI : own_Inv Z h0 lo q cb w cnt) :
    MetFree l (⟨"com/example/candid_facts/candidfacts/Answer$Listed", "size", "()J"⟩ : MethodName) (head1 (Jvm.Cond.code (⟨"com/example/candid_facts/candidfacts/Answer$Listed", "size", "()J"⟩ : MethodName) prog_2_method_4_code 7 (some .long) :: ws) ({ frames := 0, cells := 0, slots := 0, locals := 0 } : Room)) (fun aA U => aA = #[(.ref q)] ∧ Z.Warmed39 U.vm ∧ U.heap = h0) (fun _ _ _ _ _ => True) (fun _ U o U' => ∃ v L, o = .returned v ∧ Q_size Z cnt h0 n0 v U'.heap L ∧ FrameEnd U o U' L ({ frames := 0, cells := 0, slots := 0, locals := 0 } : Room).cells ({ frames := 0, cells := 0, slots := 0, locals := 0 } : Room).slots) := by
  refine MetFree.of_bodySF (plainFor_of_name own_pn_com_example_candid_facts_candidfacts_Answer_Listed) hisR ?_
  intro p e s m args below meth c s₁ Bd hml0 hP hK
  obtain ⟨rfl, hZ, hh⟩ := hP
  have hx := Bd.exec
  have hby := Bd.bytes
  have hlk : meth.locks = false := BodyLoose.notSynchronized Bd
  have hml : c.maxLocals = 7 := hml0
  have hown : s.vm.findClass "com/example/candid_facts/candidfacts/Answer$Listed" = some m.cls := findClass_of_methodNamed Bd.named
  have hnm := (name_of_methodNamed Bd.named Bd.method).1
  have X0 : Stand p l e ({ frames := 0, cells := 0, slots := 0, locals := 0 } : Room) s m #[(.ref q)] below meth c s₁ [] 0 0 := Stand.of_body Bd
  have e0 : s₁.heap = h0 := by rw [← hh, Bd.state]; rfl
  have N0 := Fr.nil n0
  obtain ⟨C_, S_, d0_, d1_, d2_, d3_, kC_, kS_, kb_, e0_, e1_, e2_, e3_, s0_, s1_, s2_, s3_, m0_, m1_, m2_, m3_, bx_, by_, bz_, v0_, v1_, v2_, v3_, EQ, FC, FS, FW, VC, OV, VS, VD0, VD1, VD2, VD3, VB, g_C_, g_S_, g_d0_, g_d1_, g_d2_, g_d3_, ne_C__S_, ne_C__d0_, ne_C__d1_, ne_C__d2_, ne_C__d3_, ne_S__d0_, ne_S__d1_, ne_S__d2_, ne_S__d3_, ne_d0__d1_, ne_d0__d2_, ne_d0__d3_, ne_d1__d2_, ne_d1__d3_, ne_d2__d3_, ne_cb_C_, ne_cb_S_, ne_cb_d0_, ne_cb_d1_, ne_cb_d2_, ne_cb_d3_, ne_q_C_, ne_q_S_, ne_q_d0_, ne_q_d1_, ne_q_d2_, ne_q_d3_, iP0_, iP1_, iP2_, iP3_, SUM, iM0_, iM1_, iM2_, iM3_, iL0_, iL1_, iL2_, iL3_, WB⟩ := hI
  show oG p e below (own_K s (Q_size Z cnt h0 n0) ({ frames := 0, cells := 0, slots := 0, locals := 0 } : Room).cells ({ frames := 0, cells := 0, slots := 0, locals := 0 } : Room).slots) (s₁.setTop (entryFrame m #[(.ref q)] 7))
  rw [(by first | (simp [entryFrame, mkF, argsToLocals, Value.category]; done) | rfl : entryFrame m #[(.ref q)] 7 = mkF m 0 #[.val (.ref q), .unset, .unset, .unset, .unset, .unset, .unset] [])]
  show oG p e below _ (s₁.setTop (mkF m 0 #[.val (.ref q), .unset, .unset, .unset, .unset, .unset, .unset] []))
  refine og (fun _ hr => XS.lconst X0.here hx rfl (hb hby dc7_0) (XS.lstoreN X0.here hx rfl (hb hby dc7_1) rfl (l' := #[.val (.ref q), .val (.long (0 : Int64)), .second, .unset, .unset, .unset, .unset]) rfl (XS.aloadN X0.here hx rfl (hb hby dc7_2) rfl rfl hr))) ?_
  show oG p e below _ (s₁.setTop (mkF m 3 #[.val (.ref q), .val (.long (0 : Int64)), .second, .unset, .unset, .unset, .unset] [(.ref q)]))
  obtain ⟨T1, X1, e1, st1⟩ := getF X0 hx hZ hown (host := "") (Or.inl (hw _ (own_m 34 rfl))) Via.refl e0 FS (g := (mkF m 3 #[.val (.ref q), .val (.long (0 : Int64)), .second, .unset, .unset, .unset, .unset] [(.ref q)])) rfl rfl (hb hby dc7_3)
  refine og st1 ?_
  show oG p e below _ (T1.setTop (mkF m 6 #[.val (.ref q), .val (.long (0 : Int64)), .second, .unset, .unset, .unset, .unset] [(.ref S_)]))
  refine og (fun _ hr => XS.astoreN X1.here hx rfl (hb hby dc7_6) rfl rfl (l' := #[.val (.ref q), .val (.long (0 : Int64)), .second, .val (.ref S_), .unset, .unset, .unset]) rfl (XS.aloadN X1.here hx rfl (hb hby dc7_7) rfl rfl (own_alen X1 hx hZ e1 VS rfl rfl (hb hby dc7_8) (XS.istore X1.here hx rfl (hb hby dc7_9) rfl (l' := #[.val (.ref q), .val (.long (0 : Int64)), .second, .val (.ref S_), .val (.int (4 : Int32)), .unset, .unset]) rfl (XS.iconst X1.here hx rfl (hb hby dc7_11) (XS.istore X1.here hx rfl (hb hby dc7_12) rfl (l' := #[.val (.ref q), .val (.long (0 : Int64)), .second, .val (.ref S_), .val (.int (4 : Int32)), .val (.int (0 : Int32)), .unset]) rfl (XS.iload X1.here hx rfl (hb hby dc7_14) rfl (XS.iload X1.here hx rfl (hb hby dc7_16) rfl (XS.icmpNo X1.here hx rfl (hb hby dc7_18) rfl (tlt (by decide)).2.1 (XS.aloadN X1.here hx rfl (hb hby dc7_21) rfl rfl (XS.iload X1.here hx rfl (hb hby dc7_22) rfl (own_iaload X1 hx hZ e1 VS (0 : Int32) (.int s0_) ⟨by decide, by decide⟩ rfl rfl rfl (hb hby dc7_24) (XS.istore X1.here hx rfl (hb hby dc7_25) rfl (l' := #[.val (.ref q), .val (.long (0 : Int64)), .second, .val (.ref S_), .val (.int (4 : Int32)), .val (.int (0 : Int32)), .val (.int s0_)]) rfl (XS.lloadN X1.here hx rfl (hb hby dc7_27) rfl hr)))))))))))))) ?_
  show oG p e below _ (T1.setTop (mkF m 28 #[.val (.ref q), .val (.long (0 : Int64)), .second, .val (.ref S_), .val (.int (4 : Int32)), .val (.int (0 : Int32)), .val (.int s0_)] [(.long (0 : Int64))]))
  refine og (fun _ hr => XS.iload X1.here hx rfl (hb hby dc7_28) rfl (XS.i2l X1.here hx rfl (hb hby dc7_30) rfl (XS.ladd X1.here hx rfl (hb hby dc7_31) rfl (XS.lstoreN X1.here hx rfl (hb hby dc7_32) rfl (l' := #[.val (.ref q), .val (.long ((0 : Int64) + (s0_.toInt64))), .second, .val (.ref S_), .val (.int (4 : Int32)), .val (.int (0 : Int32)), .val (.int s0_)]) rfl (XS.iinc X1.here hx rfl (hb hby dc7_33) rfl (l' := #[.val (.ref q), .val (.long ((0 : Int64) + (s0_.toInt64))), .second, .val (.ref S_), .val (.int (4 : Int32)), .val (.int (1 : Int32)), .val (.int s0_)]) rfl (XS.goto X1.here hx rfl (pc0 := 36) (pc' := 14) rfl (hb hby dc7_36) (by decide) (by decide) (XS.iload X1.here hx rfl (hb hby dc7_14) rfl (XS.iload X1.here hx rfl (hb hby dc7_16) rfl (XS.icmpNo X1.here hx rfl (hb hby dc7_18) rfl (tlt (by decide)).2.1 (XS.aloadN X1.here hx rfl (hb hby dc7_21) rfl rfl (XS.iload X1.here hx rfl (hb hby dc7_22) rfl (own_iaload X1 hx hZ e1 VS (1 : Int32) (.int s1_) ⟨by decide, by decide⟩ rfl rfl rfl (hb hby dc7_24) (XS.istore X1.here hx rfl (hb hby dc7_25) rfl (l' := #[.val (.ref q), .val (.long ((0 : Int64) + (s0_.toInt64))), .second, .val (.ref S_), .val (.int (4 : Int32)), .val (.int (1 : Int32)), .val (.int s1_)]) rfl (XS.lloadN X1.here hx rfl (hb hby dc7_27) rfl hr)))))))))))))) ?_
  show oG p e below _ (T1.setTop (mkF m 28 #[.val (.ref q), .val (.long ((0 : Int64) + (s0_.toInt64))), .second, .val (.ref S_), .val (.int (4 : Int32)), .val (.int (1 : Int32)), .val (.int s1_)] [(.long ((0 : Int64) + (s0_.toInt64)))]))
  refine og (fun _ hr => XS.iload X1.here hx rfl (hb hby dc7_28) rfl (XS.i2l X1.here hx rfl (hb hby dc7_30) rfl (XS.ladd X1.here hx rfl (hb hby dc7_31) rfl (XS.lstoreN X1.here hx rfl (hb hby dc7_32) rfl (l' := #[.val (.ref q), .val (.long (((0 : Int64) + (s0_.toInt64)) + (s1_.toInt64))), .second, .val (.ref S_), .val (.int (4 : Int32)), .val (.int (1 : Int32)), .val (.int s1_)]) rfl (XS.iinc X1.here hx rfl (hb hby dc7_33) rfl (l' := #[.val (.ref q), .val (.long (((0 : Int64) + (s0_.toInt64)) + (s1_.toInt64))), .second, .val (.ref S_), .val (.int (4 : Int32)), .val (.int (2 : Int32)), .val (.int s1_)]) rfl (XS.goto X1.here hx rfl (pc0 := 36) (pc' := 14) rfl (hb hby dc7_36) (by decide) (by decide) (XS.iload X1.here hx rfl (hb hby dc7_14) rfl (XS.iload X1.here hx rfl (hb hby dc7_16) rfl (XS.icmpNo X1.here hx rfl (hb hby dc7_18) rfl (tlt (by decide)).2.1 (XS.aloadN X1.here hx rfl (hb hby dc7_21) rfl rfl (XS.iload X1.here hx rfl (hb hby dc7_22) rfl (own_iaload X1 hx hZ e1 VS (2 : Int32) (.int s2_) ⟨by decide, by decide⟩ rfl rfl rfl (hb hby dc7_24) (XS.istore X1.here hx rfl (hb hby dc7_25) rfl (l' := #[.val (.ref q), .val (.long (((0 : Int64) + (s0_.toInt64)) + (s1_.toInt64))), .second, .val (.ref S_), .val (.int (4 : Int32)), .val (.int (2 : Int32)), .val (.int s2_)]) rfl (XS.lloadN X1.here hx rfl (hb hby dc7_27) rfl hr)))))))))))))) ?_
  show oG p e below _ (T1.setTop (mkF m 28 #[.val (.ref q), .val (.long (((0 : Int64) + (s0_.toInt64)) + (s1_.toInt64))), .second, .val (.ref S_), .val (.int (4 : Int32)), .val (.int (2 : Int32)), .val (.int s2_)] [(.long (((0 : Int64) + (s0_.toInt64)) + (s1_.toInt64)))]))
  refine og (fun _ hr => XS.iload X1.here hx rfl (hb hby dc7_28) rfl (XS.i2l X1.here hx rfl (hb hby dc7_30) rfl (XS.ladd X1.here hx rfl (hb hby dc7_31) rfl (XS.lstoreN X1.here hx rfl (hb hby dc7_32) rfl (l' := #[.val (.ref q), .val (.long ((((0 : Int64) + (s0_.toInt64)) + (s1_.toInt64)) + (s2_.toInt64))), .second, .val (.ref S_), .val (.int (4 : Int32)), .val (.int (2 : Int32)), .val (.int s2_)]) rfl (XS.iinc X1.here hx rfl (hb hby dc7_33) rfl (l' := #[.val (.ref q), .val (.long ((((0 : Int64) + (s0_.toInt64)) + (s1_.toInt64)) + (s2_.toInt64))), .second, .val (.ref S_), .val (.int (4 : Int32)), .val (.int (3 : Int32)), .val (.int s2_)]) rfl (XS.goto X1.here hx rfl (pc0 := 36) (pc' := 14) rfl (hb hby dc7_36) (by decide) (by decide) (XS.iload X1.here hx rfl (hb hby dc7_14) rfl (XS.iload X1.here hx rfl (hb hby dc7_16) rfl (XS.icmpNo X1.here hx rfl (hb hby dc7_18) rfl (tlt (by decide)).2.1 (XS.aloadN X1.here hx rfl (hb hby dc7_21) rfl rfl (XS.iload X1.here hx rfl (hb hby dc7_22) rfl (own_iaload X1 hx hZ e1 VS (3 : Int32) (.int s3_) ⟨by decide, by decide⟩ rfl rfl rfl (hb hby dc7_24) (XS.istore X1.here hx rfl (hb hby dc7_25) rfl (l' := #[.val (.ref q), .val (.long ((((0 : Int64) + (s0_.toInt64)) + (s1_.toInt64)) + (s2_.toInt64))), .second, .val (.ref S_), .val (.int (4 : Int32)), .val (.int (3 : Int32)), .val (.int s3_)]) rfl (XS.lloadN X1.here hx rfl (hb hby dc7_27) rfl hr)))))))))))))) ?_
  show oG p e below _ (T1.setTop (mkF m 28 #[.val (.ref q), .val (.long ((((0 : Int64) + (s0_.toInt64)) + (s1_.toInt64)) + (s2_.toInt64))), .second, .val (.ref S_), .val (.int (4 : Int32)), .val (.int (3 : Int32)), .val (.int s3_)] [(.long ((((0 : Int64) + (s0_.toInt64)) + (s1_.toInt64)) + (s2_.toInt64)))]))
  refine og (fun _ hr => XS.iload X1.here hx rfl (hb hby dc7_28) rfl (XS.i2l X1.here hx rfl (hb hby dc7_30) rfl (XS.ladd X1.here hx rfl (hb hby dc7_31) rfl (XS.lstoreN X1.here hx rfl (hb hby dc7_32) rfl (l' := #[.val (.ref q), .val (.long (((((0 : Int64) + (s0_.toInt64)) + (s1_.toInt64)) + (s2_.toInt64)) + (s3_.toInt64))), .second, .val (.ref S_), .val (.int (4 : Int32)), .val (.int (3 : Int32)), .val (.int s3_)]) rfl (XS.iinc X1.here hx rfl (hb hby dc7_33) rfl (l' := #[.val (.ref q), .val (.long (((((0 : Int64) + (s0_.toInt64)) + (s1_.toInt64)) + (s2_.toInt64)) + (s3_.toInt64))), .second, .val (.ref S_), .val (.int (4 : Int32)), .val (.int (4 : Int32)), .val (.int s3_)]) rfl (XS.goto X1.here hx rfl (pc0 := 36) (pc' := 14) rfl (hb hby dc7_36) (by decide) (by decide) (XS.iload X1.here hx rfl (hb hby dc7_14) rfl (XS.iload X1.here hx rfl (hb hby dc7_16) rfl (XS.icmpYes X1.here hx rfl (pc0 := 18) (pc' := 39) rfl (hb hby dc7_18) rfl (flt (by decide)).2.1 (by decide) (by decide) (XS.lloadN X1.here hx rfl (hb hby dc7_39) rfl hr)))))))))) ?_
  show oG p e below _ (T1.setTop (mkF m 40 #[.val (.ref q), .val (.long (((((0 : Int64) + (s0_.toInt64)) + (s1_.toInt64)) + (s2_.toInt64)) + (s3_.toInt64))), .second, .val (.ref S_), .val (.int (4 : Int32)), .val (.int (4 : Int32)), .val (.int s3_)] [(.long (((((0 : Int64) + (s0_.toInt64)) + (s1_.toInt64)) + (s2_.toInt64)) + (s3_.toInt64)))]))
  have hz_ : (((((0 : Int64) + (s0_.toInt64)) + (s1_.toInt64)) + (s2_.toInt64)) + (s3_.toInt64)) = cnt.toInt64 := by
    apply Int64.toInt_inj.mp
    have qc := c_i2l cnt
    have q0 := rng32 s0_
    have r0 := rng32 s0_
    have q1 := c_i2l s0_
    have r1 := rng64 (s0_.toInt64)
    have q2 := c_ladd (0 : Int64) (s0_.toInt64)
    have r2 := rng64 ((0 : Int64) + (s0_.toInt64))
    have q3 := rng32 s1_
    have r3 := rng32 s1_
    have q4 := c_i2l s1_
    have r4 := rng64 (s1_.toInt64)
    have q5 := c_ladd ((0 : Int64) + (s0_.toInt64)) (s1_.toInt64)
    have r5 := rng64 (((0 : Int64) + (s0_.toInt64)) + (s1_.toInt64))
    have q6 := rng32 s2_
    have r6 := rng32 s2_
    have q7 := c_i2l s2_
    have r7 := rng64 (s2_.toInt64)
    have q8 := c_ladd (((0 : Int64) + (s0_.toInt64)) + (s1_.toInt64)) (s2_.toInt64)
    have r8 := rng64 ((((0 : Int64) + (s0_.toInt64)) + (s1_.toInt64)) + (s2_.toInt64))
    have q9 := rng32 s3_
    have r9 := rng32 s3_
    have q10 := c_i2l s3_
    have r10 := rng64 (s3_.toInt64)
    have q11 := c_ladd ((((0 : Int64) + (s0_.toInt64)) + (s1_.toInt64)) + (s2_.toInt64)) (s3_.toInt64)
    have r11 := rng64 (((((0 : Int64) + (s0_.toInt64)) + (s1_.toInt64)) + (s2_.toInt64)) + (s3_.toInt64))
    have rc := rng32 cnt
    simp only [Int64.reduceToInt] at *
    omega
  exact own_retJ X1 hx hlk Bd.returns (hb hby dc7_40) (by decide) (by decide) ⟨(congrArg (fun z => some (Value.long z)) hz_), N0, e1⟩
theorem dc1_0 : decode prog_2_method_1_code 0 = .ok (.aload_n 0, 1) := by decide +kernel
theorem dc1_1 : decode prog_2_method_1_code 1 = .ok (.invokespecial 1, 3) := by decide +kernel
theorem dc1_4 : decode prog_2_method_1_code 4 = .ok (.aload_n 0, 1) := by decide +kernel
theorem dc1_5 : decode prog_2_method_1_code 5 = .ok (.invokestatic 7, 3) := by decide +kernel
theorem dc3_0 : decode prog_91_method_1_code 0 = .ok (.getstatic 16, 3) := by decide +kernel
theorem dc3_3 : decode prog_91_method_1_code 3 = .ok (.invokevirtual 20, 3) := by decide +kernel
theorem dc3_6 : decode prog_91_method_1_code 6 = .ok (.checkcast 21, 3) := by decide +kernel
theorem dc3_9 : decode prog_91_method_1_code 9 = .ok (.areturn, 1) := by decide +kernel
theorem own_pn_com_example_candid_facts_candidfacts_Truth : plainName "com/example/candid_facts/candidfacts/Truth" = true := by first | (simp [plainName, overriddenIn]; done) | decide +kernel
def Q_values_8 (Z : State) (o1 : Addr) (o2 : Addr) (o3 : Addr) (o4 : Addr) (kc0 : ClassId) (h0 : Heap) (n0 : Nat) (v : Option Value) (h : Heap) (L : List Loc) : Prop := (∃ (b2 : Addr) (kc0 : ClassId), v = some (.ref b2) ∧ Fr n0 L ∧ Keep h0 h [] ∧ n0 ≤ b2 ∧ h0.size ≤ b2 ∧ Exa Z h b2 "[Lcom/example/candid_facts/candidfacts/Truth;" ∧ Arv Z h b2 kc0 (.object "com/example/candid_facts/candidfacts/Truth") (4 : Int32) [(.ref o1), (.ref o2), (.ref o3), (.ref o4)] .null)
set_option maxRecDepth 65536 in
set_option maxHeartbeats 40000000 in
theorem rm_values_8 (l : Launch) (Z : State) (a0 : Array Value) (hw : ∀ d ∈ tables_1, d.before a0 Z = true) (ws : List Jvm.Cond) (o0 : Addr) (o1 : Addr) (o2 : Addr) (o3 : Addr) (o4 : Addr) (kc0 : ClassId) (h0 : Heap) (n0 : Nat) (Z0 : n0 ≤ h0.size) (P0 : Sta Z h0 "com/example/candid_facts/candidfacts/Truth" "$VALUES" "[Lcom/example/candid_facts/candidfacts/Truth;" (.ref o0)) (P1 : Arv Z h0 o0 kc0 (.object "com/example/candid_facts/candidfacts/Truth") (4 : Int32) [(.ref o1), (.ref o2), (.ref o3), (.ref o4)] .null) (P2 : Exa Z h0 o0 "[Lcom/example/candid_facts/candidfacts/Truth;") :
    MetFree l (⟨"com/example/candid_facts/candidfacts/Truth", "values", "()[Lcom/example/candid_facts/candidfacts/Truth;"⟩ : MethodName) (head1 (Jvm.Cond.code (⟨"com/example/candid_facts/candidfacts/Truth", "values", "()[Lcom/example/candid_facts/candidfacts/Truth;"⟩ : MethodName) prog_91_method_1_code 0 (some (.array (.object "com/example/candid_facts/candidfacts/Truth"))) :: ws) ({ frames := 1, cells := 1, slots := 4, locals := 14 } : Room)) (fun aA U => aA = #[] ∧ Z.Warmed39 U.vm ∧ U.heap = h0) (fun _ _ _ _ _ => True) (fun _ U o U' => ∃ v L, o = .returned v ∧ Q_values_8 Z o1 o2 o3 o4 kc0 h0 n0 v U'.heap L ∧ FrameEnd U o U' L ({ frames := 1, cells := 1, slots := 4, locals := 14 } : Room).cells ({ frames := 1, cells := 1, slots := 4, locals := 14 } : Room).slots) := by
  refine MetFree.of_bodySF (plainFor_of_name own_pn_com_example_candid_facts_candidfacts_Truth) hisR ?_
  intro p e s m args below meth c s₁ Bd hml0 hP hK
  obtain ⟨rfl, hZ, hh⟩ := hP
  have hx := Bd.exec
  have hby := Bd.bytes
  have hlk : meth.locks = false := BodyLoose.notSynchronized Bd
  have hml : c.maxLocals = 0 := hml0
  have hown : s.vm.findClass "com/example/candid_facts/candidfacts/Truth" = some m.cls := findClass_of_methodNamed Bd.named
  have hnm := (name_of_methodNamed Bd.named Bd.method).1
  have X0 : Stand p l e ({ frames := 1, cells := 1, slots := 4, locals := 14 } : Room) s m #[] below meth c s₁ [] 0 0 := Stand.of_body Bd
  have e0 : s₁.heap = h0 := by rw [← hh, Bd.state]; rfl
  have N0 := Fr.nil n0
  have K0 : Keep h0 h0 [] := Keep.refl _ _
  show oG p e below (own_K s (Q_values_8 Z o1 o2 o3 o4 kc0 h0 n0) ({ frames := 1, cells := 1, slots := 4, locals := 14 } : Room).cells ({ frames := 1, cells := 1, slots := 4, locals := 14 } : Room).slots) (s₁.setTop (entryFrame m #[] 0))
  rw [(by first | (simp [entryFrame, mkF, argsToLocals, Value.category]; done) | rfl : entryFrame m #[] 0 = mkF m 0 #[] [])]
  show oG p e below _ (s₁.setTop (mkF m 0 #[] []))
  obtain ⟨T1, X1, e1, st1⟩ := getS2 X0 hx hZ hown (host := "") (Or.inl (hw _ (own_m 14 rfl))) Via.refl e0 P0 (g := (mkF m 0 #[] [])) rfl (hb hby dc3_0)
  refine og st1 ?_
  show oG p e below _ (T1.setTop (mkF m 3 #[] [(.ref o0)]))
  obtain ⟨T2, h2, X2, e2, E2, A2, EA2, st2⟩ := cloneH X1 hx hZ hown (hw _ (own_m 16 rfl)) (hw _ (own_m 17 rfl)) (hw _ (own_m 21 rfl)) (hw _ (own_m 19 rfl)) (hw _ (own_m 20 rfl)) (hw _ (own_m 22 rfl)) e1 P1.arh P2 (g := (mkF m 3 #[] [(.ref o0)])) rfl (by rw [hml]; rfl) rfl (hb hby dc3_3) (by decide) (W := 0) (cap := 4) (by show 2 * 0 + _ ≤ _; exact Nat.le_of_eq rfl) (by decide) (by decide) (by decide) (by decide)
  obtain ⟨b2, g2⟩ : ∃ z, z = h0.size := ⟨_, rfl⟩
  rw [← g2] at A2 EA2 st2
  have ge3 : n0 ≤ b2 := Nat.le_trans Z0 (Nat.le_of_eq g2.symm)
  have sz4 : h0.size ≤ b2 := Nat.le_trans K0.1 (Nat.le_of_eq g2.symm)
  refine og st2 ?_
  have f5 : Arv Z h2 b2 kc0 (.object "com/example/candid_facts/candidfacts/Truth") (4 : Int32) [(.ref o1), (.ref o2), (.ref o3), (.ref o4)] .null := A2
  show oG p e below _ (T2.setTop (mkF m 6 #[] [(.ref b2)]))
  obtain ⟨T6, X6, e6, st6⟩ := castY X2 hx hZ hown (hw _ (own_m 28 rfl)) e2 (Ins.self EA2) (g := (mkF m 6 #[] [(.ref b2)])) rfl rfl (hb hby dc3_6)
  refine og st6 ?_
  show oG p e below _ (T6.setTop (mkF m 9 #[] [(.ref b2)]))
  have K7 := (K0.ext E2)
  exact own_retR X6 hx hlk Bd.returns rfl rfl (hb hby dc3_9) (by decide) (by decide) (by rw [e6]; exact ⟨b2, kc0, rfl, N0, K7, ge3, sz4, EA2, f5⟩)
theorem own_pd3 : parseMethodDescriptor "()[Lcom/example/candid_facts/candidfacts/Truth;" = some ⟨[], some (.array (.object "com/example/candid_facts/candidfacts/Truth"))⟩ := by decide +kernel
theorem dc1_8 : decode prog_2_method_1_code 8 = .ok (.arraylength, 1) := by decide +kernel
theorem dc1_9 : decode prog_2_method_1_code 9 = .ok (.anewarray 13, 3) := by decide +kernel
theorem dc1_12 : decode prog_2_method_1_code 12 = .ok (.putfield 15, 3) := by decide +kernel
theorem dc1_15 : decode prog_2_method_1_code 15 = .ok (.aload_n 0, 1) := by decide +kernel
theorem dc1_16 : decode prog_2_method_1_code 16 = .ok (.aload_n 0, 1) := by decide +kernel
theorem dc1_17 : decode prog_2_method_1_code 17 = .ok (.getfield 15, 3) := by decide +kernel
theorem dc1_20 : decode prog_2_method_1_code 20 = .ok (.arraylength, 1) := by decide +kernel
theorem dc1_21 : decode prog_2_method_1_code 21 = .ok (.newarray .int, 2) := by decide +kernel
theorem dc1_23 : decode prog_2_method_1_code 23 = .ok (.putfield 21, 3) := by decide +kernel
theorem dc1_26 : decode prog_2_method_1_code 26 = .ok (.aload_n 0, 1) := by decide +kernel
theorem dc1_27 : decode prog_2_method_1_code 27 = .ok (.iload_n 1, 1) := by decide +kernel
theorem dc1_28 : decode prog_2_method_1_code 28 = .ok (.putfield 24, 3) := by decide +kernel
theorem dc1_31 : decode prog_2_method_1_code 31 = .ok (.iconst 0, 1) := by decide +kernel
theorem dc1_32 : decode prog_2_method_1_code 32 = .ok (.istore_n 2, 1) := by decide +kernel
theorem dc1_33 : decode prog_2_method_1_code 33 = .ok (.iload_n 2, 1) := by decide +kernel
theorem dc1_34 : decode prog_2_method_1_code 34 = .ok (.aload_n 0, 1) := by decide +kernel
theorem dc1_35 : decode prog_2_method_1_code 35 = .ok (.getfield 15, 3) := by decide +kernel
theorem dc1_38 : decode prog_2_method_1_code 38 = .ok (.arraylength, 1) := by decide +kernel
theorem dc1_39 : decode prog_2_method_1_code 39 = .ok (.if_icmp .ge 18, 3) := by decide +kernel
theorem dc1_42 : decode prog_2_method_1_code 42 = .ok (.aload_n 0, 1) := by decide +kernel
theorem dc1_43 : decode prog_2_method_1_code 43 = .ok (.getfield 15, 3) := by decide +kernel
theorem dc1_46 : decode prog_2_method_1_code 46 = .ok (.iload_n 2, 1) := by decide +kernel
theorem dc1_47 : decode prog_2_method_1_code 47 = .ok (.iconst 0, 1) := by decide +kernel
theorem dc1_48 : decode prog_2_method_1_code 48 = .ok (.newarray .int, 2) := by decide +kernel
theorem dc1_50 : decode prog_2_method_1_code 50 = .ok (.aastore, 1) := by decide +kernel
theorem dc1_51 : decode prog_2_method_1_code 51 = .ok (.iinc 2 1, 3) := by decide +kernel
theorem dc1_54 : decode prog_2_method_1_code 54 = .ok (.goto (-21), 3) := by decide +kernel
theorem dc1_57 : decode prog_2_method_1_code 57 = .ok (.return_, 1) := by decide +kernel
def Q_init (Z : State) (q : Addr) (cb : Addr) (w : Int32) (lo : Nat) (h0 : Heap) (n0 : Nat) (v : Option Value) (h : Heap) (L : List Loc) : Prop := (v = none ∧ Fr n0 L ∧ ∃ ws, Keep h0 h ws ∧ (∀ x ∈ ws, lo ≤ x) ∧ own_Inv Z h lo q cb w (0 : Int32))
set_option maxRecDepth 65536 in
set_option maxHeartbeats 40000000 in
theorem rm_init (l : Launch) (Z : State) (a0 : Array Value) (hw : ∀ d ∈ tables_1, d.before a0 Z = true) (ws : List Jvm.Cond) (q : Addr) (cb : Addr) (w : Int32) (bx_ : Int32) (by_ : Int32) (bz_ : Int32) (kb_ : ClassId) (lo : Nat) (r__VALUES : Addr) (k__VALUES : ClassId) (r_TRUE : Addr) (r_FALSE : Addr) (r_UNKNOWN : Addr) (r_INCONSISTENT : Addr) (h0 : Heap) (n0 : Nat) (Z0 : n0 ≤ h0.size) (EQ : Exa Z h0 q "com/example/candid_facts/candidfacts/Answer$Listed") (FC : Fld Z h0 q "com/example/candid_facts/candidfacts/Answer$Listed" "codes" "[[I" .null) (FS : Fld Z h0 q "com/example/candid_facts/candidfacts/Answer$Listed" "sizes" "[I" .null) (FW : Fld Z h0 q "com/example/candid_facts/candidfacts/Answer$Listed" "width" "I" (.int (0 : Int32))) (VB : Arv Z h0 cb kb_ .int (3 : Int32) [(.int bx_), (.int by_), (.int bz_)] (.int (0 : Int32))) (S__VALUES : Sta Z h0 "com/example/candid_facts/candidfacts/Truth" "$VALUES" "[Lcom/example/candid_facts/candidfacts/Truth;" (.ref r__VALUES)) (E__VALUES : Exa Z h0 r__VALUES "[Lcom/example/candid_facts/candidfacts/Truth;") (V__VALUES : Arv Z h0 r__VALUES k__VALUES (.object "com/example/candid_facts/candidfacts/Truth") (4 : Int32) [(.ref r_TRUE), (.ref r_FALSE), (.ref r_UNKNOWN), (.ref r_INCONSISTENT)] .null) (gq : n0 ≤ q) (glo : lo ≤ q) (hloh : lo ≤ h0.size) (nqb : cb ≠ q) (hWB : 0 ≤ w.toInt ∧ w.toInt ≤ 3) :
    MetFree l (⟨"com/example/candid_facts/candidfacts/Answer$Listed", "<init>", "(I)V"⟩ : MethodName) (head1 (Jvm.Cond.code (⟨"com/example/candid_facts/candidfacts/Answer$Listed", "<init>", "(I)V"⟩ : MethodName) prog_2_method_1_code 3 none :: ws) ({ frames := 2, cells := 7, slots := 12, locals := 26 } : Room)) (fun aA U => aA = #[(.ref q), (.int w)] ∧ Z.Warmed39 U.vm ∧ U.heap = h0) (fun _ _ _ _ _ => True) (fun _ U o U' => ∃ v L, o = .returned v ∧ Q_init Z q cb w lo h0 n0 v U'.heap L ∧ FrameEnd U o U' L ({ frames := 2, cells := 7, slots := 12, locals := 26 } : Room).cells ({ frames := 2, cells := 7, slots := 12, locals := 26 } : Room).slots) := by
  refine MetFree.of_bodySF (plainFor_of_name own_pn_com_example_candid_facts_candidfacts_Answer_Listed) hisR ?_
  intro p e s m args below meth c s₁ Bd hml0 hP hK
  obtain ⟨rfl, hZ, hh⟩ := hP
  have hx := Bd.exec
  have hby := Bd.bytes
  have hlk : meth.locks = false := BodyLoose.notSynchronized Bd
  have hml : c.maxLocals = 3 := hml0
  have hown : s.vm.findClass "com/example/candid_facts/candidfacts/Answer$Listed" = some m.cls := findClass_of_methodNamed Bd.named
  have hnm := (name_of_methodNamed Bd.named Bd.method).1
  have X0 : Stand p l e ({ frames := 2, cells := 7, slots := 12, locals := 26 } : Room) s m #[(.ref q), (.int w)] below meth c s₁ [] 0 0 := Stand.of_body Bd
  have e0 : s₁.heap = h0 := by rw [← hh, Bd.state]; rfl
  have N0 := Fr.nil n0
  have K0 : Keep h0 h0 [q] := Keep.refl _ _
  show oG p e below (own_K s (Q_init Z q cb w lo h0 n0) ({ frames := 2, cells := 7, slots := 12, locals := 26 } : Room).cells ({ frames := 2, cells := 7, slots := 12, locals := 26 } : Room).slots) (s₁.setTop (entryFrame m #[(.ref q), (.int w)] 3))
  rw [(by first | (simp [entryFrame, mkF, argsToLocals, Value.category]; done) | rfl : entryFrame m #[(.ref q), (.int w)] 3 = mkF m 0 #[.val (.ref q), .val (.int w), .unset] [])]
  show oG p e below _ (s₁.setTop (mkF m 0 #[.val (.ref q), .val (.int w), .unset] []))
  refine og (fun _ hr => XS.aloadN X0.here hx rfl (hb hby dc1_0) rfl rfl hr) ?_
  show oG p e below _ (s₁.setTop (mkF m 1 #[.val (.ref q), .val (.int w), .unset] [(.ref q)]))
  obtain ⟨T1, X1, e1, st1⟩ := initO X0 hx hZ hown (hw _ (own_m 7 rfl)) (hw _ (own_m 8 rfl)) (hw _ (own_m 9 rfl)) e0 (g := (mkF m 1 #[.val (.ref q), .val (.int w), .unset] [(.ref q)])) rfl (by rw [hml]; rfl) rfl (hb hby dc1_1) (by decide) (W := 0) (by show 2 * 0 + _ ≤ _; exact Nat.le_of_eq rfl) (by decide)
  refine og st1 ?_
  show oG p e below _ (T1.setTop (mkF m 4 #[.val (.ref q), .val (.int w), .unset] []))
  refine og (fun _ hr => XS.aloadN X1.here hx rfl (hb hby dc1_4) rfl rfl hr) ?_
  show oG p e below _ (T1.setTop (mkF m 5 #[.val (.ref q), .val (.int w), .unset] [(.ref q)]))
  refine own_cs X1 hx hZ hown (hw _ (own_m 10 rfl)) (hw _ (own_m 11 rfl)) (hw _ (own_m 12 rfl)) (hw _ (own_m 13 rfl)) (by decide) (rm := { frames := 1, cells := 1, slots := 4, locals := 14 }) (rm_values_8 l Z a0 hw [] r__VALUES r_TRUE r_FALSE r_UNKNOWN r_INCONSISTENT k__VALUES h0 n0 Z0 S__VALUES V__VALUES E__VALUES) (by decide) (W := 1) (by decide) (by decide) (by decide) e1 (by rw [hml]; rfl) (argsL := []) (lenOf own_pd3 rfl) (rest := [(.ref q)]) rfl rfl (Nat.le_of_eq rfl) (hb hby dc1_5) ?_
  intro _ T2 L2 X2 hQ2
  obtain ⟨b2_0, kb2_0, rfl, N2q, K2, ge2_0, sz2_0, f2_0, f2_1⟩ := hQ2
  have N2 := Fr.app N0 N2q
  have sz3 : h0.size ≤ b2_0 := Nat.le_trans K0.1 sz2_0
  show oG p e below _ (T2.setTop (mkF m 8 #[.val (.ref q), .val (.int w), .unset] [(.ref b2_0), (.ref q)]))
  refine og (fun _ hr => own_alen X2 hx hZ rfl f2_1 rfl rfl (hb hby dc1_8) hr) ?_
  show oG p e below _ (T2.setTop (mkF m 9 #[.val (.ref q), .val (.int w), .unset] [(.int (4 : Int32)), (.ref q)]))
  obtain ⟨T4, h4, k4, X4, e4, E4, A4, EA4, O4, st4⟩ := newRA X2 hx hZ hown (ty := .int) (C := "[I") (by decide) (hw _ (own_m 30 rfl)) (hw _ (own_m 31 rfl)) rfl (g := (mkF m 9 #[.val (.ref q), .val (.int w), .unset] [(.int (4 : Int32)), (.ref q)])) rfl (hb hby dc1_9) rfl (by decide) (cap := 4) (by decide) (by decide) (by decide) (by decide) (ad := "[[I") (by decide)
  obtain ⟨b4, g4⟩ : ∃ z, z = T2.heap.size := ⟨_, rfl⟩
  rw [← g4] at A4 EA4 st4
  have Z5 := (Nat.le_trans Z0 K2.1)
  have ge6 : n0 ≤ b4 := Nat.le_trans Z5 (Nat.le_of_eq g4.symm)
  have K7 := (K0.trans K2 all0)
  have sz8 : h0.size ≤ b4 := Nat.le_trans K7.1 (Nat.le_of_eq g4.symm)
  refine og st4 ?_
  have f9 : Arv Z h4 b4 k4 (.array .int) (4 : Int32) [.null, .null, .null, .null] .null := (Arv.new A4 (by decide)).pad (pad_rep [] .null 4)
  show oG p e below _ (T4.setTop (mkF m 12 #[.val (.ref q), .val (.int w), .unset] [(.ref b4), (.ref q)]))
  have f10 := ((EQ.keep K2).ext E4)
  have f11 := ((FC.keep K2 nin0).ext E4)
  obtain ⟨T12, h12, X12, e12, W12, st12⟩ := putF X4 hx hZ hown (host := "") (Or.inl (hw _ (own_m 32 rfl))) Via.refl e4 f11 f10 (Or.inr ⟨(hw _ (own_m 33 rfl)), rfl, hnm⟩) (hw _ (own_m 2 rfl)) (ty := (.array (.array .int))) (by decide) rfl rfl (g := (mkF m 12 #[.val (.ref q), .val (.int w), .unset] [(.ref b4), (.ref q)])) rfl rfl (hb hby dc1_12)
  refine og st12 ?_
  have f13 := f11.same W12
  have N14 := Fr.snoc X12 N2 gq
  show oG p e below _ (T12.setTop (mkF m 15 #[.val (.ref q), .val (.int w), .unset] []))
  refine og (fun _ hr => XS.aloadN X12.here hx rfl (hb hby dc1_15) rfl rfl (XS.aloadN X12.here hx rfl (hb hby dc1_16) rfl rfl hr)) ?_
  show oG p e below _ (T12.setTop (mkF m 17 #[.val (.ref q), .val (.int w), .unset] [(.ref q), (.ref q)]))
  obtain ⟨T15, X15, e15, st15⟩ := getF X12 hx hZ hown (host := "") (Or.inl (hw _ (own_m 32 rfl))) Via.refl e12 f13 (g := (mkF m 17 #[.val (.ref q), .val (.int w), .unset] [(.ref q), (.ref q)])) rfl rfl (hb hby dc1_17)
  refine og st15 ?_
  show oG p e below _ (T15.setTop (mkF m 20 #[.val (.ref q), .val (.int w), .unset] [(.ref b4), (.ref q)]))
  have f16 := (f9.other W12 (Ne.symm (Nat.ne_of_lt (Nat.lt_of_lt_of_le (EQ.keep K2).lt (Nat.le_of_eq g4.symm)))))
  refine og (fun _ hr => own_alen X15 hx hZ e15 f16 rfl rfl (hb hby dc1_20) hr) ?_
  show oG p e below _ (T15.setTop (mkF m 21 #[.val (.ref q), .val (.int w), .unset] [(.int (4 : Int32)), (.ref q)]))
  obtain ⟨T17, h17, k17, X17, e17, E17, A17, EA17, st17⟩ := newPE X15 hx hZ (hw _ (own_m 0 rfl)) e15 (g := (mkF m 21 #[.val (.ref q), .val (.int w), .unset] [(.int (4 : Int32)), (.ref q)])) rfl (hb hby dc1_21) rfl (by decide) (cap := 4) (by decide) (by decide) (by decide) (by decide) (ad := "[I") (by decide)
  obtain ⟨b17, g17⟩ : ∃ z, z = h12.size := ⟨_, rfl⟩
  rw [← g17] at A17 EA17 st17
  have Z18 := (Nat.le_trans (Nat.le_trans Z5 E4.1) (Nat.le_of_eq W12.size.symm))
  have ge19 : n0 ≤ b17 := Nat.le_trans Z18 (Nat.le_of_eq g17.symm)
  have K20 := ((K7.ext E4).wr W12 (Or.inl (List.mem_of_getElem? (i := 0) rfl)))
  have sz21 : h0.size ≤ b17 := Nat.le_trans K20.1 (Nat.le_of_eq g17.symm)
  refine og st17 ?_
  have f22 : Arv Z h17 b17 k17 .int (4 : Int32) [(.int (0 : Int32)), (.int (0 : Int32)), (.int (0 : Int32)), (.int (0 : Int32))] (.int (0 : Int32)) := (Arv.new A17 (by decide)).pad (pad_rep [] (.int (0 : Int32)) 4)
  show oG p e below _ (T17.setTop (mkF m 23 #[.val (.ref q), .val (.int w), .unset] [(.ref b17), (.ref q)]))
  have f23 := ((f10.wr W12).ext E17)
  have f24 := ((((FS.keep K2 nin0).ext E4).other W12 (Or.inr (slot_ne (Or.inr (hw _ (own_m 35 rfl))) (Or.inr (hw _ (own_m 33 rfl))) (by decide) (t := (.array .int)) (t' := (.array (.array .int))) (by decide) (by decide)))).ext E17)
  obtain ⟨T25, h25, X25, e25, W25, st25⟩ := putF X17 hx hZ hown (host := "") (Or.inl (hw _ (own_m 34 rfl))) Via.refl e17 f24 f23 (Or.inr ⟨(hw _ (own_m 35 rfl)), rfl, hnm⟩) (hw _ (own_m 2 rfl)) (ty := (.array .int)) (by decide) rfl rfl (g := (mkF m 23 #[.val (.ref q), .val (.int w), .unset] [(.ref b17), (.ref q)])) rfl rfl (hb hby dc1_23)
  refine og st25 ?_
  have f26 := f24.same W25
  have N27 := Fr.snoc X25 N14 gq
  show oG p e below _ (T25.setTop (mkF m 26 #[.val (.ref q), .val (.int w), .unset] []))
  refine og (fun _ hr => XS.aloadN X25.here hx rfl (hb hby dc1_26) rfl rfl (XS.iloadN X25.here hx rfl (hb hby dc1_27) rfl hr)) ?_
  show oG p e below _ (T25.setTop (mkF m 28 #[.val (.ref q), .val (.int w), .unset] [(.int w), (.ref q)]))
  have f28 := (f23.wr W25)
  have f29 := (((((FW.keep K2 nin0).ext E4).other W12 (Or.inr (slot_ne (Or.inr (hw _ (own_m 37 rfl))) (Or.inr (hw _ (own_m 33 rfl))) (by decide) (t := .int) (t' := (.array (.array .int))) (by decide) (by decide)))).ext E17).other W25 (Or.inr (slot_ne (Or.inr (hw _ (own_m 37 rfl))) (Or.inr (hw _ (own_m 35 rfl))) (by decide) (t := .int) (t' := (.array .int)) (by decide) (by decide))))
  obtain ⟨T30, h30, X30, e30, W30, st30⟩ := putF X25 hx hZ hown (host := "") (Or.inl (hw _ (own_m 36 rfl))) Via.refl e25 f29 f28 (Or.inr ⟨(hw _ (own_m 37 rfl)), rfl, hnm⟩) (hw _ (own_m 2 rfl)) (ty := .int) (by decide) rfl rfl (g := (mkF m 28 #[.val (.ref q), .val (.int w), .unset] [(.int w), (.ref q)])) rfl rfl (hb hby dc1_28)
  refine og st30 ?_
  have f31 := f29.same W30
  have N32 := Fr.snoc X30 N27 gq
  show oG p e below _ (T30.setTop (mkF m 31 #[.val (.ref q), .val (.int w), .unset] []))
  refine og (fun _ hr => XS.iconst X30.here hx rfl (hb hby dc1_31) (XS.istoreN X30.here hx rfl (hb hby dc1_32) rfl (l' := #[.val (.ref q), .val (.int w), .val (.int (0 : Int32))]) rfl (XS.iloadN X30.here hx rfl (hb hby dc1_33) rfl (XS.aloadN X30.here hx rfl (hb hby dc1_34) rfl rfl hr)))) ?_
  show oG p e below _ (T30.setTop (mkF m 35 #[.val (.ref q), .val (.int w), .val (.int (0 : Int32))] [(.ref q), (.int (0 : Int32))]))
  have f33 := (((f13.ext E17).other W25 (Or.inr (slot_ne (Or.inr (hw _ (own_m 33 rfl))) (Or.inr (hw _ (own_m 35 rfl))) (by decide) (t := (.array (.array .int))) (t' := (.array .int)) (by decide) (by decide)))).other W30 (Or.inr (slot_ne (Or.inr (hw _ (own_m 33 rfl))) (Or.inr (hw _ (own_m 37 rfl))) (by decide) (t := (.array (.array .int))) (t' := .int) (by decide) (by decide))))
  obtain ⟨T34, X34, e34, st34⟩ := getF X30 hx hZ hown (host := "") (Or.inl (hw _ (own_m 32 rfl))) Via.refl e30 f33 (g := (mkF m 35 #[.val (.ref q), .val (.int w), .val (.int (0 : Int32))] [(.ref q), (.int (0 : Int32))])) rfl rfl (hb hby dc1_35)
  refine og st34 ?_
  show oG p e below _ (T34.setTop (mkF m 38 #[.val (.ref q), .val (.int w), .val (.int (0 : Int32))] [(.ref b4), (.int (0 : Int32))]))
  have f35 := (((f16.ext E17).other W25 (Ne.symm (Nat.ne_of_lt (Nat.lt_of_lt_of_le (EQ.keep K2).lt (Nat.le_of_eq g4.symm))))).other W30 (Ne.symm (Nat.ne_of_lt (Nat.lt_of_lt_of_le (EQ.keep K2).lt (Nat.le_of_eq g4.symm)))))
  refine og (fun _ hr => own_alen X34 hx hZ e34 f35 rfl rfl (hb hby dc1_38) (XS.icmpNo X34.here hx rfl (hb hby dc1_39) rfl (tlt (by decide)).2.1 (XS.aloadN X34.here hx rfl (hb hby dc1_42) rfl rfl hr))) ?_
  show oG p e below _ (T34.setTop (mkF m 43 #[.val (.ref q), .val (.int w), .val (.int (0 : Int32))] [(.ref q)]))
  obtain ⟨T36, X36, e36, st36⟩ := getF X34 hx hZ hown (host := "") (Or.inl (hw _ (own_m 32 rfl))) Via.refl e34 f33 (g := (mkF m 43 #[.val (.ref q), .val (.int w), .val (.int (0 : Int32))] [(.ref q)])) rfl rfl (hb hby dc1_43)
  refine og st36 ?_
  show oG p e below _ (T36.setTop (mkF m 46 #[.val (.ref q), .val (.int w), .val (.int (0 : Int32))] [(.ref b4)]))
  refine og (fun _ hr => XS.iloadN X36.here hx rfl (hb hby dc1_46) rfl (XS.iconst X36.here hx rfl (hb hby dc1_47) hr)) ?_
  show oG p e below _ (T36.setTop (mkF m 48 #[.val (.ref q), .val (.int w), .val (.int (0 : Int32))] [(.int (0 : Int32)), (.int (0 : Int32)), (.ref b4)]))
  obtain ⟨T37, h37, k37, X37, e37, E37, A37, EA37, st37⟩ := newPE X36 hx hZ (hw _ (own_m 0 rfl)) e36 (g := (mkF m 48 #[.val (.ref q), .val (.int w), .val (.int (0 : Int32))] [(.int (0 : Int32)), (.int (0 : Int32)), (.ref b4)])) rfl (hb hby dc1_48) rfl (by decide) (cap := 0) (by decide) (by decide) (by decide) (by decide) (ad := "[I") (by decide)
  obtain ⟨b37, g37⟩ : ∃ z, z = h30.size := ⟨_, rfl⟩
  rw [← g37] at A37 EA37 st37
  have Z38 := (Nat.le_trans (Nat.le_trans (Nat.le_trans Z18 E17.1) (Nat.le_of_eq W25.size.symm)) (Nat.le_of_eq W30.size.symm))
  have ge39 : n0 ≤ b37 := Nat.le_trans Z38 (Nat.le_of_eq g37.symm)
  have K40 := (((K20.ext E17).wr W25 (Or.inl (List.mem_of_getElem? (i := 0) rfl))).wr W30 (Or.inl (List.mem_of_getElem? (i := 0) rfl)))
  have sz41 : h0.size ≤ b37 := Nat.le_trans K40.1 (Nat.le_of_eq g37.symm)
  refine og st37 ?_
  have f42 : Arv Z h37 b37 k37 .int (0 : Int32) [] (.int (0 : Int32)) := (Arv.new A37 (by decide)).pad (pad_rep [] (.int (0 : Int32)) 0)
  show oG p e below _ (T37.setTop (mkF m 50 #[.val (.ref q), .val (.int w), .val (.int (0 : Int32))] [(.ref b37), (.int (0 : Int32)), (.ref b4)]))
  have f43 := (f35.ext E37)
  refine own_stR X37 hx hZ e37 f43 (0 : Int32) (.ref b37) 0 ⟨by decide, by decide⟩ rfl (Nat.le_of_ble_eq_true rfl) (fun _ A q => Sto.ofVA A q O4 (Ins.self EA37)) rfl [(.ref b37), .null, .null, .null] rfl N32 ge6 (hb hby dc1_50) ?_
  intro T44 h44 L44 X44 e44 W44 N44 f44
  show oG p e below _ (T44.setTop (mkF m 51 #[.val (.ref q), .val (.int w), .val (.int (0 : Int32))] []))
  refine og (fun _ hr => XS.iinc X44.here hx rfl (hb hby dc1_51) rfl (l' := #[.val (.ref q), .val (.int w), .val (.int (1 : Int32))]) rfl (XS.goto X44.here hx rfl (pc0 := 54) (pc' := 33) rfl (hb hby dc1_54) (by decide) (by decide) (XS.iloadN X44.here hx rfl (hb hby dc1_33) rfl (XS.aloadN X44.here hx rfl (hb hby dc1_34) rfl rfl hr)))) ?_
  show oG p e below _ (T44.setTop (mkF m 35 #[.val (.ref q), .val (.int w), .val (.int (1 : Int32))] [(.ref q), (.int (1 : Int32))]))
  have f45 := ((f33.ext E37).other W44 (Or.inl (Nat.ne_of_lt (Nat.lt_of_lt_of_le (EQ.keep K2).lt (Nat.le_of_eq g4.symm)))))
  obtain ⟨T46, X46, e46, st46⟩ := getF X44 hx hZ hown (host := "") (Or.inl (hw _ (own_m 32 rfl))) Via.refl e44 f45 (g := (mkF m 35 #[.val (.ref q), .val (.int w), .val (.int (1 : Int32))] [(.ref q), (.int (1 : Int32))])) rfl rfl (hb hby dc1_35)
  refine og st46 ?_
  show oG p e below _ (T46.setTop (mkF m 38 #[.val (.ref q), .val (.int w), .val (.int (1 : Int32))] [(.ref b4), (.int (1 : Int32))]))
  refine og (fun _ hr => own_alen X46 hx hZ e46 f44 rfl rfl (hb hby dc1_38) (XS.icmpNo X46.here hx rfl (hb hby dc1_39) rfl (tlt (by decide)).2.1 (XS.aloadN X46.here hx rfl (hb hby dc1_42) rfl rfl hr))) ?_
  show oG p e below _ (T46.setTop (mkF m 43 #[.val (.ref q), .val (.int w), .val (.int (1 : Int32))] [(.ref q)]))
  obtain ⟨T47, X47, e47, st47⟩ := getF X46 hx hZ hown (host := "") (Or.inl (hw _ (own_m 32 rfl))) Via.refl e46 f45 (g := (mkF m 43 #[.val (.ref q), .val (.int w), .val (.int (1 : Int32))] [(.ref q)])) rfl rfl (hb hby dc1_43)
  refine og st47 ?_
  show oG p e below _ (T47.setTop (mkF m 46 #[.val (.ref q), .val (.int w), .val (.int (1 : Int32))] [(.ref b4)]))
  refine og (fun _ hr => XS.iloadN X47.here hx rfl (hb hby dc1_46) rfl (XS.iconst X47.here hx rfl (hb hby dc1_47) hr)) ?_
  show oG p e below _ (T47.setTop (mkF m 48 #[.val (.ref q), .val (.int w), .val (.int (1 : Int32))] [(.int (0 : Int32)), (.int (1 : Int32)), (.ref b4)]))
  obtain ⟨T48, h48, k48, X48, e48, E48, A48, EA48, st48⟩ := newPE X47 hx hZ (hw _ (own_m 0 rfl)) e47 (g := (mkF m 48 #[.val (.ref q), .val (.int w), .val (.int (1 : Int32))] [(.int (0 : Int32)), (.int (1 : Int32)), (.ref b4)])) rfl (hb hby dc1_48) rfl (by decide) (cap := 0) (by decide) (by decide) (by decide) (by decide) (ad := "[I") (by decide)
  obtain ⟨b48, g48⟩ : ∃ z, z = h44.size := ⟨_, rfl⟩
  rw [← g48] at A48 EA48 st48
  have Z49 := (Nat.le_trans (Nat.le_trans Z38 E37.1) (Nat.le_of_eq W44.size.symm))
  have ge50 : n0 ≤ b48 := Nat.le_trans Z49 (Nat.le_of_eq g48.symm)
  have K51 := ((K40.ext E37).wr W44 (Or.inr sz8))
  have sz52 : h0.size ≤ b48 := Nat.le_trans K51.1 (Nat.le_of_eq g48.symm)
  refine og st48 ?_
  have f53 : Arv Z h48 b48 k48 .int (0 : Int32) [] (.int (0 : Int32)) := (Arv.new A48 (by decide)).pad (pad_rep [] (.int (0 : Int32)) 0)
  show oG p e below _ (T48.setTop (mkF m 50 #[.val (.ref q), .val (.int w), .val (.int (1 : Int32))] [(.ref b48), (.int (1 : Int32)), (.ref b4)]))
  have f54 := (f44.ext E48)
  refine own_stR X48 hx hZ e48 f54 (1 : Int32) (.ref b48) 1 ⟨by decide, by decide⟩ rfl (Nat.le_of_ble_eq_true rfl) (fun _ A q => Sto.ofVA A q O4 (Ins.self EA48)) rfl [(.ref b37), (.ref b48), .null, .null] rfl N44 ge6 (hb hby dc1_50) ?_
  intro T55 h55 L55 X55 e55 W55 N55 f55
  show oG p e below _ (T55.setTop (mkF m 51 #[.val (.ref q), .val (.int w), .val (.int (1 : Int32))] []))
  refine og (fun _ hr => XS.iinc X55.here hx rfl (hb hby dc1_51) rfl (l' := #[.val (.ref q), .val (.int w), .val (.int (2 : Int32))]) rfl (XS.goto X55.here hx rfl (pc0 := 54) (pc' := 33) rfl (hb hby dc1_54) (by decide) (by decide) (XS.iloadN X55.here hx rfl (hb hby dc1_33) rfl (XS.aloadN X55.here hx rfl (hb hby dc1_34) rfl rfl hr)))) ?_
  show oG p e below _ (T55.setTop (mkF m 35 #[.val (.ref q), .val (.int w), .val (.int (2 : Int32))] [(.ref q), (.int (2 : Int32))]))
  have f56 := ((f45.ext E48).other W55 (Or.inl (Nat.ne_of_lt (Nat.lt_of_lt_of_le (EQ.keep K2).lt (Nat.le_of_eq g4.symm)))))
  obtain ⟨T57, X57, e57, st57⟩ := getF X55 hx hZ hown (host := "") (Or.inl (hw _ (own_m 32 rfl))) Via.refl e55 f56 (g := (mkF m 35 #[.val (.ref q), .val (.int w), .val (.int (2 : Int32))] [(.ref q), (.int (2 : Int32))])) rfl rfl (hb hby dc1_35)
  refine og st57 ?_
  show oG p e below _ (T57.setTop (mkF m 38 #[.val (.ref q), .val (.int w), .val (.int (2 : Int32))] [(.ref b4), (.int (2 : Int32))]))
  refine og (fun _ hr => own_alen X57 hx hZ e57 f55 rfl rfl (hb hby dc1_38) (XS.icmpNo X57.here hx rfl (hb hby dc1_39) rfl (tlt (by decide)).2.1 (XS.aloadN X57.here hx rfl (hb hby dc1_42) rfl rfl hr))) ?_
  show oG p e below _ (T57.setTop (mkF m 43 #[.val (.ref q), .val (.int w), .val (.int (2 : Int32))] [(.ref q)]))
  obtain ⟨T58, X58, e58, st58⟩ := getF X57 hx hZ hown (host := "") (Or.inl (hw _ (own_m 32 rfl))) Via.refl e57 f56 (g := (mkF m 43 #[.val (.ref q), .val (.int w), .val (.int (2 : Int32))] [(.ref q)])) rfl rfl (hb hby dc1_43)
  refine og st58 ?_
  show oG p e below _ (T58.setTop (mkF m 46 #[.val (.ref q), .val (.int w), .val (.int (2 : Int32))] [(.ref b4)]))
  refine og (fun _ hr => XS.iloadN X58.here hx rfl (hb hby dc1_46) rfl (XS.iconst X58.here hx rfl (hb hby dc1_47) hr)) ?_
  show oG p e below _ (T58.setTop (mkF m 48 #[.val (.ref q), .val (.int w), .val (.int (2 : Int32))] [(.int (0 : Int32)), (.int (2 : Int32)), (.ref b4)]))
  obtain ⟨T59, h59, k59, X59, e59, E59, A59, EA59, st59⟩ := newPE X58 hx hZ (hw _ (own_m 0 rfl)) e58 (g := (mkF m 48 #[.val (.ref q), .val (.int w), .val (.int (2 : Int32))] [(.int (0 : Int32)), (.int (2 : Int32)), (.ref b4)])) rfl (hb hby dc1_48) rfl (by decide) (cap := 0) (by decide) (by decide) (by decide) (by decide) (ad := "[I") (by decide)
  obtain ⟨b59, g59⟩ : ∃ z, z = h55.size := ⟨_, rfl⟩
  rw [← g59] at A59 EA59 st59
  have Z60 := (Nat.le_trans (Nat.le_trans Z49 E48.1) (Nat.le_of_eq W55.size.symm))
  have ge61 : n0 ≤ b59 := Nat.le_trans Z60 (Nat.le_of_eq g59.symm)
  have K62 := ((K51.ext E48).wr W55 (Or.inr sz8))
  have sz63 : h0.size ≤ b59 := Nat.le_trans K62.1 (Nat.le_of_eq g59.symm)
  refine og st59 ?_
  have f64 : Arv Z h59 b59 k59 .int (0 : Int32) [] (.int (0 : Int32)) := (Arv.new A59 (by decide)).pad (pad_rep [] (.int (0 : Int32)) 0)
  show oG p e below _ (T59.setTop (mkF m 50 #[.val (.ref q), .val (.int w), .val (.int (2 : Int32))] [(.ref b59), (.int (2 : Int32)), (.ref b4)]))
  have f65 := (f55.ext E59)
  refine own_stR X59 hx hZ e59 f65 (2 : Int32) (.ref b59) 2 ⟨by decide, by decide⟩ rfl (Nat.le_of_ble_eq_true rfl) (fun _ A q => Sto.ofVA A q O4 (Ins.self EA59)) rfl [(.ref b37), (.ref b48), (.ref b59), .null] rfl N55 ge6 (hb hby dc1_50) ?_
  intro T66 h66 L66 X66 e66 W66 N66 f66
  show oG p e below _ (T66.setTop (mkF m 51 #[.val (.ref q), .val (.int w), .val (.int (2 : Int32))] []))
  refine og (fun _ hr => XS.iinc X66.here hx rfl (hb hby dc1_51) rfl (l' := #[.val (.ref q), .val (.int w), .val (.int (3 : Int32))]) rfl (XS.goto X66.here hx rfl (pc0 := 54) (pc' := 33) rfl (hb hby dc1_54) (by decide) (by decide) (XS.iloadN X66.here hx rfl (hb hby dc1_33) rfl (XS.aloadN X66.here hx rfl (hb hby dc1_34) rfl rfl hr)))) ?_
  show oG p e below _ (T66.setTop (mkF m 35 #[.val (.ref q), .val (.int w), .val (.int (3 : Int32))] [(.ref q), (.int (3 : Int32))]))
  have f67 := ((f56.ext E59).other W66 (Or.inl (Nat.ne_of_lt (Nat.lt_of_lt_of_le (EQ.keep K2).lt (Nat.le_of_eq g4.symm)))))
  obtain ⟨T68, X68, e68, st68⟩ := getF X66 hx hZ hown (host := "") (Or.inl (hw _ (own_m 32 rfl))) Via.refl e66 f67 (g := (mkF m 35 #[.val (.ref q), .val (.int w), .val (.int (3 : Int32))] [(.ref q), (.int (3 : Int32))])) rfl rfl (hb hby dc1_35)
  refine og st68 ?_
  show oG p e below _ (T68.setTop (mkF m 38 #[.val (.ref q), .val (.int w), .val (.int (3 : Int32))] [(.ref b4), (.int (3 : Int32))]))
  refine og (fun _ hr => own_alen X68 hx hZ e68 f66 rfl rfl (hb hby dc1_38) (XS.icmpNo X68.here hx rfl (hb hby dc1_39) rfl (tlt (by decide)).2.1 (XS.aloadN X68.here hx rfl (hb hby dc1_42) rfl rfl hr))) ?_
  show oG p e below _ (T68.setTop (mkF m 43 #[.val (.ref q), .val (.int w), .val (.int (3 : Int32))] [(.ref q)]))
  obtain ⟨T69, X69, e69, st69⟩ := getF X68 hx hZ hown (host := "") (Or.inl (hw _ (own_m 32 rfl))) Via.refl e68 f67 (g := (mkF m 43 #[.val (.ref q), .val (.int w), .val (.int (3 : Int32))] [(.ref q)])) rfl rfl (hb hby dc1_43)
  refine og st69 ?_
  show oG p e below _ (T69.setTop (mkF m 46 #[.val (.ref q), .val (.int w), .val (.int (3 : Int32))] [(.ref b4)]))
  refine og (fun _ hr => XS.iloadN X69.here hx rfl (hb hby dc1_46) rfl (XS.iconst X69.here hx rfl (hb hby dc1_47) hr)) ?_
  show oG p e below _ (T69.setTop (mkF m 48 #[.val (.ref q), .val (.int w), .val (.int (3 : Int32))] [(.int (0 : Int32)), (.int (3 : Int32)), (.ref b4)]))
  obtain ⟨T70, h70, k70, X70, e70, E70, A70, EA70, st70⟩ := newPE X69 hx hZ (hw _ (own_m 0 rfl)) e69 (g := (mkF m 48 #[.val (.ref q), .val (.int w), .val (.int (3 : Int32))] [(.int (0 : Int32)), (.int (3 : Int32)), (.ref b4)])) rfl (hb hby dc1_48) rfl (by decide) (cap := 0) (by decide) (by decide) (by decide) (by decide) (ad := "[I") (by decide)
  obtain ⟨b70, g70⟩ : ∃ z, z = h66.size := ⟨_, rfl⟩
  rw [← g70] at A70 EA70 st70
  have Z71 := (Nat.le_trans (Nat.le_trans Z60 E59.1) (Nat.le_of_eq W66.size.symm))
  have ge72 : n0 ≤ b70 := Nat.le_trans Z71 (Nat.le_of_eq g70.symm)
  have K73 := ((K62.ext E59).wr W66 (Or.inr sz8))
  have sz74 : h0.size ≤ b70 := Nat.le_trans K73.1 (Nat.le_of_eq g70.symm)
  refine og st70 ?_
  have f75 : Arv Z h70 b70 k70 .int (0 : Int32) [] (.int (0 : Int32)) := (Arv.new A70 (by decide)).pad (pad_rep [] (.int (0 : Int32)) 0)
  show oG p e below _ (T70.setTop (mkF m 50 #[.val (.ref q), .val (.int w), .val (.int (3 : Int32))] [(.ref b70), (.int (3 : Int32)), (.ref b4)]))
  have f76 := (f66.ext E70)
  refine own_stR X70 hx hZ e70 f76 (3 : Int32) (.ref b70) 3 ⟨by decide, by decide⟩ rfl (Nat.le_of_ble_eq_true rfl) (fun _ A q => Sto.ofVA A q O4 (Ins.self EA70)) rfl [(.ref b37), (.ref b48), (.ref b59), (.ref b70)] rfl N66 ge6 (hb hby dc1_50) ?_
  intro T77 h77 L77 X77 e77 W77 N77 f77
  show oG p e below _ (T77.setTop (mkF m 51 #[.val (.ref q), .val (.int w), .val (.int (3 : Int32))] []))
  refine og (fun _ hr => XS.iinc X77.here hx rfl (hb hby dc1_51) rfl (l' := #[.val (.ref q), .val (.int w), .val (.int (4 : Int32))]) rfl (XS.goto X77.here hx rfl (pc0 := 54) (pc' := 33) rfl (hb hby dc1_54) (by decide) (by decide) (XS.iloadN X77.here hx rfl (hb hby dc1_33) rfl (XS.aloadN X77.here hx rfl (hb hby dc1_34) rfl rfl hr)))) ?_
  show oG p e below _ (T77.setTop (mkF m 35 #[.val (.ref q), .val (.int w), .val (.int (4 : Int32))] [(.ref q), (.int (4 : Int32))]))
  have f78 := ((f67.ext E70).other W77 (Or.inl (Nat.ne_of_lt (Nat.lt_of_lt_of_le (EQ.keep K2).lt (Nat.le_of_eq g4.symm)))))
  obtain ⟨T79, X79, e79, st79⟩ := getF X77 hx hZ hown (host := "") (Or.inl (hw _ (own_m 32 rfl))) Via.refl e77 f78 (g := (mkF m 35 #[.val (.ref q), .val (.int w), .val (.int (4 : Int32))] [(.ref q), (.int (4 : Int32))])) rfl rfl (hb hby dc1_35)
  refine og st79 ?_
  show oG p e below _ (T79.setTop (mkF m 38 #[.val (.ref q), .val (.int w), .val (.int (4 : Int32))] [(.ref b4), (.int (4 : Int32))]))
  refine og (fun _ hr => own_alen X79 hx hZ e79 f77 rfl rfl (hb hby dc1_38) (XS.icmpYes X79.here hx rfl (pc0 := 39) (pc' := 57) rfl (hb hby dc1_39) rfl (flt (by decide)).2.1 (by decide) (by decide) hr)) ?_
  show oG p e below _ (T79.setTop (mkF m 57 #[.val (.ref q), .val (.int w), .val (.int (4 : Int32))] []))
  have f80 := (((((((((f28.wr W30).ext E37).wr W44).ext E48).wr W55).ext E59).wr W66).ext E70).wr W77)
  have f81 := (((((((((f26.other W30 (Or.inr (slot_ne (Or.inr (hw _ (own_m 35 rfl))) (Or.inr (hw _ (own_m 37 rfl))) (by decide) (t := (.array .int)) (t' := .int) (by decide) (by decide)))).ext E37).other W44 (Or.inl (Nat.ne_of_lt (Nat.lt_of_lt_of_le (EQ.keep K2).lt (Nat.le_of_eq g4.symm))))).ext E48).other W55 (Or.inl (Nat.ne_of_lt (Nat.lt_of_lt_of_le (EQ.keep K2).lt (Nat.le_of_eq g4.symm))))).ext E59).other W66 (Or.inl (Nat.ne_of_lt (Nat.lt_of_lt_of_le (EQ.keep K2).lt (Nat.le_of_eq g4.symm))))).ext E70).other W77 (Or.inl (Nat.ne_of_lt (Nat.lt_of_lt_of_le (EQ.keep K2).lt (Nat.le_of_eq g4.symm)))))
  have f82 := ((((((((f31.ext E37).other W44 (Or.inl (Nat.ne_of_lt (Nat.lt_of_lt_of_le (EQ.keep K2).lt (Nat.le_of_eq g4.symm))))).ext E48).other W55 (Or.inl (Nat.ne_of_lt (Nat.lt_of_lt_of_le (EQ.keep K2).lt (Nat.le_of_eq g4.symm))))).ext E59).other W66 (Or.inl (Nat.ne_of_lt (Nat.lt_of_lt_of_le (EQ.keep K2).lt (Nat.le_of_eq g4.symm))))).ext E70).other W77 (Or.inl (Nat.ne_of_lt (Nat.lt_of_lt_of_le (EQ.keep K2).lt (Nat.le_of_eq g4.symm)))))
  have f83 := ((((((((((f22.other W25 (Ne.symm (Nat.ne_of_lt (Nat.lt_of_lt_of_le (f10.wr W12).lt (Nat.le_of_eq g17.symm))))).other W30 (Ne.symm (Nat.ne_of_lt (Nat.lt_of_lt_of_le (f10.wr W12).lt (Nat.le_of_eq g17.symm))))).ext E37).other W44 (Ne.symm (Nat.ne_of_lt (Nat.lt_of_lt_of_le (EA4.wr W12).lt (Nat.le_of_eq g17.symm))))).ext E48).other W55 (Ne.symm (Nat.ne_of_lt (Nat.lt_of_lt_of_le (EA4.wr W12).lt (Nat.le_of_eq g17.symm))))).ext E59).other W66 (Ne.symm (Nat.ne_of_lt (Nat.lt_of_lt_of_le (EA4.wr W12).lt (Nat.le_of_eq g17.symm))))).ext E70).other W77 (Ne.symm (Nat.ne_of_lt (Nat.lt_of_lt_of_le (EA4.wr W12).lt (Nat.le_of_eq g17.symm)))))
  have f84 := (((((((f42.other W44 (Ne.symm (Nat.ne_of_lt (Nat.lt_of_lt_of_le ((((EA4.wr W12).ext E17).wr W25).wr W30).lt (Nat.le_of_eq g37.symm))))).ext E48).other W55 (Ne.symm (Nat.ne_of_lt (Nat.lt_of_lt_of_le ((((EA4.wr W12).ext E17).wr W25).wr W30).lt (Nat.le_of_eq g37.symm))))).ext E59).other W66 (Ne.symm (Nat.ne_of_lt (Nat.lt_of_lt_of_le ((((EA4.wr W12).ext E17).wr W25).wr W30).lt (Nat.le_of_eq g37.symm))))).ext E70).other W77 (Ne.symm (Nat.ne_of_lt (Nat.lt_of_lt_of_le ((((EA4.wr W12).ext E17).wr W25).wr W30).lt (Nat.le_of_eq g37.symm)))))
  have f85 := (((((f53.other W55 (Ne.symm (Nat.ne_of_lt (Nat.lt_of_lt_of_le ((((((EA4.wr W12).ext E17).wr W25).wr W30).ext E37).wr W44).lt (Nat.le_of_eq g48.symm))))).ext E59).other W66 (Ne.symm (Nat.ne_of_lt (Nat.lt_of_lt_of_le ((((((EA4.wr W12).ext E17).wr W25).wr W30).ext E37).wr W44).lt (Nat.le_of_eq g48.symm))))).ext E70).other W77 (Ne.symm (Nat.ne_of_lt (Nat.lt_of_lt_of_le ((((((EA4.wr W12).ext E17).wr W25).wr W30).ext E37).wr W44).lt (Nat.le_of_eq g48.symm)))))
  have f86 := (((f64.other W66 (Ne.symm (Nat.ne_of_lt (Nat.lt_of_lt_of_le ((((((((EA4.wr W12).ext E17).wr W25).wr W30).ext E37).wr W44).ext E48).wr W55).lt (Nat.le_of_eq g59.symm))))).ext E70).other W77 (Ne.symm (Nat.ne_of_lt (Nat.lt_of_lt_of_le ((((((((EA4.wr W12).ext E17).wr W25).wr W30).ext E37).wr W44).ext E48).wr W55).lt (Nat.le_of_eq g59.symm)))))
  have f87 := (f75.other W77 (Ne.symm (Nat.ne_of_lt (Nat.lt_of_lt_of_le ((((((((((EA4.wr W12).ext E17).wr W25).wr W30).ext E37).wr W44).ext E48).wr W55).ext E59).wr W66).lt (Nat.le_of_eq g70.symm)))))
  have K88 := ((K73.ext E70).wr W77 (Or.inr sz8))
  have f89 := (VB.keep K88 (ninS nqb nin0))
  have om90 : 0 ≤ (0 : Int32).toInt := by
    first | omega | (simp only [Int32.reduceToInt, ← Int32.toInt_inj] <;> omega) | decide
  have om91 : 0 ≤ (0 : Int32).toInt := by
    first | omega | (simp only [Int32.reduceToInt, ← Int32.toInt_inj] <;> omega) | decide
  have om92 : 0 ≤ (0 : Int32).toInt := by
    first | omega | (simp only [Int32.reduceToInt, ← Int32.toInt_inj] <;> omega) | decide
  have om93 : 0 ≤ (0 : Int32).toInt := by
    first | omega | (simp only [Int32.reduceToInt, ← Int32.toInt_inj] <;> omega) | decide
  have om94 : (0 : Int32).toInt + (0 : Int32).toInt + (0 : Int32).toInt + (0 : Int32).toInt = (0 : Int32).toInt := by
    first | omega | (simp only [Int32.reduceToInt, ← Int32.toInt_inj] <;> omega) | decide
  exact own_ret0 X79 hx hlk Bd.returns (hb hby dc1_57) (by decide) (by decide) (by rw [e79]; exact ⟨rfl, N77, [q], K88, (fun x hx_ => by simp only [List.mem_cons, List.not_mem_nil, or_false] at hx_; subst hx_; exact glo), ⟨b4, b17, b37, b48, b59, b70, k4, k17, kb_, k37, k48, k59, k70, (0 : Int32), (0 : Int32), (0 : Int32), (0 : Int32), (0 : Int32), (0 : Int32), (0 : Int32), (0 : Int32), bx_, by_, bz_, [], [], [], [], f80, f78, f81, f82, f77, O4, f83, f84, f85, f86, f87, f89, (Nat.le_trans hloh sz8), (Nat.le_trans hloh sz21), (Nat.le_trans hloh sz41), (Nat.le_trans hloh sz52), (Nat.le_trans hloh sz63), (Nat.le_trans hloh sz74), (Nat.ne_of_lt (Nat.lt_of_lt_of_le (EA4.wr W12).lt (Nat.le_of_eq g17.symm))), (Nat.ne_of_lt (Nat.lt_of_lt_of_le ((((EA4.wr W12).ext E17).wr W25).wr W30).lt (Nat.le_of_eq g37.symm))), (Nat.ne_of_lt (Nat.lt_of_lt_of_le ((((((EA4.wr W12).ext E17).wr W25).wr W30).ext E37).wr W44).lt (Nat.le_of_eq g48.symm))), (Nat.ne_of_lt (Nat.lt_of_lt_of_le ((((((((EA4.wr W12).ext E17).wr W25).wr W30).ext E37).wr W44).ext E48).wr W55).lt (Nat.le_of_eq g59.symm))), (Nat.ne_of_lt (Nat.lt_of_lt_of_le ((((((((((EA4.wr W12).ext E17).wr W25).wr W30).ext E37).wr W44).ext E48).wr W55).ext E59).wr W66).lt (Nat.le_of_eq g70.symm))), (Nat.ne_of_lt (Nat.lt_of_lt_of_le ((EA17.wr W25).wr W30).lt (Nat.le_of_eq g37.symm))), (Nat.ne_of_lt (Nat.lt_of_lt_of_le ((((EA17.wr W25).wr W30).ext E37).wr W44).lt (Nat.le_of_eq g48.symm))), (Nat.ne_of_lt (Nat.lt_of_lt_of_le ((((((EA17.wr W25).wr W30).ext E37).wr W44).ext E48).wr W55).lt (Nat.le_of_eq g59.symm))), (Nat.ne_of_lt (Nat.lt_of_lt_of_le ((((((((EA17.wr W25).wr W30).ext E37).wr W44).ext E48).wr W55).ext E59).wr W66).lt (Nat.le_of_eq g70.symm))), (Nat.ne_of_lt (Nat.lt_of_lt_of_le (EA37.wr W44).lt (Nat.le_of_eq g48.symm))), (Nat.ne_of_lt (Nat.lt_of_lt_of_le (((EA37.wr W44).ext E48).wr W55).lt (Nat.le_of_eq g59.symm))), (Nat.ne_of_lt (Nat.lt_of_lt_of_le (((((EA37.wr W44).ext E48).wr W55).ext E59).wr W66).lt (Nat.le_of_eq g70.symm))), (Nat.ne_of_lt (Nat.lt_of_lt_of_le (EA48.wr W55).lt (Nat.le_of_eq g59.symm))), (Nat.ne_of_lt (Nat.lt_of_lt_of_le (((EA48.wr W55).ext E59).wr W66).lt (Nat.le_of_eq g70.symm))), (Nat.ne_of_lt (Nat.lt_of_lt_of_le (EA59.wr W66).lt (Nat.le_of_eq g70.symm))), (Nat.ne_of_lt (Nat.lt_of_lt_of_le (VB.keep K2 nin0).lt (Nat.le_of_eq g4.symm))), (Nat.ne_of_lt (Nat.lt_of_lt_of_le (((VB.keep K2 nin0).ext E4).other W12 nqb).lt (Nat.le_of_eq g17.symm))), (Nat.ne_of_lt (Nat.lt_of_lt_of_le ((((((VB.keep K2 nin0).ext E4).other W12 nqb).ext E17).other W25 nqb).other W30 nqb).lt (Nat.le_of_eq g37.symm))), (Nat.ne_of_lt (Nat.lt_of_lt_of_le ((((((((VB.keep K2 nin0).ext E4).other W12 nqb).ext E17).other W25 nqb).other W30 nqb).ext E37).other W44 (Nat.ne_of_lt (Nat.lt_of_lt_of_le (VB.keep K2 nin0).lt (Nat.le_of_eq g4.symm)))).lt (Nat.le_of_eq g48.symm))), (Nat.ne_of_lt (Nat.lt_of_lt_of_le ((((((((((VB.keep K2 nin0).ext E4).other W12 nqb).ext E17).other W25 nqb).other W30 nqb).ext E37).other W44 (Nat.ne_of_lt (Nat.lt_of_lt_of_le (VB.keep K2 nin0).lt (Nat.le_of_eq g4.symm)))).ext E48).other W55 (Nat.ne_of_lt (Nat.lt_of_lt_of_le (VB.keep K2 nin0).lt (Nat.le_of_eq g4.symm)))).lt (Nat.le_of_eq g59.symm))), (Nat.ne_of_lt (Nat.lt_of_lt_of_le ((((((((((((VB.keep K2 nin0).ext E4).other W12 nqb).ext E17).other W25 nqb).other W30 nqb).ext E37).other W44 (Nat.ne_of_lt (Nat.lt_of_lt_of_le (VB.keep K2 nin0).lt (Nat.le_of_eq g4.symm)))).ext E48).other W55 (Nat.ne_of_lt (Nat.lt_of_lt_of_le (VB.keep K2 nin0).lt (Nat.le_of_eq g4.symm)))).ext E59).other W66 (Nat.ne_of_lt (Nat.lt_of_lt_of_le (VB.keep K2 nin0).lt (Nat.le_of_eq g4.symm)))).lt (Nat.le_of_eq g70.symm))), (Nat.ne_of_lt (Nat.lt_of_lt_of_le (EQ.keep K2).lt (Nat.le_of_eq g4.symm))), (Nat.ne_of_lt (Nat.lt_of_lt_of_le (f10.wr W12).lt (Nat.le_of_eq g17.symm))), (Nat.ne_of_lt (Nat.lt_of_lt_of_le (f28.wr W30).lt (Nat.le_of_eq g37.symm))), (Nat.ne_of_lt (Nat.lt_of_lt_of_le (((f28.wr W30).ext E37).wr W44).lt (Nat.le_of_eq g48.symm))), (Nat.ne_of_lt (Nat.lt_of_lt_of_le (((((f28.wr W30).ext E37).wr W44).ext E48).wr W55).lt (Nat.le_of_eq g59.symm))), (Nat.ne_of_lt (Nat.lt_of_lt_of_le (((((((f28.wr W30).ext E37).wr W44).ext E48).wr W55).ext E59).wr W66).lt (Nat.le_of_eq g70.symm))), om90, om91, om92, om93, om94, (Or.inr ⟨rfl, Or.inl rfl⟩), (Or.inr ⟨rfl, Or.inl rfl⟩), (Or.inr ⟨rfl, Or.inl rfl⟩), (Or.inr ⟨rfl, Or.inl rfl⟩), rfl, rfl, rfl, rfl, hWB⟩⟩)
theorem own_pd4 : parseMethodDescriptor "(I)V" = some ⟨[.int], none⟩ := by decide +kernel
theorem own_pd5 : parseMethodDescriptor "(I)Lcom/example/candid_facts/candidfacts/Truth;" = some ⟨[.int], some (.object "com/example/candid_facts/candidfacts/Truth")⟩ := by decide +kernel
theorem own_pd6 : parseMethodDescriptor "([ILcom/example/candid_facts/candidfacts/Truth;)V" = some ⟨[(.array .int), (.object "com/example/candid_facts/candidfacts/Truth")], none⟩ := by decide +kernel
theorem own_pd7 : parseMethodDescriptor "()J" = some ⟨[], some .long⟩ := by decide +kernel
def Q_law (Z : State) (h0 : Heap) (n0 : Nat) (v : Option Value) (h : Heap) (L : List Loc) : Prop := v = some (.int 1) ∧ Fr n0 L
set_option maxRecDepth 65536 in
set_option maxHeartbeats 40000000 in
theorem rm_law (l : Launch) (Z : State) (a0 : Array Value) (hw : ∀ d ∈ tables_1, d.before a0 Z = true) (ws : List Jvm.Cond) (x0 : Int32) (x1 : Int32) (x2 : Int32) (x3 : Int32) (x4 : Int32) (x5 : Int32) (r__VALUES : Addr) (r_TRUE : Addr) (r_FALSE : Addr) (r_UNKNOWN : Addr) (r_INCONSISTENT : Addr) (k__VALUES : ClassId) (h0 : Heap) (n0 : Nat) (Z0 : n0 ≤ h0.size) (S__VALUES : Sta Z h0 "com/example/candid_facts/candidfacts/Truth" "$VALUES" "[Lcom/example/candid_facts/candidfacts/Truth;" (.ref r__VALUES)) (E__VALUES : Exa Z h0 r__VALUES "[Lcom/example/candid_facts/candidfacts/Truth;") (S_TRUE : Sta Z h0 "com/example/candid_facts/candidfacts/Truth" "TRUE" "Lcom/example/candid_facts/candidfacts/Truth;" (.ref r_TRUE)) (E_TRUE : Exa Z h0 r_TRUE "com/example/candid_facts/candidfacts/Truth") (S_FALSE : Sta Z h0 "com/example/candid_facts/candidfacts/Truth" "FALSE" "Lcom/example/candid_facts/candidfacts/Truth;" (.ref r_FALSE)) (E_FALSE : Exa Z h0 r_FALSE "com/example/candid_facts/candidfacts/Truth") (S_UNKNOWN : Sta Z h0 "com/example/candid_facts/candidfacts/Truth" "UNKNOWN" "Lcom/example/candid_facts/candidfacts/Truth;" (.ref r_UNKNOWN)) (E_UNKNOWN : Exa Z h0 r_UNKNOWN "com/example/candid_facts/candidfacts/Truth") (S_INCONSISTENT : Sta Z h0 "com/example/candid_facts/candidfacts/Truth" "INCONSISTENT" "Lcom/example/candid_facts/candidfacts/Truth;" (.ref r_INCONSISTENT)) (E_INCONSISTENT : Exa Z h0 r_INCONSISTENT "com/example/candid_facts/candidfacts/Truth") (F_UNKNOWN_ordinal : Fld Z h0 r_UNKNOWN "java/lang/Enum" "ordinal" "I" (.int (2 : Int32))) (F_FALSE_ordinal : Fld Z h0 r_FALSE "java/lang/Enum" "ordinal" "I" (.int (1 : Int32))) (F_TRUE_ordinal : Fld Z h0 r_TRUE "java/lang/Enum" "ordinal" "I" (.int (0 : Int32))) (F_INCONSISTENT_ordinal : Fld Z h0 r_INCONSISTENT "java/lang/Enum" "ordinal" "I" (.int (3 : Int32))) (V__VALUES : Arv Z h0 r__VALUES k__VALUES (.object "com/example/candid_facts/candidfacts/Truth") (4 : Int32) [(.ref r_TRUE), (.ref r_FALSE), (.ref r_UNKNOWN), (.ref r_INCONSISTENT)] .null) :
    MetFree l x (head1 (Jvm.Cond.code x code maxLocals ret :: ws) room_1) (fun aA U => aA = #[(.int x0), (.int x1), (.int x2), (.int x3), (.int x4), (.int x5)] ∧ Z.Warmed39 U.vm ∧ U.heap = h0) (fun _ _ _ _ _ => True) (fun _ U o U' => ∃ v L, o = .returned v ∧ Q_law Z h0 n0 v U'.heap L ∧ FrameEnd U o U' L room_1.cells room_1.slots) := by
  refine MetFree.of_bodySF (plainFor_of_name own_pn_com_example_candid_facts_candidfacts_ListedSizePinLaw) hisR ?_
  intro p e s m args below meth c s₁ Bd hml0 hP hK
  obtain ⟨rfl, hZ, hh⟩ := hP
  have hx := Bd.exec
  have hby := Bd.bytes
  have hlk : meth.locks = false := BodyLoose.notSynchronized Bd
  have hml : c.maxLocals = 10 := hml0
  have hown : s.vm.findClass "com/example/candid_facts/candidfacts/ListedSizePinLaw" = some m.cls := findClass_of_methodNamed Bd.named
  have hnm := (name_of_methodNamed Bd.named Bd.method).1
  have X0 : Stand p l e room_1 s m #[(.int x0), (.int x1), (.int x2), (.int x3), (.int x4), (.int x5)] below meth c s₁ [] 0 0 := Stand.of_body Bd
  have e0 : s₁.heap = h0 := by rw [← hh, Bd.state]; rfl
  have N0 := Fr.nil n0
  have K0 : Keep h0 h0 [] := Keep.refl _ _
  show oG p e below (own_K s (Q_law Z h0 n0) room_1.cells room_1.slots) (s₁.setTop (entryFrame m #[(.int x0), (.int x1), (.int x2), (.int x3), (.int x4), (.int x5)] maxLocals))
  rw [(by first | (simp [entryFrame, mkF, argsToLocals, Value.category, maxLocals]; done) | rfl : entryFrame m #[(.int x0), (.int x1), (.int x2), (.int x3), (.int x4), (.int x5)] maxLocals = mkF m 0 #[.val (.int x0), .val (.int x1), .val (.int x2), .val (.int x3), .val (.int x4), .val (.int x5), .unset, .unset, .unset, .unset] [])]
  show oG p e below _ (s₁.setTop (mkF m 0 #[.val (.int x0), .val (.int x1), .val (.int x2), .val (.int x3), .val (.int x4), .val (.int x5), .unset, .unset, .unset, .unset] []))
  refine og (fun _ hr => XS.iloadN X0.here hx rfl (hb hby at_0) rfl (XS.iconst X0.here hx rfl (hb hby at_1) (XS.iand X0.here hx rfl (hb hby at_2) rfl (XS.istore X0.here hx rfl (hb hby at_3) rfl (l' := #[.val (.int x0), .val (.int x1), .val (.int x2), .val (.int x3), .val (.int x4), .val (.int x5), .val (.int (x0 &&& (3 : Int32))), .unset, .unset, .unset]) rfl (XS.iloadN X0.here hx rfl (hb hby at_5) rfl (XS.bipush X0.here hx rfl (hb hby at_6) (XS.iand X0.here hx rfl (hb hby at_8) rfl (XS.iconst X0.here hx rfl (hb hby at_9) hr)))))))) ?_
  show oG p e below _ (s₁.setTop (mkF m 10 #[.val (.int x0), .val (.int x1), .val (.int x2), .val (.int x3), .val (.int x4), .val (.int x5), .val (.int (x0 &&& (3 : Int32))), .unset, .unset, .unset] [(.int (5 : Int32)), (.int (x1 &&& (7 : Int32)))]))
  have nz1 : (5 : Int32) ≠ (0 : Int32) := by decide
  refine og (fun _ hr => iremM X0 hx rfl (hb hby at_10) rfl nz1 hr) ?_
  show oG p e below _ (s₁.setTop (mkF m 11 #[.val (.int x0), .val (.int x1), .val (.int x2), .val (.int x3), .val (.int x4), .val (.int x5), .val (.int (x0 &&& (3 : Int32))), .unset, .unset, .unset] [(.int ((x1 &&& (7 : Int32)) % (5 : Int32)))]))
  refine og (fun _ hr => XS.istore X0.here hx rfl (hb hby at_11) rfl (l' := #[.val (.int x0), .val (.int x1), .val (.int x2), .val (.int x3), .val (.int x4), .val (.int x5), .val (.int (x0 &&& (3 : Int32))), .val (.int ((x1 &&& (7 : Int32)) % (5 : Int32))), .unset, .unset]) rfl (XS.iconst X0.here hx rfl (hb hby at_13) hr)) ?_
  show oG p e below _ (s₁.setTop (mkF m 14 #[.val (.int x0), .val (.int x1), .val (.int x2), .val (.int x3), .val (.int x4), .val (.int x5), .val (.int (x0 &&& (3 : Int32))), .val (.int ((x1 &&& (7 : Int32)) % (5 : Int32))), .unset, .unset] [(.int (3 : Int32))]))
  obtain ⟨T2, h2, k2, X2, e2, E2, A2, EA2, st2⟩ := newPE X0 hx hZ (hw _ (own_m 0 rfl)) e0 (g := (mkF m 14 #[.val (.int x0), .val (.int x1), .val (.int x2), .val (.int x3), .val (.int x4), .val (.int x5), .val (.int (x0 &&& (3 : Int32))), .val (.int ((x1 &&& (7 : Int32)) % (5 : Int32))), .unset, .unset] [(.int (3 : Int32))])) rfl (hb hby at_14) rfl (by decide) (cap := 3) (by decide) (by decide) (by decide) (by decide) (ad := "[I") (by decide)
  obtain ⟨b2, g2⟩ : ∃ z, z = h0.size := ⟨_, rfl⟩
  rw [← g2] at A2 EA2 st2
  have ge3 : n0 ≤ b2 := Nat.le_trans Z0 (Nat.le_of_eq g2.symm)
  have sz4 : h0.size ≤ b2 := Nat.le_trans K0.1 (Nat.le_of_eq g2.symm)
  refine og st2 ?_
  have f5 : Arv Z h2 b2 k2 .int (3 : Int32) [(.int (0 : Int32)), (.int (0 : Int32)), (.int (0 : Int32))] (.int (0 : Int32)) := (Arv.new A2 (by decide)).pad (pad_rep [] (.int (0 : Int32)) 3)
  show oG p e below _ (T2.setTop (mkF m 16 #[.val (.int x0), .val (.int x1), .val (.int x2), .val (.int x3), .val (.int x4), .val (.int x5), .val (.int (x0 &&& (3 : Int32))), .val (.int ((x1 &&& (7 : Int32)) % (5 : Int32))), .unset, .unset] [(.ref b2)]))
  refine og (fun _ hr => XS.astore X2.here hx rfl (hb hby at_16) rfl rfl (l' := #[.val (.int x0), .val (.int x1), .val (.int x2), .val (.int x3), .val (.int x4), .val (.int x5), .val (.int (x0 &&& (3 : Int32))), .val (.int ((x1 &&& (7 : Int32)) % (5 : Int32))), .val (.ref b2), .unset]) rfl (XS.aload X2.here hx rfl (hb hby at_18) rfl rfl (XS.iconst X2.here hx rfl (hb hby at_20) (XS.iloadN X2.here hx rfl (hb hby at_21) rfl hr)))) ?_
  show oG p e below _ (T2.setTop (mkF m 22 #[.val (.int x0), .val (.int x1), .val (.int x2), .val (.int x3), .val (.int x4), .val (.int x5), .val (.int (x0 &&& (3 : Int32))), .val (.int ((x1 &&& (7 : Int32)) % (5 : Int32))), .val (.ref b2), .unset] [(.int x2), (.int (0 : Int32)), (.ref b2)]))
  refine own_stI X2 hx hZ e2 f5 (0 : Int32) x2 0 ⟨by decide, by decide⟩ rfl (Nat.le_of_ble_eq_true rfl)  [(.int x2), (.int (0 : Int32)), (.int (0 : Int32))] rfl N0 ge3 (hb hby at_22) ?_
  intro T6 h6 L6 X6 e6 W6 N6 f6
  show oG p e below _ (T6.setTop (mkF m 23 #[.val (.int x0), .val (.int x1), .val (.int x2), .val (.int x3), .val (.int x4), .val (.int x5), .val (.int (x0 &&& (3 : Int32))), .val (.int ((x1 &&& (7 : Int32)) % (5 : Int32))), .val (.ref b2), .unset] []))
  refine og (fun _ hr => XS.aload X6.here hx rfl (hb hby at_23) rfl rfl (XS.iconst X6.here hx rfl (hb hby at_25) (XS.iloadN X6.here hx rfl (hb hby at_26) rfl hr))) ?_
  show oG p e below _ (T6.setTop (mkF m 27 #[.val (.int x0), .val (.int x1), .val (.int x2), .val (.int x3), .val (.int x4), .val (.int x5), .val (.int (x0 &&& (3 : Int32))), .val (.int ((x1 &&& (7 : Int32)) % (5 : Int32))), .val (.ref b2), .unset] [(.int x3), (.int (1 : Int32)), (.ref b2)]))
  refine own_stI X6 hx hZ e6 f6 (1 : Int32) x3 1 ⟨by decide, by decide⟩ rfl (Nat.le_of_ble_eq_true rfl)  [(.int x2), (.int x3), (.int (0 : Int32))] rfl N6 ge3 (hb hby at_27) ?_
  intro T7 h7 L7 X7 e7 W7 N7 f7
  show oG p e below _ (T7.setTop (mkF m 28 #[.val (.int x0), .val (.int x1), .val (.int x2), .val (.int x3), .val (.int x4), .val (.int x5), .val (.int (x0 &&& (3 : Int32))), .val (.int ((x1 &&& (7 : Int32)) % (5 : Int32))), .val (.ref b2), .unset] []))
  refine og (fun _ hr => XS.aload X7.here hx rfl (hb hby at_28) rfl rfl (XS.iconst X7.here hx rfl (hb hby at_30) (XS.iload X7.here hx rfl (hb hby at_31) rfl hr))) ?_
  show oG p e below _ (T7.setTop (mkF m 33 #[.val (.int x0), .val (.int x1), .val (.int x2), .val (.int x3), .val (.int x4), .val (.int x5), .val (.int (x0 &&& (3 : Int32))), .val (.int ((x1 &&& (7 : Int32)) % (5 : Int32))), .val (.ref b2), .unset] [(.int x4), (.int (2 : Int32)), (.ref b2)]))
  refine own_stI X7 hx hZ e7 f7 (2 : Int32) x4 2 ⟨by decide, by decide⟩ rfl (Nat.le_of_ble_eq_true rfl)  [(.int x2), (.int x3), (.int x4)] rfl N7 ge3 (hb hby at_33) ?_
  intro T8 h8 L8 X8 e8 W8 N8 f8
  show oG p e below _ (T8.setTop (mkF m 34 #[.val (.int x0), .val (.int x1), .val (.int x2), .val (.int x3), .val (.int x4), .val (.int x5), .val (.int (x0 &&& (3 : Int32))), .val (.int ((x1 &&& (7 : Int32)) % (5 : Int32))), .val (.ref b2), .unset] []))
  obtain ⟨T9, h9, X9, e9, E9, A9, D9, -, st9⟩ := newO X8 hx hZ hown (hw _ (own_m 1 rfl)) (hw _ (own_m 2 rfl)) (hw _ (own_m 3 rfl)) e8 (g := (mkF m 34 #[.val (.int x0), .val (.int x1), .val (.int x2), .val (.int x3), .val (.int x4), .val (.int x5), .val (.int (x0 &&& (3 : Int32))), .val (.int ((x1 &&& (7 : Int32)) % (5 : Int32))), .val (.ref b2), .unset] [])) rfl (hb hby at_34) (by decide) (by decide)
  obtain ⟨b9, g9⟩ : ∃ z, z = h8.size := ⟨_, rfl⟩
  rw [← g9] at A9 D9 st9
  have Z10 := (Nat.le_trans (Nat.le_trans (Nat.le_trans (Nat.le_trans Z0 E2.1) (Nat.le_of_eq W6.size.symm)) (Nat.le_of_eq W7.size.symm)) (Nat.le_of_eq W8.size.symm))
  have ge11 : n0 ≤ b9 := Nat.le_trans Z10 (Nat.le_of_eq g9.symm)
  have K12 := ((((K0.ext E2).wr W6 (Or.inr sz4)).wr W7 (Or.inr sz4)).wr W8 (Or.inr sz4))
  have sz13 : h0.size ≤ b9 := Nat.le_trans K12.1 (Nat.le_of_eq g9.symm)
  refine og st9 ?_
  have f14 : Fld Z h9 b9 "com/example/candid_facts/candidfacts/Answer$Listed" "codes" "[[I" .null := D9 (Or.inr (hw _ (own_m 33 rfl))) (ty := (.array (.array .int))) (by decide)
  have f15 : Fld Z h9 b9 "com/example/candid_facts/candidfacts/Answer$Listed" "sizes" "[I" .null := D9 (Or.inr (hw _ (own_m 35 rfl))) (ty := (.array .int)) (by decide)
  have f16 : Fld Z h9 b9 "com/example/candid_facts/candidfacts/Answer$Listed" "width" "I" (.int (0 : Int32)) := D9 (Or.inr (hw _ (own_m 37 rfl))) (ty := .int) (by decide)
  show oG p e below _ (T9.setTop (mkF m 37 #[.val (.int x0), .val (.int x1), .val (.int x2), .val (.int x3), .val (.int x4), .val (.int x5), .val (.int (x0 &&& (3 : Int32))), .val (.int ((x1 &&& (7 : Int32)) % (5 : Int32))), .val (.ref b2), .unset] [(.ref b9)]))
  refine og (fun _ hr => XS.dup X9.here hx rfl (hb hby at_37) rfl rfl (XS.iload X9.here hx rfl (hb hby at_38) rfl hr)) ?_
  show oG p e below _ (T9.setTop (mkF m 40 #[.val (.int x0), .val (.int x1), .val (.int x2), .val (.int x3), .val (.int x4), .val (.int x5), .val (.int (x0 &&& (3 : Int32))), .val (.int ((x1 &&& (7 : Int32)) % (5 : Int32))), .val (.ref b2), .unset] [(.int (x0 &&& (3 : Int32))), (.ref b9), (.ref b9)]))
  have K18 := (K12.ext E9)
  have hlo17 : h0.size ≤ h9.size := K18.1
  have hWB19 : 0 ≤ ((x0 &&& (3 : Int32))).toInt ∧ ((x0 &&& (3 : Int32))).toInt ≤ 3 := by have q := c_mask x0 3 2 (by decide) (by decide); omega
  have f21 := (f8.ext E9)
  have f22 := (own_sta_keep S__VALUES K18 all0)
  have f23 := (E__VALUES.keep K18)
  have f24 := (V__VALUES.keep K18 nin0)
  have Z25 := (Nat.le_trans Z10 E9.1)
  refine own_cp X9 hx hZ hown rfl (hw _ (own_m 4 rfl)) (hw _ (own_m 5 rfl)) (hw _ (own_m 3 rfl)) (hw _ (own_m 6 rfl)) (by decide) (rm := { frames := 2, cells := 7, slots := 12, locals := 26 }) (rm_init l Z a0 hw [] b9 b2 (x0 &&& (3 : Int32)) x2 x3 x4 k2 h0.size r__VALUES k__VALUES r_TRUE r_FALSE r_UNKNOWN r_INCONSISTENT h9 n0 Z25 A9 f14 f15 f16 f21 f22 f23 f24 ge11 sz13 hlo17 (Nat.ne_of_lt (Nat.lt_of_lt_of_le (((EA2.wr W6).wr W7).wr W8).lt (Nat.le_of_eq g9.symm))) hWB19) (by decide) (W := 1) (by decide) (by decide) (by decide) e9 (by rw [hml]; rfl) (argsL := [(.int (x0 &&& (3 : Int32)))]) (lenOf own_pd4 rfl) (rest := [(.ref b9)]) rfl rfl (Nat.le_of_eq rfl) (hb hby at_40) ?_
  intro _ T20 L20 X20 hQ20
  obtain ⟨rfl, N20q, ws20, K20, hg20, I20⟩ := hQ20
  have N20 := Fr.app N8 N20q
  show oG p e below _ (T20.setTop (mkF m 43 #[.val (.int x0), .val (.int x1), .val (.int x2), .val (.int x3), .val (.int x4), .val (.int x5), .val (.int (x0 &&& (3 : Int32))), .val (.int ((x1 &&& (7 : Int32)) % (5 : Int32))), .val (.ref b2), .unset] [(.ref b9)]))
  refine og (fun _ hr => XS.astore X20.here hx rfl (hb hby at_43) rfl rfl (l' := #[.val (.int x0), .val (.int x1), .val (.int x2), .val (.int x3), .val (.int x4), .val (.int x5), .val (.int (x0 &&& (3 : Int32))), .val (.int ((x1 &&& (7 : Int32)) % (5 : Int32))), .val (.ref b2), .val (.ref b9)]) rfl hr) ?_
  show oG p e below _ (T20.setTop (mkF m 45 #[.val (.int x0), .val (.int x1), .val (.int x2), .val (.int x3), .val (.int x4), .val (.int x5), .val (.int (x0 &&& (3 : Int32))), .val (.int ((x1 &&& (7 : Int32)) % (5 : Int32))), .val (.ref b2), .val (.ref b9)] []))
  rcases Classical.em (((x1 &&& (7 : Int32)) % (5 : Int32)) = (4 : Int32)) with c26 | c26
  · rw [c26]
    show oG p e below _ (T20.setTop (mkF m 45 #[.val (.int x0), .val (.int x1), .val (.int x2), .val (.int x3), .val (.int x4), .val (.int x5), .val (.int (x0 &&& (3 : Int32))), .val (.int (4 : Int32)), .val (.ref b2), .val (.ref b9)] []))
    refine og (fun _ hr => XS.iload X20.here hx rfl (hb hby at_45) rfl (XS.iconst X20.here hx rfl (hb hby at_47) (XS.icmpNo X20.here hx rfl (hb hby at_48) rfl (flt (by decide)).1 (XS.aload X20.here hx rfl (hb hby at_51) rfl rfl (XS.aload X20.here hx rfl (hb hby at_53) rfl rfl (XS.iloadN X20.here hx rfl (hb hby at_55) rfl hr)))))) ?_
    show oG p e below _ (T20.setTop (mkF m 56 #[.val (.int x0), .val (.int x1), .val (.int x2), .val (.int x3), .val (.int x4), .val (.int x5), .val (.int (x0 &&& (3 : Int32))), .val (.int (4 : Int32)), .val (.ref b2), .val (.ref b9)] [(.int x2), (.ref b2), (.ref b9)]))
    have K28 := (K18.trans K20 (fun x hx_ => Or.inr (hg20 x hx_)))
    have f29 := (own_sta_keep S_TRUE K28 all0)
    have f30 := (own_sta_keep S_FALSE K28 all0)
    have f31 := (own_sta_keep S_UNKNOWN K28 all0)
    have f32 := (own_sta_keep S_INCONSISTENT K28 all0)
    have Z33 := (Nat.le_trans Z25 K20.1)
    refine own_cs X20 hx hZ hown (hw _ (own_m 39 rfl)) (hw _ (own_m 40 rfl)) (hw _ (own_m 41 rfl)) (hw _ (own_m 42 rfl)) (by decide) (rm := { frames := 0, cells := 0, slots := 0, locals := 0 }) (rm_truth l Z a0 hw [] x2 r_TRUE r_FALSE r_UNKNOWN r_INCONSISTENT T20.heap n0 Z33 f29 f30 f31 f32) (by decide) (W := 2) (by decide) (by decide) (by decide) rfl (by rw [hml]; rfl) (argsL := [(.int x2)]) (lenOf own_pd5 rfl) (rest := [(.ref b2), (.ref b9)]) rfl rfl (Nat.le_of_eq rfl) (hb hby at_56) ?_
    intro _ T27 L27 X27 hQ27
    obtain ⟨t27, rfl, ht27, N27q, e27⟩ := hQ27
    have N27 := Fr.app N20 N27q
    show oG p e below _ (T27.setTop (mkF m 59 #[.val (.int x0), .val (.int x1), .val (.int x2), .val (.int x3), .val (.int x4), .val (.int x5), .val (.int (x0 &&& (3 : Int32))), .val (.int (4 : Int32)), .val (.ref b2), .val (.ref b9)] [(.ref t27), (.ref b2), (.ref b9)]))
    have f35 := (E_TRUE.keep K28)
    have f36 := (F_TRUE_ordinal.keep K28 nin0)
    have f37 := (E_FALSE.keep K28)
    have f38 := (F_FALSE_ordinal.keep K28 nin0)
    have f39 := (E_UNKNOWN.keep K28)
    have f40 := (F_UNKNOWN_ordinal.keep K28 nin0)
    have f41 := (E_INCONSISTENT.keep K28)
    have f42 := (F_INCONSISTENT_ordinal.keep K28 nin0)
    have f43 := (A9.keep K20)
    refine own_cv X27 hx hZ hown (notFace_of_selects (args := #[]) (mvT hZ (hw _ (own_m 47 rfl)))) (hw _ (own_m 44 rfl)) (hw _ (own_m 45 rfl)) (hw _ (own_m 47 rfl)) (hw _ (own_m 46 rfl)) (hw _ (own_m 3 rfl)) (hw _ (own_m 48 rfl)) (by decide) f43 (rm := { frames := 2, cells := 1, slots := 16, locals := 56 }) (rm_add l Z a0 hw [] b9 b2 t27 r_TRUE r_FALSE r_UNKNOWN r_INCONSISTENT (x0 &&& (3 : Int32)) (0 : Int32) (1 : Int32) h0.size T20.heap n0 Z33 Z0 I20 ht27 f35 f36 f37 f38 f39 f40 f41 f42 (by decide) (by decide)) (by decide) (W := 0) (by decide) (by decide) (by decide) e27 (by rw [hml]; rfl) (argsL := [(.ref b2), (.ref t27)]) (lenOf own_pd6 rfl) (rest := []) rfl rfl (Nat.le_of_eq rfl) (hb hby at_59) ?_
    intro _ T34 L34 X34 hQ34
    obtain ⟨rfl, N34q, ws34, K34, hg34, I34⟩ := hQ34
    have N34 := Fr.app N27 N34q
    show oG p e below _ (T34.setTop (mkF m 62 #[.val (.int x0), .val (.int x1), .val (.int x2), .val (.int x3), .val (.int x4), .val (.int x5), .val (.int (x0 &&& (3 : Int32))), .val (.int (4 : Int32)), .val (.ref b2), .val (.ref b9)] []))
    refine og (fun _ hr => XS.iload X34.here hx rfl (hb hby at_62) rfl (XS.iconst X34.here hx rfl (hb hby at_64) (XS.icmpNo X34.here hx rfl (hb hby at_65) rfl (flt (by decide)).1 (XS.aload X34.here hx rfl (hb hby at_68) rfl rfl (XS.aload X34.here hx rfl (hb hby at_70) rfl rfl (XS.iloadN X34.here hx rfl (hb hby at_72) rfl hr)))))) ?_
    show oG p e below _ (T34.setTop (mkF m 73 #[.val (.int x0), .val (.int x1), .val (.int x2), .val (.int x3), .val (.int x4), .val (.int x5), .val (.int (x0 &&& (3 : Int32))), .val (.int (4 : Int32)), .val (.ref b2), .val (.ref b9)] [(.int x3), (.ref b2), (.ref b9)]))
    have K45 := (K28.trans K34 (fun x hx_ => Or.inr (hg34 x hx_)))
    have f46 := (own_sta_keep S_TRUE K45 all0)
    have f47 := (own_sta_keep S_FALSE K45 all0)
    have f48 := (own_sta_keep S_UNKNOWN K45 all0)
    have f49 := (own_sta_keep S_INCONSISTENT K45 all0)
    have Z50 := (Nat.le_trans Z33 K34.1)
    refine own_cs X34 hx hZ hown (hw _ (own_m 39 rfl)) (hw _ (own_m 40 rfl)) (hw _ (own_m 41 rfl)) (hw _ (own_m 42 rfl)) (by decide) (rm := { frames := 0, cells := 0, slots := 0, locals := 0 }) (rm_truth l Z a0 hw [] x3 r_TRUE r_FALSE r_UNKNOWN r_INCONSISTENT T34.heap n0 Z50 f46 f47 f48 f49) (by decide) (W := 2) (by decide) (by decide) (by decide) rfl (by rw [hml]; rfl) (argsL := [(.int x3)]) (lenOf own_pd5 rfl) (rest := [(.ref b2), (.ref b9)]) rfl rfl (Nat.le_of_eq rfl) (hb hby at_73) ?_
    intro _ T44 L44 X44 hQ44
    obtain ⟨t44, rfl, ht44, N44q, e44⟩ := hQ44
    have N44 := Fr.app N34 N44q
    show oG p e below _ (T44.setTop (mkF m 76 #[.val (.int x0), .val (.int x1), .val (.int x2), .val (.int x3), .val (.int x4), .val (.int x5), .val (.int (x0 &&& (3 : Int32))), .val (.int (4 : Int32)), .val (.ref b2), .val (.ref b9)] [(.ref t44), (.ref b2), (.ref b9)]))
    have f52 := (f35.keep K34)
    have f53 := (F_TRUE_ordinal.keep K45 nin0)
    have f54 := (f37.keep K34)
    have f55 := (F_FALSE_ordinal.keep K45 nin0)
    have f56 := (f39.keep K34)
    have f57 := (F_UNKNOWN_ordinal.keep K45 nin0)
    have f58 := (f41.keep K34)
    have f59 := (F_INCONSISTENT_ordinal.keep K45 nin0)
    have f60 := (f43.keep K34)
    refine own_cv X44 hx hZ hown (notFace_of_selects (args := #[]) (mvT hZ (hw _ (own_m 47 rfl)))) (hw _ (own_m 44 rfl)) (hw _ (own_m 45 rfl)) (hw _ (own_m 47 rfl)) (hw _ (own_m 46 rfl)) (hw _ (own_m 3 rfl)) (hw _ (own_m 48 rfl)) (by decide) f60 (rm := { frames := 2, cells := 1, slots := 16, locals := 56 }) (rm_add l Z a0 hw [] b9 b2 t44 r_TRUE r_FALSE r_UNKNOWN r_INCONSISTENT (x0 &&& (3 : Int32)) (1 : Int32) (2 : Int32) h0.size T34.heap n0 Z50 Z0 I34 ht44 f52 f53 f54 f55 f56 f57 f58 f59 (by decide) (by decide)) (by decide) (W := 0) (by decide) (by decide) (by decide) e44 (by rw [hml]; rfl) (argsL := [(.ref b2), (.ref t44)]) (lenOf own_pd6 rfl) (rest := []) rfl rfl (Nat.le_of_eq rfl) (hb hby at_76) ?_
    intro _ T51 L51 X51 hQ51
    obtain ⟨rfl, N51q, ws51, K51, hg51, I51⟩ := hQ51
    have N51 := Fr.app N44 N51q
    show oG p e below _ (T51.setTop (mkF m 79 #[.val (.int x0), .val (.int x1), .val (.int x2), .val (.int x3), .val (.int x4), .val (.int x5), .val (.int (x0 &&& (3 : Int32))), .val (.int (4 : Int32)), .val (.ref b2), .val (.ref b9)] []))
    refine og (fun _ hr => XS.iload X51.here hx rfl (hb hby at_79) rfl (XS.iconst X51.here hx rfl (hb hby at_81) (XS.icmpNo X51.here hx rfl (hb hby at_82) rfl (flt (by decide)).1 (XS.aload X51.here hx rfl (hb hby at_85) rfl rfl (XS.aload X51.here hx rfl (hb hby at_87) rfl rfl (XS.iload X51.here hx rfl (hb hby at_89) rfl hr)))))) ?_
    show oG p e below _ (T51.setTop (mkF m 91 #[.val (.int x0), .val (.int x1), .val (.int x2), .val (.int x3), .val (.int x4), .val (.int x5), .val (.int (x0 &&& (3 : Int32))), .val (.int (4 : Int32)), .val (.ref b2), .val (.ref b9)] [(.int x4), (.ref b2), (.ref b9)]))
    have K62 := (K45.trans K51 (fun x hx_ => Or.inr (hg51 x hx_)))
    have f63 := (own_sta_keep S_TRUE K62 all0)
    have f64 := (own_sta_keep S_FALSE K62 all0)
    have f65 := (own_sta_keep S_UNKNOWN K62 all0)
    have f66 := (own_sta_keep S_INCONSISTENT K62 all0)
    have Z67 := (Nat.le_trans Z50 K51.1)
    refine own_cs X51 hx hZ hown (hw _ (own_m 39 rfl)) (hw _ (own_m 40 rfl)) (hw _ (own_m 41 rfl)) (hw _ (own_m 42 rfl)) (by decide) (rm := { frames := 0, cells := 0, slots := 0, locals := 0 }) (rm_truth l Z a0 hw [] x4 r_TRUE r_FALSE r_UNKNOWN r_INCONSISTENT T51.heap n0 Z67 f63 f64 f65 f66) (by decide) (W := 2) (by decide) (by decide) (by decide) rfl (by rw [hml]; rfl) (argsL := [(.int x4)]) (lenOf own_pd5 rfl) (rest := [(.ref b2), (.ref b9)]) rfl rfl (Nat.le_of_eq rfl) (hb hby at_91) ?_
    intro _ T61 L61 X61 hQ61
    obtain ⟨t61, rfl, ht61, N61q, e61⟩ := hQ61
    have N61 := Fr.app N51 N61q
    show oG p e below _ (T61.setTop (mkF m 94 #[.val (.int x0), .val (.int x1), .val (.int x2), .val (.int x3), .val (.int x4), .val (.int x5), .val (.int (x0 &&& (3 : Int32))), .val (.int (4 : Int32)), .val (.ref b2), .val (.ref b9)] [(.ref t61), (.ref b2), (.ref b9)]))
    have f69 := (f52.keep K51)
    have f70 := (F_TRUE_ordinal.keep K62 nin0)
    have f71 := (f54.keep K51)
    have f72 := (F_FALSE_ordinal.keep K62 nin0)
    have f73 := (f56.keep K51)
    have f74 := (F_UNKNOWN_ordinal.keep K62 nin0)
    have f75 := (f58.keep K51)
    have f76 := (F_INCONSISTENT_ordinal.keep K62 nin0)
    have f77 := (f60.keep K51)
    refine own_cv X61 hx hZ hown (notFace_of_selects (args := #[]) (mvT hZ (hw _ (own_m 47 rfl)))) (hw _ (own_m 44 rfl)) (hw _ (own_m 45 rfl)) (hw _ (own_m 47 rfl)) (hw _ (own_m 46 rfl)) (hw _ (own_m 3 rfl)) (hw _ (own_m 48 rfl)) (by decide) f77 (rm := { frames := 2, cells := 1, slots := 16, locals := 56 }) (rm_add l Z a0 hw [] b9 b2 t61 r_TRUE r_FALSE r_UNKNOWN r_INCONSISTENT (x0 &&& (3 : Int32)) (2 : Int32) (3 : Int32) h0.size T51.heap n0 Z67 Z0 I51 ht61 f69 f70 f71 f72 f73 f74 f75 f76 (by decide) (by decide)) (by decide) (W := 0) (by decide) (by decide) (by decide) e61 (by rw [hml]; rfl) (argsL := [(.ref b2), (.ref t61)]) (lenOf own_pd6 rfl) (rest := []) rfl rfl (Nat.le_of_eq rfl) (hb hby at_94) ?_
    intro _ T68 L68 X68 hQ68
    obtain ⟨rfl, N68q, ws68, K68, hg68, I68⟩ := hQ68
    have N68 := Fr.app N61 N68q
    show oG p e below _ (T68.setTop (mkF m 97 #[.val (.int x0), .val (.int x1), .val (.int x2), .val (.int x3), .val (.int x4), .val (.int x5), .val (.int (x0 &&& (3 : Int32))), .val (.int (4 : Int32)), .val (.ref b2), .val (.ref b9)] []))
    refine og (fun _ hr => XS.iload X68.here hx rfl (hb hby at_97) rfl (XS.iconst X68.here hx rfl (hb hby at_99) (XS.icmpNo X68.here hx rfl (hb hby at_100) rfl (flt (by decide)).1 (XS.aload X68.here hx rfl (hb hby at_103) rfl rfl (XS.aload X68.here hx rfl (hb hby at_105) rfl rfl (XS.iload X68.here hx rfl (hb hby at_107) rfl hr)))))) ?_
    show oG p e below _ (T68.setTop (mkF m 109 #[.val (.int x0), .val (.int x1), .val (.int x2), .val (.int x3), .val (.int x4), .val (.int x5), .val (.int (x0 &&& (3 : Int32))), .val (.int (4 : Int32)), .val (.ref b2), .val (.ref b9)] [(.int x5), (.ref b2), (.ref b9)]))
    have K79 := (K62.trans K68 (fun x hx_ => Or.inr (hg68 x hx_)))
    have f80 := (own_sta_keep S_TRUE K79 all0)
    have f81 := (own_sta_keep S_FALSE K79 all0)
    have f82 := (own_sta_keep S_UNKNOWN K79 all0)
    have f83 := (own_sta_keep S_INCONSISTENT K79 all0)
    have Z84 := (Nat.le_trans Z67 K68.1)
    refine own_cs X68 hx hZ hown (hw _ (own_m 39 rfl)) (hw _ (own_m 40 rfl)) (hw _ (own_m 41 rfl)) (hw _ (own_m 42 rfl)) (by decide) (rm := { frames := 0, cells := 0, slots := 0, locals := 0 }) (rm_truth l Z a0 hw [] x5 r_TRUE r_FALSE r_UNKNOWN r_INCONSISTENT T68.heap n0 Z84 f80 f81 f82 f83) (by decide) (W := 2) (by decide) (by decide) (by decide) rfl (by rw [hml]; rfl) (argsL := [(.int x5)]) (lenOf own_pd5 rfl) (rest := [(.ref b2), (.ref b9)]) rfl rfl (Nat.le_of_eq rfl) (hb hby at_109) ?_
    intro _ T78 L78 X78 hQ78
    obtain ⟨t78, rfl, ht78, N78q, e78⟩ := hQ78
    have N78 := Fr.app N68 N78q
    show oG p e below _ (T78.setTop (mkF m 112 #[.val (.int x0), .val (.int x1), .val (.int x2), .val (.int x3), .val (.int x4), .val (.int x5), .val (.int (x0 &&& (3 : Int32))), .val (.int (4 : Int32)), .val (.ref b2), .val (.ref b9)] [(.ref t78), (.ref b2), (.ref b9)]))
    have f86 := (f69.keep K68)
    have f87 := (F_TRUE_ordinal.keep K79 nin0)
    have f88 := (f71.keep K68)
    have f89 := (F_FALSE_ordinal.keep K79 nin0)
    have f90 := (f73.keep K68)
    have f91 := (F_UNKNOWN_ordinal.keep K79 nin0)
    have f92 := (f75.keep K68)
    have f93 := (F_INCONSISTENT_ordinal.keep K79 nin0)
    have f94 := (f77.keep K68)
    refine own_cv X78 hx hZ hown (notFace_of_selects (args := #[]) (mvT hZ (hw _ (own_m 47 rfl)))) (hw _ (own_m 44 rfl)) (hw _ (own_m 45 rfl)) (hw _ (own_m 47 rfl)) (hw _ (own_m 46 rfl)) (hw _ (own_m 3 rfl)) (hw _ (own_m 48 rfl)) (by decide) f94 (rm := { frames := 2, cells := 1, slots := 16, locals := 56 }) (rm_add l Z a0 hw [] b9 b2 t78 r_TRUE r_FALSE r_UNKNOWN r_INCONSISTENT (x0 &&& (3 : Int32)) (3 : Int32) (4 : Int32) h0.size T68.heap n0 Z84 Z0 I68 ht78 f86 f87 f88 f89 f90 f91 f92 f93 (by decide) (by decide)) (by decide) (W := 0) (by decide) (by decide) (by decide) e78 (by rw [hml]; rfl) (argsL := [(.ref b2), (.ref t78)]) (lenOf own_pd6 rfl) (rest := []) rfl rfl (Nat.le_of_eq rfl) (hb hby at_112) ?_
    intro _ T85 L85 X85 hQ85
    obtain ⟨rfl, N85q, ws85, K85, hg85, I85⟩ := hQ85
    have N85 := Fr.app N78 N85q
    show oG p e below _ (T85.setTop (mkF m 115 #[.val (.int x0), .val (.int x1), .val (.int x2), .val (.int x3), .val (.int x4), .val (.int x5), .val (.int (x0 &&& (3 : Int32))), .val (.int (4 : Int32)), .val (.ref b2), .val (.ref b9)] []))
    refine og (fun _ hr => XS.aload X85.here hx rfl (hb hby at_115) rfl rfl hr) ?_
    show oG p e below _ (T85.setTop (mkF m 117 #[.val (.int x0), .val (.int x1), .val (.int x2), .val (.int x3), .val (.int x4), .val (.int x5), .val (.int (x0 &&& (3 : Int32))), .val (.int (4 : Int32)), .val (.ref b2), .val (.ref b9)] [(.ref b9)]))
    have Z96 := (Nat.le_trans Z84 K85.1)
    have f97 := (f94.keep K85)
    refine own_cv X85 hx hZ hown (notFace_of_selects (args := #[]) (mvT hZ (hw _ (own_m 67 rfl)))) (hw _ (own_m 64 rfl)) (hw _ (own_m 65 rfl)) (hw _ (own_m 67 rfl)) (hw _ (own_m 66 rfl)) (hw _ (own_m 3 rfl)) (hw _ (own_m 68 rfl)) (by decide) f97 (rm := { frames := 0, cells := 0, slots := 0, locals := 0 }) (rm_size l Z a0 hw [] b9 b2 (x0 &&& (3 : Int32)) (4 : Int32) h0.size T85.heap n0 Z96 I85) (by decide) (W := 0) (by decide) (by decide) (by decide) rfl (by rw [hml]; rfl) (argsL := []) (lenOf own_pd7 rfl) (rest := []) rfl rfl (Nat.le_of_eq rfl) (hb hby at_117) ?_
    intro _ T95 L95 X95 hQ95
    obtain ⟨rfl, N95q, e95⟩ := hQ95
    have N95 := Fr.app N85 N95q
    show oG p e below _ (T95.setTop (mkF m 120 #[.val (.int x0), .val (.int x1), .val (.int x2), .val (.int x3), .val (.int x4), .val (.int x5), .val (.int (x0 &&& (3 : Int32))), .val (.int (4 : Int32)), .val (.ref b2), .val (.ref b9)] [(.long (4 : Int64))]))
    refine og (fun _ hr => XS.iload X95.here hx rfl (hb hby at_120) rfl (XS.i2l X95.here hx rfl (hb hby at_122) rfl (XS.lcmp X95.here hx rfl (hb hby at_123) rfl (XS.ifNo X95.here hx rfl (hb hby at_124) rfl ((if0 _ _).trans (teq (by decide)).2) (XS.iconst X95.here hx rfl (hb hby at_127) (XS.goto X95.here hx rfl (pc0 := 128) (pc' := 132) rfl (hb hby at_128) (by decide) (by decide) hr)))))) ?_
    show oG p e below _ (T95.setTop (mkF m 132 #[.val (.int x0), .val (.int x1), .val (.int x2), .val (.int x3), .val (.int x4), .val (.int x5), .val (.int (x0 &&& (3 : Int32))), .val (.int (4 : Int32)), .val (.ref b2), .val (.ref b9)] [(.int (1 : Int32))]))
    exact own_retN X95 hx hlk Bd.returns (t := .boolean) (by simp) (hb hby at_132) (by decide) (by decide) ⟨rfl, N95⟩
  rcases Classical.em (((x1 &&& (7 : Int32)) % (5 : Int32)) = (1 : Int32)) with c98 | c98
  · rw [c98]
    show oG p e below _ (T20.setTop (mkF m 45 #[.val (.int x0), .val (.int x1), .val (.int x2), .val (.int x3), .val (.int x4), .val (.int x5), .val (.int (x0 &&& (3 : Int32))), .val (.int (1 : Int32)), .val (.ref b2), .val (.ref b9)] []))
    refine og (fun _ hr => XS.iload X20.here hx rfl (hb hby at_45) rfl (XS.iconst X20.here hx rfl (hb hby at_47) (XS.icmpNo X20.here hx rfl (hb hby at_48) rfl (flt (by decide)).1 (XS.aload X20.here hx rfl (hb hby at_51) rfl rfl (XS.aload X20.here hx rfl (hb hby at_53) rfl rfl (XS.iloadN X20.here hx rfl (hb hby at_55) rfl hr)))))) ?_
    show oG p e below _ (T20.setTop (mkF m 56 #[.val (.int x0), .val (.int x1), .val (.int x2), .val (.int x3), .val (.int x4), .val (.int x5), .val (.int (x0 &&& (3 : Int32))), .val (.int (1 : Int32)), .val (.ref b2), .val (.ref b9)] [(.int x2), (.ref b2), (.ref b9)]))
    have K100 := (K18.trans K20 (fun x hx_ => Or.inr (hg20 x hx_)))
    have f101 := (own_sta_keep S_TRUE K100 all0)
    have f102 := (own_sta_keep S_FALSE K100 all0)
    have f103 := (own_sta_keep S_UNKNOWN K100 all0)
    have f104 := (own_sta_keep S_INCONSISTENT K100 all0)
    have Z105 := (Nat.le_trans Z25 K20.1)
    refine own_cs X20 hx hZ hown (hw _ (own_m 39 rfl)) (hw _ (own_m 40 rfl)) (hw _ (own_m 41 rfl)) (hw _ (own_m 42 rfl)) (by decide) (rm := { frames := 0, cells := 0, slots := 0, locals := 0 }) (rm_truth l Z a0 hw [] x2 r_TRUE r_FALSE r_UNKNOWN r_INCONSISTENT T20.heap n0 Z105 f101 f102 f103 f104) (by decide) (W := 2) (by decide) (by decide) (by decide) rfl (by rw [hml]; rfl) (argsL := [(.int x2)]) (lenOf own_pd5 rfl) (rest := [(.ref b2), (.ref b9)]) rfl rfl (Nat.le_of_eq rfl) (hb hby at_56) ?_
    intro _ T99 L99 X99 hQ99
    obtain ⟨t99, rfl, ht99, N99q, e99⟩ := hQ99
    have N99 := Fr.app N20 N99q
    show oG p e below _ (T99.setTop (mkF m 59 #[.val (.int x0), .val (.int x1), .val (.int x2), .val (.int x3), .val (.int x4), .val (.int x5), .val (.int (x0 &&& (3 : Int32))), .val (.int (1 : Int32)), .val (.ref b2), .val (.ref b9)] [(.ref t99), (.ref b2), (.ref b9)]))
    have f107 := (E_TRUE.keep K100)
    have f108 := (F_TRUE_ordinal.keep K100 nin0)
    have f109 := (E_FALSE.keep K100)
    have f110 := (F_FALSE_ordinal.keep K100 nin0)
    have f111 := (E_UNKNOWN.keep K100)
    have f112 := (F_UNKNOWN_ordinal.keep K100 nin0)
    have f113 := (E_INCONSISTENT.keep K100)
    have f114 := (F_INCONSISTENT_ordinal.keep K100 nin0)
    have f115 := (A9.keep K20)
    refine own_cv X99 hx hZ hown (notFace_of_selects (args := #[]) (mvT hZ (hw _ (own_m 47 rfl)))) (hw _ (own_m 44 rfl)) (hw _ (own_m 45 rfl)) (hw _ (own_m 47 rfl)) (hw _ (own_m 46 rfl)) (hw _ (own_m 3 rfl)) (hw _ (own_m 48 rfl)) (by decide) f115 (rm := { frames := 2, cells := 1, slots := 16, locals := 56 }) (rm_add l Z a0 hw [] b9 b2 t99 r_TRUE r_FALSE r_UNKNOWN r_INCONSISTENT (x0 &&& (3 : Int32)) (0 : Int32) (1 : Int32) h0.size T20.heap n0 Z105 Z0 I20 ht99 f107 f108 f109 f110 f111 f112 f113 f114 (by decide) (by decide)) (by decide) (W := 0) (by decide) (by decide) (by decide) e99 (by rw [hml]; rfl) (argsL := [(.ref b2), (.ref t99)]) (lenOf own_pd6 rfl) (rest := []) rfl rfl (Nat.le_of_eq rfl) (hb hby at_59) ?_
    intro _ T106 L106 X106 hQ106
    obtain ⟨rfl, N106q, ws106, K106, hg106, I106⟩ := hQ106
    have N106 := Fr.app N99 N106q
    show oG p e below _ (T106.setTop (mkF m 62 #[.val (.int x0), .val (.int x1), .val (.int x2), .val (.int x3), .val (.int x4), .val (.int x5), .val (.int (x0 &&& (3 : Int32))), .val (.int (1 : Int32)), .val (.ref b2), .val (.ref b9)] []))
    refine og (fun _ hr => XS.iload X106.here hx rfl (hb hby at_62) rfl (XS.iconst X106.here hx rfl (hb hby at_64) (XS.icmpYes X106.here hx rfl (pc0 := 65) (pc' := 79) rfl (hb hby at_65) rfl (tlt (by decide)).1 (by decide) (by decide) (XS.iload X106.here hx rfl (hb hby at_79) rfl (XS.iconst X106.here hx rfl (hb hby at_81) (XS.icmpYes X106.here hx rfl (pc0 := 82) (pc' := 97) rfl (hb hby at_82) rfl (tlt (by decide)).1 (by decide) (by decide) (XS.iload X106.here hx rfl (hb hby at_97) rfl (XS.iconst X106.here hx rfl (hb hby at_99) (XS.icmpYes X106.here hx rfl (pc0 := 100) (pc' := 115) rfl (hb hby at_100) rfl (tlt (by decide)).1 (by decide) (by decide) (XS.aload X106.here hx rfl (hb hby at_115) rfl rfl hr)))))))))) ?_
    show oG p e below _ (T106.setTop (mkF m 117 #[.val (.int x0), .val (.int x1), .val (.int x2), .val (.int x3), .val (.int x4), .val (.int x5), .val (.int (x0 &&& (3 : Int32))), .val (.int (1 : Int32)), .val (.ref b2), .val (.ref b9)] [(.ref b9)]))
    have Z117 := (Nat.le_trans Z105 K106.1)
    have f118 := (f115.keep K106)
    refine own_cv X106 hx hZ hown (notFace_of_selects (args := #[]) (mvT hZ (hw _ (own_m 67 rfl)))) (hw _ (own_m 64 rfl)) (hw _ (own_m 65 rfl)) (hw _ (own_m 67 rfl)) (hw _ (own_m 66 rfl)) (hw _ (own_m 3 rfl)) (hw _ (own_m 68 rfl)) (by decide) f118 (rm := { frames := 0, cells := 0, slots := 0, locals := 0 }) (rm_size l Z a0 hw [] b9 b2 (x0 &&& (3 : Int32)) (1 : Int32) h0.size T106.heap n0 Z117 I106) (by decide) (W := 0) (by decide) (by decide) (by decide) rfl (by rw [hml]; rfl) (argsL := []) (lenOf own_pd7 rfl) (rest := []) rfl rfl (Nat.le_of_eq rfl) (hb hby at_117) ?_
    intro _ T116 L116 X116 hQ116
    obtain ⟨rfl, N116q, e116⟩ := hQ116
    have N116 := Fr.app N106 N116q
    show oG p e below _ (T116.setTop (mkF m 120 #[.val (.int x0), .val (.int x1), .val (.int x2), .val (.int x3), .val (.int x4), .val (.int x5), .val (.int (x0 &&& (3 : Int32))), .val (.int (1 : Int32)), .val (.ref b2), .val (.ref b9)] [(.long (1 : Int64))]))
    refine og (fun _ hr => XS.iload X116.here hx rfl (hb hby at_120) rfl (XS.i2l X116.here hx rfl (hb hby at_122) rfl (XS.lcmp X116.here hx rfl (hb hby at_123) rfl (XS.ifNo X116.here hx rfl (hb hby at_124) rfl ((if0 _ _).trans (teq (by decide)).2) (XS.iconst X116.here hx rfl (hb hby at_127) (XS.goto X116.here hx rfl (pc0 := 128) (pc' := 132) rfl (hb hby at_128) (by decide) (by decide) hr)))))) ?_
    show oG p e below _ (T116.setTop (mkF m 132 #[.val (.int x0), .val (.int x1), .val (.int x2), .val (.int x3), .val (.int x4), .val (.int x5), .val (.int (x0 &&& (3 : Int32))), .val (.int (1 : Int32)), .val (.ref b2), .val (.ref b9)] [(.int (1 : Int32))]))
    exact own_retN X116 hx hlk Bd.returns (t := .boolean) (by simp) (hb hby at_132) (by decide) (by decide) ⟨rfl, N116⟩
  rcases Classical.em (((x1 &&& (7 : Int32)) % (5 : Int32)) = (0 : Int32)) with c119 | c119
  · rw [c119]
    show oG p e below _ (T20.setTop (mkF m 45 #[.val (.int x0), .val (.int x1), .val (.int x2), .val (.int x3), .val (.int x4), .val (.int x5), .val (.int (x0 &&& (3 : Int32))), .val (.int (0 : Int32)), .val (.ref b2), .val (.ref b9)] []))
    refine og (fun _ hr => XS.iload X20.here hx rfl (hb hby at_45) rfl (XS.iconst X20.here hx rfl (hb hby at_47) (XS.icmpYes X20.here hx rfl (pc0 := 48) (pc' := 62) rfl (hb hby at_48) rfl (tlt (by decide)).1 (by decide) (by decide) (XS.iload X20.here hx rfl (hb hby at_62) rfl (XS.iconst X20.here hx rfl (hb hby at_64) (XS.icmpYes X20.here hx rfl (pc0 := 65) (pc' := 79) rfl (hb hby at_65) rfl (tlt (by decide)).1 (by decide) (by decide) (XS.iload X20.here hx rfl (hb hby at_79) rfl (XS.iconst X20.here hx rfl (hb hby at_81) (XS.icmpYes X20.here hx rfl (pc0 := 82) (pc' := 97) rfl (hb hby at_82) rfl (tlt (by decide)).1 (by decide) (by decide) (XS.iload X20.here hx rfl (hb hby at_97) rfl (XS.iconst X20.here hx rfl (hb hby at_99) (XS.icmpYes X20.here hx rfl (pc0 := 100) (pc' := 115) rfl (hb hby at_100) rfl (tlt (by decide)).1 (by decide) (by decide) (XS.aload X20.here hx rfl (hb hby at_115) rfl rfl hr))))))))))))) ?_
    show oG p e below _ (T20.setTop (mkF m 117 #[.val (.int x0), .val (.int x1), .val (.int x2), .val (.int x3), .val (.int x4), .val (.int x5), .val (.int (x0 &&& (3 : Int32))), .val (.int (0 : Int32)), .val (.ref b2), .val (.ref b9)] [(.ref b9)]))
    have Z121 := (Nat.le_trans Z25 K20.1)
    have f122 := (A9.keep K20)
    refine own_cv X20 hx hZ hown (notFace_of_selects (args := #[]) (mvT hZ (hw _ (own_m 67 rfl)))) (hw _ (own_m 64 rfl)) (hw _ (own_m 65 rfl)) (hw _ (own_m 67 rfl)) (hw _ (own_m 66 rfl)) (hw _ (own_m 3 rfl)) (hw _ (own_m 68 rfl)) (by decide) f122 (rm := { frames := 0, cells := 0, slots := 0, locals := 0 }) (rm_size l Z a0 hw [] b9 b2 (x0 &&& (3 : Int32)) (0 : Int32) h0.size T20.heap n0 Z121 I20) (by decide) (W := 0) (by decide) (by decide) (by decide) rfl (by rw [hml]; rfl) (argsL := []) (lenOf own_pd7 rfl) (rest := []) rfl rfl (Nat.le_of_eq rfl) (hb hby at_117) ?_
    intro _ T120 L120 X120 hQ120
    obtain ⟨rfl, N120q, e120⟩ := hQ120
    have N120 := Fr.app N20 N120q
    show oG p e below _ (T120.setTop (mkF m 120 #[.val (.int x0), .val (.int x1), .val (.int x2), .val (.int x3), .val (.int x4), .val (.int x5), .val (.int (x0 &&& (3 : Int32))), .val (.int (0 : Int32)), .val (.ref b2), .val (.ref b9)] [(.long (0 : Int64))]))
    refine og (fun _ hr => XS.iload X120.here hx rfl (hb hby at_120) rfl (XS.i2l X120.here hx rfl (hb hby at_122) rfl (XS.lcmp X120.here hx rfl (hb hby at_123) rfl (XS.ifNo X120.here hx rfl (hb hby at_124) rfl ((if0 _ _).trans (teq (by decide)).2) (XS.iconst X120.here hx rfl (hb hby at_127) (XS.goto X120.here hx rfl (pc0 := 128) (pc' := 132) rfl (hb hby at_128) (by decide) (by decide) hr)))))) ?_
    show oG p e below _ (T120.setTop (mkF m 132 #[.val (.int x0), .val (.int x1), .val (.int x2), .val (.int x3), .val (.int x4), .val (.int x5), .val (.int (x0 &&& (3 : Int32))), .val (.int (0 : Int32)), .val (.ref b2), .val (.ref b9)] [(.int (1 : Int32))]))
    exact own_retN X120 hx hlk Bd.returns (t := .boolean) (by simp) (hb hby at_132) (by decide) (by decide) ⟨rfl, N120⟩
  rcases Classical.em (((x1 &&& (7 : Int32)) % (5 : Int32)) = (2 : Int32)) with c123 | c123
  · rw [c123]
    show oG p e below _ (T20.setTop (mkF m 45 #[.val (.int x0), .val (.int x1), .val (.int x2), .val (.int x3), .val (.int x4), .val (.int x5), .val (.int (x0 &&& (3 : Int32))), .val (.int (2 : Int32)), .val (.ref b2), .val (.ref b9)] []))
    refine og (fun _ hr => XS.iload X20.here hx rfl (hb hby at_45) rfl (XS.iconst X20.here hx rfl (hb hby at_47) (XS.icmpNo X20.here hx rfl (hb hby at_48) rfl (flt (by decide)).1 (XS.aload X20.here hx rfl (hb hby at_51) rfl rfl (XS.aload X20.here hx rfl (hb hby at_53) rfl rfl (XS.iloadN X20.here hx rfl (hb hby at_55) rfl hr)))))) ?_
    show oG p e below _ (T20.setTop (mkF m 56 #[.val (.int x0), .val (.int x1), .val (.int x2), .val (.int x3), .val (.int x4), .val (.int x5), .val (.int (x0 &&& (3 : Int32))), .val (.int (2 : Int32)), .val (.ref b2), .val (.ref b9)] [(.int x2), (.ref b2), (.ref b9)]))
    have K125 := (K18.trans K20 (fun x hx_ => Or.inr (hg20 x hx_)))
    have f126 := (own_sta_keep S_TRUE K125 all0)
    have f127 := (own_sta_keep S_FALSE K125 all0)
    have f128 := (own_sta_keep S_UNKNOWN K125 all0)
    have f129 := (own_sta_keep S_INCONSISTENT K125 all0)
    have Z130 := (Nat.le_trans Z25 K20.1)
    refine own_cs X20 hx hZ hown (hw _ (own_m 39 rfl)) (hw _ (own_m 40 rfl)) (hw _ (own_m 41 rfl)) (hw _ (own_m 42 rfl)) (by decide) (rm := { frames := 0, cells := 0, slots := 0, locals := 0 }) (rm_truth l Z a0 hw [] x2 r_TRUE r_FALSE r_UNKNOWN r_INCONSISTENT T20.heap n0 Z130 f126 f127 f128 f129) (by decide) (W := 2) (by decide) (by decide) (by decide) rfl (by rw [hml]; rfl) (argsL := [(.int x2)]) (lenOf own_pd5 rfl) (rest := [(.ref b2), (.ref b9)]) rfl rfl (Nat.le_of_eq rfl) (hb hby at_56) ?_
    intro _ T124 L124 X124 hQ124
    obtain ⟨t124, rfl, ht124, N124q, e124⟩ := hQ124
    have N124 := Fr.app N20 N124q
    show oG p e below _ (T124.setTop (mkF m 59 #[.val (.int x0), .val (.int x1), .val (.int x2), .val (.int x3), .val (.int x4), .val (.int x5), .val (.int (x0 &&& (3 : Int32))), .val (.int (2 : Int32)), .val (.ref b2), .val (.ref b9)] [(.ref t124), (.ref b2), (.ref b9)]))
    have f132 := (E_TRUE.keep K125)
    have f133 := (F_TRUE_ordinal.keep K125 nin0)
    have f134 := (E_FALSE.keep K125)
    have f135 := (F_FALSE_ordinal.keep K125 nin0)
    have f136 := (E_UNKNOWN.keep K125)
    have f137 := (F_UNKNOWN_ordinal.keep K125 nin0)
    have f138 := (E_INCONSISTENT.keep K125)
    have f139 := (F_INCONSISTENT_ordinal.keep K125 nin0)
    have f140 := (A9.keep K20)
    refine own_cv X124 hx hZ hown (notFace_of_selects (args := #[]) (mvT hZ (hw _ (own_m 47 rfl)))) (hw _ (own_m 44 rfl)) (hw _ (own_m 45 rfl)) (hw _ (own_m 47 rfl)) (hw _ (own_m 46 rfl)) (hw _ (own_m 3 rfl)) (hw _ (own_m 48 rfl)) (by decide) f140 (rm := { frames := 2, cells := 1, slots := 16, locals := 56 }) (rm_add l Z a0 hw [] b9 b2 t124 r_TRUE r_FALSE r_UNKNOWN r_INCONSISTENT (x0 &&& (3 : Int32)) (0 : Int32) (1 : Int32) h0.size T20.heap n0 Z130 Z0 I20 ht124 f132 f133 f134 f135 f136 f137 f138 f139 (by decide) (by decide)) (by decide) (W := 0) (by decide) (by decide) (by decide) e124 (by rw [hml]; rfl) (argsL := [(.ref b2), (.ref t124)]) (lenOf own_pd6 rfl) (rest := []) rfl rfl (Nat.le_of_eq rfl) (hb hby at_59) ?_
    intro _ T131 L131 X131 hQ131
    obtain ⟨rfl, N131q, ws131, K131, hg131, I131⟩ := hQ131
    have N131 := Fr.app N124 N131q
    show oG p e below _ (T131.setTop (mkF m 62 #[.val (.int x0), .val (.int x1), .val (.int x2), .val (.int x3), .val (.int x4), .val (.int x5), .val (.int (x0 &&& (3 : Int32))), .val (.int (2 : Int32)), .val (.ref b2), .val (.ref b9)] []))
    refine og (fun _ hr => XS.iload X131.here hx rfl (hb hby at_62) rfl (XS.iconst X131.here hx rfl (hb hby at_64) (XS.icmpNo X131.here hx rfl (hb hby at_65) rfl (flt (by decide)).1 (XS.aload X131.here hx rfl (hb hby at_68) rfl rfl (XS.aload X131.here hx rfl (hb hby at_70) rfl rfl (XS.iloadN X131.here hx rfl (hb hby at_72) rfl hr)))))) ?_
    show oG p e below _ (T131.setTop (mkF m 73 #[.val (.int x0), .val (.int x1), .val (.int x2), .val (.int x3), .val (.int x4), .val (.int x5), .val (.int (x0 &&& (3 : Int32))), .val (.int (2 : Int32)), .val (.ref b2), .val (.ref b9)] [(.int x3), (.ref b2), (.ref b9)]))
    have K142 := (K125.trans K131 (fun x hx_ => Or.inr (hg131 x hx_)))
    have f143 := (own_sta_keep S_TRUE K142 all0)
    have f144 := (own_sta_keep S_FALSE K142 all0)
    have f145 := (own_sta_keep S_UNKNOWN K142 all0)
    have f146 := (own_sta_keep S_INCONSISTENT K142 all0)
    have Z147 := (Nat.le_trans Z130 K131.1)
    refine own_cs X131 hx hZ hown (hw _ (own_m 39 rfl)) (hw _ (own_m 40 rfl)) (hw _ (own_m 41 rfl)) (hw _ (own_m 42 rfl)) (by decide) (rm := { frames := 0, cells := 0, slots := 0, locals := 0 }) (rm_truth l Z a0 hw [] x3 r_TRUE r_FALSE r_UNKNOWN r_INCONSISTENT T131.heap n0 Z147 f143 f144 f145 f146) (by decide) (W := 2) (by decide) (by decide) (by decide) rfl (by rw [hml]; rfl) (argsL := [(.int x3)]) (lenOf own_pd5 rfl) (rest := [(.ref b2), (.ref b9)]) rfl rfl (Nat.le_of_eq rfl) (hb hby at_73) ?_
    intro _ T141 L141 X141 hQ141
    obtain ⟨t141, rfl, ht141, N141q, e141⟩ := hQ141
    have N141 := Fr.app N131 N141q
    show oG p e below _ (T141.setTop (mkF m 76 #[.val (.int x0), .val (.int x1), .val (.int x2), .val (.int x3), .val (.int x4), .val (.int x5), .val (.int (x0 &&& (3 : Int32))), .val (.int (2 : Int32)), .val (.ref b2), .val (.ref b9)] [(.ref t141), (.ref b2), (.ref b9)]))
    have f149 := (f132.keep K131)
    have f150 := (F_TRUE_ordinal.keep K142 nin0)
    have f151 := (f134.keep K131)
    have f152 := (F_FALSE_ordinal.keep K142 nin0)
    have f153 := (f136.keep K131)
    have f154 := (F_UNKNOWN_ordinal.keep K142 nin0)
    have f155 := (f138.keep K131)
    have f156 := (F_INCONSISTENT_ordinal.keep K142 nin0)
    have f157 := (f140.keep K131)
    refine own_cv X141 hx hZ hown (notFace_of_selects (args := #[]) (mvT hZ (hw _ (own_m 47 rfl)))) (hw _ (own_m 44 rfl)) (hw _ (own_m 45 rfl)) (hw _ (own_m 47 rfl)) (hw _ (own_m 46 rfl)) (hw _ (own_m 3 rfl)) (hw _ (own_m 48 rfl)) (by decide) f157 (rm := { frames := 2, cells := 1, slots := 16, locals := 56 }) (rm_add l Z a0 hw [] b9 b2 t141 r_TRUE r_FALSE r_UNKNOWN r_INCONSISTENT (x0 &&& (3 : Int32)) (1 : Int32) (2 : Int32) h0.size T131.heap n0 Z147 Z0 I131 ht141 f149 f150 f151 f152 f153 f154 f155 f156 (by decide) (by decide)) (by decide) (W := 0) (by decide) (by decide) (by decide) e141 (by rw [hml]; rfl) (argsL := [(.ref b2), (.ref t141)]) (lenOf own_pd6 rfl) (rest := []) rfl rfl (Nat.le_of_eq rfl) (hb hby at_76) ?_
    intro _ T148 L148 X148 hQ148
    obtain ⟨rfl, N148q, ws148, K148, hg148, I148⟩ := hQ148
    have N148 := Fr.app N141 N148q
    show oG p e below _ (T148.setTop (mkF m 79 #[.val (.int x0), .val (.int x1), .val (.int x2), .val (.int x3), .val (.int x4), .val (.int x5), .val (.int (x0 &&& (3 : Int32))), .val (.int (2 : Int32)), .val (.ref b2), .val (.ref b9)] []))
    refine og (fun _ hr => XS.iload X148.here hx rfl (hb hby at_79) rfl (XS.iconst X148.here hx rfl (hb hby at_81) (XS.icmpYes X148.here hx rfl (pc0 := 82) (pc' := 97) rfl (hb hby at_82) rfl (tlt (by decide)).1 (by decide) (by decide) (XS.iload X148.here hx rfl (hb hby at_97) rfl (XS.iconst X148.here hx rfl (hb hby at_99) (XS.icmpYes X148.here hx rfl (pc0 := 100) (pc' := 115) rfl (hb hby at_100) rfl (tlt (by decide)).1 (by decide) (by decide) (XS.aload X148.here hx rfl (hb hby at_115) rfl rfl hr))))))) ?_
    show oG p e below _ (T148.setTop (mkF m 117 #[.val (.int x0), .val (.int x1), .val (.int x2), .val (.int x3), .val (.int x4), .val (.int x5), .val (.int (x0 &&& (3 : Int32))), .val (.int (2 : Int32)), .val (.ref b2), .val (.ref b9)] [(.ref b9)]))
    have Z159 := (Nat.le_trans Z147 K148.1)
    have f160 := (f157.keep K148)
    refine own_cv X148 hx hZ hown (notFace_of_selects (args := #[]) (mvT hZ (hw _ (own_m 67 rfl)))) (hw _ (own_m 64 rfl)) (hw _ (own_m 65 rfl)) (hw _ (own_m 67 rfl)) (hw _ (own_m 66 rfl)) (hw _ (own_m 3 rfl)) (hw _ (own_m 68 rfl)) (by decide) f160 (rm := { frames := 0, cells := 0, slots := 0, locals := 0 }) (rm_size l Z a0 hw [] b9 b2 (x0 &&& (3 : Int32)) (2 : Int32) h0.size T148.heap n0 Z159 I148) (by decide) (W := 0) (by decide) (by decide) (by decide) rfl (by rw [hml]; rfl) (argsL := []) (lenOf own_pd7 rfl) (rest := []) rfl rfl (Nat.le_of_eq rfl) (hb hby at_117) ?_
    intro _ T158 L158 X158 hQ158
    obtain ⟨rfl, N158q, e158⟩ := hQ158
    have N158 := Fr.app N148 N158q
    show oG p e below _ (T158.setTop (mkF m 120 #[.val (.int x0), .val (.int x1), .val (.int x2), .val (.int x3), .val (.int x4), .val (.int x5), .val (.int (x0 &&& (3 : Int32))), .val (.int (2 : Int32)), .val (.ref b2), .val (.ref b9)] [(.long (2 : Int64))]))
    refine og (fun _ hr => XS.iload X158.here hx rfl (hb hby at_120) rfl (XS.i2l X158.here hx rfl (hb hby at_122) rfl (XS.lcmp X158.here hx rfl (hb hby at_123) rfl (XS.ifNo X158.here hx rfl (hb hby at_124) rfl ((if0 _ _).trans (teq (by decide)).2) (XS.iconst X158.here hx rfl (hb hby at_127) (XS.goto X158.here hx rfl (pc0 := 128) (pc' := 132) rfl (hb hby at_128) (by decide) (by decide) hr)))))) ?_
    show oG p e below _ (T158.setTop (mkF m 132 #[.val (.int x0), .val (.int x1), .val (.int x2), .val (.int x3), .val (.int x4), .val (.int x5), .val (.int (x0 &&& (3 : Int32))), .val (.int (2 : Int32)), .val (.ref b2), .val (.ref b9)] [(.int (1 : Int32))]))
    exact own_retN X158 hx hlk Bd.returns (t := .boolean) (by simp) (hb hby at_132) (by decide) (by decide) ⟨rfl, N158⟩
  have c161 : ((x1 &&& (7 : Int32)) % (5 : Int32)) = (3 : Int32) := by
    have q0 := rng32 x1
    have q1 := c_mask x1 (7 : Int32) 3 (by decide) (by decide)
    have q2 := c_irem (x1 &&& (7 : Int32)) (5 : Int32) 5 (by decide)
    have p0 := c26
    have p1 := c98
    have p2 := c119
    have p3 := c123
    simp only [true_implies, Int32.lt_iff_toInt_lt, ← Int32.toInt_inj, Int32.reduceToInt, Int64.lt_iff_toInt_lt, ← Int64.toInt_inj, Int64.reduceToInt] at q0 q1 q2 p0 p1 p2 p3 ⊢
    omega
  rw [c161]
  show oG p e below _ (T20.setTop (mkF m 45 #[.val (.int x0), .val (.int x1), .val (.int x2), .val (.int x3), .val (.int x4), .val (.int x5), .val (.int (x0 &&& (3 : Int32))), .val (.int (3 : Int32)), .val (.ref b2), .val (.ref b9)] []))
  refine og (fun _ hr => XS.iload X20.here hx rfl (hb hby at_45) rfl (XS.iconst X20.here hx rfl (hb hby at_47) (XS.icmpNo X20.here hx rfl (hb hby at_48) rfl (flt (by decide)).1 (XS.aload X20.here hx rfl (hb hby at_51) rfl rfl (XS.aload X20.here hx rfl (hb hby at_53) rfl rfl (XS.iloadN X20.here hx rfl (hb hby at_55) rfl hr)))))) ?_
  show oG p e below _ (T20.setTop (mkF m 56 #[.val (.int x0), .val (.int x1), .val (.int x2), .val (.int x3), .val (.int x4), .val (.int x5), .val (.int (x0 &&& (3 : Int32))), .val (.int (3 : Int32)), .val (.ref b2), .val (.ref b9)] [(.int x2), (.ref b2), (.ref b9)]))
  have K163 := (K18.trans K20 (fun x hx_ => Or.inr (hg20 x hx_)))
  have f164 := (own_sta_keep S_TRUE K163 all0)
  have f165 := (own_sta_keep S_FALSE K163 all0)
  have f166 := (own_sta_keep S_UNKNOWN K163 all0)
  have f167 := (own_sta_keep S_INCONSISTENT K163 all0)
  have Z168 := (Nat.le_trans Z25 K20.1)
  refine own_cs X20 hx hZ hown (hw _ (own_m 39 rfl)) (hw _ (own_m 40 rfl)) (hw _ (own_m 41 rfl)) (hw _ (own_m 42 rfl)) (by decide) (rm := { frames := 0, cells := 0, slots := 0, locals := 0 }) (rm_truth l Z a0 hw [] x2 r_TRUE r_FALSE r_UNKNOWN r_INCONSISTENT T20.heap n0 Z168 f164 f165 f166 f167) (by decide) (W := 2) (by decide) (by decide) (by decide) rfl (by rw [hml]; rfl) (argsL := [(.int x2)]) (lenOf own_pd5 rfl) (rest := [(.ref b2), (.ref b9)]) rfl rfl (Nat.le_of_eq rfl) (hb hby at_56) ?_
  intro _ T162 L162 X162 hQ162
  obtain ⟨t162, rfl, ht162, N162q, e162⟩ := hQ162
  have N162 := Fr.app N20 N162q
  show oG p e below _ (T162.setTop (mkF m 59 #[.val (.int x0), .val (.int x1), .val (.int x2), .val (.int x3), .val (.int x4), .val (.int x5), .val (.int (x0 &&& (3 : Int32))), .val (.int (3 : Int32)), .val (.ref b2), .val (.ref b9)] [(.ref t162), (.ref b2), (.ref b9)]))
  have f170 := (E_TRUE.keep K163)
  have f171 := (F_TRUE_ordinal.keep K163 nin0)
  have f172 := (E_FALSE.keep K163)
  have f173 := (F_FALSE_ordinal.keep K163 nin0)
  have f174 := (E_UNKNOWN.keep K163)
  have f175 := (F_UNKNOWN_ordinal.keep K163 nin0)
  have f176 := (E_INCONSISTENT.keep K163)
  have f177 := (F_INCONSISTENT_ordinal.keep K163 nin0)
  have f178 := (A9.keep K20)
  refine own_cv X162 hx hZ hown (notFace_of_selects (args := #[]) (mvT hZ (hw _ (own_m 47 rfl)))) (hw _ (own_m 44 rfl)) (hw _ (own_m 45 rfl)) (hw _ (own_m 47 rfl)) (hw _ (own_m 46 rfl)) (hw _ (own_m 3 rfl)) (hw _ (own_m 48 rfl)) (by decide) f178 (rm := { frames := 2, cells := 1, slots := 16, locals := 56 }) (rm_add l Z a0 hw [] b9 b2 t162 r_TRUE r_FALSE r_UNKNOWN r_INCONSISTENT (x0 &&& (3 : Int32)) (0 : Int32) (1 : Int32) h0.size T20.heap n0 Z168 Z0 I20 ht162 f170 f171 f172 f173 f174 f175 f176 f177 (by decide) (by decide)) (by decide) (W := 0) (by decide) (by decide) (by decide) e162 (by rw [hml]; rfl) (argsL := [(.ref b2), (.ref t162)]) (lenOf own_pd6 rfl) (rest := []) rfl rfl (Nat.le_of_eq rfl) (hb hby at_59) ?_
  intro _ T169 L169 X169 hQ169
  obtain ⟨rfl, N169q, ws169, K169, hg169, I169⟩ := hQ169
  have N169 := Fr.app N162 N169q
  show oG p e below _ (T169.setTop (mkF m 62 #[.val (.int x0), .val (.int x1), .val (.int x2), .val (.int x3), .val (.int x4), .val (.int x5), .val (.int (x0 &&& (3 : Int32))), .val (.int (3 : Int32)), .val (.ref b2), .val (.ref b9)] []))
  refine og (fun _ hr => XS.iload X169.here hx rfl (hb hby at_62) rfl (XS.iconst X169.here hx rfl (hb hby at_64) (XS.icmpNo X169.here hx rfl (hb hby at_65) rfl (flt (by decide)).1 (XS.aload X169.here hx rfl (hb hby at_68) rfl rfl (XS.aload X169.here hx rfl (hb hby at_70) rfl rfl (XS.iloadN X169.here hx rfl (hb hby at_72) rfl hr)))))) ?_
  show oG p e below _ (T169.setTop (mkF m 73 #[.val (.int x0), .val (.int x1), .val (.int x2), .val (.int x3), .val (.int x4), .val (.int x5), .val (.int (x0 &&& (3 : Int32))), .val (.int (3 : Int32)), .val (.ref b2), .val (.ref b9)] [(.int x3), (.ref b2), (.ref b9)]))
  have K180 := (K163.trans K169 (fun x hx_ => Or.inr (hg169 x hx_)))
  have f181 := (own_sta_keep S_TRUE K180 all0)
  have f182 := (own_sta_keep S_FALSE K180 all0)
  have f183 := (own_sta_keep S_UNKNOWN K180 all0)
  have f184 := (own_sta_keep S_INCONSISTENT K180 all0)
  have Z185 := (Nat.le_trans Z168 K169.1)
  refine own_cs X169 hx hZ hown (hw _ (own_m 39 rfl)) (hw _ (own_m 40 rfl)) (hw _ (own_m 41 rfl)) (hw _ (own_m 42 rfl)) (by decide) (rm := { frames := 0, cells := 0, slots := 0, locals := 0 }) (rm_truth l Z a0 hw [] x3 r_TRUE r_FALSE r_UNKNOWN r_INCONSISTENT T169.heap n0 Z185 f181 f182 f183 f184) (by decide) (W := 2) (by decide) (by decide) (by decide) rfl (by rw [hml]; rfl) (argsL := [(.int x3)]) (lenOf own_pd5 rfl) (rest := [(.ref b2), (.ref b9)]) rfl rfl (Nat.le_of_eq rfl) (hb hby at_73) ?_
  intro _ T179 L179 X179 hQ179
  obtain ⟨t179, rfl, ht179, N179q, e179⟩ := hQ179
  have N179 := Fr.app N169 N179q
  show oG p e below _ (T179.setTop (mkF m 76 #[.val (.int x0), .val (.int x1), .val (.int x2), .val (.int x3), .val (.int x4), .val (.int x5), .val (.int (x0 &&& (3 : Int32))), .val (.int (3 : Int32)), .val (.ref b2), .val (.ref b9)] [(.ref t179), (.ref b2), (.ref b9)]))
  have f187 := (f170.keep K169)
  have f188 := (F_TRUE_ordinal.keep K180 nin0)
  have f189 := (f172.keep K169)
  have f190 := (F_FALSE_ordinal.keep K180 nin0)
  have f191 := (f174.keep K169)
  have f192 := (F_UNKNOWN_ordinal.keep K180 nin0)
  have f193 := (f176.keep K169)
  have f194 := (F_INCONSISTENT_ordinal.keep K180 nin0)
  have f195 := (f178.keep K169)
  refine own_cv X179 hx hZ hown (notFace_of_selects (args := #[]) (mvT hZ (hw _ (own_m 47 rfl)))) (hw _ (own_m 44 rfl)) (hw _ (own_m 45 rfl)) (hw _ (own_m 47 rfl)) (hw _ (own_m 46 rfl)) (hw _ (own_m 3 rfl)) (hw _ (own_m 48 rfl)) (by decide) f195 (rm := { frames := 2, cells := 1, slots := 16, locals := 56 }) (rm_add l Z a0 hw [] b9 b2 t179 r_TRUE r_FALSE r_UNKNOWN r_INCONSISTENT (x0 &&& (3 : Int32)) (1 : Int32) (2 : Int32) h0.size T169.heap n0 Z185 Z0 I169 ht179 f187 f188 f189 f190 f191 f192 f193 f194 (by decide) (by decide)) (by decide) (W := 0) (by decide) (by decide) (by decide) e179 (by rw [hml]; rfl) (argsL := [(.ref b2), (.ref t179)]) (lenOf own_pd6 rfl) (rest := []) rfl rfl (Nat.le_of_eq rfl) (hb hby at_76) ?_
  intro _ T186 L186 X186 hQ186
  obtain ⟨rfl, N186q, ws186, K186, hg186, I186⟩ := hQ186
  have N186 := Fr.app N179 N186q
  show oG p e below _ (T186.setTop (mkF m 79 #[.val (.int x0), .val (.int x1), .val (.int x2), .val (.int x3), .val (.int x4), .val (.int x5), .val (.int (x0 &&& (3 : Int32))), .val (.int (3 : Int32)), .val (.ref b2), .val (.ref b9)] []))
  refine og (fun _ hr => XS.iload X186.here hx rfl (hb hby at_79) rfl (XS.iconst X186.here hx rfl (hb hby at_81) (XS.icmpNo X186.here hx rfl (hb hby at_82) rfl (flt (by decide)).1 (XS.aload X186.here hx rfl (hb hby at_85) rfl rfl (XS.aload X186.here hx rfl (hb hby at_87) rfl rfl (XS.iload X186.here hx rfl (hb hby at_89) rfl hr)))))) ?_
  show oG p e below _ (T186.setTop (mkF m 91 #[.val (.int x0), .val (.int x1), .val (.int x2), .val (.int x3), .val (.int x4), .val (.int x5), .val (.int (x0 &&& (3 : Int32))), .val (.int (3 : Int32)), .val (.ref b2), .val (.ref b9)] [(.int x4), (.ref b2), (.ref b9)]))
  have K197 := (K180.trans K186 (fun x hx_ => Or.inr (hg186 x hx_)))
  have f198 := (own_sta_keep S_TRUE K197 all0)
  have f199 := (own_sta_keep S_FALSE K197 all0)
  have f200 := (own_sta_keep S_UNKNOWN K197 all0)
  have f201 := (own_sta_keep S_INCONSISTENT K197 all0)
  have Z202 := (Nat.le_trans Z185 K186.1)
  refine own_cs X186 hx hZ hown (hw _ (own_m 39 rfl)) (hw _ (own_m 40 rfl)) (hw _ (own_m 41 rfl)) (hw _ (own_m 42 rfl)) (by decide) (rm := { frames := 0, cells := 0, slots := 0, locals := 0 }) (rm_truth l Z a0 hw [] x4 r_TRUE r_FALSE r_UNKNOWN r_INCONSISTENT T186.heap n0 Z202 f198 f199 f200 f201) (by decide) (W := 2) (by decide) (by decide) (by decide) rfl (by rw [hml]; rfl) (argsL := [(.int x4)]) (lenOf own_pd5 rfl) (rest := [(.ref b2), (.ref b9)]) rfl rfl (Nat.le_of_eq rfl) (hb hby at_91) ?_
  intro _ T196 L196 X196 hQ196
  obtain ⟨t196, rfl, ht196, N196q, e196⟩ := hQ196
  have N196 := Fr.app N186 N196q
  show oG p e below _ (T196.setTop (mkF m 94 #[.val (.int x0), .val (.int x1), .val (.int x2), .val (.int x3), .val (.int x4), .val (.int x5), .val (.int (x0 &&& (3 : Int32))), .val (.int (3 : Int32)), .val (.ref b2), .val (.ref b9)] [(.ref t196), (.ref b2), (.ref b9)]))
  have f204 := (f187.keep K186)
  have f205 := (F_TRUE_ordinal.keep K197 nin0)
  have f206 := (f189.keep K186)
  have f207 := (F_FALSE_ordinal.keep K197 nin0)
  have f208 := (f191.keep K186)
  have f209 := (F_UNKNOWN_ordinal.keep K197 nin0)
  have f210 := (f193.keep K186)
  have f211 := (F_INCONSISTENT_ordinal.keep K197 nin0)
  have f212 := (f195.keep K186)
  refine own_cv X196 hx hZ hown (notFace_of_selects (args := #[]) (mvT hZ (hw _ (own_m 47 rfl)))) (hw _ (own_m 44 rfl)) (hw _ (own_m 45 rfl)) (hw _ (own_m 47 rfl)) (hw _ (own_m 46 rfl)) (hw _ (own_m 3 rfl)) (hw _ (own_m 48 rfl)) (by decide) f212 (rm := { frames := 2, cells := 1, slots := 16, locals := 56 }) (rm_add l Z a0 hw [] b9 b2 t196 r_TRUE r_FALSE r_UNKNOWN r_INCONSISTENT (x0 &&& (3 : Int32)) (2 : Int32) (3 : Int32) h0.size T186.heap n0 Z202 Z0 I186 ht196 f204 f205 f206 f207 f208 f209 f210 f211 (by decide) (by decide)) (by decide) (W := 0) (by decide) (by decide) (by decide) e196 (by rw [hml]; rfl) (argsL := [(.ref b2), (.ref t196)]) (lenOf own_pd6 rfl) (rest := []) rfl rfl (Nat.le_of_eq rfl) (hb hby at_94) ?_
  intro _ T203 L203 X203 hQ203
  obtain ⟨rfl, N203q, ws203, K203, hg203, I203⟩ := hQ203
  have N203 := Fr.app N196 N203q
  show oG p e below _ (T203.setTop (mkF m 97 #[.val (.int x0), .val (.int x1), .val (.int x2), .val (.int x3), .val (.int x4), .val (.int x5), .val (.int (x0 &&& (3 : Int32))), .val (.int (3 : Int32)), .val (.ref b2), .val (.ref b9)] []))
  refine og (fun _ hr => XS.iload X203.here hx rfl (hb hby at_97) rfl (XS.iconst X203.here hx rfl (hb hby at_99) (XS.icmpYes X203.here hx rfl (pc0 := 100) (pc' := 115) rfl (hb hby at_100) rfl (tlt (by decide)).1 (by decide) (by decide) (XS.aload X203.here hx rfl (hb hby at_115) rfl rfl hr)))) ?_
  show oG p e below _ (T203.setTop (mkF m 117 #[.val (.int x0), .val (.int x1), .val (.int x2), .val (.int x3), .val (.int x4), .val (.int x5), .val (.int (x0 &&& (3 : Int32))), .val (.int (3 : Int32)), .val (.ref b2), .val (.ref b9)] [(.ref b9)]))
  have Z214 := (Nat.le_trans Z202 K203.1)
  have f215 := (f212.keep K203)
  refine own_cv X203 hx hZ hown (notFace_of_selects (args := #[]) (mvT hZ (hw _ (own_m 67 rfl)))) (hw _ (own_m 64 rfl)) (hw _ (own_m 65 rfl)) (hw _ (own_m 67 rfl)) (hw _ (own_m 66 rfl)) (hw _ (own_m 3 rfl)) (hw _ (own_m 68 rfl)) (by decide) f215 (rm := { frames := 0, cells := 0, slots := 0, locals := 0 }) (rm_size l Z a0 hw [] b9 b2 (x0 &&& (3 : Int32)) (3 : Int32) h0.size T203.heap n0 Z214 I203) (by decide) (W := 0) (by decide) (by decide) (by decide) rfl (by rw [hml]; rfl) (argsL := []) (lenOf own_pd7 rfl) (rest := []) rfl rfl (Nat.le_of_eq rfl) (hb hby at_117) ?_
  intro _ T213 L213 X213 hQ213
  obtain ⟨rfl, N213q, e213⟩ := hQ213
  have N213 := Fr.app N203 N213q
  show oG p e below _ (T213.setTop (mkF m 120 #[.val (.int x0), .val (.int x1), .val (.int x2), .val (.int x3), .val (.int x4), .val (.int x5), .val (.int (x0 &&& (3 : Int32))), .val (.int (3 : Int32)), .val (.ref b2), .val (.ref b9)] [(.long (3 : Int64))]))
  refine og (fun _ hr => XS.iload X213.here hx rfl (hb hby at_120) rfl (XS.i2l X213.here hx rfl (hb hby at_122) rfl (XS.lcmp X213.here hx rfl (hb hby at_123) rfl (XS.ifNo X213.here hx rfl (hb hby at_124) rfl ((if0 _ _).trans (teq (by decide)).2) (XS.iconst X213.here hx rfl (hb hby at_127) (XS.goto X213.here hx rfl (pc0 := 128) (pc' := 132) rfl (hb hby at_128) (by decide) (by decide) hr)))))) ?_
  show oG p e below _ (T213.setTop (mkF m 132 #[.val (.int x0), .val (.int x1), .val (.int x2), .val (.int x3), .val (.int x4), .val (.int x5), .val (.int (x0 &&& (3 : Int32))), .val (.int (3 : Int32)), .val (.ref b2), .val (.ref b9)] [(.int (1 : Int32))]))
  exact own_retN X213 hx hlk Bd.returns (t := .boolean) (by simp) (hb hby at_132) (by decide) (by decide) ⟨rfl, N213⟩
set_option maxRecDepth 65536 in
set_option maxHeartbeats 40000000 in
theorem comes_1 {Post : Tables → Env → Array Value → State → Outcome → State → Prop} (hpost : ∀ tb e args s v u, (limb_1_1.after args s (.returned v) u = true ∧ limb_1_2.after args s (.returned v) u = true ∧ True) → FrameEnd s (.returned v) u (Jvm.fieldLocs frame_1_writes args s ++ Jvm.arrayLocs frame_1_arrays args s ++ Jvm.staticLocs frame_1_statics s) 40 256 → Post tb e args s (.returned v) u) :
    ArmFor flags0 classFile x code maxLocals ret World_1 tables_1 room_1 Calls_1 rest_1 Pre_1 Post := by
  intro l hfl _ _ p e ha hc hk s m args below hf hA hF happ hP
  obtain ⟨hcalls, hrest, hpre⟩ := hP
  obtain ⟨-, -, -, hnamed, -, -, -, hat⟩ := (Spec.applies_iff hf).mp happ
  obtain ⟨hg, hn⟩ := and_e (Cond.before_iff.mp (show (Jvm.Cond.and given_1 narrow_1).before args s = true from hpre))
  obtain ⟨g1, g2⟩ := and_e hg
  obtain ⟨g3, g4⟩ := and_e g2
  obtain ⟨g5, g6⟩ := and_e g4
  obtain ⟨g7, g8⟩ := and_e g6
  obtain ⟨g9, g10⟩ := and_e g8
  obtain ⟨g11, g12⟩ := and_e g10
  obtain ⟨w0, w1, w2, w3, w4, w5, rfl⟩ : ∃ w0 w1 w2 w3 w4 w5 : Value, args = #[w0, w1, w2, w3, w4, w5] := by
    have hs : args.size = 6 := by simpa [Cond.value, given_1] using g1
    obtain ⟨L⟩ := args
    match L, hs with
    | [w0, w1, w2, w3, w4, w5], _ => exact ⟨w0, w1, w2, w3, w4, w5, rfl⟩
  have hw := fun d (hd : d ∈ tables_1) => atoms_spec (ws := Jvm.Cond.code x code maxLocals ret :: tables_1) hat d (List.mem_cons_of_mem _ hd)
  have hfit : Fit s := fun {y c} hc i hi => by
    obtain ⟨ha, rfl⟩ := Array.getElem?_eq_some_iff.mp hc
    have q := List.all_eq_true.mp ((Array.all_eq_true_iff_forall_mem.mp hF) _ (Array.getElem_mem ha)) i (List.mem_range.mpr hi)
    simpa [Array.getElem?_eq_getElem hi] using q
  obtain ⟨i0, ei0⟩ := is_v g3
  obtain rfl : w0 = (.int i0) := Option.some.inj ei0
  obtain ⟨i1, ei1⟩ := is_v g5
  obtain rfl : w1 = (.int i1) := Option.some.inj ei1
  obtain ⟨i2, ei2⟩ := is_v g7
  obtain rfl : w2 = (.int i2) := Option.some.inj ei2
  obtain ⟨i3, ei3⟩ := is_v g9
  obtain rfl : w3 = (.int i3) := Option.some.inj ei3
  obtain ⟨i4, ei4⟩ := is_v g11
  obtain rfl : w4 = (.int i4) := Option.some.inj ei4
  obtain ⟨i5, ei5⟩ := is_v g12
  obtain rfl : w5 = (.int i5) := Option.some.inj ei5
  obtain ⟨g1001, g1002⟩ := and_e hn
  obtain ⟨g1003, g1004⟩ := and_e g1002
  obtain ⟨g1005, g1006⟩ := and_e g1004
  obtain ⟨g1007, g1008⟩ := and_e g1006
  obtain ⟨g1009, g1010⟩ := and_e g1008
  obtain ⟨g1011, g1012⟩ := and_e g1010
  obtain ⟨g1013, g1014⟩ := and_e g1012
  obtain ⟨g1015, g1016⟩ := and_e g1014
  obtain ⟨g1017, g1018⟩ := and_e g1016
  obtain ⟨g1019, g1020⟩ := and_e g1018
  obtain ⟨g1021, g1022⟩ := and_e g1020
  obtain ⟨g1023, g1024⟩ := and_e g1022
  obtain ⟨g1025, g1026⟩ := and_e g1024
  obtain ⟨g1027, g1028⟩ := and_e g1026
  obtain ⟨r__VALUES, er__VALUES⟩ := arr_v g1001
  have S__VALUES := Sta.start er__VALUES (Or.inr ⟨(hw _ (own_m 12 rfl)), (hw _ (own_m 15 rfl))⟩)
  obtain ⟨c__VALUES, A__VALUES⟩ := Arr.start er__VALUES g1001
  have E__VALUES := Exa.start er__VALUES g1003
  obtain ⟨r_TRUE, er_TRUE⟩ := exa_v g1007
  have S_TRUE := Sta.start er_TRUE (Or.inr ⟨(hw _ (own_m 12 rfl)), (hw _ (own_m 23 rfl))⟩)
  have E_TRUE := Exa.start er_TRUE g1007
  obtain ⟨r_FALSE, er_FALSE⟩ := exa_v g1011
  have S_FALSE := Sta.start er_FALSE (Or.inr ⟨(hw _ (own_m 12 rfl)), (hw _ (own_m 24 rfl))⟩)
  have E_FALSE := Exa.start er_FALSE g1011
  obtain ⟨r_UNKNOWN, er_UNKNOWN⟩ := exa_v g1015
  have S_UNKNOWN := Sta.start er_UNKNOWN (Or.inr ⟨(hw _ (own_m 12 rfl)), (hw _ (own_m 25 rfl))⟩)
  have E_UNKNOWN := Exa.start er_UNKNOWN g1015
  obtain ⟨r_INCONSISTENT, er_INCONSISTENT⟩ := exa_v g1019
  have S_INCONSISTENT := Sta.start er_INCONSISTENT (Or.inr ⟨(hw _ (own_m 12 rfl)), (hw _ (own_m 26 rfl))⟩)
  have E_INCONSISTENT := Exa.start er_INCONSISTENT g1019
  have F_UNKNOWN_ordinal := Fld.start ((fld_at er_UNKNOWN).symm.trans (own_eq_int g1023))
  have F_FALSE_ordinal := Fld.start ((fld_at er_FALSE).symm.trans (own_eq_int g1025))
  have F_TRUE_ordinal := Fld.start ((fld_at er_TRUE).symm.trans (own_eq_int g1027))
  have F_INCONSISTENT_ordinal := Fld.start ((fld_at er_INCONSISTENT).symm.trans (own_eq_int g1028))
  obtain ⟨k__VALUES, ek__VALUES⟩ : ∃ z, z = c__VALUES.cls := ⟨_, rfl⟩
  have V__VALUES : Arv s s.heap r__VALUES k__VALUES (.object "com/example/candid_facts/candidfacts/Truth") (4 : Int32) [(.ref r_TRUE), (.ref r_FALSE), (.ref r_UNKNOWN), (.ref r_INCONSISTENT)] .null := ek__VALUES ▸ own_arv hfit er__VALUES A__VALUES (own_eq_int g1005) (by decide) (by first | decide | rfl) ⟨(elem_in (own_eq_ref er_TRUE g1009) er__VALUES (Term.int_eval _) A__VALUES.1).2, (elem_in (own_eq_ref er_FALSE g1013) er__VALUES (Term.int_eval _) A__VALUES.1).2, (elem_in (own_eq_ref er_UNKNOWN g1017) er__VALUES (Term.int_eval _) A__VALUES.1).2, (elem_in (own_eq_ref er_INCONSISTENT g1021) er__VALUES (Term.int_eval _) A__VALUES.1).2, trivial⟩
  obtain ⟨n, o, h1, h2, h3, _, L, rfl, ⟨rfl, N⟩, hq⟩ := rm_law l s _ hw tables_1 i0 i1 i2 i3 i4 i5 r__VALUES r_TRUE r_FALSE r_UNKNOWN r_INCONSISTENT k__VALUES s.heap s.heap.size (Nat.le_refl _) S__VALUES E__VALUES S_TRUE E_TRUE S_FALSE E_FALSE S_UNKNOWN E_UNKNOWN S_INCONSISTENT E_INCONSISTENT F_UNKNOWN_ordinal F_FALSE_ordinal F_TRUE_ordinal F_INCONSISTENT_ordinal V__VALUES p e ha hc hk s m _ below hf ((Spec.applies_iff_loose hf).mp happ).1 ⟨rfl, State.Warmed39.refl s, rfl⟩ trivial
  refine ⟨n, _, h1, h2, h3, hpost _ _ _ _ _ _ ⟨Cond.after_iff.mpr rfl, Cond.after_iff.mpr (eq_i res_at (Term.int_eval (1)) rfl), trivial⟩ ⟨hq.1, hq.2.1, (hq.2.2.sift fun y hy => Or.inr (N y hy)).mono (by decide) (by decide)⟩⟩
theorem main_1_1 : Claimed_1_1 := comes_1 fun _ _ _ _ _ _ h hF => ⟨h.1, hF⟩
theorem main_1_2 : Claimed_1_2 := comes_1 fun _ _ _ _ _ _ h hF => ⟨h.2.1, hF⟩
end Jvm.Pilot.@@N@@
namespace Jvm.Pilot.@@N@@
open Jvm Jvm.ClassFile Sem Op Lib Jvm.Free Jvm.Stand Jvm.Pilot.@@N@@.Jvm.D
/-! MADE BY PROGRAM (witnessworld.py) out of the Statement's table words and the real class files: 17 classes; the members and pool entries that the words name. The judged class is class 1, her method 2. -/
namespace start1
open Jvm.ClassFile
def u (s : String) : CpInfo := .utf8 (stringToUtf16 s)
/-- a pool by its gaps: so many unusable entries, then the entry; so many at the end -/
def gap : Nat → List CpInfo → List CpInfo
  | 0, r => r
  | n + 1, r => .unusable :: gap n r
def poolList (es : List (Nat × CpInfo)) (last : Nat) : List CpInfo := es.foldr (fun e r => gap e.1 (e.2 :: r)) (gap last [])
def pool (es : List (Nat × CpInfo)) (last : Nat) : Array CpInfo := ⟨poolList es last⟩
def fileOf (pool : Array CpInfo) (this : Nat) (attrs : Array Attribute := #[]) (ms : Array MethodInfo := #[]) (fl : Nat := 33) (sup : Nat := 0) (ifs : Array Nat := #[]) (fds : Array FieldInfo := #[]) : ClassFile where
  minorVersion := 0
  majorVersion := 65
  constantPool := pool
  accessFlags := fl
  thisClass := this
  superClass := sup
  interfaces := ifs
  fields := fds
  methods := ms
  attributes := attrs
def plain (name : String) (sup : Option ClassId) : Class where
  name := name
  kind := .ordinary
  loader := none
  accessFlags := 33
  super := sup
  interfaces := #[]
  cf := none
  fields := #[]
  methods := #[]
  instanceTypes := #[]
  staticTypes := #[]
  resolved := #[]
  callSites := []
  init := .initialized
  statics := none
  mirror := none

def pool0 : Array CpInfo := pool [(5, u "<init>"), (0, u "()V"), (1, .class_ 10), (1, u "java/lang/Object"), (85, u "clone"), (0, u "()Ljava/lang/Object;")] 26

def k0c0 : Code := { maxStack := 0, maxLocals := 1, code := object_method_1_code, exceptionTable := #[], attributes := #[] }
def k0m0 : Method := { name := "<init>", desc := "()V", sig := { parameters := [], returnType := none }, accessFlags := 1, code := some k0c0 }
def k0m1 : Method := { name := "clone", desc := "()Ljava/lang/Object;", sig := { parameters := [], returnType := some (.object "java/lang/Object") }, accessFlags := 260, code := none }
/-- java/lang/Object -/
def k0 : Class := { plain "java/lang/Object" none with
  accessFlags := 33
  interfaces := #[]
  cf := some (fileOf pool0 8 #[] #[{ accessFlags := 1, nameIndex := 5, descriptorIndex := 6, attributes := #[] }, { accessFlags := 260, nameIndex := 96, descriptorIndex := 97, attributes := #[] }] 33 0 #[] #[])
  fields := #[]
  methods := #[k0m0, k0m1]
  instanceTypes := #[]
  staticTypes := #[]
  resolved := Array.replicate 124 none
  statics := none }

def pool1 : Array CpInfo := pool [(2, .class_ 4), (1, u "java/lang/Object"), (0, u "<init>"), (0, u "()V"), (0, .fieldref 8 9), (0, .class_ 10), (0, .nameAndType 11 12), (0, u "com/example/candid_facts/candidfacts/Truth"), (0, u "TRUE"), (0, u "Lcom/example/candid_facts/candidfacts/Truth;"), (0, .fieldref 8 14), (0, .nameAndType 15 12), (0, u "FALSE"), (0, .fieldref 8 17), (0, .nameAndType 18 12), (0, u "UNKNOWN"), (0, .fieldref 8 20), (0, .nameAndType 21 12), (0, u "INCONSISTENT"), (0, .class_ 23), (0, u "com/example/candid_facts/candidfacts/Answer$Listed"), (0, .methodref 22 25), (0, .nameAndType 5 26), (0, u "(I)V"), (0, .methodref 28 29), (0, .class_ 30), (0, .nameAndType 31 32), (0, u "com/example/candid_facts/candidfacts/ListedSizePinLaw"), (0, u "truthOf"), (0, u "(I)Lcom/example/candid_facts/candidfacts/Truth;"), (0, .methodref 22 34), (0, .nameAndType 35 36), (0, u "add"), (0, u "([ILcom/example/candid_facts/candidfacts/Truth;)V"), (0, .methodref 22 38), (0, .nameAndType 39 40), (0, u "size"), (0, u "()J"), (3, u "law"), (0, u "(IIIIII)Z")] 8

def k1m0 : Method := { name := "<init>", desc := "()V", sig := { parameters := [], returnType := none }, accessFlags := 2, code := none }
def k1c1 : Code := { maxStack := 2, maxLocals := 2, code := method_2_code, exceptionTable := #[], attributes := #[] }
def k1m1 : Method := { name := "truthOf", desc := "(I)Lcom/example/candid_facts/candidfacts/Truth;", sig := { parameters := [.int], returnType := some (.object "com/example/candid_facts/candidfacts/Truth") }, accessFlags := 10, code := some k1c1 }
def k1c2 : Code := { maxStack := 4, maxLocals := 10, code := code, exceptionTable := #[], attributes := #[] }
def k1m2 : Method := { name := "law", desc := "(IIIIII)Z", sig := { parameters := [.int, .int, .int, .int, .int, .int], returnType := some .boolean }, accessFlags := 9, code := some k1c2 }
/-- com/example/candid_facts/candidfacts/ListedSizePinLaw -/
def k1 : Class := { plain "com/example/candid_facts/candidfacts/ListedSizePinLaw" (some 0) with
  accessFlags := 49
  interfaces := #[]
  cf := some (fileOf pool1 28 #[] #[{ accessFlags := 2, nameIndex := 5, descriptorIndex := 6, attributes := #[] }, { accessFlags := 10, nameIndex := 31, descriptorIndex := 32, attributes := #[] }, { accessFlags := 9, nameIndex := 44, descriptorIndex := 45, attributes := #[] }] 49 2 #[] #[])
  fields := #[]
  methods := #[k1m0, k1m1, k1m2]
  instanceTypes := #[]
  staticTypes := #[]
  resolved := Array.replicate 54 none
  statics := none }

def pool2 : Array CpInfo := pool [(1, .methodref 2 3), (0, .class_ 4), (0, .nameAndType 5 6), (0, u "java/lang/Object"), (0, u "<init>"), (0, u "()V"), (0, .methodref 8 9), (0, .class_ 10), (0, .nameAndType 11 12), (0, u "com/example/candid_facts/candidfacts/Truth"), (0, u "values"), (0, u "()[Lcom/example/candid_facts/candidfacts/Truth;"), (0, .class_ 14), (0, u "[I"), (0, .fieldref 16 17), (0, .class_ 18), (0, .nameAndType 19 20), (0, u "com/example/candid_facts/candidfacts/Answer$Listed"), (0, u "codes"), (0, u "[[I"), (0, .fieldref 16 22), (0, .nameAndType 23 14), (0, u "sizes"), (0, .fieldref 16 25), (0, .nameAndType 26 27), (0, u "width"), (0, u "I"), (0, .methodref 8 29), (0, .nameAndType 30 31), (0, u "ordinal"), (0, u "()I"), (0, .methodref 33 34), (0, .class_ 35), (0, .nameAndType 36 37), (0, u "java/lang/Math"), (0, u "max"), (0, u "(II)I"), (0, .methodref 39 40), (0, .class_ 41), (0, .nameAndType 42 43), (0, u "java/util/Arrays"), (0, u "copyOf"), (0, u "([II)[I"), (0, .methodref 45 46), (0, .class_ 47), (0, .nameAndType 48 49), (0, u "java/lang/System"), (0, u "arraycopy"), (0, u "(Ljava/lang/Object;ILjava/lang/Object;II)V"), (17, u "add"), (1, u "(I)V"), (3, u "([ILcom/example/candid_facts/candidfacts/Truth;)V"), (0, u "size"), (1, u "()J"), (9, .class_ 87), (0, u "com/example/candid_facts/candidfacts/Answer")] 2

def k2c0 : Code := { maxStack := 3, maxLocals := 3, code := prog_2_method_1_code, exceptionTable := #[], attributes := #[] }
def k2m0 : Method := { name := "<init>", desc := "(I)V", sig := { parameters := [.int], returnType := none }, accessFlags := 0, code := some k2c0 }
def k2c1 : Code := { maxStack := 5, maxLocals := 6, code := prog_2_method_2_code, exceptionTable := #[], attributes := #[] }
def k2m1 : Method := { name := "add", desc := "([ILcom/example/candid_facts/candidfacts/Truth;)V", sig := { parameters := [(.array .int), (.object "com/example/candid_facts/candidfacts/Truth")], returnType := none }, accessFlags := 0, code := some k2c1 }
def k2c2 : Code := { maxStack := 4, maxLocals := 7, code := prog_2_method_4_code, exceptionTable := #[], attributes := #[] }
def k2m2 : Method := { name := "size", desc := "()J", sig := { parameters := [], returnType := some .long }, accessFlags := 0, code := some k2c2 }
/-- com/example/candid_facts/candidfacts/Answer$Listed -/
def k2 : Class := { plain "com/example/candid_facts/candidfacts/Answer$Listed" (some 0) with
  accessFlags := 48
  interfaces := #[]
  cf := some (fileOf pool2 16 #[.nestHost 86] #[{ accessFlags := 0, nameIndex := 5, descriptorIndex := 69, attributes := #[] }, { accessFlags := 0, nameIndex := 67, descriptorIndex := 73, attributes := #[] }, { accessFlags := 0, nameIndex := 74, descriptorIndex := 76, attributes := #[] }] 48 2 #[] #[{ accessFlags := 18, nameIndex := 26, descriptorIndex := 27, attributes := #[] }, { accessFlags := 18, nameIndex := 19, descriptorIndex := 20, attributes := #[] }, { accessFlags := 18, nameIndex := 23, descriptorIndex := 14, attributes := #[] }])
  fields := #[{ name := "width", type := .int, accessFlags := 18, slot := 0, constantValue := 0 }, { name := "codes", type := (.array (.array .int)), accessFlags := 18, slot := 1, constantValue := 0 }, { name := "sizes", type := (.array .int), accessFlags := 18, slot := 2, constantValue := 0 }]
  methods := #[k2m0, k2m1, k2m2]
  instanceTypes := #[.int, (.array (.array .int)), (.array .int)]
  staticTypes := #[]
  resolved := Array.replicate 90 none
  statics := none }

def pool3 : Array CpInfo := pool [(1, .class_ 2), (0, u "java/lang/constant/Constable"), (0, .class_ 4), (0, u "java/lang/Object")] 6

/-- java/lang/constant/Constable -/
def k3 : Class := { plain "java/lang/constant/Constable" (some 0) with
  accessFlags := 1537
  interfaces := #[]
  cf := some (fileOf pool3 1 #[] #[] 1537 3 #[] #[])
  fields := #[]
  methods := #[]
  instanceTypes := #[]
  staticTypes := #[]
  resolved := Array.replicate 11 none
  statics := none }

def pool4 : Array CpInfo := pool [(1, .class_ 2), (0, u "java/lang/Comparable"), (0, .class_ 4), (0, u "java/lang/Object")] 7

/-- java/lang/Comparable -/
def k4 : Class := { plain "java/lang/Comparable" (some 0) with
  accessFlags := 1537
  interfaces := #[]
  cf := some (fileOf pool4 1 #[] #[] 1537 3 #[] #[])
  fields := #[]
  methods := #[]
  instanceTypes := #[]
  staticTypes := #[]
  resolved := Array.replicate 12 none
  statics := none }

def pool5 : Array CpInfo := pool [(1, .class_ 2), (0, u "java/io/Serializable"), (0, .class_ 4), (0, u "java/lang/Object")] 2

/-- java/io/Serializable -/
def k5 : Class := { plain "java/io/Serializable" (some 0) with
  accessFlags := 1537
  interfaces := #[]
  cf := some (fileOf pool5 1 #[] #[] 1537 3 #[] #[])
  fields := #[]
  methods := #[]
  instanceTypes := #[]
  staticTypes := #[]
  resolved := Array.replicate 7 none
  statics := none }

def pool6 : Array CpInfo := pool [(2, .class_ 4), (1, u "java/lang/Enum"), (0, u "name"), (0, u "Ljava/lang/String;"), (0, .fieldref 2 8), (0, .nameAndType 9 10), (0, u "ordinal"), (0, u "I"), (1, .class_ 14), (1, u "java/lang/Object"), (4, u "hash"), (86, .class_ 108), (1, u "java/lang/Enum$EnumDesc"), (2, .class_ 112), (0, u "java/lang/constant/Constable"), (0, .class_ 114), (0, u "java/lang/Comparable"), (0, .class_ 116), (0, u "java/io/Serializable"), (9, u "()I")] 77

def k6c0 : Code := { maxStack := 1, maxLocals := 1, code := jdk_37_method_2_code, exceptionTable := #[], attributes := #[] }
def k6m0 : Method := { name := "ordinal", desc := "()I", sig := { parameters := [], returnType := some .int }, accessFlags := 17, code := some k6c0 }
/-- java/lang/Enum -/
def k6 : Class := { plain "java/lang/Enum" (some 0) with
  accessFlags := 1057
  interfaces := #[3, 4, 5]
  cf := some (fileOf pool6 2 #[.nestMembers #[106]] #[{ accessFlags := 17, nameIndex := 9, descriptorIndex := 126, attributes := #[] }] 1057 12 #[111, 113, 115] #[{ accessFlags := 18, nameIndex := 5, descriptorIndex := 6, attributes := #[] }, { accessFlags := 18, nameIndex := 9, descriptorIndex := 10, attributes := #[] }, { accessFlags := 2, nameIndex := 19, descriptorIndex := 10, attributes := #[] }])
  fields := #[{ name := "name", type := (.object "java/lang/String"), accessFlags := 18, slot := 0, constantValue := 0 }, { name := "ordinal", type := .int, accessFlags := 18, slot := 1, constantValue := 0 }, { name := "hash", type := .int, accessFlags := 2, slot := 2, constantValue := 0 }]
  methods := #[k6m0]
  instanceTypes := #[(.object "java/lang/String"), .int, .int]
  staticTypes := #[]
  resolved := Array.replicate 204 none
  statics := none }

def pool7 : Array CpInfo := pool [(1, .class_ 2), (0, u "com/example/candid_facts/candidfacts/Truth"), (2, u "TRUE"), (0, u "Lcom/example/candid_facts/candidfacts/Truth;"), (2, u "FALSE"), (2, u "UNKNOWN"), (2, u "INCONSISTENT"), (0, .fieldref 1 17), (0, .nameAndType 18 19), (0, u "$VALUES"), (0, u "[Lcom/example/candid_facts/candidfacts/Truth;"), (0, .methodref 21 22), (0, .class_ 19), (0, .nameAndType 23 24), (0, u "clone"), (0, u "()Ljava/lang/Object;"), (1, .class_ 28), (1, u "java/lang/Enum"), (8, u "knownTrue"), (0, u "Z"), (2, u "knownFalse"), (48, u "()[Lcom/example/candid_facts/candidfacts/Truth;"), (0, u "values")] 18

def k7c0 : Code := { maxStack := 1, maxLocals := 0, code := prog_91_method_1_code, exceptionTable := #[], attributes := #[] }
def k7m0 : Method := { name := "values", desc := "()[Lcom/example/candid_facts/candidfacts/Truth;", sig := { parameters := [], returnType := some (.array (.object "com/example/candid_facts/candidfacts/Truth")) }, accessFlags := 9, code := some k7c0 }
/-- com/example/candid_facts/candidfacts/Truth -/
def k7 : Class := { plain "com/example/candid_facts/candidfacts/Truth" (some 6) with
  accessFlags := 16433
  interfaces := #[]
  cf := some (fileOf pool7 1 #[] #[{ accessFlags := 9, nameIndex := 91, descriptorIndex := 90, attributes := #[] }] 16433 26 #[] #[{ accessFlags := 16409, nameIndex := 5, descriptorIndex := 6, attributes := #[] }, { accessFlags := 16409, nameIndex := 9, descriptorIndex := 6, attributes := #[] }, { accessFlags := 16409, nameIndex := 12, descriptorIndex := 6, attributes := #[] }, { accessFlags := 16409, nameIndex := 15, descriptorIndex := 6, attributes := #[] }, { accessFlags := 18, nameIndex := 37, descriptorIndex := 38, attributes := #[] }, { accessFlags := 18, nameIndex := 41, descriptorIndex := 38, attributes := #[] }, { accessFlags := 4122, nameIndex := 18, descriptorIndex := 19, attributes := #[] }])
  fields := #[{ name := "TRUE", type := (.object "com/example/candid_facts/candidfacts/Truth"), accessFlags := 16409, slot := 0, constantValue := 0 }, { name := "FALSE", type := (.object "com/example/candid_facts/candidfacts/Truth"), accessFlags := 16409, slot := 1, constantValue := 0 }, { name := "UNKNOWN", type := (.object "com/example/candid_facts/candidfacts/Truth"), accessFlags := 16409, slot := 2, constantValue := 0 }, { name := "INCONSISTENT", type := (.object "com/example/candid_facts/candidfacts/Truth"), accessFlags := 16409, slot := 3, constantValue := 0 }, { name := "knownTrue", type := .boolean, accessFlags := 18, slot := 3, constantValue := 0 }, { name := "knownFalse", type := .boolean, accessFlags := 18, slot := 4, constantValue := 0 }, { name := "$VALUES", type := (.array (.object "com/example/candid_facts/candidfacts/Truth")), accessFlags := 4122, slot := 4, constantValue := 0 }]
  methods := #[k7m0]
  instanceTypes := #[(.object "java/lang/String"), .int, .int, .boolean, .boolean]
  staticTypes := #[(.object "com/example/candid_facts/candidfacts/Truth"), (.object "com/example/candid_facts/candidfacts/Truth"), (.object "com/example/candid_facts/candidfacts/Truth"), (.object "com/example/candid_facts/candidfacts/Truth"), (.array (.object "com/example/candid_facts/candidfacts/Truth"))]
  resolved := Array.replicate 110 none
  statics := some 0 }

def pool8 : Array CpInfo := pool [(1, .class_ 2), (0, u "java/lang/Cloneable"), (0, .class_ 4), (0, u "java/lang/Object")] 2

/-- java/lang/Cloneable -/
def k8 : Class := { plain "java/lang/Cloneable" (some 0) with
  accessFlags := 1537
  interfaces := #[]
  cf := some (fileOf pool8 1 #[] #[] 1537 3 #[] #[])
  fields := #[]
  methods := #[]
  instanceTypes := #[]
  staticTypes := #[]
  resolved := Array.replicate 7 none
  statics := none }

def pool9 : Array CpInfo := pool [(2, .class_ 4), (1, u "java/lang/Object"), (0, u "<init>"), (0, u "()V"), (1, .class_ 10), (1, u "java/lang/System"), (0, u "allowSecurityManager"), (0, u "I"), (16, u "cons"), (0, u "Ljava/io/Console;"), (77, .class_ 110), (1, u "java/lang/System$CallersHolder"), (43, u "initialErrStream"), (0, u "Ljava/io/PrintStream;"), (19, u "security"), (0, u "Ljava/lang/SecurityManager;"), (31, .class_ 209), (0, u "java/lang/System$1"), (7, u "props"), (0, u "Ljava/util/Properties;"), (2, u "lineSeparator"), (0, u "Ljava/lang/String;"), (96, .class_ 321), (1, u "java/lang/System$LoggerFinder"), (5, .class_ 328), (0, u "java/lang/System$Logger"), (67, u "err"), (2, u "out"), (91, u "notSupportedJnuEncoding"), (15, u "in"), (17, u "initialIn"), (0, u "Ljava/io/InputStream;"), (35, u "bootLayer"), (0, u "Ljava/lang/ModuleLayer;"), (99, .class_ 664), (0, u "java/lang/System$2"), (9, u "NEVER"), (2, u "MAYBE"), (49, u "arraycopy"), (0, u "(Ljava/lang/Object;ILjava/lang/Object;II)V"), (72, .class_ 802), (0, u "java/lang/System$Logger$Level")] 31

def k9m0 : Method := { name := "<init>", desc := "()V", sig := { parameters := [], returnType := none }, accessFlags := 2, code := none }
def k9m1 : Method := { name := "arraycopy", desc := "(Ljava/lang/Object;ILjava/lang/Object;II)V", sig := { parameters := [(.object "java/lang/Object"), .int, (.object "java/lang/Object"), .int, .int], returnType := none }, accessFlags := 265, code := none }
/-- java/lang/System -/
def k9 : Class := { plain "java/lang/System" (some 0) with
  accessFlags := 49
  interfaces := #[]
  cf := some (fileOf pool9 8 #[.nestMembers #[319, 327, 801, 108, 663, 208]] #[{ accessFlags := 2, nameIndex := 5, descriptorIndex := 6, attributes := #[] }, { accessFlags := 265, nameIndex := 727, descriptorIndex := 728, attributes := #[] }] 49 2 #[] #[{ accessFlags := 25, nameIndex := 507, descriptorIndex := 526, attributes := #[] }, { accessFlags := 25, nameIndex := 399, descriptorIndex := 155, attributes := #[] }, { accessFlags := 25, nameIndex := 396, descriptorIndex := 155, attributes := #[] }, { accessFlags := 10, nameIndex := 525, descriptorIndex := 526, attributes := #[] }, { accessFlags := 26, nameIndex := 674, descriptorIndex := 12, attributes := #[] }, { accessFlags := 26, nameIndex := 677, descriptorIndex := 12, attributes := #[] }, { accessFlags := 10, nameIndex := 11, descriptorIndex := 12, attributes := #[] }, { accessFlags := 74, nameIndex := 175, descriptorIndex := 176, attributes := #[] }, { accessFlags := 10, nameIndex := 491, descriptorIndex := 222, attributes := #[] }, { accessFlags := 74, nameIndex := 29, descriptorIndex := 30, attributes := #[] }, { accessFlags := 74, nameIndex := 154, descriptorIndex := 155, attributes := #[] }, { accessFlags := 10, nameIndex := 217, descriptorIndex := 218, attributes := #[] }, { accessFlags := 10, nameIndex := 221, descriptorIndex := 222, attributes := #[] }, { accessFlags := 8, nameIndex := 562, descriptorIndex := 563, attributes := #[] }])
  fields := #[{ name := "in", type := (.object "java/io/InputStream"), accessFlags := 25, slot := 0, constantValue := 0 }, { name := "out", type := (.object "java/io/PrintStream"), accessFlags := 25, slot := 1, constantValue := 0 }, { name := "err", type := (.object "java/io/PrintStream"), accessFlags := 25, slot := 2, constantValue := 0 }, { name := "initialIn", type := (.object "java/io/InputStream"), accessFlags := 10, slot := 3, constantValue := 0 }, { name := "NEVER", type := .int, accessFlags := 26, slot := 4, constantValue := 0 }, { name := "MAYBE", type := .int, accessFlags := 26, slot := 5, constantValue := 0 }, { name := "allowSecurityManager", type := .int, accessFlags := 10, slot := 6, constantValue := 0 }, { name := "security", type := (.object "java/lang/SecurityManager"), accessFlags := 74, slot := 7, constantValue := 0 }, { name := "notSupportedJnuEncoding", type := (.object "java/lang/String"), accessFlags := 10, slot := 8, constantValue := 0 }, { name := "cons", type := (.object "java/io/Console"), accessFlags := 74, slot := 9, constantValue := 0 }, { name := "initialErrStream", type := (.object "java/io/PrintStream"), accessFlags := 74, slot := 10, constantValue := 0 }, { name := "props", type := (.object "java/util/Properties"), accessFlags := 10, slot := 11, constantValue := 0 }, { name := "lineSeparator", type := (.object "java/lang/String"), accessFlags := 10, slot := 12, constantValue := 0 }, { name := "bootLayer", type := (.object "java/lang/ModuleLayer"), accessFlags := 8, slot := 13, constantValue := 0 }]
  methods := #[k9m0, k9m1]
  instanceTypes := #[]
  staticTypes := #[(.object "java/io/InputStream"), (.object "java/io/PrintStream"), (.object "java/io/PrintStream"), (.object "java/io/InputStream"), .int, .int, .int, (.object "java/lang/SecurityManager"), (.object "java/lang/String"), (.object "java/io/Console"), (.object "java/io/PrintStream"), (.object "java/util/Properties"), (.object "java/lang/String"), (.object "java/lang/ModuleLayer")]
  resolved := Array.replicate 834 none
  statics := none }

def pool10 : Array CpInfo := pool [(1, .class_ 2), (0, u "java/lang/Math"), (1, .class_ 6), (1, u "java/lang/Object"), (0, u "<init>"), (0, u "()V"), (89, .class_ 100), (1, u "java/lang/Math$RandomNumberGeneratorHolder"), (71, u "negativeZeroFloatBits"), (0, u "J"), (2, u "negativeZeroDoubleBits"), (21, u "max"), (2, u "min"), (43, u "$assertionsDisabled"), (0, u "Z"), (88, u "(II)I"), (2, u "twoToTheDoubleScaleDown"), (0, u "D"), (4, u "twoToTheDoubleScaleUp"), (9, u "E"), (3, u "PI"), (2, u "TAU"), (2, u "DEGREES_TO_RADIANS"), (0, u "RADIANS_TO_DEGREES")] 94

def k10m0 : Method := { name := "<init>", desc := "()V", sig := { parameters := [], returnType := none }, accessFlags := 2, code := none }
def k10c1 : Code := { maxStack := 2, maxLocals := 2, code := jdk_29_method_65_code, exceptionTable := #[], attributes := #[] }
def k10m1 : Method := { name := "max", desc := "(II)I", sig := { parameters := [.int, .int], returnType := some .int }, accessFlags := 9, code := some k10c1 }
def k10c2 : Code := { maxStack := 2, maxLocals := 2, code := jdk_29_method_69_code, exceptionTable := #[], attributes := #[] }
def k10m2 : Method := { name := "min", desc := "(II)I", sig := { parameters := [.int, .int], returnType := some .int }, accessFlags := 9, code := some k10c2 }
/-- java/lang/Math -/
def k10 : Class := { plain "java/lang/Math" (some 0) with
  accessFlags := 49
  interfaces := #[]
  cf := some (fileOf pool10 1 #[.nestMembers #[98]] #[{ accessFlags := 2, nameIndex := 7, descriptorIndex := 8, attributes := #[] }, { accessFlags := 9, nameIndex := 198, descriptorIndex := 335, attributes := #[] }, { accessFlags := 9, nameIndex := 201, descriptorIndex := 335, attributes := #[] }] 49 4 #[] #[{ accessFlags := 25, nameIndex := 354, descriptorIndex := 339, attributes := #[] }, { accessFlags := 25, nameIndex := 358, descriptorIndex := 339, attributes := #[] }, { accessFlags := 25, nameIndex := 361, descriptorIndex := 339, attributes := #[] }, { accessFlags := 26, nameIndex := 364, descriptorIndex := 339, attributes := #[] }, { accessFlags := 26, nameIndex := 365, descriptorIndex := 339, attributes := #[] }, { accessFlags := 26, nameIndex := 172, descriptorIndex := 173, attributes := #[] }, { accessFlags := 26, nameIndex := 176, descriptorIndex := 173, attributes := #[] }, { accessFlags := 8, nameIndex := 344, descriptorIndex := 339, attributes := #[] }, { accessFlags := 8, nameIndex := 338, descriptorIndex := 339, attributes := #[] }, { accessFlags := 4120, nameIndex := 245, descriptorIndex := 246, attributes := #[] }])
  fields := #[{ name := "E", type := .double, accessFlags := 25, slot := 0, constantValue := 0 }, { name := "PI", type := .double, accessFlags := 25, slot := 1, constantValue := 0 }, { name := "TAU", type := .double, accessFlags := 25, slot := 2, constantValue := 0 }, { name := "DEGREES_TO_RADIANS", type := .double, accessFlags := 26, slot := 3, constantValue := 0 }, { name := "RADIANS_TO_DEGREES", type := .double, accessFlags := 26, slot := 4, constantValue := 0 }, { name := "negativeZeroFloatBits", type := .long, accessFlags := 26, slot := 5, constantValue := 0 }, { name := "negativeZeroDoubleBits", type := .long, accessFlags := 26, slot := 6, constantValue := 0 }, { name := "twoToTheDoubleScaleUp", type := .double, accessFlags := 8, slot := 7, constantValue := 0 }, { name := "twoToTheDoubleScaleDown", type := .double, accessFlags := 8, slot := 8, constantValue := 0 }, { name := "$assertionsDisabled", type := .boolean, accessFlags := 4120, slot := 9, constantValue := 0 }]
  methods := #[k10m0, k10m1, k10m2]
  instanceTypes := #[]
  staticTypes := #[.double, .double, .double, .double, .double, .long, .long, .double, .double, .boolean]
  resolved := Array.replicate 460 none
  statics := none }

def pool11 : Array CpInfo := pool [(2, .class_ 4), (1, u "java/lang/Object"), (0, u "<init>"), (0, u "()V"), (7, .class_ 16), (1, u "java/util/Arrays"), (57, .class_ 76), (1, u "java/util/Arrays$NaturalOrder"), (36, .class_ 115), (1, u "java/util/Arrays$LegacyMergeSort"), (1, u "Z"), (32, .methodref 151 152), (0, .class_ 153), (0, .nameAndType 154 155), (0, u "java/lang/System"), (0, u "arraycopy"), (0, u "(Ljava/lang/Object;ILjava/lang/Object;II)V"), (146, u "copyOf"), (1, .methodref 305 306), (0, .class_ 307), (0, .nameAndType 308 309), (0, u "java/lang/Math"), (0, u "min"), (0, u "(II)I"), (65, .class_ 376), (0, u "java/util/Arrays$ArrayList"), (68, u "$assertionsDisabled"), (269, u "MIN_ARRAY_SORT_GRAN"), (0, u "I"), (2, u "INSERTIONSORT_THRESHOLD"), (151, u "([II)[I"), (103, .class_ 976), (0, u "java/util/Arrays$ArrayItr")] 52

def k11m0 : Method := { name := "<init>", desc := "()V", sig := { parameters := [], returnType := none }, accessFlags := 2, code := none }
def k11c1 : Code := { maxStack := 6, maxLocals := 3, code := jdk_65_method_123_code, exceptionTable := #[], attributes := #[] }
def k11m1 : Method := { name := "copyOf", desc := "([II)[I", sig := { parameters := [(.array .int), .int], returnType := some (.array .int) }, accessFlags := 9, code := some k11c1 }
/-- java/util/Arrays -/
def k11 : Class := { plain "java/util/Arrays" (some 0) with
  accessFlags := 49
  interfaces := #[]
  cf := some (fileOf pool11 14 #[.nestMembers #[975, 375, 113, 74]] #[{ accessFlags := 2, nameIndex := 5, descriptorIndex := 6, attributes := #[] }, { accessFlags := 9, nameIndex := 302, descriptorIndex := 871, attributes := #[] }] 49 2 #[] #[{ accessFlags := 26, nameIndex := 715, descriptorIndex := 716, attributes := #[] }, { accessFlags := 26, nameIndex := 719, descriptorIndex := 716, attributes := #[] }, { accessFlags := 4120, nameIndex := 445, descriptorIndex := 117, attributes := #[] }])
  fields := #[{ name := "MIN_ARRAY_SORT_GRAN", type := .int, accessFlags := 26, slot := 0, constantValue := 0 }, { name := "INSERTIONSORT_THRESHOLD", type := .int, accessFlags := 26, slot := 1, constantValue := 0 }, { name := "$assertionsDisabled", type := .boolean, accessFlags := 4120, slot := 2, constantValue := 0 }]
  methods := #[k11m0, k11m1]
  instanceTypes := #[]
  staticTypes := #[.int, .int, .boolean]
  resolved := Array.replicate 1029 none
  statics := none }

/-- the primitive byte -/
def k12 : Class := { plain "byte" none with kind := .primitive 'B', accessFlags := 0x411 }
/-- [B -/
def k13 : Class := { plain "[B" (some 0) with kind := .array 12 .byte, interfaces := #[8, 5], accessFlags := 1041 }

/-- the primitive int -/
def k14 : Class := { plain "int" none with kind := .primitive 'I', accessFlags := 0x411 }
/-- [I -/
def k15 : Class := { plain "[I" (some 0) with kind := .array 14 .int, interfaces := #[8, 5], accessFlags := 1041 }

/-- [Lcom/example/candid_facts/candidfacts/Truth; -/
def k16 : Class := { plain "[Lcom/example/candid_facts/candidfacts/Truth;" (some 0) with kind := .array 7 (.object "com/example/candid_facts/candidfacts/Truth"), interfaces := #[8, 5], accessFlags := 1041 }

/-- [[I -/
def k17 : Class := { plain "[[I" (some 0) with kind := .array 15 (.array .int), interfaces := #[8, 5], accessFlags := 1041 }

def heap : Heap := #[{ cls := 7, slots := #[.ref 2, .ref 3, .ref 4, .ref 5, .ref 1], vm := .statics 7 },
  { cls := 16, slots := #[.ref 2, .ref 3, .ref 4, .ref 5], vm := .none },
  { cls := 7, slots := #[.null, .int 0, .int 0, .int 0, .int 0], vm := .none },
  { cls := 7, slots := #[.null, .int 1, .int 0, .int 0, .int 0], vm := .none },
  { cls := 7, slots := #[.null, .int 2, .int 0, .int 0, .int 0], vm := .none },
  { cls := 7, slots := #[.null, .int 3, .int 0, .int 0, .int 0], vm := .none }]
def classes : Array Class := #[k0, k1, k2, k3, k4, k5, k6, k7, k8, k9, k10, k11, k12, k13, k14, k15, k16, k17]
def interned : List (Array UInt16 × Addr) := []
def slotsUsed : Nat := 29
def theMethod : MethodId := ⟨1, 2⟩
def args0 : Array Value := #[.int 5, .int 5, .int 5, .int 5, .int 5, .int 5]
def aboutOver (below : List Frame) : State where
  vm := { classes := classes, interned := interned.toArray }
  heap := heap
  slotsUsed := slotsUsed
  threads := #[{ frames := .invoking theMethod args0 :: below }]
def below0 : List Frame := [.native { method := ⟨0, 0⟩, args := #[] }]
def about1 : State := aboutOver below0
def p0 : Program := .bare "" "" ""
def e0 : Env := launch0.env 0 0 0
theorem w_frames : about1.frames = Frame.invoking theMethod args0 :: below0 := rfl
set_option maxRecDepth 65536 in
theorem w_args : argsFit about1.vm theMethod args0 = true := by decide +kernel
set_option maxRecDepth 65536 in
theorem w_heap : heapFits about1 = true := by decide +kernel
set_option maxRecDepth 65536 in
theorem w_runnable : about1.curStatus? = some .runnable := by decide +kernel
set_option maxRecDepth 65536 in
theorem w_alone : about1.alone = true := by decide +kernel
set_option maxRecDepth 65536 in
theorem w_named : about1.methodNamed? x = some theMethod := by decide +kernel
set_option maxRecDepth 65536 in
theorem w_hears : about1.hears theMethod below0 = true := by decide +kernel
set_option maxRecDepth 65536 in
theorem w_ripe : about1.ripe theMethod args0 below0 = true := by decide +kernel
theorem w_running : about1.status = .running := rfl
set_option maxRecDepth 65536 in
theorem w_room : about1.hasRoom e0.platform room_1 = true :=
  launch0.hasRoom_least _ room_1 (by decide +kernel) (by decide +kernel) (by decide +kernel) (by decide +kernel) (by decide +kernel) (by decide +kernel)
theorem allAtoms_all (ts : List Jvm.Cond) (a : Array Jvm.Value) (st : Jvm.State) : (allAtoms ts).before a st = ts.all (fun c => c.before a st) := by
  induction ts with
  | nil => rfl
  | cons c t ih =>
    show (Jvm.Cond.and c (allAtoms t)).before a st = _
    rw [Jvm.Cond.before_and, ih, List.all_cons]
def words1 : List Jvm.Cond := Jvm.Cond.code x code maxLocals ret :: tables_1
/-- a 'code' word, met by the world's own term for the bytes: nothing is compared byte by byte -/
theorem code_word {y : MethodName} {bytes : ByteArray} {mx : Nat} {rt : Option FieldType} {a : Array Value} {s : State} {m : MethodId} {meth : Method} {c : Code} (h1 : s.methodNamed? y = some m) (h2 : s.vm.method? m = some meth) (h3 : meth.code = some c) (h4 : c.code = bytes)
    (h5 : (c.maxLocals == mx && c.exceptionTable.isEmpty && decide (c.maxStack ≤ mostOperands) && decide (meth.sig.returnType = rt) && !meth.locks && decide (parseMethodDescriptor y.desc = some meth.sig)) = true) : (Jvm.Cond.code y bytes mx rt).before a s = true := by
  simp only [Bool.and_eq_true, beq_iff_eq, Bool.not_eq_true', decide_eq_true_eq] at h5
  obtain ⟨⟨⟨⟨⟨g1, g2⟩, g3⟩, g4⟩, g5⟩, g6⟩ := h5
  simp [Cond.before, Cond.holds, Cond.value, h1, h2, h3, h4, g1, g2, g3, g4, g5, g6]
def isCode : Jvm.Cond → Bool
  | .code _ _ _ _ => true
  | _ => false
theorem all_split {L : List Jvm.Cond} {P : Jvm.Cond → Bool} (h1 : L.all (fun c => isCode c || P c) = true) (h2 : ∀ c ∈ L.filter isCode, P c = true) : L.all P = true := by
  refine List.all_eq_true.mpr fun c hc => ?_
  have h := List.all_eq_true.mp h1 c hc
  rcases Bool.eq_false_or_eq_true (isCode c) with hi | hi
  · exact h2 c (List.mem_filter.mpr ⟨hc, hi⟩)
  · simpa [hi] using h
set_option maxRecDepth 65536 in
theorem w_c0 : (Jvm.Cond.code x code maxLocals ret).before args0 about1 = true := code_word (m := ⟨1, 2⟩) (meth := k1m2) (c := k1c2) (by decide +kernel) rfl rfl rfl (by decide +kernel)
set_option maxRecDepth 65536 in
theorem w_c1 : (Jvm.Cond.code ({ cls := "com/example/candid_facts/candidfacts/Answer$Listed", name := "<init>", desc := "(I)V" } : Jvm.MethodName) prog_2_method_1_code (3 : Nat) (Option.none : Option Jvm.ClassFile.FieldType)).before args0 about1 = true := code_word (m := ⟨2, 0⟩) (meth := k2m0) (c := k2c0) (by decide +kernel) rfl rfl rfl (by decide +kernel)
set_option maxRecDepth 65536 in
theorem w_c2 : (Jvm.Cond.code ({ cls := "java/lang/Object", name := "<init>", desc := "()V" } : Jvm.MethodName) object_method_1_code (1 : Nat) (Option.none : Option Jvm.ClassFile.FieldType)).before args0 about1 = true := code_word (m := ⟨0, 0⟩) (meth := k0m0) (c := k0c0) (by decide +kernel) rfl rfl rfl (by decide +kernel)
set_option maxRecDepth 65536 in
theorem w_c3 : (Jvm.Cond.code ({ cls := "com/example/candid_facts/candidfacts/Truth", name := "values", desc := "()[Lcom/example/candid_facts/candidfacts/Truth;" } : Jvm.MethodName) prog_91_method_1_code (0 : Nat) (Option.some (Jvm.ClassFile.FieldType.array (Jvm.ClassFile.FieldType.object "com/example/candid_facts/candidfacts/Truth")))).before args0 about1 = true := code_word (m := ⟨7, 0⟩) (meth := k7m0) (c := k7c0) (by decide +kernel) rfl rfl rfl (by decide +kernel)
set_option maxRecDepth 65536 in
theorem w_c4 : (Jvm.Cond.code ({ cls := "com/example/candid_facts/candidfacts/ListedSizePinLaw", name := "truthOf", desc := "(I)Lcom/example/candid_facts/candidfacts/Truth;" } : Jvm.MethodName) method_2_code (2 : Nat) (Option.some (Jvm.ClassFile.FieldType.object "com/example/candid_facts/candidfacts/Truth"))).before args0 about1 = true := code_word (m := ⟨1, 1⟩) (meth := k1m1) (c := k1c1) (by decide +kernel) rfl rfl rfl (by decide +kernel)
set_option maxRecDepth 65536 in
theorem w_c5 : (Jvm.Cond.code ({ cls := "com/example/candid_facts/candidfacts/Answer$Listed", name := "add", desc := "([ILcom/example/candid_facts/candidfacts/Truth;)V" } : Jvm.MethodName) prog_2_method_2_code (6 : Nat) (Option.none : Option Jvm.ClassFile.FieldType)).before args0 about1 = true := code_word (m := ⟨2, 1⟩) (meth := k2m1) (c := k2c1) (by decide +kernel) rfl rfl rfl (by decide +kernel)
set_option maxRecDepth 65536 in
theorem w_c6 : (Jvm.Cond.code ({ cls := "java/lang/Enum", name := "ordinal", desc := "()I" } : Jvm.MethodName) jdk_37_method_2_code (1 : Nat) (Option.some Jvm.ClassFile.FieldType.int)).before args0 about1 = true := code_word (m := ⟨6, 0⟩) (meth := k6m0) (c := k6c0) (by decide +kernel) rfl rfl rfl (by decide +kernel)
set_option maxRecDepth 65536 in
theorem w_c7 : (Jvm.Cond.code ({ cls := "com/example/candid_facts/candidfacts/Answer$Listed", name := "size", desc := "()J" } : Jvm.MethodName) prog_2_method_4_code (7 : Nat) (Option.some Jvm.ClassFile.FieldType.long)).before args0 about1 = true := code_word (m := ⟨2, 2⟩) (meth := k2m2) (c := k2c2) (by decide +kernel) rfl rfl rfl (by decide +kernel)
set_option maxRecDepth 65536 in
theorem w_c8 : (Jvm.Cond.code ({ cls := "java/lang/Math", name := "max", desc := "(II)I" } : Jvm.MethodName) jdk_29_method_65_code (2 : Nat) (Option.some Jvm.ClassFile.FieldType.int)).before args0 about1 = true := code_word (m := ⟨10, 1⟩) (meth := k10m1) (c := k10c1) (by decide +kernel) rfl rfl rfl (by decide +kernel)
set_option maxRecDepth 65536 in
theorem w_c9 : (Jvm.Cond.code ({ cls := "java/util/Arrays", name := "copyOf", desc := "([II)[I" } : Jvm.MethodName) jdk_65_method_123_code (3 : Nat) (Option.some (Jvm.ClassFile.FieldType.array Jvm.ClassFile.FieldType.int))).before args0 about1 = true := code_word (m := ⟨11, 1⟩) (meth := k11m1) (c := k11c1) (by decide +kernel) rfl rfl rfl (by decide +kernel)
set_option maxRecDepth 65536 in
theorem w_c10 : (Jvm.Cond.code ({ cls := "java/lang/Math", name := "min", desc := "(II)I" } : Jvm.MethodName) jdk_29_method_69_code (2 : Nat) (Option.some Jvm.ClassFile.FieldType.int)).before args0 about1 = true := code_word (m := ⟨10, 2⟩) (meth := k10m2) (c := k10c2) (by decide +kernel) rfl rfl rfl (by decide +kernel)
def codes1 : List Jvm.Cond := [Jvm.Cond.code x code maxLocals ret, Jvm.Cond.code ({ cls := "com/example/candid_facts/candidfacts/Answer$Listed", name := "<init>", desc := "(I)V" } : Jvm.MethodName) prog_2_method_1_code (3 : Nat) (Option.none : Option Jvm.ClassFile.FieldType), Jvm.Cond.code ({ cls := "java/lang/Object", name := "<init>", desc := "()V" } : Jvm.MethodName) object_method_1_code (1 : Nat) (Option.none : Option Jvm.ClassFile.FieldType), Jvm.Cond.code ({ cls := "com/example/candid_facts/candidfacts/Truth", name := "values", desc := "()[Lcom/example/candid_facts/candidfacts/Truth;" } : Jvm.MethodName) prog_91_method_1_code (0 : Nat) (Option.some (Jvm.ClassFile.FieldType.array (Jvm.ClassFile.FieldType.object "com/example/candid_facts/candidfacts/Truth"))), Jvm.Cond.code ({ cls := "com/example/candid_facts/candidfacts/ListedSizePinLaw", name := "truthOf", desc := "(I)Lcom/example/candid_facts/candidfacts/Truth;" } : Jvm.MethodName) method_2_code (2 : Nat) (Option.some (Jvm.ClassFile.FieldType.object "com/example/candid_facts/candidfacts/Truth")), Jvm.Cond.code ({ cls := "com/example/candid_facts/candidfacts/Answer$Listed", name := "add", desc := "([ILcom/example/candid_facts/candidfacts/Truth;)V" } : Jvm.MethodName) prog_2_method_2_code (6 : Nat) (Option.none : Option Jvm.ClassFile.FieldType), Jvm.Cond.code ({ cls := "java/lang/Enum", name := "ordinal", desc := "()I" } : Jvm.MethodName) jdk_37_method_2_code (1 : Nat) (Option.some Jvm.ClassFile.FieldType.int), Jvm.Cond.code ({ cls := "com/example/candid_facts/candidfacts/Answer$Listed", name := "size", desc := "()J" } : Jvm.MethodName) prog_2_method_4_code (7 : Nat) (Option.some Jvm.ClassFile.FieldType.long), Jvm.Cond.code ({ cls := "java/lang/Math", name := "max", desc := "(II)I" } : Jvm.MethodName) jdk_29_method_65_code (2 : Nat) (Option.some Jvm.ClassFile.FieldType.int), Jvm.Cond.code ({ cls := "java/util/Arrays", name := "copyOf", desc := "([II)[I" } : Jvm.MethodName) jdk_65_method_123_code (3 : Nat) (Option.some (Jvm.ClassFile.FieldType.array Jvm.ClassFile.FieldType.int)), Jvm.Cond.code ({ cls := "java/lang/Math", name := "min", desc := "(II)I" } : Jvm.MethodName) jdk_29_method_69_code (2 : Nat) (Option.some Jvm.ClassFile.FieldType.int)]
set_option maxRecDepth 65536 in
theorem codes_eq : words1.filter isCode = codes1 := rfl
theorem w_codes : ∀ c ∈ words1.filter isCode, c.before args0 about1 = true := by
  rw [codes_eq]
  intro c hc
  simp only [codes1, List.mem_cons, List.not_mem_nil, or_false] at hc
  rcases hc with rfl | rfl | rfl | rfl | rfl | rfl | rfl | rfl | rfl | rfl | rfl
  · exact w_c0
  · exact w_c1
  · exact w_c2
  · exact w_c3
  · exact w_c4
  · exact w_c5
  · exact w_c6
  · exact w_c7
  · exact w_c8
  · exact w_c9
  · exact w_c10
set_option maxRecDepth 65536 in
theorem w_t1 : (words1.take 24).all (fun c => isCode c || c.before args0 about1) = true := by decide +kernel
set_option maxRecDepth 65536 in
theorem w_t2 : ((words1.drop 24).take 24).all (fun c => isCode c || c.before args0 about1) = true := by decide +kernel
set_option maxRecDepth 65536 in
theorem w_t3 : (((words1.drop 24).drop 24).take 24).all (fun c => isCode c || c.before args0 about1) = true := by decide +kernel
set_option maxRecDepth 65536 in
theorem w_t4 : (((words1.drop 24).drop 24).drop 24).all (fun c => isCode c || c.before args0 about1) = true := by decide +kernel
theorem w_tables : (allAtoms (Jvm.Cond.code x code maxLocals ret :: tables_1)).before args0 about1 = true := by
  rw [allAtoms_all]
  show words1.all (fun c => c.before args0 about1) = true
  refine all_split ?_ w_codes
  rw [← List.take_append_drop 24 words1, List.all_append, w_t1, ← List.take_append_drop 24 (words1.drop 24), List.all_append, w_t2, ← List.take_append_drop 24 ((words1.drop 24).drop 24), List.all_append, w_t3, w_t4]
  rfl
set_option maxRecDepth 65536 in
theorem w_case : (Jvm.Cond.and given_1 narrow_1).before args0 about1 = true := by decide +kernel
theorem w_applies : (headSpec (Jvm.Cond.code x code maxLocals ret :: tables_1) room_1).applies x e0.platform about1 = true :=
  (Spec.applies_iff w_frames).mpr ⟨w_running, w_runnable, w_alone, w_named, w_hears, w_ripe, w_room, w_tables⟩
theorem atStart : AtStart classFile x code maxLocals ret World_1 tables_1 room_1 Calls_1 rest_1 Pre_1 launch0 p0 e0 about1 theMethod args0 below0 :=
  ⟨lists_1, trivial, launch0.admits_env _ _ _, launch0.least_env, fairChoices_fair.cas, fairChoices_fair.clock, w_frames, w_args, w_heap, w_applies, trivial, trivial, w_case⟩
end start1
theorem witness_1 : WitnessClaimed_1 := ⟨start1.p0, start1.e0, start1.about1, start1.theMethod, start1.args0, start1.below0, start1.atStart⟩
end Jvm.Pilot.@@N@@
