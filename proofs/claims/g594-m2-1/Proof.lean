import JvmDerived
import JvmDerived.Pilot.@@N@@Statement
import JvmDerived.Pilot.@@N@@Code
set_option linter.unusedVariables false
set_option linter.unusedSimpArgs false
namespace Jvm.RoadKit
open Sem ClassFile Op Lib Jvm.Stand Jvm.Free Jvm.LawKit
section Own
variable {p : Program} {l : Launch} {e : Env} {R : Room} {s : State} {m : MethodId} {args : Array Value} {below : List Frame} {meth : Method} {c : Code} {T : State} {locs : List Loc} {cells slots : Nat}
/-- from S the run comes to an end of which K holds -/
def oG (p : Program) (e : Env) (below : List Frame) (K : State → Outcome → Prop) (S : State) : Prop := ∃ t o, Steps p.tables e below S t ∧ t.status = .running ∧ Ended t below o ∧ K t o
def own_K (s : State) (Q : Option Value → Heap → List Loc → Prop) (k n : Nat) (t : State) (o : Outcome) : Prop := ∃ v L, o = .returned v ∧ Q v t.heap L ∧ FrameEnd s o t L k n
theorem og {K : State → Outcome → Prop} {S S' : State} (h : ∀ t, Steps p.tables e below S' t → Steps p.tables e below S t) (g : oG p e below K S') : oG p e below K S := by
  obtain ⟨t, o, h1, h2⟩ := g; exact ⟨t, o, h t h1, h2⟩
theorem own_via {K : State → Outcome → Prop} {S S' : State} (h : Steps p.tables e below S S') (g : oG p e below K S') : oG p e below K S := by
  obtain ⟨t, o, h1, h2⟩ := g; exact ⟨t, o, h.trans h1, h2⟩
variable {Q : Option Value → Heap → List Loc → Prop} {k n : Nat}
theorem own_end (X : Stand p l e R s m args below meth c T locs cells slots) {v : Option Value} (hlk : meth.locks = false) (hv : meth.sig.returnType = none → v = none) (hk : cells ≤ k) (hn : slots ≤ n) (hQ : Q v T.heap locs) {S : State}
    (st : ∀ fs, (∀ (f : JFrame) (acts : List Action), f.method = m → f.locked = none → f.entered = [] → (doReturn e (T.setTop f) acts v).1 = T.setFrames fs) → Steps p.tables e below S (T.setFrames fs)) : oG p e below (own_K s Q k n) S := by
  obtain ⟨fs, hr, hrun, hended, hW, hsame⟩ := X.leave hv hlk
  exact ⟨_, _, st fs hr, hrun, hended, v, locs, rfl, hQ, ⟨_, rfl⟩, hW, hsame.mono hk hn⟩
theorem own_ret0 (X : Stand p l e R s m args below meth c T locs cells slots) (hx : p.tables.exec = Jvm.exec) (hlk : meth.locks = false) (hret : meth.sig.returnType = none) {pc : Nat} {Ls : Array Slot} (hd : decode c.code pc = .ok (.return_, 1)) (hk : cells ≤ k) (hn : slots ≤ n) (hQ : Q none T.heap locs) :
    oG p e below (own_K s Q k n) (T.setTop (mkF m pc Ls [])) := own_end X hlk (fun _ => rfl) hk hn hQ fun _ hr => X.returnOut hx hret hd hr
theorem own_retN (X : Stand p l e R s m args below meth c T locs cells slots) (hx : p.tables.exec = Jvm.exec) (hlk : meth.locks = false) {t : FieldType} (hret : meth.sig.returnType = some t) (ht : t = .boolean ∨ t = .byte ∨ t = .char ∨ t = .short) {pc : Nat} {Ls : Array Slot} {z : Int32} {rest : List Value} (hd : decode c.code pc = .ok (.ireturn, 1)) (hk : cells ≤ k) (hn : slots ≤ n) (hQ : Q (some (.int (nar t z))) T.heap locs) :
    oG p e below (own_K s Q k n) (T.setTop (mkF m pc Ls (.int z :: rest))) := own_end X hlk (fun h => by rw [hret] at h; cases h) hk hn hQ fun _ hr => retN X hx hret ht hd hr
theorem own_retI (X : Stand p l e R s m args below meth c T locs cells slots) (hx : p.tables.exec = Jvm.exec) (hlk : meth.locks = false) (hret : meth.sig.returnType = some .int) {pc : Nat} {Ls : Array Slot} {z : Int32} {rest : List Value} (hd : decode c.code pc = .ok (.ireturn, 1)) (hk : cells ≤ k) (hn : slots ≤ n) (hQ : Q (some (.int z)) T.heap locs) :
    oG p e below (own_K s Q k n) (T.setTop (mkF m pc Ls (.int z :: rest))) := own_end X hlk (fun h => by rw [hret] at h; cases h) hk hn hQ fun _ hr => retOut X hx hret rfl (Or.inl ⟨rfl, Or.inl rfl, z, rfl⟩) hd hr
theorem own_retJ (X : Stand p l e R s m args below meth c T locs cells slots) (hx : p.tables.exec = Jvm.exec) (hlk : meth.locks = false) (hret : meth.sig.returnType = some .long) {pc : Nat} {Ls : Array Slot} {z : Int64} {rest : List Value} (hd : decode c.code pc = .ok (.lreturn, 1)) (hk : cells ≤ k) (hn : slots ≤ n) (hQ : Q (some (.long z)) T.heap locs) :
    oG p e below (own_K s Q k n) (T.setTop (mkF m pc Ls (.long z :: rest))) := own_end X hlk (fun h => by rw [hret] at h; cases h) hk hn hQ fun _ hr => retOut X hx hret rfl (Or.inr (Or.inl ⟨rfl, rfl, z, rfl⟩)) hd hr
theorem own_retR (X : Stand p l e R s m args below meth c T locs cells slots) (hx : p.tables.exec = Jvm.exec) (hlk : meth.locks = false) {t : FieldType} (hret : meth.sig.returnType = some t) (ht : t.isReference = true) {pc : Nat} {Ls : Array Slot} {w : Value} {rest : List Value} (hw : w.isRef = true) (hd : decode c.code pc = .ok (.areturn, 1)) (hk : cells ≤ k) (hn : slots ≤ n) (hQ : Q (some w) T.heap locs) :
    oG p e below (own_K s Q k n) (T.setTop (mkF m pc Ls (w :: rest))) := own_end X hlk (fun h => by rw [hret] at h; cases h) hk hn hQ fun _ hr => retOut X hx hret (by cases t <;> first | rfl | cases ht) (Or.inr (Or.inr (Or.inr (Or.inr ⟨rfl, ht, hw⟩)))) hd hr
section Arrays
variable {Z : State} {h : Heap} {a : Addr} {k : ClassId} {ty : FieldType} {z : Int32} {vs : List Value} {dv : Value}
theorem own_iaload {g : JFrame} {target : State} (X : Stand p l e R s m args below meth c T locs cells slots) (hx : p.tables.exec = Jvm.exec) (hZ : Z.Warmed39 s.vm) (eT : T.heap = h) (F : Arv Z h a k .int z vs dv) (j : Int32) (v : Value) (hj : ¬ j < 0 ∧ j < z) (hat : vs.getD j.toNatClampNeg dv = v) (hg : g.method = m) {rest : List Value} (hs : g.stack = .int j :: .ref a :: rest) (hd : decode c.code g.pc = .ok (.iaload, 1))
    (hr : Steps p.tables e below (T.setTop { g with pc := g.pc + 1, stack := v :: rest }) target) : Steps p.tables e below (T.setTop g) target := by
  obtain ⟨cl, A, q, S, N, H, G⟩ := F
  have hi := inb_of S hj
  exact X.iaload hx (j := j) (v := v) (by rw [eT]; exact A.1) (State.isArrayOf_alike hZ.alike A.2.1) A.2.2 hi (Has.at H hi hat) hg hs hd _ hr
theorem own_caload {g : JFrame} {target : State} (X : Stand p l e R s m args below meth c T locs cells slots) (hx : p.tables.exec = Jvm.exec) (hZ : Z.Warmed39 s.vm) (eT : T.heap = h) (F : Arv Z h a k .char z vs dv) (j : Int32) (v : Value) (hj : ¬ j < 0 ∧ j < z) (hat : vs.getD j.toNatClampNeg dv = v) (hg : g.method = m) {rest : List Value} (hs : g.stack = .int j :: .ref a :: rest) (hd : decode c.code g.pc = .ok (.caload, 1))
    (hr : Steps p.tables e below (T.setTop { g with pc := g.pc + 1, stack := v :: rest }) target) : Steps p.tables e below (T.setTop g) target := by
  obtain ⟨cl, A, q, S, N, H, G⟩ := F
  have hi := inb_of S hj
  exact X.caload hx (j := j) (v := v) (by rw [eT]; exact A.1) (State.isArrayOf_alike hZ.alike A.2.1) A.2.2 hi (Has.at H hi hat) hg hs hd _ hr
theorem own_saload {g : JFrame} {target : State} (X : Stand p l e R s m args below meth c T locs cells slots) (hx : p.tables.exec = Jvm.exec) (hZ : Z.Warmed39 s.vm) (eT : T.heap = h) (F : Arv Z h a k .short z vs dv) (j : Int32) (v : Value) (hj : ¬ j < 0 ∧ j < z) (hat : vs.getD j.toNatClampNeg dv = v) (hg : g.method = m) {rest : List Value} (hs : g.stack = .int j :: .ref a :: rest) (hd : decode c.code g.pc = .ok (.saload, 1))
    (hr : Steps p.tables e below (T.setTop { g with pc := g.pc + 1, stack := v :: rest }) target) : Steps p.tables e below (T.setTop g) target := by
  obtain ⟨cl, A, q, S, N, H, G⟩ := F
  have hi := inb_of S hj
  exact X.saload hx (j := j) (v := v) (by rw [eT]; exact A.1) (State.isArrayOf_alike hZ.alike A.2.1) A.2.2 hi (Has.at H hi hat) hg hs hd _ hr
theorem own_baload {g : JFrame} {target : State} (X : Stand p l e R s m args below meth c T locs cells slots) (hx : p.tables.exec = Jvm.exec) (hZ : Z.Warmed39 s.vm) (eT : T.heap = h) (F : Arv Z h a k .byte z vs dv) (j : Int32) (v : Value) (hj : ¬ j < 0 ∧ j < z) (hat : vs.getD j.toNatClampNeg dv = v) (hg : g.method = m) {rest : List Value} (hs : g.stack = .int j :: .ref a :: rest) (hd : decode c.code g.pc = .ok (.baload, 1))
    (hr : Steps p.tables e below (T.setTop { g with pc := g.pc + 1, stack := v :: rest }) target) : Steps p.tables e below (T.setTop g) target := by
  obtain ⟨cl, A, q, S, N, H, G⟩ := F
  have hi := inb_of S hj
  exact X.baloadBytes hx (j := j) (v := v) (by rw [eT]; exact A.1) (State.isArrayOf_alike hZ.alike A.2.1) A.2.2 hi (Has.at H hi hat) hg hs hd _ hr
theorem own_zaload {g : JFrame} {target : State} (X : Stand p l e R s m args below meth c T locs cells slots) (hx : p.tables.exec = Jvm.exec) (hZ : Z.Warmed39 s.vm) (eT : T.heap = h) (F : Arv Z h a k .boolean z vs dv) (j : Int32) (v : Value) (hj : ¬ j < 0 ∧ j < z) (hat : vs.getD j.toNatClampNeg dv = v) (hg : g.method = m) {rest : List Value} (hs : g.stack = .int j :: .ref a :: rest) (hd : decode c.code g.pc = .ok (.baload, 1))
    (hr : Steps p.tables e below (T.setTop { g with pc := g.pc + 1, stack := v :: rest }) target) : Steps p.tables e below (T.setTop g) target := by
  obtain ⟨cl, A, q, S, N, H, G⟩ := F
  have hi := inb_of S hj
  exact X.baloadBooleans hx (j := j) (v := v) (by rw [eT]; exact A.1) (State.isArrayOf_alike hZ.alike A.2.1) A.2.2 hi (Has.at H hi hat) hg hs hd _ hr
theorem own_laload {g : JFrame} {target : State} (X : Stand p l e R s m args below meth c T locs cells slots) (hx : p.tables.exec = Jvm.exec) (hZ : Z.Warmed39 s.vm) (eT : T.heap = h) (F : Arv Z h a k .long z vs dv) (j : Int32) (v : Value) (hj : ¬ j < 0 ∧ j < z) (hat : vs.getD j.toNatClampNeg dv = v) (hg : g.method = m) {rest : List Value} (hs : g.stack = .int j :: .ref a :: rest) (hd : decode c.code g.pc = .ok (.laload, 1))
    (hr : Steps p.tables e below (T.setTop { g with pc := g.pc + 1, stack := v :: rest }) target) : Steps p.tables e below (T.setTop g) target := by
  obtain ⟨cl, A, q, S, N, H, G⟩ := F
  have hi := inb_of S hj
  exact X.laload hx (j := j) (v := v) (by rw [eT]; exact A.1) (State.isArrayOf_alike hZ.alike A.2.1) A.2.2 hi (Has.at H hi hat) hg hs hd _ hr
theorem own_aaload {g : JFrame} {target : State} (X : Stand p l e R s m args below meth c T locs cells slots) (hx : p.tables.exec = Jvm.exec) (hZ : Z.Warmed39 s.vm) (eT : T.heap = h) (F : Arv Z h a k ty z vs dv) (j : Int32) (v : Value) (hj : ¬ j < 0 ∧ j < z) (hat : vs.getD j.toNatClampNeg dv = v) (hty : ty.isReference = true) (hg : g.method = m) {rest : List Value} (hs : g.stack = .int j :: .ref a :: rest) (hd : decode c.code g.pc = .ok (.aaload, 1))
    (hr : Steps p.tables e below (T.setTop { g with pc := g.pc + 1, stack := v :: rest }) target) : Steps p.tables e below (T.setTop g) target := by
  obtain ⟨cl, A, q, S, N, H, G⟩ := F
  have hi := inb_of S hj
  exact X.aaload hx (j := j) (v := v) (by rw [eT]; exact A.1) (State.isArrayOf_alike hZ.alike A.2.1) hty A.2.2 hi (Has.at H hi hat) hg hs hd _ hr
theorem own_alen {g : JFrame} {target : State} (X : Stand p l e R s m args below meth c T locs cells slots) (hx : p.tables.exec = Jvm.exec) (hZ : Z.Warmed39 s.vm) (eT : T.heap = h) (F : Arv Z h a k ty z vs dv) (hg : g.method = m) {rest : List Value} (hs : g.stack = .ref a :: rest) (hd : decode c.code g.pc = .ok (.arraylength, 1))
    (hr : Steps p.tables e below (T.setTop { g with pc := g.pc + 1, stack := .int z :: rest }) target) : Steps p.tables e below (T.setTop g) target := by
  obtain ⟨cl, A, q, S, N, -, -⟩ := F
  exact X.arraylength hx (by rw [eT]; exact A.1) (State.isArrayOf_alike hZ.alike A.2.1) hg hs hd _ (by rw [len_of S N]; exact hr)
theorem own_stI {K : State → Outcome → Prop} {n0 : Nat} (X : Stand p l e R s m args below meth c T locs cells slots) (hx : p.tables.exec = Jvm.exec) (hZ : Z.Warmed39 s.vm) (eT : T.heap = h) (F : Arv Z h a k .int z vs dv) (j : Int32) (x : Int32) (i : Nat) (hj : ¬ j < 0 ∧ j < z) (hi : j.toNatClampNeg = i) (hl : i < vs.length) (vs' : List Value) (hv : vs.set i (.int x) = vs') (N : Fr n0 locs) (ge : n0 ≤ a) {pc : Nat} {Ls : Array Slot} {rest : List Value} (hd : decode c.code pc = .ok (.iastore, 1))
    (kk : ∀ (T' : State) (h' : Heap) (L' : List Loc), Stand p l e R s m args below meth c T' L' cells slots → T'.heap = h' → Wr h h' a i (.int x) → Fr n0 L' → Arv Z h' a k .int z vs' dv → oG p e below K (T'.setTop (mkF m (pc + 1) Ls rest))) : oG p e below K (T.setTop (mkF m pc Ls (.int x :: .int j :: .ref a :: rest))) := by
  obtain ⟨cl, A, q, S, M, H, G⟩ := F
  subst hi; subst hv
  obtain ⟨T', h', X', e', W, st⟩ := stI X hx hZ eT A (j := j) (inb_of S hj) (g := mkF m pc Ls (.int x :: .int j :: .ref a :: rest)) rfl rfl hd
  exact og st (kk T' h' _ X' e' W (Fr.snoc X' N ge) (Arv.set A q S M H G rfl W _ rfl hl))
theorem own_stJ {K : State → Outcome → Prop} {n0 : Nat} (X : Stand p l e R s m args below meth c T locs cells slots) (hx : p.tables.exec = Jvm.exec) (hZ : Z.Warmed39 s.vm) (eT : T.heap = h) (F : Arv Z h a k .long z vs dv) (j : Int32) (x : Int64) (i : Nat) (hj : ¬ j < 0 ∧ j < z) (hi : j.toNatClampNeg = i) (hl : i < vs.length) (vs' : List Value) (hv : vs.set i (.long x) = vs') (N : Fr n0 locs) (ge : n0 ≤ a) {pc : Nat} {Ls : Array Slot} {rest : List Value} (hd : decode c.code pc = .ok (.lastore, 1))
    (kk : ∀ (T' : State) (h' : Heap) (L' : List Loc), Stand p l e R s m args below meth c T' L' cells slots → T'.heap = h' → Wr h h' a i (.long x) → Fr n0 L' → Arv Z h' a k .long z vs' dv → oG p e below K (T'.setTop (mkF m (pc + 1) Ls rest))) : oG p e below K (T.setTop (mkF m pc Ls (.long x :: .int j :: .ref a :: rest))) := by
  obtain ⟨cl, A, q, S, M, H, G⟩ := F
  subst hi; subst hv
  obtain ⟨T', h', X', e', W, st⟩ := stJ X hx hZ eT A (j := j) (inb_of S hj) (g := mkF m pc Ls (.long x :: .int j :: .ref a :: rest)) rfl rfl hd
  exact og st (kk T' h' _ X' e' W (Fr.snoc X' N ge) (Arv.set A q S M H G rfl W _ rfl hl))
theorem own_stB {K : State → Outcome → Prop} {n0 : Nat} (X : Stand p l e R s m args below meth c T locs cells slots) (hx : p.tables.exec = Jvm.exec) (hZ : Z.Warmed39 s.vm) (eT : T.heap = h) (F : Arv Z h a k .byte z vs dv) (j : Int32) (x x' : Int32) (i : Nat) (hj : ¬ j < 0 ∧ j < z) (hi : j.toNatClampNeg = i) (hl : i < vs.length) (hn : nar .byte x = x') (vs' : List Value) (hv : vs.set i (.int x') = vs') (N : Fr n0 locs) (ge : n0 ≤ a) {pc : Nat} {Ls : Array Slot} {rest : List Value} (hd : decode c.code pc = .ok (.bastore, 1))
    (kk : ∀ (T' : State) (h' : Heap) (L' : List Loc), Stand p l e R s m args below meth c T' L' cells slots → T'.heap = h' → Wr h h' a i (.int x') → Fr n0 L' → Arv Z h' a k .byte z vs' dv → oG p e below K (T'.setTop (mkF m (pc + 1) Ls rest))) : oG p e below K (T.setTop (mkF m pc Ls (.int x :: .int j :: .ref a :: rest))) := by
  obtain ⟨cl, A, q, S, M, H, G⟩ := F
  subst hn; subst hi; subst hv
  obtain ⟨T', h', X', e', W, st⟩ := stB X hx hZ eT A (j := j) (inb_of S hj) (g := mkF m pc Ls (.int x :: .int j :: .ref a :: rest)) rfl rfl hd
  exact og st (kk T' h' _ X' e' W (Fr.snoc X' N ge) (Arv.set A q S M H G (fits_nar_byte _) W _ rfl hl))
theorem own_stZ {K : State → Outcome → Prop} {n0 : Nat} (X : Stand p l e R s m args below meth c T locs cells slots) (hx : p.tables.exec = Jvm.exec) (hZ : Z.Warmed39 s.vm) (eT : T.heap = h) (F : Arv Z h a k .boolean z vs dv) (j : Int32) (x x' : Int32) (i : Nat) (hj : ¬ j < 0 ∧ j < z) (hi : j.toNatClampNeg = i) (hl : i < vs.length) (hn : nar .boolean x = x') (vs' : List Value) (hv : vs.set i (.int x') = vs') (N : Fr n0 locs) (ge : n0 ≤ a) {pc : Nat} {Ls : Array Slot} {rest : List Value} (hd : decode c.code pc = .ok (.bastore, 1))
    (kk : ∀ (T' : State) (h' : Heap) (L' : List Loc), Stand p l e R s m args below meth c T' L' cells slots → T'.heap = h' → Wr h h' a i (.int x') → Fr n0 L' → Arv Z h' a k .boolean z vs' dv → oG p e below K (T'.setTop (mkF m (pc + 1) Ls rest))) : oG p e below K (T.setTop (mkF m pc Ls (.int x :: .int j :: .ref a :: rest))) := by
  obtain ⟨cl, A, q, S, M, H, G⟩ := F
  subst hn; subst hi; subst hv
  obtain ⟨T', h', X', e', W, st⟩ := stZ X hx hZ eT A (j := j) (inb_of S hj) (g := mkF m pc Ls (.int x :: .int j :: .ref a :: rest)) rfl rfl hd
  exact og st (kk T' h' _ X' e' W (Fr.snoc X' N ge) (Arv.set A q S M H G (fits_nar_bool _) W _ rfl hl))
theorem own_stC {K : State → Outcome → Prop} {n0 : Nat} (X : Stand p l e R s m args below meth c T locs cells slots) (hx : p.tables.exec = Jvm.exec) (hZ : Z.Warmed39 s.vm) (eT : T.heap = h) (F : Arv Z h a k .char z vs dv) (j : Int32) (x x' : Int32) (i : Nat) (hj : ¬ j < 0 ∧ j < z) (hi : j.toNatClampNeg = i) (hl : i < vs.length) (hn : nar .char x = x') (vs' : List Value) (hv : vs.set i (.int x') = vs') (N : Fr n0 locs) (ge : n0 ≤ a) {pc : Nat} {Ls : Array Slot} {rest : List Value} (hd : decode c.code pc = .ok (.castore, 1))
    (kk : ∀ (T' : State) (h' : Heap) (L' : List Loc), Stand p l e R s m args below meth c T' L' cells slots → T'.heap = h' → Wr h h' a i (.int x') → Fr n0 L' → Arv Z h' a k .char z vs' dv → oG p e below K (T'.setTop (mkF m (pc + 1) Ls rest))) : oG p e below K (T.setTop (mkF m pc Ls (.int x :: .int j :: .ref a :: rest))) := by
  obtain ⟨cl, A, q, S, M, H, G⟩ := F
  subst hn; subst hi; subst hv
  obtain ⟨T', h', X', e', W, st⟩ := stC X hx hZ eT A (j := j) (inb_of S hj) (g := mkF m pc Ls (.int x :: .int j :: .ref a :: rest)) rfl rfl hd
  exact og st (kk T' h' _ X' e' W (Fr.snoc X' N ge) (Arv.set A q S M H G (fits_nar_char _) W _ rfl hl))
theorem own_stS {K : State → Outcome → Prop} {n0 : Nat} (X : Stand p l e R s m args below meth c T locs cells slots) (hx : p.tables.exec = Jvm.exec) (hZ : Z.Warmed39 s.vm) (eT : T.heap = h) (F : Arv Z h a k .short z vs dv) (j : Int32) (x x' : Int32) (i : Nat) (hj : ¬ j < 0 ∧ j < z) (hi : j.toNatClampNeg = i) (hl : i < vs.length) (hn : nar .short x = x') (vs' : List Value) (hv : vs.set i (.int x') = vs') (N : Fr n0 locs) (ge : n0 ≤ a) {pc : Nat} {Ls : Array Slot} {rest : List Value} (hd : decode c.code pc = .ok (.sastore, 1))
    (kk : ∀ (T' : State) (h' : Heap) (L' : List Loc), Stand p l e R s m args below meth c T' L' cells slots → T'.heap = h' → Wr h h' a i (.int x') → Fr n0 L' → Arv Z h' a k .short z vs' dv → oG p e below K (T'.setTop (mkF m (pc + 1) Ls rest))) : oG p e below K (T.setTop (mkF m pc Ls (.int x :: .int j :: .ref a :: rest))) := by
  obtain ⟨cl, A, q, S, M, H, G⟩ := F
  subst hn; subst hi; subst hv
  obtain ⟨T', h', X', e', W, st⟩ := stS X hx hZ eT A (j := j) (inb_of S hj) (g := mkF m pc Ls (.int x :: .int j :: .ref a :: rest)) rfl rfl hd
  exact og st (kk T' h' _ X' e' W (Fr.snoc X' N ge) (Arv.set A q S M H G (fits_nar_short _) W _ rfl hl))
theorem own_stR {K : State → Outcome → Prop} {n0 : Nat} (X : Stand p l e R s m args below meth c T locs cells slots) (hx : p.tables.exec = Jvm.exec) (hZ : Z.Warmed39 s.vm) (eT : T.heap = h) (F : Arv Z h a k ty z vs dv) (j : Int32) (v : Value) (i : Nat) (hj : ¬ j < 0 ∧ j < z) (hi : j.toNatClampNeg = i) (hl : i < vs.length) (sto : ∀ cl : Cell, Arr Z h a cl ty → cl.cls = k → Sto Z h a v) (hty : ty.isReference = true) (vs' : List Value) (hv : vs.set i v = vs') (N : Fr n0 locs) (ge : n0 ≤ a) {pc : Nat} {Ls : Array Slot} {rest : List Value} (hd : decode c.code pc = .ok (.aastore, 1))
    (kk : ∀ (T' : State) (h' : Heap) (L' : List Loc), Stand p l e R s m args below meth c T' L' cells slots → T'.heap = h' → Wr h h' a i v → Fr n0 L' → Arv Z h' a k ty z vs' dv → oG p e below K (T'.setTop (mkF m (pc + 1) Ls rest))) : oG p e below K (T.setTop (mkF m pc Ls (v :: .int j :: .ref a :: rest))) := by
  obtain ⟨cl, A, q, S, M, H, G⟩ := F
  subst hi; subst hv
  have so := sto cl A q
  obtain ⟨T', h', X', e', W, st⟩ := stR X hx hZ eT A (j := j) (inb_of S hj) hty so (g := mkF m pc Ls (v :: .int j :: .ref a :: rest)) rfl rfl hd
  have fv : fits ty v = true := by
    rcases so with rfl | ⟨_, _, _, _, _, _, _, y, _, _, _, _, rfl, _⟩ <;> cases ty <;> first | rfl | cases hty
  exact og st (kk T' h' _ X' e' W (Fr.snoc X' N ge) (Arv.set A q S M H G fv W _ rfl hl))
end Arrays
section Calls
variable {own : String} {index : Nat} {y z : MethodName} {bytes : ByteArray} {maxL : Nat} {ret : Option FieldType} {rm : Room} {W : Nat} {as' : Array Value} {Z : State} {a0 : Array Value} {h : Heap} {K : State → Outcome → Prop} {pc : Nat} {Ls : Array Slot} {argsL rest stk : List Value} {C : String} {b : Addr}
theorem own_cs (X : Stand p l e R s m args below meth c T locs cells slots) (hx : p.tables.exec = Jvm.exec) (hZ : Z.Warmed39 s.vm) (hown : s.vm.findClass own = some m.cls) (w1 : (Cond.methodLink own index y).before a0 Z = true) (w2 : (Cond.static y).before a0 Z = true) (w3 : (Cond.initialized y.cls).before a0 Z = true) (w4 : (Cond.code y bytes maxL ret).before a0 Z = true)
    (hy : y.cls ≠ "java/lang/invoke/MethodHandle" ∧ y.cls ≠ "java/lang/invoke/VarHandle")
    (hM : MetFree l y (head1 [Cond.code y bytes maxL ret] rm) (fun a U => a = as' ∧ Z.Warmed39 U.vm ∧ U.heap = h) (fun _ _ _ _ _ => True) (fun _ U o U' => ∃ v L, o = .returned v ∧ Q v U'.heap L ∧ FrameEnd U o U' L rm.cells rm.slots))
    (hf : rm.frames + 1 ≤ R.frames) (hl : W + (maxL + 11) + rm.locals ≤ R.locals) (hc : cells + rm.cells ≤ R.cells) (hs : slots + rm.slots ≤ R.slots) (eT : T.heap = h) (hsz : Ls.size = c.maxLocals) (hlen : ∀ sig, parseMethodDescriptor y.desc = some sig → argsL.length = sig.parameters.length)
    (hst : stk = argsL.reverse ++ rest) (has : argsL.toArray = as') (hW : (rest.map fun v => v.category).sum ≤ W) (hd : decode c.code pc = .ok (.invokestatic index, 3))
    (k : ∀ (v : Option Value) (T' : State) (L : List Loc), Stand p l e R s m args below meth c T' (locs ++ L) (cells + rm.cells) (slots + rm.slots) → Q v T'.heap L → oG p e below K (T'.setTop (mkF m (pc + 3) Ls (v.toList ++ rest)))) : oG p e below K (T.setTop (mkF m pc Ls stk)) := by
  obtain ⟨v, _, ⟨T', L', k', n'⟩, -, X', ⟨L, hQ, h1, h2, h3⟩, st⟩ := Jvm.LawKit.callS X hx (y := y) hown (mvT hZ w1) (mvT hZ w2) (mvT hZ w3) (mvT hZ w4) hy (backOf (W := W) hM hZ w4 w3 hf hl) (g := mkF m pc Ls stk) rfl hsz (argsL := argsL) (rest := rest) hlen hst (by show 2 * 0 + _ ≤ _; simpa using hW) hd (fun _ _ => ⟨has, eT, hc, hs⟩)
  dsimp only [Pt.U, Pt.locs, Pt.cells, Pt.slots] at X' h1 h2 h3 st hQ
  subst h1 h2 h3
  exact og st (k v T' L X' hQ)
theorem own_cp (X : Stand p l e R s m args below meth c T locs cells slots) (hx : p.tables.exec = Jvm.exec) (hZ : Z.Warmed39 s.vm) (hown : s.vm.findClass own = some m.cls) (hy1 : y.name = "<init>") (w1 : (Cond.methodLink own index y).before a0 Z = true) (w2 : (Cond.instanceMethod y).before a0 Z = true) (w3 : (Cond.initialized y.cls).before a0 Z = true) (w4 : (Cond.code y bytes maxL none).before a0 Z = true)
    (hy : y.cls ≠ "java/lang/invoke/MethodHandle" ∧ y.cls ≠ "java/lang/invoke/VarHandle")
    (hM : MetFree l y (head1 [Cond.code y bytes maxL none] rm) (fun a U => a = as' ∧ Z.Warmed39 U.vm ∧ U.heap = h) (fun _ _ _ _ _ => True) (fun _ U o U' => ∃ v L, o = .returned v ∧ Q v U'.heap L ∧ FrameEnd U o U' L rm.cells rm.slots))
    (hf : rm.frames + 1 ≤ R.frames) (hl : W + (maxL + 11) + rm.locals ≤ R.locals) (hc : cells + rm.cells ≤ R.cells) (hs : slots + rm.slots ≤ R.slots) (eT : T.heap = h) (hsz : Ls.size = c.maxLocals) (hlen : ∀ sig, parseMethodDescriptor y.desc = some sig → argsL.length = sig.parameters.length)
    (hst : stk = argsL.reverse ++ .ref b :: rest) (has : (.ref b :: argsL).toArray = as') (hW : (rest.map fun v => v.category).sum ≤ W) (hd : decode c.code pc = .ok (.invokespecial index, 3))
    (k : ∀ (v : Option Value) (T' : State) (L : List Loc), Stand p l e R s m args below meth c T' (locs ++ L) (cells + rm.cells) (slots + rm.slots) → Q v T'.heap L → oG p e below K (T'.setTop (mkF m (pc + 3) Ls (v.toList ++ rest)))) : oG p e below K (T.setTop (mkF m pc Ls stk)) := by
  obtain ⟨v, _, ⟨T', L', k', n'⟩, -, X', ⟨L, hQ, h1, h2, h3⟩, st⟩ := X.specialBack hx (y := y) hy1 hown (mvT hZ w1) (mvT hZ w2) (mvT hZ w4) hy (backOf (W := W) hM hZ w4 w3 hf hl) (g := mkF m pc Ls stk) rfl hsz (Steps.refl _) (a := b) (argsL := argsL) (rest := rest) hlen hst (by show 2 * 0 + _ ≤ _; simpa using hW) hd (fun _ _ => ⟨has, eT, hc, hs⟩)
  dsimp only [Pt.U, Pt.locs, Pt.cells, Pt.slots] at X' h1 h2 h3 st hQ
  subst h1 h2 h3
  exact own_via st (k v T' L X' hQ)
theorem own_cv (X : Stand p l e R s m args below meth c T locs cells slots) (hx : p.tables.exec = Jvm.exec) (hZ : Z.Warmed39 s.vm) (hown : s.vm.findClass own = some m.cls) (nf : NotFace s y) (w1 : (Cond.methodLink own index y).before a0 Z = true) (w2 : (Cond.declares y).before a0 Z = true) (w5 : (Cond.selects C y z).before a0 Z = true) (w6 : (Cond.instanceMethod z).before a0 Z = true) (w3 : (Cond.initialized z.cls).before a0 Z = true) (w4 : (Cond.code z bytes maxL ret).before a0 Z = true)
    (hy : y.cls ≠ "java/lang/invoke/MethodHandle" ∧ y.cls ≠ "java/lang/invoke/VarHandle") (E : Exa Z h b C)
    (hM : MetFree l z (head1 [Cond.code z bytes maxL ret] rm) (fun a U => a = as' ∧ Z.Warmed39 U.vm ∧ U.heap = h) (fun _ _ _ _ _ => True) (fun _ U o U' => ∃ v L, o = .returned v ∧ Q v U'.heap L ∧ FrameEnd U o U' L rm.cells rm.slots))
    (hf : rm.frames + 1 ≤ R.frames) (hl : W + (maxL + 11) + rm.locals ≤ R.locals) (hc : cells + rm.cells ≤ R.cells) (hs : slots + rm.slots ≤ R.slots) (eT : T.heap = h) (hsz : Ls.size = c.maxLocals) (hlen : ∀ sig, parseMethodDescriptor y.desc = some sig → argsL.length = sig.parameters.length)
    (hst : stk = argsL.reverse ++ .ref b :: rest) (has : (.ref b :: argsL).toArray = as') (hW : (rest.map fun v => v.category).sum ≤ W) (hd : decode c.code pc = .ok (.invokevirtual index, 3))
    (k : ∀ (v : Option Value) (T' : State) (L : List Loc), Stand p l e R s m args below meth c T' (locs ++ L) (cells + rm.cells) (slots + rm.slots) → Q v T'.heap L → oG p e below K (T'.setTop (mkF m (pc + 3) Ls (v.toList ++ rest)))) : oG p e below K (T.setTop (mkF m pc Ls stk)) := by
  obtain ⟨cq, kq, qa, qb, qc⟩ := isOf hZ eT E
  obtain ⟨v, _, ⟨T', L', k', n'⟩, -, X', ⟨L, hQ, h1, h2, h3⟩, st⟩ := X.virtualBack hx (y := y) (z := z) hown (mvT hZ w1) (mvT hZ w2) nf (mvT hZ w5) (mvT hZ w6) hy (backOf (W := W) hM hZ w4 w3 hf hl) qa qc (g := mkF m pc Ls stk) rfl hsz (Steps.refl _) (argsL := argsL) (rest := rest) hlen hst (by show 2 * 0 + _ ≤ _; simpa using hW) hd (fun _ _ => ⟨has, eT, hc, hs⟩)
  dsimp only [Pt.U, Pt.locs, Pt.cells, Pt.slots] at X' h1 h2 h3 st hQ
  subst h1 h2 h3
  exact own_via st (k v T' L X' hQ)
theorem own_cq (X : Stand p l e R s m args below meth c T locs cells slots) (hx : p.tables.exec = Jvm.exec) (hZ : Z.Warmed39 s.vm) (hown : s.vm.findClass own = some m.cls) (w1 : (Cond.methodLink own index y).before a0 Z = true) (w6 : (Cond.instanceMethod y).before a0 Z = true) (w5 : (Cond.selects y.cls y y).before a0 Z = true) (w7 : (Cond.privateMethod y).before a0 Z = true) (w3 : (Cond.initialized y.cls).before a0 Z = true) (w4 : (Cond.code y bytes maxL ret).before a0 Z = true)
    (hy : y.cls ≠ "java/lang/invoke/MethodHandle" ∧ y.cls ≠ "java/lang/invoke/VarHandle") (E : Exa Z h b C)
    (hM : MetFree l y (head1 [Cond.code y bytes maxL ret] rm) (fun a U => a = as' ∧ Z.Warmed39 U.vm ∧ U.heap = h) (fun _ _ _ _ _ => True) (fun _ U o U' => ∃ v L, o = .returned v ∧ Q v U'.heap L ∧ FrameEnd U o U' L rm.cells rm.slots))
    (hf : rm.frames + 1 ≤ R.frames) (hl : W + (maxL + 11) + rm.locals ≤ R.locals) (hc : cells + rm.cells ≤ R.cells) (hs : slots + rm.slots ≤ R.slots) (eT : T.heap = h) (hsz : Ls.size = c.maxLocals) (hlen : ∀ sig, parseMethodDescriptor y.desc = some sig → argsL.length = sig.parameters.length)
    (hst : stk = argsL.reverse ++ .ref b :: rest) (has : (.ref b :: argsL).toArray = as') (hW : (rest.map fun v => v.category).sum ≤ W) (hd : decode c.code pc = .ok (.invokevirtual index, 3))
    (k : ∀ (v : Option Value) (T' : State) (L : List Loc), Stand p l e R s m args below meth c T' (locs ++ L) (cells + rm.cells) (slots + rm.slots) → Q v T'.heap L → oG p e below K (T'.setTop (mkF m (pc + 3) Ls (v.toList ++ rest)))) : oG p e below K (T.setTop (mkF m pc Ls stk)) := by
  obtain ⟨cq, q1, q2⟩ := E.cell
  obtain ⟨v, _, ⟨T', L', k', n'⟩, -, X', ⟨L, hQ, h1, h2, h3⟩, st⟩ := X.privateBack hx (y := y) hown (mvT hZ w1) (mvT hZ w6) (mvT hZ w5) (Cond.privateMethod_at (mvP hZ w7 (args := #[]))) (mvT hZ w4) hy (backOf (W := W) hM hZ w4 w3 hf hl) (g := mkF m pc Ls stk) rfl hsz (Steps.refl _) (a := b) (by rw [eT]; exact q1) q2 (argsL := argsL) (rest := rest) hlen hst (by show 2 * 0 + _ ≤ _; simpa using hW) hd (fun _ _ => ⟨has, eT, hc, hs⟩)
  dsimp only [Pt.U, Pt.locs, Pt.cells, Pt.slots] at X' h1 h2 h3 st hQ
  subst h1 h2 h3
  exact own_via st (k v T' L X' hQ)
theorem own_cu {owner : String} (X : Stand p l e R s m args below meth c T locs cells slots) (hx : p.tables.exec = Jvm.exec) (hZ : Z.Warmed39 s.vm) (hown : s.vm.findClass own = some m.cls) (w1 : (Cond.methodLink own index y).before a0 Z = true) (w8 : (Cond.sameMethod y.cls owner y.name y.desc).before a0 Z = true) (w2 : (Cond.declares ⟨owner, y.name, y.desc⟩).before a0 Z = true) (w5 : (Cond.selects C y z).before a0 Z = true) (w6 : (Cond.instanceMethod z).before a0 Z = true) (w3 : (Cond.initialized z.cls).before a0 Z = true) (w4 : (Cond.code z bytes maxL ret).before a0 Z = true)
    (hy : owner ≠ "java/lang/invoke/MethodHandle" ∧ owner ≠ "java/lang/invoke/VarHandle") (E : Exa Z h b C)
    (hM : MetFree l z (head1 [Cond.code z bytes maxL ret] rm) (fun a U => a = as' ∧ Z.Warmed39 U.vm ∧ U.heap = h) (fun _ _ _ _ _ => True) (fun _ U o U' => ∃ v L, o = .returned v ∧ Q v U'.heap L ∧ FrameEnd U o U' L rm.cells rm.slots))
    (hf : rm.frames + 1 ≤ R.frames) (hl : W + (maxL + 11) + rm.locals ≤ R.locals) (hc : cells + rm.cells ≤ R.cells) (hs : slots + rm.slots ≤ R.slots) (eT : T.heap = h) (hsz : Ls.size = c.maxLocals) (hlen : ∀ sig, parseMethodDescriptor y.desc = some sig → argsL.length = sig.parameters.length)
    (hst : stk = argsL.reverse ++ .ref b :: rest) (has : (.ref b :: argsL).toArray = as') (hW : (rest.map fun v => v.category).sum ≤ W) (hd : decode c.code pc = .ok (.invokevirtual index, 3))
    (k : ∀ (v : Option Value) (T' : State) (L : List Loc), Stand p l e R s m args below meth c T' (locs ++ L) (cells + rm.cells) (slots + rm.slots) → Q v T'.heap L → oG p e below K (T'.setTop (mkF m (pc + 3) Ls (v.toList ++ rest)))) : oG p e below K (T.setTop (mkF m pc Ls stk)) := by
  obtain ⟨cq, kq, qa, qb, qc⟩ := isOf hZ eT E
  obtain ⟨v, _, ⟨T', L', k', n'⟩, -, X', ⟨L, hQ, h1, h2, h3⟩, st⟩ := X.virtualBackUp hx (x := y) (y := z) (owner := owner) hown (mvT hZ w1) (mvT hZ w8) (mvT hZ w2) hy (mvT hZ w5) (mvT hZ w6) (backOf (W := W) hM hZ w4 w3 hf hl) qa qc (g := mkF m pc Ls stk) rfl hsz (Steps.refl _) (argsL := argsL) (rest := rest) hlen hst (by show 2 * 0 + _ ≤ _; simpa using hW) hd (fun _ _ => ⟨has, eT, hc, hs⟩)
  dsimp only [Pt.U, Pt.locs, Pt.cells, Pt.slots] at X' h1 h2 h3 st hQ
  subst h1 h2 h3
  exact own_via st (k v T' L X' hQ)
end Calls
theorem own_fld_eq {Z : State} {h : Heap} {a : Addr} {C n d : String} {v w : Value} (F : Fld Z h a C n d v) (G : Fld Z h a C n d w) : v = w := Classical.byContradiction fun q => Fld.ne F G q rfl
theorem own_nsroot {Z : State} {a0 : Array Value} {O K : String} {n : Nat} (w : (Cond.noSuperclass O).before a0 Z = true) (wk : (Cond.instantiable K n).before a0 Z = true) (hn : O ≠ K) : NS Z O K := by
  obtain ⟨c, k, h1, h2, h3, -, -⟩ := Cond.noSuperclass_spec w
  obtain ⟨t, kt, g1, -⟩ := Cond.instantiable_spec wk
  have ne := ids_ne h1 g1 hn
  refine ⟨c, t, h1, g1, fun fuel => ?_⟩
  cases fuel with
  | zero => rfl
  | succ f => simp [Vm.isSubclassAux, ne, h2, h3]
theorem own_nsno {Z : State} {a0 : Array Value} {C S K : String} {n : Nat} (w : (Cond.superclass C S).before a0 Z = true) (wk : (Cond.instantiable K n).before a0 Z = true) (nn : NS Z C K) (hn : C ≠ K) : ∃ c t, Z.vm.findClass C = some c ∧ Z.vm.findClass K = some t ∧ Z.vm.assignable c t = false := by
  obtain ⟨c, t, h0, g0, n3⟩ := nn
  obtain ⟨p, k, kp, h1, h2, h3, h4, h5, -, h7⟩ := Cond.superclass_spec h0 w
  obtain ⟨t', kt, g1, g2, g5, g6, -⟩ := Cond.instantiable_spec wk
  cases g0.symm.trans g1
  have g7 : kt.isInterface = false := by simp only [Bool.or_eq_false_iff] at g6; exact g6.1
  have ne := ids_ne h0 g0 hn
  refine ⟨c, t, h0, g0, ?_⟩
  show Z.vm.assignableAux (255 + 1) c t = false
  simp [Vm.assignableAux, ne, h2, g2, h5, g5, g7, Vm.isSubclass, n3]
theorem own_arv_ne {Z : State} {h : Heap} {a b : Addr} {k1 k2 : ClassId} {t1 t2 : FieldType} {z1 z2 : Int32} {v1 v2 : List Value} {d1 d2 : Value} (A : Arv Z h a k1 t1 z1 v1 d1) (B : Arv Z h b k2 t2 z2 v2 d2) (q : ¬ z1 = z2) : a ≠ b := by
  refine arv_ne A B (Or.inl fun e => q ?_)
  obtain ⟨_, -, -, -, n1, -⟩ := A
  obtain ⟨_, -, -, -, n2, -⟩ := B
  simp only [Int32.lt_iff_toInt_lt, Int32.reduceToInt, Int32.toNatClampNeg] at n1 n2 e
  apply Int32.toInt_inj.mp
  omega
theorem own_ns_exa {Z : State} {h : Heap} {a : Addr} {C : String} (F : Exa Z h a C) : ∀ cell : Cell, h[a]? = some cell → cell.vm.isStatics = false := fun cell hc => by
  obtain ⟨c, _, h1, -, -, h4, -⟩ := F; cases h1.symm.trans hc; exact h4
theorem own_ns_arv {Z : State} {h : Heap} {a : Addr} {k : ClassId} {ty : FieldType} {z : Int32} {vs : List Value} {dv : Value} (F : Arv Z h a k ty z vs dv) : ∀ cell : Cell, h[a]? = some cell → cell.vm.isStatics = false := fun cell hc => by
  obtain ⟨c, A, -⟩ := F; cases A.1.symm.trans hc; exact A.plain
theorem own_sta_keep {Z : State} {h h' : Heap} {C f d : String} {v : Value} {ws : List Addr} (F : Sta Z h C f d v) (K : Keep h h' ws) (q : ∀ x ∈ ws, ∀ cell : Cell, h[x]? = some cell → cell.vm.isStatics = false) : Sta Z h' C f d v := by
  obtain ⟨cf, i, k, fl, st, cell, h1, h2, h3, h4, h5, h6, h7⟩ := F
  exact ⟨cf, i, k, fl, st, cell, h1, h2, h3, h4, K.2.1 _ _ h5 (fun hm => by rw [q _ hm _ h5] at h6; cases h6), h6, h7⟩
section Wide
variable {vm0 : Vm} {Z : State} {a0 : Array Value} {EL : List (String × Nat)} {h h0 : Heap}
def own_KW (Z : State) (EL : List (String × Nat)) (s : State) (Q : Option Value → Heap → List Loc → Prop) (k n : Nat) (t : State) (o : Outcome) : Prop := ∃ v L, o = .returned v ∧ Q v t.heap L ∧ CHr Z EL s.vm s.heap t.vm t.heap ∧ ReturnedEndW s o t L k n
theorem own_endW (X : Stand p l e R (s.setVm vm0) m args below meth c T locs cells slots) {v : Option Value} (hlk : meth.locks = false) (hv : meth.sig.returnType = none → v = none) {k0 : Nat} (hS : s.Since vm0 k0) (hk0 : k0 ≤ h.size) (hZ : Z.Warmed39 vm0) (hEL : EW Z a0 EL) (hh : s.heap = h0) (eT : T.heap = h) (A : CHr Z EL s.vm h0 vm0 h) (hk : cells ≤ k) (hn : slots ≤ n) (hQ : Q v T.heap locs) {S : State}
    (st : ∀ fs, (∀ (f : JFrame) (acts : List Action), f.method = m → f.locked = none → f.entered = [] → (doReturn e (T.setTop f) acts v).1 = T.setFrames fs) → Steps p.tables e below S (T.setFrames fs)) : oG p e below (own_KW Z EL s Q k n) S := by
  subst hh eT
  obtain ⟨fs, hr, hrun, hended, hW⟩ := X.leaveW hS hk0 hv hlk
  exact ⟨_, _, st fs hr, hrun, hended, v, locs, rfl, hQ, (show CHr Z EL s.vm s.heap T.vm T.heap from A.trans (CHv.at X hZ hEL A.1)), hW.1, hW.2.1, hW.2.2.1, hW.2.2.2.mono hk hn⟩
theorem own_ret0W (X : Stand p l e R (s.setVm vm0) m args below meth c T locs cells slots) (hx : p.tables.exec = Jvm.exec) (hlk : meth.locks = false) (hret : meth.sig.returnType = none) {k0 : Nat} (hS : s.Since vm0 k0) (hk0 : k0 ≤ h.size) (hZ : Z.Warmed39 vm0) (hEL : EW Z a0 EL) (hh : s.heap = h0) (eT : T.heap = h) (A : CHr Z EL s.vm h0 vm0 h) {pc : Nat} {Ls : Array Slot} (hd : decode c.code pc = .ok (.return_, 1)) (hk : cells ≤ k) (hn : slots ≤ n) (hQ : Q none T.heap locs) :
    oG p e below (own_KW Z EL s Q k n) (T.setTop (mkF m pc Ls [])) := own_endW X hlk (fun _ => rfl) hS hk0 hZ hEL hh eT A hk hn hQ fun _ hr => X.returnOut hx hret hd hr
theorem own_retNW (X : Stand p l e R (s.setVm vm0) m args below meth c T locs cells slots) (hx : p.tables.exec = Jvm.exec) {t : FieldType} (hlk : meth.locks = false) (hret : meth.sig.returnType = some t) {k0 : Nat} (hS : s.Since vm0 k0) (hk0 : k0 ≤ h.size) (hZ : Z.Warmed39 vm0) (hEL : EW Z a0 EL) (hh : s.heap = h0) (eT : T.heap = h) (A : CHr Z EL s.vm h0 vm0 h) (ht : t = .boolean ∨ t = .byte ∨ t = .char ∨ t = .short) {pc : Nat} {Ls : Array Slot} {z : Int32} {rest : List Value} (hd : decode c.code pc = .ok (.ireturn, 1)) (hk : cells ≤ k) (hn : slots ≤ n) (hQ : Q (some (.int (nar t z))) T.heap locs) :
    oG p e below (own_KW Z EL s Q k n) (T.setTop (mkF m pc Ls (.int z :: rest))) := own_endW X hlk (fun h => by rw [hret] at h; cases h) hS hk0 hZ hEL hh eT A hk hn hQ fun _ hr => retN X hx hret ht hd hr
theorem own_retIW (X : Stand p l e R (s.setVm vm0) m args below meth c T locs cells slots) (hx : p.tables.exec = Jvm.exec) (hlk : meth.locks = false) (hret : meth.sig.returnType = some .int) {k0 : Nat} (hS : s.Since vm0 k0) (hk0 : k0 ≤ h.size) (hZ : Z.Warmed39 vm0) (hEL : EW Z a0 EL) (hh : s.heap = h0) (eT : T.heap = h) (A : CHr Z EL s.vm h0 vm0 h) {pc : Nat} {Ls : Array Slot} {z : Int32} {rest : List Value} (hd : decode c.code pc = .ok (.ireturn, 1)) (hk : cells ≤ k) (hn : slots ≤ n) (hQ : Q (some (.int z)) T.heap locs) :
    oG p e below (own_KW Z EL s Q k n) (T.setTop (mkF m pc Ls (.int z :: rest))) := own_endW X hlk (fun h => by rw [hret] at h; cases h) hS hk0 hZ hEL hh eT A hk hn hQ fun _ hr => retOut X hx hret rfl (Or.inl ⟨rfl, Or.inl rfl, z, rfl⟩) hd hr
theorem own_retJW (X : Stand p l e R (s.setVm vm0) m args below meth c T locs cells slots) (hx : p.tables.exec = Jvm.exec) (hlk : meth.locks = false) (hret : meth.sig.returnType = some .long) {k0 : Nat} (hS : s.Since vm0 k0) (hk0 : k0 ≤ h.size) (hZ : Z.Warmed39 vm0) (hEL : EW Z a0 EL) (hh : s.heap = h0) (eT : T.heap = h) (A : CHr Z EL s.vm h0 vm0 h) {pc : Nat} {Ls : Array Slot} {z : Int64} {rest : List Value} (hd : decode c.code pc = .ok (.lreturn, 1)) (hk : cells ≤ k) (hn : slots ≤ n) (hQ : Q (some (.long z)) T.heap locs) :
    oG p e below (own_KW Z EL s Q k n) (T.setTop (mkF m pc Ls (.long z :: rest))) := own_endW X hlk (fun h => by rw [hret] at h; cases h) hS hk0 hZ hEL hh eT A hk hn hQ fun _ hr => retOut X hx hret rfl (Or.inr (Or.inl ⟨rfl, rfl, z, rfl⟩)) hd hr
theorem own_retRW (X : Stand p l e R (s.setVm vm0) m args below meth c T locs cells slots) (hx : p.tables.exec = Jvm.exec) {t : FieldType} (hlk : meth.locks = false) (hret : meth.sig.returnType = some t) {k0 : Nat} (hS : s.Since vm0 k0) (hk0 : k0 ≤ h.size) (hZ : Z.Warmed39 vm0) (hEL : EW Z a0 EL) (hh : s.heap = h0) (eT : T.heap = h) (A : CHr Z EL s.vm h0 vm0 h) (ht : t.isReference = true) {pc : Nat} {Ls : Array Slot} {w : Value} {rest : List Value} (hw : w.isRef = true) (hd : decode c.code pc = .ok (.areturn, 1)) (hk : cells ≤ k) (hn : slots ≤ n) (hQ : Q (some w) T.heap locs) :
    oG p e below (own_KW Z EL s Q k n) (T.setTop (mkF m pc Ls (w :: rest))) := own_endW X hlk (fun h => by rw [hret] at h; cases h) hS hk0 hZ hEL hh eT A hk hn hQ fun _ hr => retOut X hx hret (by cases t <;> first | rfl | cases ht) (Or.inr (Or.inr (Or.inr (Or.inr ⟨rfl, ht, hw⟩)))) hd hr
variable {own : String} {index : Nat} {y z : MethodName} {bytes : ByteArray} {maxL : Nat} {ret : Option FieldType} {rm : Room} {W : Nat} {as' : Array Value} {K : State → Outcome → Prop} {pc : Nat} {Ls : Array Slot} {argsL rest stk : List Value} {C : String} {b : Addr}
theorem own_csW (X : Stand p l e R (s.setVm vm0) m args below meth c T locs cells slots) (hx : p.tables.exec = Jvm.exec) (hZ : Z.Warmed39 vm0) (hown : vm0.findClass own = some m.cls) (w1 : (Cond.methodLink own index y).before a0 Z = true) (w2 : (Cond.static y).before a0 Z = true) (w3 : (Cond.initialized y.cls).before a0 Z = true) (w4 : (Cond.code y bytes maxL ret).before a0 Z = true)
    (hy : y.cls ≠ "java/lang/invoke/MethodHandle" ∧ y.cls ≠ "java/lang/invoke/VarHandle")
    (hM : MetFree l y (head1 [Cond.code y bytes maxL ret] rm) (fun a U => a = as' ∧ Z.Warmed39 U.vm ∧ U.heap = h ∧ CHv Z EL U.vm h) (fun _ _ _ _ _ => True) (fun _ U o U' => ∃ v L, o = .returned v ∧ Q v U'.heap L ∧ CHr Z EL U.vm U.heap U'.vm U'.heap ∧ ReturnedEndW U o U' L rm.cells rm.slots))
    (hf : rm.frames + 1 ≤ R.frames) (hl : W + (maxL + 11) + rm.locals ≤ R.locals) (hc : cells + rm.cells ≤ R.cells) (hs : slots + rm.slots ≤ R.slots) (eT : T.heap = h) (hEL : EW Z a0 EL) (H : CHv Z EL vm0 h) {k0 : Nat} (hS : s.Since vm0 k0) (hk : k0 ≤ h.size) (hsz : Ls.size = c.maxLocals) (hlen : ∀ sig, parseMethodDescriptor y.desc = some sig → argsL.length = sig.parameters.length)
    (hst : stk = argsL.reverse ++ rest) (has : argsL.toArray = as') (hW : (rest.map fun v => v.category).sum ≤ W) (hd : decode c.code pc = .ok (.invokestatic index, 3))
    (k : ∀ (v : Option Value) (T' : State) (L : List Loc), Stand p l e R (s.setVm T'.vm) m args below meth c T' (locs ++ L) (cells + rm.cells) (slots + rm.slots) → Q v T'.heap L → CHr Z EL vm0 h T'.vm T'.heap → s.Since T'.vm T'.heap.size → Z.Warmed39 T'.vm → T'.vm.findClass own = some m.cls → oG p e below K (T'.setTop (mkF m (pc + 3) Ls (v.toList ++ rest)))) : oG p e below K (T.setTop (mkF m pc Ls stk)) := by
  obtain ⟨v, _, ⟨T', L', k', n'⟩, -, X', hS', hg, ⟨L, hQ, h1, h2, h3, hA⟩, st⟩ := callSS X hx (y := y) hown (mvT (s := s.setVm vm0) hZ w1) (mvT (s := s.setVm vm0) hZ w2) (mvT (s := s.setVm vm0) hZ w3) (mvT (s := s.setVm vm0) hZ w4) hy (backOfSH (W := W) hM hZ w4 w3 hf hl hEL H) (g := mkF m pc Ls stk) rfl hsz (argsL := argsL) (rest := rest) hlen hst (by show 2 * 0 + _ ≤ _; simpa using hW) hd (fun _ _ => ⟨has, eT, hc, hs⟩)
  dsimp only [Pt.U, Pt.locs, Pt.cells, Pt.slots] at X' h1 h2 h3 st hQ hS' hg hA
  subst h1 h2 h3
  subst eT
  exact own_via st (k v T' L X' hQ hA (foldS hS hk hS' hg) (State.Warmed39.trans (t := s.setVm vm0) hZ hS'.1) (by rw [hS'.1.alike.findClass]; exact hown))
theorem own_cpW (X : Stand p l e R (s.setVm vm0) m args below meth c T locs cells slots) (hx : p.tables.exec = Jvm.exec) (hZ : Z.Warmed39 vm0) (hown : vm0.findClass own = some m.cls) (hy1 : y.name = "<init>") (w1 : (Cond.methodLink own index y).before a0 Z = true) (w2 : (Cond.instanceMethod y).before a0 Z = true) (w3 : (Cond.initialized y.cls).before a0 Z = true) (w4 : (Cond.code y bytes maxL none).before a0 Z = true)
    (hy : y.cls ≠ "java/lang/invoke/MethodHandle" ∧ y.cls ≠ "java/lang/invoke/VarHandle")
    (hM : MetFree l y (head1 [Cond.code y bytes maxL none] rm) (fun a U => a = as' ∧ Z.Warmed39 U.vm ∧ U.heap = h ∧ CHv Z EL U.vm h) (fun _ _ _ _ _ => True) (fun _ U o U' => ∃ v L, o = .returned v ∧ Q v U'.heap L ∧ CHr Z EL U.vm U.heap U'.vm U'.heap ∧ ReturnedEndW U o U' L rm.cells rm.slots))
    (hf : rm.frames + 1 ≤ R.frames) (hl : W + (maxL + 11) + rm.locals ≤ R.locals) (hc : cells + rm.cells ≤ R.cells) (hs : slots + rm.slots ≤ R.slots) (eT : T.heap = h) (hEL : EW Z a0 EL) (H : CHv Z EL vm0 h) {k0 : Nat} (hS : s.Since vm0 k0) (hk : k0 ≤ h.size) (hsz : Ls.size = c.maxLocals) (hlen : ∀ sig, parseMethodDescriptor y.desc = some sig → argsL.length = sig.parameters.length)
    (hst : stk = argsL.reverse ++ .ref b :: rest) (has : (.ref b :: argsL).toArray = as') (hW : (rest.map fun v => v.category).sum ≤ W) (hd : decode c.code pc = .ok (.invokespecial index, 3))
    (k : ∀ (v : Option Value) (T' : State) (L : List Loc), Stand p l e R (s.setVm T'.vm) m args below meth c T' (locs ++ L) (cells + rm.cells) (slots + rm.slots) → Q v T'.heap L → CHr Z EL vm0 h T'.vm T'.heap → s.Since T'.vm T'.heap.size → Z.Warmed39 T'.vm → T'.vm.findClass own = some m.cls → oG p e below K (T'.setTop (mkF m (pc + 3) Ls (v.toList ++ rest)))) : oG p e below K (T.setTop (mkF m pc Ls stk)) := by
  obtain ⟨v, _, ⟨T', L', k', n'⟩, -, X', hS', hg, ⟨L, hQ, h1, h2, h3, hA⟩, st⟩ := X.specialBackS hx (y := y) hy1 hown (mvT (s := s.setVm vm0) hZ w1) (mvT (s := s.setVm vm0) hZ w2) (mvT (s := s.setVm vm0) hZ w4) hy (backOfSH (W := W) hM hZ w4 w3 hf hl hEL H) (g := mkF m pc Ls stk) rfl hsz (Steps.refl _) (a := b) (argsL := argsL) (rest := rest) hlen hst (by show 2 * 0 + _ ≤ _; simpa using hW) hd (fun _ _ => ⟨has, eT, hc, hs⟩)
  dsimp only [Pt.U, Pt.locs, Pt.cells, Pt.slots] at X' h1 h2 h3 st hQ hS' hg hA
  subst h1 h2 h3
  subst eT
  exact own_via st (k v T' L X' hQ hA (foldS hS hk hS' hg) (State.Warmed39.trans (t := s.setVm vm0) hZ hS'.1) (by rw [hS'.1.alike.findClass]; exact hown))
theorem own_cvW (X : Stand p l e R (s.setVm vm0) m args below meth c T locs cells slots) (hx : p.tables.exec = Jvm.exec) (hZ : Z.Warmed39 vm0) (hown : vm0.findClass own = some m.cls) (nf : NotFace (s.setVm vm0) y) (w1 : (Cond.methodLink own index y).before a0 Z = true) (w2 : (Cond.declares y).before a0 Z = true) (w5 : (Cond.selects C y z).before a0 Z = true) (w6 : (Cond.instanceMethod z).before a0 Z = true) (w3 : (Cond.initialized z.cls).before a0 Z = true) (w4 : (Cond.code z bytes maxL ret).before a0 Z = true)
    (hy : y.cls ≠ "java/lang/invoke/MethodHandle" ∧ y.cls ≠ "java/lang/invoke/VarHandle") (E : Exa Z h b C)
    (hM : MetFree l z (head1 [Cond.code z bytes maxL ret] rm) (fun a U => a = as' ∧ Z.Warmed39 U.vm ∧ U.heap = h ∧ CHv Z EL U.vm h) (fun _ _ _ _ _ => True) (fun _ U o U' => ∃ v L, o = .returned v ∧ Q v U'.heap L ∧ CHr Z EL U.vm U.heap U'.vm U'.heap ∧ ReturnedEndW U o U' L rm.cells rm.slots))
    (hf : rm.frames + 1 ≤ R.frames) (hl : W + (maxL + 11) + rm.locals ≤ R.locals) (hc : cells + rm.cells ≤ R.cells) (hs : slots + rm.slots ≤ R.slots) (eT : T.heap = h) (hEL : EW Z a0 EL) (H : CHv Z EL vm0 h) {k0 : Nat} (hS : s.Since vm0 k0) (hk : k0 ≤ h.size) (hsz : Ls.size = c.maxLocals) (hlen : ∀ sig, parseMethodDescriptor y.desc = some sig → argsL.length = sig.parameters.length)
    (hst : stk = argsL.reverse ++ .ref b :: rest) (has : (.ref b :: argsL).toArray = as') (hW : (rest.map fun v => v.category).sum ≤ W) (hd : decode c.code pc = .ok (.invokevirtual index, 3))
    (k : ∀ (v : Option Value) (T' : State) (L : List Loc), Stand p l e R (s.setVm T'.vm) m args below meth c T' (locs ++ L) (cells + rm.cells) (slots + rm.slots) → Q v T'.heap L → CHr Z EL vm0 h T'.vm T'.heap → s.Since T'.vm T'.heap.size → Z.Warmed39 T'.vm → T'.vm.findClass own = some m.cls → oG p e below K (T'.setTop (mkF m (pc + 3) Ls (v.toList ++ rest)))) : oG p e below K (T.setTop (mkF m pc Ls stk)) := by
  obtain ⟨cq, kq, qa, qb, qc⟩ := isOf (s := s.setVm vm0) hZ eT E
  obtain ⟨v, _, ⟨T', L', k', n'⟩, -, X', hS', hg, ⟨L, hQ, h1, h2, h3, hA⟩, st⟩ := X.virtualBackS hx (y := y) (z := z) hown (mvT (s := s.setVm vm0) hZ w1) (mvT (s := s.setVm vm0) hZ w2) nf (mvT (s := s.setVm vm0) hZ w5) (mvT (s := s.setVm vm0) hZ w6) hy (backOfSH (W := W) hM hZ w4 w3 hf hl hEL H) qa qc (g := mkF m pc Ls stk) rfl hsz (Steps.refl _) (argsL := argsL) (rest := rest) hlen hst (by show 2 * 0 + _ ≤ _; simpa using hW) hd (fun _ _ => ⟨has, eT, hc, hs⟩)
  dsimp only [Pt.U, Pt.locs, Pt.cells, Pt.slots] at X' h1 h2 h3 st hQ hS' hg hA
  subst h1 h2 h3
  subst eT
  exact own_via st (k v T' L X' hQ hA (foldS hS hk hS' hg) (State.Warmed39.trans (t := s.setVm vm0) hZ hS'.1) (by rw [hS'.1.alike.findClass]; exact hown))
/-- a String whose array isn't laid yet is nobody's constant -/
theorem own_safe_null {vm : Vm} {a : Addr} (hal : Z.vm.Alike vm) (E : Exa Z h a "java/lang/String") (F : Fld Z h a "java/lang/String" "value" "[B" .null) : Safe Z EL vm h a := fun B => by
  obtain ⟨p, -, u, a', -, q, rfl, G, r⟩ := B
  obtain ⟨cS, ⟨⟨s1, -, -, ⟨cv, kv, iv, s4, -⟩, -, -, -, s8, -⟩, -⟩, -, hB, -⟩ := id G
  have hd := G.hd
  rcases r with rfl | rfl
  · obtain ⟨cell, cf, k, i, f, h1, h2, -, -, -, -, h7⟩ := F
    cases h1.symm.trans s1
    obtain ⟨k', e3, -⟩ := State.fieldFound?_setVm (s := Z) hal h2
    have e4 := (show (Wst Z vm h).fieldFound? _ _ _ = _ from e3).symm.trans s4
    simp only [Option.some.injEq, Prod.mk.injEq] at e4
    rw [e4.2.2.2, s8] at h7
    cases h7
  · obtain ⟨cell, k, h1, h2, -⟩ := E
    cases h1.symm.trans hd
    have h3 : vm.findClass "[B" = some q.SA.cls := hB
    rw [hal.findClass] at h3
    obtain ⟨k1, a1, a2⟩ := Vm.findClass_spec h2
    obtain ⟨k2, b1, b2⟩ := Vm.findClass_spec h3
    cases a1.symm.trans b1
    exact absurd (a2.symm.trans b2) (by decide)
end Wide
end Own
end Jvm.RoadKit
namespace Jvm.Pilot.@@N@@
open Jvm Jvm.ClassFile Sem Op Lib Jvm.Free Jvm.Stand Jvm.LawKit Jvm.RoadKit Bundle Jvm.Pilot.@@N@@.Jvm.D
theorem own_m (i : Nat) {d : Jvm.Cond} (h : tables_1[i]? = some d) : d ∈ tables_1 := List.mem_of_getElem? h
theorem own_eq_int {args : Array Value} {s first : State} {o : Option Outcome} {idx : List Nat} {t : Term} {k : Int32} (h : (Cond.eq t (.int k)).value args first o s idx = some true) : t.eval args first o idx s = some (.int k) := by
  obtain ⟨x, y, h1, h2, h3, h4⟩ := cmp_v (r := true) (Or.inl h)
  have e2 : y = .int k := (Option.some.inj h2).symm
  subst e2
  obtain ⟨z, rfl⟩ := h4
  have q := h
  simp only [Cond.value, h1, h2] at q
  have : z = k := by simpa using q
  rw [h1, this]
theorem own_eq_ref {args : Array Value} {s first : State} {o : Option Outcome} {idx : List Nat} {t u : Term} {a : Addr} (hu : u.eval args first o idx s = some (.ref a)) (h : (Cond.eq t u).value args first o s idx = some true) : t.eval args first o idx s = some (.ref a) := by
  obtain ⟨x, y, h1, h2, h3, h4⟩ := cmp_v (r := true) (Or.inl h)
  cases hu.symm.trans h2
  have q := h
  simp only [Cond.value, h1, h2] at q
  cases x <;> simp [Kin, Value.isRef] at h3 h4 q ⊢
  rw [h1, q]
def own_EL : List (String × Nat) := [("java/lang/String", 7), ("com/example/ruleweave/ruleweave/CommonPolicySchemaTermAdmitsPinLaw", 35), ("com/example/ruleweave/ruleweave/CommonPolicySchemaTermAdmitsPinLaw", 37), ("com/example/ruleweave/ruleweave/CommonPolicySchema$Term", 28)]
theorem own_ew {Z : State} {a0 : Array Value} (hw : ∀ d ∈ tables_1, d.before a0 Z = true) : EW Z a0 own_EL := (EW.cons (hw _ (own_m 28 rfl)) (by decide) (EW.cons (hw _ (own_m 6 rfl)) (by decide) (EW.cons (hw _ (own_m 114 rfl)) (by decide) (EW.cons (hw _ (own_m 115 rfl)) (by decide) EW.nil))))
theorem own_ws {Z : State} {a0 : Array Value} (hw : ∀ d ∈ tables_1, d.before a0 Z = true) : ∀ a ∈ Bundle.stringAtoms, a.before a0 Z = true := fun d hd => by
  simp only [Bundle.stringAtoms, List.mem_cons, List.not_mem_nil, or_false] at hd
  rcases hd with rfl | rfl | rfl | rfl | rfl | rfl | rfl
  · exact hw _ (own_m 7 rfl)
  · exact hw _ (own_m 8 rfl)
  · exact hw _ (own_m 9 rfl)
  · exact hw _ (own_m 10 rfl)
  · exact hw _ (own_m 11 rfl)
  · exact hw _ (own_m 12 rfl)
  · exact hw _ (own_m 13 rfl)
theorem dc2_0 : decode method_4_code 0 = .ok (.iload_n 1, 1) := by decide +kernel
theorem dc2_1 : decode method_4_code 1 = .ok (.ifCond .ne 14, 3) := by decide +kernel
theorem dc2_4 : decode method_4_code 4 = .ok (.new 41, 3) := by decide +kernel
theorem dc2_7 : decode method_4_code 7 = .ok (.dup, 1) := by decide +kernel
theorem dc2_8 : decode method_4_code 8 = .ok (.iconst 0, 1) := by decide +kernel
theorem dc2_9 : decode method_4_code 9 = .ok (.newarray .char, 2) := by decide +kernel
theorem dc2_11 : decode method_4_code 11 = .ok (.invokespecial 43, 3) := by decide +kernel
theorem dc3_0 : decode jdk_42_method_3_code 0 = .ok (.aload_n 0, 1) := by decide +kernel
theorem dc3_1 : decode jdk_42_method_3_code 1 = .ok (.aload_n 1, 1) := by decide +kernel
theorem dc3_2 : decode jdk_42_method_3_code 2 = .ok (.iconst 0, 1) := by decide +kernel
theorem dc3_3 : decode jdk_42_method_3_code 3 = .ok (.aload_n 1, 1) := by decide +kernel
theorem dc3_4 : decode jdk_42_method_3_code 4 = .ok (.arraylength, 1) := by decide +kernel
theorem dc3_5 : decode jdk_42_method_3_code 5 = .ok (.aconst_null, 1) := by decide +kernel
theorem dc3_6 : decode jdk_42_method_3_code 6 = .ok (.invokespecial 27, 3) := by decide +kernel
theorem dc4_0 : decode jdk_42_method_149_code 0 = .ok (.aload_n 0, 1) := by decide +kernel
theorem dc4_1 : decode jdk_42_method_149_code 1 = .ok (.invokespecial 1, 3) := by decide +kernel
theorem dc4_4 : decode jdk_42_method_149_code 4 = .ok (.iload_n 3, 1) := by decide +kernel
theorem dc4_5 : decode jdk_42_method_149_code 5 = .ok (.ifCond .ne 22, 3) := by decide +kernel
theorem dc4_8 : decode jdk_42_method_149_code 8 = .ok (.aload_n 0, 1) := by decide +kernel
theorem dc4_9 : decode jdk_42_method_149_code 9 = .ok (.ldc 7, 2) := by decide +kernel
theorem dc4_11 : decode jdk_42_method_149_code 11 = .ok (.getfield 9, 3) := by decide +kernel
theorem dc4_14 : decode jdk_42_method_149_code 14 = .ok (.putfield 9, 3) := by decide +kernel
theorem dc4_17 : decode jdk_42_method_149_code 17 = .ok (.aload_n 0, 1) := by decide +kernel
theorem dc4_18 : decode jdk_42_method_149_code 18 = .ok (.ldc 7, 2) := by decide +kernel
theorem dc4_20 : decode jdk_42_method_149_code 20 = .ok (.getfield 15, 3) := by decide +kernel
theorem dc4_23 : decode jdk_42_method_149_code 23 = .ok (.putfield 15, 3) := by decide +kernel
theorem dc4_26 : decode jdk_42_method_149_code 26 = .ok (.return_, 1) := by decide +kernel
theorem own_pn_java_lang_String : plainName "java/lang/String" = true := by first | (simp [plainName, overriddenIn]; done) | decide +kernel
def Q_init_0 (Z : State) (o0 : Addr) (h0 : Heap) (n0 : Nat) (v : Option Value) (h : Heap) (L : List Loc) : Prop := (∃ (b2 : Addr) (k2 : ClassId), v = none ∧ Fr n0 L ∧ Keep h0 h [o0] ∧ Fld Z h o0 "java/lang/String" "coder" "B" (.int (0 : Int32)) ∧ Fld Z h o0 "java/lang/String" "value" "[B" (.ref b2) ∧ Arv Z h b2 k2 .byte (0 : Int32) [] (.int (0 : Int32)))
set_option maxRecDepth 65536 in
set_option maxHeartbeats 40000000 in
theorem rm_init_0 (l : Launch) (Z : State) (a0 : Array Value) (hw : ∀ d ∈ tables_1, d.before a0 Z = true) (ws : List Jvm.Cond) (o0 : Addr) (o1 : Addr) (h0 : Heap) (n0 : Nat) (Z0 : n0 ≤ h0.size) (P0 : Exa Z h0 o0 "java/lang/String") (P1 : Fld Z h0 o0 "java/lang/String" "value" "[B" .null) (P2 : Fld Z h0 o0 "java/lang/String" "coder" "B" (.int (0 : Int32))) (ge0p : n0 ≤ o0) :
    MetFree l (⟨"java/lang/String", "<init>", "([CIILjava/lang/Void;)V"⟩ : MethodName) (head1 (Jvm.Cond.code (⟨"java/lang/String", "<init>", "([CIILjava/lang/Void;)V"⟩ : MethodName) jdk_42_method_149_code 6 none :: ws) ({ frames := 1, cells := 4, slots := 8, locals := 12 } : Room)) (fun aA U => aA = #[(.ref o0), (.ref o1), (.int (0 : Int32)), (.int (0 : Int32)), .null] ∧ Z.Warmed39 U.vm ∧ U.heap = h0 ∧ CHv Z own_EL U.vm h0) (fun _ _ _ _ _ => True) (fun _ U o U' => ∃ v L, o = .returned v ∧ Q_init_0 Z o0 h0 n0 v U'.heap L ∧ CHr Z own_EL U.vm U.heap U'.vm U'.heap ∧ ReturnedEndW U o U' L ({ frames := 1, cells := 4, slots := 8, locals := 12 } : Room).cells ({ frames := 1, cells := 4, slots := 8, locals := 12 } : Room).slots) := by
  refine MetFree.of_bodySF (plainFor_of_name own_pn_java_lang_String) hisR ?_
  intro p e s m args below meth c s₁ Bd hml0 hP hK
  obtain ⟨rfl, hZ, hh, hC0⟩ := hP
  have hx := Bd.exec
  have hby := Bd.bytes
  have hlk : meth.locks = false := BodyLoose.notSynchronized Bd
  have hml : c.maxLocals = 6 := hml0
  have hown : s.vm.findClass "java/lang/String" = some m.cls := findClass_of_methodNamed Bd.named
  have hnm := (name_of_methodNamed Bd.named Bd.method).1
  have X0 : Stand p l e ({ frames := 1, cells := 4, slots := 8, locals := 12 } : Room) (s.setVm s.vm) m #[(.ref o0), (.ref o1), (.int (0 : Int32)), (.int (0 : Int32)), .null] below meth c s₁ [] 0 0 := Stand.of_body Bd
  have e0 : s₁.heap = h0 := by rw [← hh, Bd.state]; rfl
  have N0 := Fr.nil n0
  have hS : s.Since s.vm 0 := (State.WarmedH.refl s).since 0
  have hk := Nat.zero_le h0.size
  have hEL : EW Z a0 own_EL := own_ew hw
  have A0 : CHr Z own_EL s.vm h0 s.vm h0 := CHr.refl hC0
  have K0 : Keep h0 h0 [o0] := Keep.refl _ _
  show oG p e below (own_KW Z own_EL s (Q_init_0 Z o0 h0 n0) ({ frames := 1, cells := 4, slots := 8, locals := 12 } : Room).cells ({ frames := 1, cells := 4, slots := 8, locals := 12 } : Room).slots) (s₁.setTop (entryFrame m #[(.ref o0), (.ref o1), (.int (0 : Int32)), (.int (0 : Int32)), .null] 6))
  rw [(by first | (simp [entryFrame, mkF, argsToLocals, Value.category]; done) | rfl : entryFrame m #[(.ref o0), (.ref o1), (.int (0 : Int32)), (.int (0 : Int32)), .null] 6 = mkF m 0 #[.val (.ref o0), .val (.ref o1), .val (.int (0 : Int32)), .val (.int (0 : Int32)), .val .null, .unset] [])]
  show oG p e below _ (s₁.setTop (mkF m 0 #[.val (.ref o0), .val (.ref o1), .val (.int (0 : Int32)), .val (.int (0 : Int32)), .val .null, .unset] []))
  refine og (fun _ hr => XS.aloadN X0.here hx rfl (hb hby dc4_0) rfl rfl hr) ?_
  show oG p e below _ (s₁.setTop (mkF m 1 #[.val (.ref o0), .val (.ref o1), .val (.int (0 : Int32)), .val (.int (0 : Int32)), .val .null, .unset] [(.ref o0)]))
  obtain ⟨T1, X1, e1, st1⟩ := initO X0 hx hZ hown (hw _ (own_m 25 rfl)) (hw _ (own_m 26 rfl)) (hw _ (own_m 27 rfl)) e0 (g := (mkF m 1 #[.val (.ref o0), .val (.ref o1), .val (.int (0 : Int32)), .val (.int (0 : Int32)), .val .null, .unset] [(.ref o0)])) rfl (by rw [hml]; rfl) rfl (hb hby dc4_1) (by decide) (W := 0) (by show 2 * 0 + _ ≤ _; exact Nat.le_of_eq rfl) (by decide)
  refine og st1 ?_
  show oG p e below _ (T1.setTop (mkF m 4 #[.val (.ref o0), .val (.ref o1), .val (.int (0 : Int32)), .val (.int (0 : Int32)), .val .null, .unset] []))
  refine og (fun _ hr => XS.iloadN X1.here hx rfl (hb hby dc4_4) rfl (XS.ifNo X1.here hx rfl (hb hby dc4_5) rfl ((if0 _ _).trans (teq (by decide)).2) (XS.aloadN X1.here hx rfl (hb hby dc4_8) rfl rfl hr))) ?_
  show oG p e below _ (T1.setTop (mkF m 9 #[.val (.ref o0), .val (.ref o1), .val (.int (0 : Int32)), .val (.int (0 : Int32)), .val .null, .unset] [(.ref o0)]))
  have hZo3 := hZ
  obtain ⟨a2, T2, h2, k12, b2, k2, X2, e2, E2, hS, hk2, hZ, hown, EA2, FC2, FV2, AV2, -, -, Al2, -, ne2, st2⟩ := ldcCH X1 hx hZ hown (hw _ (own_m 28 rfl)) (own_ws hw) e1 hS hk hEL (by simp [own_EL]) A0.1 (vs := []) (z := (0 : Int32)) ⟨by decide, by decide⟩ (by decide) (by decide) (g := (mkF m 9 #[.val (.ref o0), .val (.ref o1), .val (.int (0 : Int32)), .val (.int (0 : Int32)), .val .null, .unset] [(.ref o0)])) rfl (hb hby dc4_9) (n := 0) (by decide) (by decide) (by decide) (by decide)
  refine og st2 ?_
  show oG p e below _ (T2.setTop (mkF m 11 #[.val (.ref o0), .val (.ref o1), .val (.int (0 : Int32)), .val (.int (0 : Int32)), .val .null, .unset] [(.ref a2), (.ref o0)]))
  obtain ⟨T4, X4, e4, st4⟩ := getF X2 hx hZ hown (host := "") (Or.inl (hw _ (own_m 29 rfl))) Via.refl e2 FV2 (g := (mkF m 11 #[.val (.ref o0), .val (.ref o1), .val (.int (0 : Int32)), .val (.int (0 : Int32)), .val .null, .unset] [(.ref a2), (.ref o0)])) rfl rfl (hb hby dc4_11)
  refine og st4 ?_
  show oG p e below _ (T4.setTop (mkF m 14 #[.val (.ref o0), .val (.ref o1), .val (.int (0 : Int32)), .val (.int (0 : Int32)), .val .null, .unset] [(.ref b2), (.ref o0)]))
  have f5 := (P0.ext E2)
  have f6 := (P1.ext E2)
  obtain ⟨T7, h7, X7, e7, W7, st7⟩ := putF X4 hx hZ hown (host := "") (Or.inl (hw _ (own_m 29 rfl))) Via.refl e4 f6 f5 (Or.inr ⟨(hw _ (own_m 10 rfl)), rfl, hnm⟩) (hw _ (own_m 8 rfl)) (ty := (.array .byte)) (by decide) rfl rfl (g := (mkF m 14 #[.val (.ref o0), .val (.ref o1), .val (.int (0 : Int32)), .val (.int (0 : Int32)), .val .null, .unset] [(.ref b2), (.ref o0)])) rfl rfl (hb hby dc4_14)
  refine og st7 ?_
  have f8 := f6.same W7
  have N9 := Fr.snoc X7 N0 ge0p
  show oG p e below _ (T7.setTop (mkF m 17 #[.val (.ref o0), .val (.ref o1), .val (.int (0 : Int32)), .val (.int (0 : Int32)), .val .null, .unset] []))
  refine og (fun _ hr => XS.aloadN X7.here hx rfl (hb hby dc4_17) rfl rfl hr) ?_
  show oG p e below _ (T7.setTop (mkF m 18 #[.val (.ref o0), .val (.ref o1), .val (.int (0 : Int32)), .val (.int (0 : Int32)), .val .null, .unset] [(.ref o0)]))
  have A11 := A0.trans Al2
  have sf13 := (Al2.safe P0.lt (own_safe_null hZo3.alike P0 P1))
  have A12 := A11.trans (CHr.wr W7 sf13 A11.1)
  have hk14 := (Nat.le_trans hk2 (Nat.le_of_eq W7.size.symm))
  have hZo15 := hZ
  obtain ⟨a10, T10, h10, k110, b10, k10, X10, e10, E10, hS, hk10, hZ, hown, EA10, FC10, FV10, AV10, -, -, Al10, -, ne10, st10⟩ := ldcCH X7 hx hZ hown (hw _ (own_m 28 rfl)) (own_ws hw) e7 hS hk14 hEL (by simp [own_EL]) A12.1 (vs := []) (z := (0 : Int32)) ⟨by decide, by decide⟩ (by decide) (by decide) (g := (mkF m 18 #[.val (.ref o0), .val (.ref o1), .val (.int (0 : Int32)), .val (.int (0 : Int32)), .val .null, .unset] [(.ref o0)])) rfl (hb hby dc4_18) (n := 0) (by decide) (by decide) (by decide) (by decide)
  refine og st10 ?_
  show oG p e below _ (T10.setTop (mkF m 20 #[.val (.ref o0), .val (.ref o1), .val (.int (0 : Int32)), .val (.int (0 : Int32)), .val .null, .unset] [(.ref a10), (.ref o0)]))
  obtain ⟨T16, X16, e16, st16⟩ := getF X10 hx hZ hown (host := "") (Or.inl (hw _ (own_m 30 rfl))) Via.refl e10 FC10 (g := (mkF m 20 #[.val (.ref o0), .val (.ref o1), .val (.int (0 : Int32)), .val (.int (0 : Int32)), .val .null, .unset] [(.ref a10), (.ref o0)])) rfl rfl (hb hby dc4_20)
  refine og st16 ?_
  show oG p e below _ (T16.setTop (mkF m 23 #[.val (.ref o0), .val (.ref o1), .val (.int (0 : Int32)), .val (.int (0 : Int32)), .val .null, .unset] [(.int (0 : Int32)), (.ref o0)]))
  have f17 := ((f5.wr W7).ext E10)
  have f18 := (((P2.ext E2).other W7 (Or.inr (slot_ne (Or.inr (hw _ (own_m 11 rfl))) (Or.inr (hw _ (own_m 10 rfl))) (by decide) (t := .byte) (t' := (.array .byte)) (by decide) (by decide)))).ext E10)
  obtain ⟨T19, h19, X19, e19, W19, st19⟩ := putFN X16 hx hZ hown (hw _ (own_m 30 rfl)) Via.refl e16 f18 f17 (Or.inr ⟨(hw _ (own_m 11 rfl)), rfl, hnm⟩) (hw _ (own_m 8 rfl)) (ty := .byte) (v' := .int (0 : Int32)) (by decide) rfl (by decide) (g := (mkF m 23 #[.val (.ref o0), .val (.ref o1), .val (.int (0 : Int32)), .val (.int (0 : Int32)), .val .null, .unset] [(.int (0 : Int32)), (.ref o0)])) rfl rfl (hb hby dc4_23)
  refine og st19 ?_
  have f20 := f18.same W19
  have N21 := Fr.snoc X19 N9 ge0p
  show oG p e below _ (T19.setTop (mkF m 26 #[.val (.ref o0), .val (.ref o1), .val (.int (0 : Int32)), .val (.int (0 : Int32)), .val .null, .unset] []))
  have f22 := ((f8.ext E10).other W19 (Or.inr (slot_ne (Or.inr (hw _ (own_m 10 rfl))) (Or.inr (hw _ (own_m 11 rfl))) (by decide) (t := (.array .byte)) (t' := .byte) (by decide) (by decide))))
  have f23 := (((AV2.other W7 (Ne.symm (ne2 o0 sf13).2)).ext E10).other W19 (Ne.symm (ne2 o0 sf13).2))
  have K24 := ((((K0.ext E2).wr W7 (Or.inl (List.mem_of_getElem? (i := 0) rfl))).ext E10).wr W19 (Or.inl (List.mem_of_getElem? (i := 0) rfl)))
  have hk25 := (Nat.le_trans hk10 (Nat.le_of_eq W19.size.symm))
  have A26 := A12.trans Al10
  have sf28 := (Al10.safe (f5.wr W7).lt (Safe.wr W7 sf13 A11.1 sf13))
  have A27 := A26.trans (CHr.wr W19 sf28 A26.1)
  exact own_ret0W X19 hx hlk Bd.returns hS hk25 hZ hEL hh e19 A27 (hb hby dc4_26) (by decide) (by decide) (by rw [e19]; exact ⟨b2, k2, rfl, N21, K24, f20, f22, f23⟩)
theorem own_pd0 : parseMethodDescriptor "([CIILjava/lang/Void;)V" = some ⟨[(.array .char), .int, .int, (.object "java/lang/Void")], none⟩ := by decide +kernel
theorem dc3_9 : decode jdk_42_method_3_code 9 = .ok (.return_, 1) := by decide +kernel
def Q_init_1 (Z : State) (o0 : Addr) (h0 : Heap) (n0 : Nat) (v : Option Value) (h : Heap) (L : List Loc) : Prop := (∃ (b1_0 : Addr) (kb1_0 : ClassId), v = none ∧ Fr n0 L ∧ Keep h0 h [o0] ∧ Fld Z h o0 "java/lang/String" "coder" "B" (.int (0 : Int32)) ∧ Fld Z h o0 "java/lang/String" "value" "[B" (.ref b1_0) ∧ Arv Z h b1_0 kb1_0 .byte (0 : Int32) [] (.int (0 : Int32)))
set_option maxRecDepth 65536 in
set_option maxHeartbeats 40000000 in
theorem rm_init_1 (l : Launch) (Z : State) (a0 : Array Value) (hw : ∀ d ∈ tables_1, d.before a0 Z = true) (ws : List Jvm.Cond) (o0 : Addr) (o1 : Addr) (kc0 : ClassId) (h0 : Heap) (n0 : Nat) (Z0 : n0 ≤ h0.size) (P0 : Arv Z h0 o1 kc0 .char (0 : Int32) [] (.int (0 : Int32))) (P1 : Exa Z h0 o0 "java/lang/String") (P2 : Fld Z h0 o0 "java/lang/String" "value" "[B" .null) (P3 : Fld Z h0 o0 "java/lang/String" "coder" "B" (.int (0 : Int32))) (ge0p : n0 ≤ o0) :
    MetFree l (⟨"java/lang/String", "<init>", "([C)V"⟩ : MethodName) (head1 (Jvm.Cond.code (⟨"java/lang/String", "<init>", "([C)V"⟩ : MethodName) jdk_42_method_3_code 2 none :: ws) ({ frames := 2, cells := 4, slots := 8, locals := 29 } : Room)) (fun aA U => aA = #[(.ref o0), (.ref o1)] ∧ Z.Warmed39 U.vm ∧ U.heap = h0 ∧ CHv Z own_EL U.vm h0) (fun _ _ _ _ _ => True) (fun _ U o U' => ∃ v L, o = .returned v ∧ Q_init_1 Z o0 h0 n0 v U'.heap L ∧ CHr Z own_EL U.vm U.heap U'.vm U'.heap ∧ ReturnedEndW U o U' L ({ frames := 2, cells := 4, slots := 8, locals := 29 } : Room).cells ({ frames := 2, cells := 4, slots := 8, locals := 29 } : Room).slots) := by
  refine MetFree.of_bodySF (plainFor_of_name own_pn_java_lang_String) hisR ?_
  intro p e s m args below meth c s₁ Bd hml0 hP hK
  obtain ⟨rfl, hZ, hh, hC0⟩ := hP
  have hx := Bd.exec
  have hby := Bd.bytes
  have hlk : meth.locks = false := BodyLoose.notSynchronized Bd
  have hml : c.maxLocals = 2 := hml0
  have hown : s.vm.findClass "java/lang/String" = some m.cls := findClass_of_methodNamed Bd.named
  have hnm := (name_of_methodNamed Bd.named Bd.method).1
  have X0 : Stand p l e ({ frames := 2, cells := 4, slots := 8, locals := 29 } : Room) (s.setVm s.vm) m #[(.ref o0), (.ref o1)] below meth c s₁ [] 0 0 := Stand.of_body Bd
  have e0 : s₁.heap = h0 := by rw [← hh, Bd.state]; rfl
  have N0 := Fr.nil n0
  have hS : s.Since s.vm 0 := (State.WarmedH.refl s).since 0
  have hk := Nat.zero_le h0.size
  have hEL : EW Z a0 own_EL := own_ew hw
  have A0 : CHr Z own_EL s.vm h0 s.vm h0 := CHr.refl hC0
  have K0 : Keep h0 h0 [o0] := Keep.refl _ _
  show oG p e below (own_KW Z own_EL s (Q_init_1 Z o0 h0 n0) ({ frames := 2, cells := 4, slots := 8, locals := 29 } : Room).cells ({ frames := 2, cells := 4, slots := 8, locals := 29 } : Room).slots) (s₁.setTop (entryFrame m #[(.ref o0), (.ref o1)] 2))
  rw [(by first | (simp [entryFrame, mkF, argsToLocals, Value.category]; done) | rfl : entryFrame m #[(.ref o0), (.ref o1)] 2 = mkF m 0 #[.val (.ref o0), .val (.ref o1)] [])]
  show oG p e below _ (s₁.setTop (mkF m 0 #[.val (.ref o0), .val (.ref o1)] []))
  refine og (fun _ hr => XS.aloadN X0.here hx rfl (hb hby dc3_0) rfl rfl (XS.aloadN X0.here hx rfl (hb hby dc3_1) rfl rfl (XS.iconst X0.here hx rfl (hb hby dc3_2) (XS.aloadN X0.here hx rfl (hb hby dc3_3) rfl rfl (own_alen X0 hx hZ e0 P0 rfl rfl (hb hby dc3_4) (XS.aconstNull X0.here hx rfl (hb hby dc3_5) hr)))))) ?_
  show oG p e below _ (s₁.setTop (mkF m 6 #[.val (.ref o0), .val (.ref o1)] [.null, (.int (0 : Int32)), (.int (0 : Int32)), (.ref o1), (.ref o0)]))
  have hZo2 := hZ
  refine own_cpW X0 hx hZ hown rfl (hw _ (own_m 21 rfl)) (hw _ (own_m 22 rfl)) (hw _ (own_m 7 rfl)) (hw _ (own_m 24 rfl)) (by decide) (rm := { frames := 1, cells := 4, slots := 8, locals := 12 }) (rm_init_0 l Z a0 hw [] o0 o1 h0 n0 Z0 P1 P2 P3 ge0p) (by decide) (W := 0) (by decide) (by decide) (by decide) e0 hEL A0.1 hS hk (by rw [hml]; rfl) (argsL := [(.ref o1), (.int (0 : Int32)), (.int (0 : Int32)), .null]) (lenOf own_pd0 rfl) (rest := []) rfl rfl (Nat.le_of_eq rfl) (hb hby dc3_6) ?_
  intro _ T1 L1 X1 hQ1 Ac1 hS hZ hown
  obtain ⟨b1_0, kb1_0, rfl, N1q, K1, f1_0, f1_1, f1_2⟩ := hQ1
  have N1 := Fr.app N0 N1q
  show oG p e below _ (T1.setTop (mkF m 9 #[.val (.ref o0), .val (.ref o1)] []))
  have K3 := (K0.trans K1 (allS (Or.inl (List.mem_of_getElem? (i := 0) rfl)) all0))
  have A4 := A0.trans Ac1
  exact own_ret0W X1 hx hlk Bd.returns hS (Nat.le_refl _) hZ hEL hh rfl A4 (hb hby dc3_9) (by decide) (by decide) (by exact ⟨b1_0, kb1_0, rfl, N1, K3, f1_0, f1_1, f1_2⟩)
theorem own_pd1 : parseMethodDescriptor "([C)V" = some ⟨[(.array .char)], none⟩ := by decide +kernel
theorem dc2_14 : decode method_4_code 14 = .ok (.areturn, 1) := by decide +kernel
theorem dc2_15 : decode method_4_code 15 = .ok (.iload_n 1, 1) := by decide +kernel
theorem dc2_16 : decode method_4_code 16 = .ok (.iconst 1, 1) := by decide +kernel
theorem dc2_17 : decode method_4_code 17 = .ok (.if_icmp .ne 10, 3) := by decide +kernel
theorem dc2_20 : decode method_4_code 20 = .ok (.aload_n 0, 1) := by decide +kernel
theorem dc2_21 : decode method_4_code 21 = .ok (.iconst 0, 1) := by decide +kernel
theorem dc2_22 : decode method_4_code 22 = .ok (.caload, 1) := by decide +kernel
theorem dc2_23 : decode method_4_code 23 = .ok (.invokestatic 46, 3) := by decide +kernel
theorem dc17_0 : decode jdk_42_method_139_code 0 = .ok (.getstatic 38, 3) := by decide +kernel
theorem dc17_3 : decode jdk_42_method_139_code 3 = .ok (.ifCond .eq 23, 3) := by decide +kernel
theorem dc17_6 : decode jdk_42_method_139_code 6 = .ok (.iload_n 0, 1) := by decide +kernel
theorem dc17_7 : decode jdk_42_method_139_code 7 = .ok (.invokestatic 1015, 3) := by decide +kernel
theorem dc18_0 : decode jdk_43_method_3_code 0 = .ok (.iload_n 0, 1) := by decide +kernel
theorem dc18_1 : decode jdk_43_method_3_code 1 = .ok (.sipush 255, 3) := by decide +kernel
theorem dc18_4 : decode jdk_43_method_3_code 4 = .ok (.if_icmp .gt 7, 3) := by decide +kernel
theorem dc18_7 : decode jdk_43_method_3_code 7 = .ok (.iconst 1, 1) := by decide +kernel
theorem dc18_8 : decode jdk_43_method_3_code 8 = .ok (.goto 4, 3) := by decide +kernel
theorem dc18_12 : decode jdk_43_method_3_code 12 = .ok (.ireturn, 1) := by decide +kernel
theorem own_pn_java_lang_StringLatin1 : plainName "java/lang/StringLatin1" = true := by first | (simp [plainName, overriddenIn]; done) | decide +kernel
def Q_canEncode_2 (Z : State) (h0 : Heap) (n0 : Nat) (v : Option Value) (h : Heap) (L : List Loc) : Prop := v = some (.int (1 : Int32)) ∧ Fr n0 L ∧ h = h0
set_option maxRecDepth 65536 in
set_option maxHeartbeats 40000000 in
theorem rm_canEncode_2 (l : Launch) (Z : State) (a0 : Array Value) (hw : ∀ d ∈ tables_1, d.before a0 Z = true) (ws : List Jvm.Cond) (y0 : Int32) (h0 : Heap) (n0 : Nat) (Z0 : n0 ≤ h0.size) (hb0 : ¬ ((255 : Int32) < y0)) :
    MetFree l (⟨"java/lang/StringLatin1", "canEncode", "(C)Z"⟩ : MethodName) (head1 (Jvm.Cond.code (⟨"java/lang/StringLatin1", "canEncode", "(C)Z"⟩ : MethodName) jdk_43_method_3_code 1 (some .boolean) :: ws) ({ frames := 0, cells := 0, slots := 0, locals := 0 } : Room)) (fun aA U => aA = #[(.int y0)] ∧ Z.Warmed39 U.vm ∧ U.heap = h0) (fun _ _ _ _ _ => True) (fun _ U o U' => ∃ v L, o = .returned v ∧ Q_canEncode_2 Z h0 n0 v U'.heap L ∧ FrameEnd U o U' L ({ frames := 0, cells := 0, slots := 0, locals := 0 } : Room).cells ({ frames := 0, cells := 0, slots := 0, locals := 0 } : Room).slots) := by
  refine MetFree.of_bodySF (plainFor_of_name own_pn_java_lang_StringLatin1) hisR ?_
  intro p e s m args below meth c s₁ Bd hml0 hP hK
  obtain ⟨rfl, hZ, hh⟩ := hP
  have hx := Bd.exec
  have hby := Bd.bytes
  have hlk : meth.locks = false := BodyLoose.notSynchronized Bd
  have hml : c.maxLocals = 1 := hml0
  have hown : s.vm.findClass "java/lang/StringLatin1" = some m.cls := findClass_of_methodNamed Bd.named
  have hnm := (name_of_methodNamed Bd.named Bd.method).1
  have X0 : Stand p l e ({ frames := 0, cells := 0, slots := 0, locals := 0 } : Room) s m #[(.int y0)] below meth c s₁ [] 0 0 := Stand.of_body Bd
  have e0 : s₁.heap = h0 := by rw [← hh, Bd.state]; rfl
  have N0 := Fr.nil n0
  show oG p e below (own_K s (Q_canEncode_2 Z h0 n0) ({ frames := 0, cells := 0, slots := 0, locals := 0 } : Room).cells ({ frames := 0, cells := 0, slots := 0, locals := 0 } : Room).slots) (s₁.setTop (entryFrame m #[(.int y0)] 1))
  rw [(by first | (simp [entryFrame, mkF, argsToLocals, Value.category]; done) | rfl : entryFrame m #[(.int y0)] 1 = mkF m 0 #[.val (.int y0)] [])]
  show oG p e below _ (s₁.setTop (mkF m 0 #[.val (.int y0)] []))
  refine og (fun _ hr => XS.iloadN X0.here hx rfl (hb hby dc18_0) rfl (XS.sipush X0.here hx rfl (hb hby dc18_1) hr)) ?_
  show oG p e below _ (s₁.setTop (mkF m 4 #[.val (.int y0)] [(.int (255 : Int32)), (.int y0)]))
  refine og (fun _ hr => XS.icmpNo X0.here hx rfl (hb hby dc18_4) rfl (flt hb0).2.2.1 hr) ?_
  show oG p e below _ (s₁.setTop (mkF m 7 #[.val (.int y0)] []))
  refine og (fun _ hr => XS.iconst X0.here hx rfl (hb hby dc18_7) (XS.goto X0.here hx rfl (pc0 := 8) (pc' := 12) rfl (hb hby dc18_8) (by decide) (by decide) hr)) ?_
  show oG p e below _ (s₁.setTop (mkF m 12 #[.val (.int y0)] [(.int (1 : Int32))]))
  exact own_retN X0 hx hlk Bd.returns (t := .boolean) (by simp) (hb hby dc18_12) (by decide) (by decide) ⟨rfl, N0, e0⟩
theorem own_pd2 : parseMethodDescriptor "(C)Z" = some ⟨[.char], some .boolean⟩ := by decide +kernel
theorem dc17_10 : decode jdk_42_method_139_code 10 = .ok (.ifCond .eq 16, 3) := by decide +kernel
theorem dc17_13 : decode jdk_42_method_139_code 13 = .ok (.new 10, 3) := by decide +kernel
theorem dc17_16 : decode jdk_42_method_139_code 16 = .ok (.dup, 1) := by decide +kernel
theorem dc17_17 : decode jdk_42_method_139_code 17 = .ok (.iload_n 0, 1) := by decide +kernel
theorem dc17_18 : decode jdk_42_method_139_code 18 = .ok (.invokestatic 1018, 3) := by decide +kernel
theorem dc19_0 : decode jdk_43_method_46_code 0 = .ok (.iconst 1, 1) := by decide +kernel
theorem dc19_1 : decode jdk_43_method_46_code 1 = .ok (.newarray .byte, 2) := by decide +kernel
theorem dc19_3 : decode jdk_43_method_46_code 3 = .ok (.dup, 1) := by decide +kernel
theorem dc19_4 : decode jdk_43_method_46_code 4 = .ok (.iconst 0, 1) := by decide +kernel
theorem dc19_5 : decode jdk_43_method_46_code 5 = .ok (.iload_n 0, 1) := by decide +kernel
theorem dc19_6 : decode jdk_43_method_46_code 6 = .ok (.i2b, 1) := by decide +kernel
theorem dc19_7 : decode jdk_43_method_46_code 7 = .ok (.bastore, 1) := by decide +kernel
theorem dc19_8 : decode jdk_43_method_46_code 8 = .ok (.areturn, 1) := by decide +kernel
def Q_toBytes_3 (Z : State) (y0 : Int32) (h0 : Heap) (n0 : Nat) (v : Option Value) (h : Heap) (L : List Loc) : Prop := (∃ (b1 : Addr) (k1 : ClassId), v = some (.ref b1) ∧ Fr n0 L ∧ Keep h0 h [] ∧ n0 ≤ b1 ∧ h0.size ≤ b1 ∧ Exa Z h b1 "[B" ∧ Arv Z h b1 k1 .byte (1 : Int32) [(.int (y0.toInt8.toInt32))] (.int (0 : Int32)))
set_option maxRecDepth 65536 in
set_option maxHeartbeats 40000000 in
theorem rm_toBytes_3 (l : Launch) (Z : State) (a0 : Array Value) (hw : ∀ d ∈ tables_1, d.before a0 Z = true) (ws : List Jvm.Cond) (y0 : Int32) (h0 : Heap) (n0 : Nat) (Z0 : n0 ≤ h0.size) (hb0 : (nar .byte (y0.toInt8.toInt32)) = (y0.toInt8.toInt32)) :
    MetFree l (⟨"java/lang/StringLatin1", "toBytes", "(C)[B"⟩ : MethodName) (head1 (Jvm.Cond.code (⟨"java/lang/StringLatin1", "toBytes", "(C)[B"⟩ : MethodName) jdk_43_method_46_code 1 (some (.array .byte)) :: ws) ({ frames := 0, cells := 1, slots := 1, locals := 0 } : Room)) (fun aA U => aA = #[(.int y0)] ∧ Z.Warmed39 U.vm ∧ U.heap = h0) (fun _ _ _ _ _ => True) (fun _ U o U' => ∃ v L, o = .returned v ∧ Q_toBytes_3 Z y0 h0 n0 v U'.heap L ∧ FrameEnd U o U' L ({ frames := 0, cells := 1, slots := 1, locals := 0 } : Room).cells ({ frames := 0, cells := 1, slots := 1, locals := 0 } : Room).slots) := by
  refine MetFree.of_bodySF (plainFor_of_name own_pn_java_lang_StringLatin1) hisR ?_
  intro p e s m args below meth c s₁ Bd hml0 hP hK
  obtain ⟨rfl, hZ, hh⟩ := hP
  have hx := Bd.exec
  have hby := Bd.bytes
  have hlk : meth.locks = false := BodyLoose.notSynchronized Bd
  have hml : c.maxLocals = 1 := hml0
  have hown : s.vm.findClass "java/lang/StringLatin1" = some m.cls := findClass_of_methodNamed Bd.named
  have hnm := (name_of_methodNamed Bd.named Bd.method).1
  have X0 : Stand p l e ({ frames := 0, cells := 1, slots := 1, locals := 0 } : Room) s m #[(.int y0)] below meth c s₁ [] 0 0 := Stand.of_body Bd
  have e0 : s₁.heap = h0 := by rw [← hh, Bd.state]; rfl
  have N0 := Fr.nil n0
  have K0 : Keep h0 h0 [] := Keep.refl _ _
  show oG p e below (own_K s (Q_toBytes_3 Z y0 h0 n0) ({ frames := 0, cells := 1, slots := 1, locals := 0 } : Room).cells ({ frames := 0, cells := 1, slots := 1, locals := 0 } : Room).slots) (s₁.setTop (entryFrame m #[(.int y0)] 1))
  rw [(by first | (simp [entryFrame, mkF, argsToLocals, Value.category]; done) | rfl : entryFrame m #[(.int y0)] 1 = mkF m 0 #[.val (.int y0)] [])]
  show oG p e below _ (s₁.setTop (mkF m 0 #[.val (.int y0)] []))
  refine og (fun _ hr => XS.iconst X0.here hx rfl (hb hby dc19_0) hr) ?_
  show oG p e below _ (s₁.setTop (mkF m 1 #[.val (.int y0)] [(.int (1 : Int32))]))
  obtain ⟨T1, h1, k1, X1, e1, E1, A1, EA1, st1⟩ := newPE X0 hx hZ (hw _ (own_m 9 rfl)) e0 (g := (mkF m 1 #[.val (.int y0)] [(.int (1 : Int32))])) rfl (hb hby dc19_1) rfl (by decide) (cap := 1) (by decide) (by decide) (by decide) (by decide) (ad := "[B") (by decide)
  obtain ⟨b1, g1⟩ : ∃ z, z = h0.size := ⟨_, rfl⟩
  rw [← g1] at A1 EA1 st1
  have ge2 : n0 ≤ b1 := Nat.le_trans Z0 (Nat.le_of_eq g1.symm)
  have sz3 : h0.size ≤ b1 := Nat.le_trans K0.1 (Nat.le_of_eq g1.symm)
  refine og st1 ?_
  have f4 : Arv Z h1 b1 k1 .byte (1 : Int32) [(.int (0 : Int32))] (.int (0 : Int32)) := (Arv.new A1 (by decide)).pad (pad_rep [] (.int (0 : Int32)) 1)
  show oG p e below _ (T1.setTop (mkF m 3 #[.val (.int y0)] [(.ref b1)]))
  refine og (fun _ hr => XS.dup X1.here hx rfl (hb hby dc19_3) rfl rfl (XS.iconst X1.here hx rfl (hb hby dc19_4) (XS.iloadN X1.here hx rfl (hb hby dc19_5) rfl (XS.i2b X1.here hx rfl (hb hby dc19_6) rfl hr)))) ?_
  show oG p e below _ (T1.setTop (mkF m 7 #[.val (.int y0)] [(.int (y0.toInt8.toInt32)), (.int (0 : Int32)), (.ref b1), (.ref b1)]))
  refine own_stB X1 hx hZ e1 f4 (0 : Int32) (y0.toInt8.toInt32) (y0.toInt8.toInt32) 0 ⟨by decide, by decide⟩ rfl (Nat.le_of_ble_eq_true rfl) hb0 [(.int (y0.toInt8.toInt32))] rfl N0 ge2 (hb hby dc19_7) ?_
  intro T5 h5 L5 X5 e5 W5 N5 f5
  show oG p e below _ (T5.setTop (mkF m 8 #[.val (.int y0)] [(.ref b1)]))
  have f6 := (EA1.wr W5)
  have K7 := ((K0.ext E1).wr W5 (Or.inr sz3))
  exact own_retR X5 hx hlk Bd.returns rfl rfl (hb hby dc19_8) (by decide) (by decide) (by rw [e5]; exact ⟨b1, k1, rfl, N5, K7, ge2, sz3, f6, f5⟩)
theorem own_pd3 : parseMethodDescriptor "(C)[B" = some ⟨[.char], some (.array .byte)⟩ := by decide +kernel
theorem dc17_21 : decode jdk_42_method_139_code 21 = .ok (.iconst 0, 1) := by decide +kernel
theorem dc17_22 : decode jdk_42_method_139_code 22 = .ok (.invokespecial 209, 3) := by decide +kernel
theorem dc20_0 : decode jdk_42_method_151_code 0 = .ok (.aload_n 0, 1) := by decide +kernel
theorem dc20_1 : decode jdk_42_method_151_code 1 = .ok (.invokespecial 1, 3) := by decide +kernel
theorem dc20_4 : decode jdk_42_method_151_code 4 = .ok (.aload_n 0, 1) := by decide +kernel
theorem dc20_5 : decode jdk_42_method_151_code 5 = .ok (.aload_n 1, 1) := by decide +kernel
theorem dc20_6 : decode jdk_42_method_151_code 6 = .ok (.putfield 9, 3) := by decide +kernel
theorem dc20_9 : decode jdk_42_method_151_code 9 = .ok (.aload_n 0, 1) := by decide +kernel
theorem dc20_10 : decode jdk_42_method_151_code 10 = .ok (.iload_n 2, 1) := by decide +kernel
theorem dc20_11 : decode jdk_42_method_151_code 11 = .ok (.putfield 15, 3) := by decide +kernel
theorem dc20_14 : decode jdk_42_method_151_code 14 = .ok (.return_, 1) := by decide +kernel
def Q_init_4 (Z : State) (o0 : Addr) (o1 : Addr) (h0 : Heap) (n0 : Nat) (v : Option Value) (h : Heap) (L : List Loc) : Prop := (v = none ∧ Fr n0 L ∧ Keep h0 h [o0] ∧ Fld Z h o0 "java/lang/String" "coder" "B" (.int (0 : Int32)) ∧ Fld Z h o0 "java/lang/String" "value" "[B" (.ref o1))
set_option maxRecDepth 65536 in
set_option maxHeartbeats 40000000 in
theorem rm_init_4 (l : Launch) (Z : State) (a0 : Array Value) (hw : ∀ d ∈ tables_1, d.before a0 Z = true) (ws : List Jvm.Cond) (o0 : Addr) (o1 : Addr) (h0 : Heap) (n0 : Nat) (Z0 : n0 ≤ h0.size) (P0 : Exa Z h0 o0 "java/lang/String") (P1 : Fld Z h0 o0 "java/lang/String" "value" "[B" .null) (P2 : Fld Z h0 o0 "java/lang/String" "coder" "B" (.int (0 : Int32))) (ge0p : n0 ≤ o0) :
    MetFree l (⟨"java/lang/String", "<init>", "([BB)V"⟩ : MethodName) (head1 (Jvm.Cond.code (⟨"java/lang/String", "<init>", "([BB)V"⟩ : MethodName) jdk_42_method_151_code 3 none :: ws) ({ frames := 1, cells := 0, slots := 0, locals := 12 } : Room)) (fun aA U => aA = #[(.ref o0), (.ref o1), (.int (0 : Int32))] ∧ Z.Warmed39 U.vm ∧ U.heap = h0) (fun _ _ _ _ _ => True) (fun _ U o U' => ∃ v L, o = .returned v ∧ Q_init_4 Z o0 o1 h0 n0 v U'.heap L ∧ FrameEnd U o U' L ({ frames := 1, cells := 0, slots := 0, locals := 12 } : Room).cells ({ frames := 1, cells := 0, slots := 0, locals := 12 } : Room).slots) := by
  refine MetFree.of_bodySF (plainFor_of_name own_pn_java_lang_String) hisR ?_
  intro p e s m args below meth c s₁ Bd hml0 hP hK
  obtain ⟨rfl, hZ, hh⟩ := hP
  have hx := Bd.exec
  have hby := Bd.bytes
  have hlk : meth.locks = false := BodyLoose.notSynchronized Bd
  have hml : c.maxLocals = 3 := hml0
  have hown : s.vm.findClass "java/lang/String" = some m.cls := findClass_of_methodNamed Bd.named
  have hnm := (name_of_methodNamed Bd.named Bd.method).1
  have X0 : Stand p l e ({ frames := 1, cells := 0, slots := 0, locals := 12 } : Room) s m #[(.ref o0), (.ref o1), (.int (0 : Int32))] below meth c s₁ [] 0 0 := Stand.of_body Bd
  have e0 : s₁.heap = h0 := by rw [← hh, Bd.state]; rfl
  have N0 := Fr.nil n0
  have K0 : Keep h0 h0 [o0] := Keep.refl _ _
  show oG p e below (own_K s (Q_init_4 Z o0 o1 h0 n0) ({ frames := 1, cells := 0, slots := 0, locals := 12 } : Room).cells ({ frames := 1, cells := 0, slots := 0, locals := 12 } : Room).slots) (s₁.setTop (entryFrame m #[(.ref o0), (.ref o1), (.int (0 : Int32))] 3))
  rw [(by first | (simp [entryFrame, mkF, argsToLocals, Value.category]; done) | rfl : entryFrame m #[(.ref o0), (.ref o1), (.int (0 : Int32))] 3 = mkF m 0 #[.val (.ref o0), .val (.ref o1), .val (.int (0 : Int32))] [])]
  show oG p e below _ (s₁.setTop (mkF m 0 #[.val (.ref o0), .val (.ref o1), .val (.int (0 : Int32))] []))
  refine og (fun _ hr => XS.aloadN X0.here hx rfl (hb hby dc20_0) rfl rfl hr) ?_
  show oG p e below _ (s₁.setTop (mkF m 1 #[.val (.ref o0), .val (.ref o1), .val (.int (0 : Int32))] [(.ref o0)]))
  obtain ⟨T1, X1, e1, st1⟩ := initO X0 hx hZ hown (hw _ (own_m 25 rfl)) (hw _ (own_m 26 rfl)) (hw _ (own_m 27 rfl)) e0 (g := (mkF m 1 #[.val (.ref o0), .val (.ref o1), .val (.int (0 : Int32))] [(.ref o0)])) rfl (by rw [hml]; rfl) rfl (hb hby dc20_1) (by decide) (W := 0) (by show 2 * 0 + _ ≤ _; exact Nat.le_of_eq rfl) (by decide)
  refine og st1 ?_
  show oG p e below _ (T1.setTop (mkF m 4 #[.val (.ref o0), .val (.ref o1), .val (.int (0 : Int32))] []))
  refine og (fun _ hr => XS.aloadN X1.here hx rfl (hb hby dc20_4) rfl rfl (XS.aloadN X1.here hx rfl (hb hby dc20_5) rfl rfl hr)) ?_
  show oG p e below _ (T1.setTop (mkF m 6 #[.val (.ref o0), .val (.ref o1), .val (.int (0 : Int32))] [(.ref o1), (.ref o0)]))
  obtain ⟨T2, h2, X2, e2, W2, st2⟩ := putF X1 hx hZ hown (host := "") (Or.inl (hw _ (own_m 29 rfl))) Via.refl e1 P1 P0 (Or.inr ⟨(hw _ (own_m 10 rfl)), rfl, hnm⟩) (hw _ (own_m 8 rfl)) (ty := (.array .byte)) (by decide) rfl rfl (g := (mkF m 6 #[.val (.ref o0), .val (.ref o1), .val (.int (0 : Int32))] [(.ref o1), (.ref o0)])) rfl rfl (hb hby dc20_6)
  refine og st2 ?_
  have f3 := P1.same W2
  have N4 := Fr.snoc X2 N0 ge0p
  show oG p e below _ (T2.setTop (mkF m 9 #[.val (.ref o0), .val (.ref o1), .val (.int (0 : Int32))] []))
  refine og (fun _ hr => XS.aloadN X2.here hx rfl (hb hby dc20_9) rfl rfl (XS.iloadN X2.here hx rfl (hb hby dc20_10) rfl hr)) ?_
  show oG p e below _ (T2.setTop (mkF m 11 #[.val (.ref o0), .val (.ref o1), .val (.int (0 : Int32))] [(.int (0 : Int32)), (.ref o0)]))
  have f5 := (P0.wr W2)
  have f6 := (P2.other W2 (Or.inr (slot_ne (Or.inr (hw _ (own_m 11 rfl))) (Or.inr (hw _ (own_m 10 rfl))) (by decide) (t := .byte) (t' := (.array .byte)) (by decide) (by decide))))
  obtain ⟨T7, h7, X7, e7, W7, st7⟩ := putFN X2 hx hZ hown (hw _ (own_m 30 rfl)) Via.refl e2 f6 f5 (Or.inr ⟨(hw _ (own_m 11 rfl)), rfl, hnm⟩) (hw _ (own_m 8 rfl)) (ty := .byte) (v' := .int (0 : Int32)) (by decide) rfl (by decide) (g := (mkF m 11 #[.val (.ref o0), .val (.ref o1), .val (.int (0 : Int32))] [(.int (0 : Int32)), (.ref o0)])) rfl rfl (hb hby dc20_11)
  refine og st7 ?_
  have f8 := f6.same W7
  have N9 := Fr.snoc X7 N4 ge0p
  show oG p e below _ (T7.setTop (mkF m 14 #[.val (.ref o0), .val (.ref o1), .val (.int (0 : Int32))] []))
  have f10 := (f3.other W7 (Or.inr (slot_ne (Or.inr (hw _ (own_m 10 rfl))) (Or.inr (hw _ (own_m 11 rfl))) (by decide) (t := (.array .byte)) (t' := .byte) (by decide) (by decide))))
  have K11 := ((K0.wr W2 (Or.inl (List.mem_of_getElem? (i := 0) rfl))).wr W7 (Or.inl (List.mem_of_getElem? (i := 0) rfl)))
  exact own_ret0 X7 hx hlk Bd.returns (hb hby dc20_14) (by decide) (by decide) (by rw [e7]; exact ⟨rfl, N9, K11, f8, f10⟩)
theorem own_pd4 : parseMethodDescriptor "([BB)V" = some ⟨[(.array .byte), .byte], none⟩ := by decide +kernel
theorem dc17_25 : decode jdk_42_method_139_code 25 = .ok (.areturn, 1) := by decide +kernel
def Q_valueOf_5 (Z : State) (y0 : Int32) (h0 : Heap) (n0 : Nat) (v : Option Value) (h : Heap) (L : List Loc) : Prop := (∃ (b3 : Addr) (b8_0 : Addr) (kb8_0 : ClassId), v = some (.ref b3) ∧ Fr n0 L ∧ Keep h0 h [] ∧ n0 ≤ b3 ∧ h0.size ≤ b3 ∧ n0 ≤ b8_0 ∧ h0.size ≤ b8_0 ∧ b3 ≠ b8_0 ∧ Exa Z h b3 "java/lang/String" ∧ Fld Z h b3 "java/lang/String" "coder" "B" (.int (0 : Int32)) ∧ Fld Z h b3 "java/lang/String" "value" "[B" (.ref b8_0) ∧ Exa Z h b8_0 "[B" ∧ Arv Z h b8_0 kb8_0 .byte (1 : Int32) [(.int (y0.toInt8.toInt32))] (.int (0 : Int32)))
set_option maxRecDepth 65536 in
set_option maxHeartbeats 40000000 in
theorem rm_valueOf_5 (l : Launch) (Z : State) (a0 : Array Value) (hw : ∀ d ∈ tables_1, d.before a0 Z = true) (ws : List Jvm.Cond) (y0 : Int32) (y1 : Int32) (h0 : Heap) (n0 : Nat) (Z0 : n0 ≤ h0.size) (P0 : Sta Z h0 "java/lang/String" "COMPACT_STRINGS" "Z" (.int y1)) (hb0 : ¬ (y1 = (0 : Int32))) (hb1 : ¬ ((255 : Int32) < y0)) (hb2 : (nar .byte (y0.toInt8.toInt32)) = (y0.toInt8.toInt32)) :
    MetFree l (⟨"java/lang/String", "valueOf", "(C)Ljava/lang/String;"⟩ : MethodName) (head1 (Jvm.Cond.code (⟨"java/lang/String", "valueOf", "(C)Ljava/lang/String;"⟩ : MethodName) jdk_42_method_139_code 1 (some (.object "java/lang/String")) :: ws) ({ frames := 2, cells := 2, slots := 5, locals := 27 } : Room)) (fun aA U => aA = #[(.int y0)] ∧ Z.Warmed39 U.vm ∧ U.heap = h0) (fun _ _ _ _ _ => True) (fun _ U o U' => ∃ v L, o = .returned v ∧ Q_valueOf_5 Z y0 h0 n0 v U'.heap L ∧ FrameEnd U o U' L ({ frames := 2, cells := 2, slots := 5, locals := 27 } : Room).cells ({ frames := 2, cells := 2, slots := 5, locals := 27 } : Room).slots) := by
  refine MetFree.of_bodySF (plainFor_of_name own_pn_java_lang_String) hisR ?_
  intro p e s m args below meth c s₁ Bd hml0 hP hK
  obtain ⟨rfl, hZ, hh⟩ := hP
  have hx := Bd.exec
  have hby := Bd.bytes
  have hlk : meth.locks = false := BodyLoose.notSynchronized Bd
  have hml : c.maxLocals = 1 := hml0
  have hown : s.vm.findClass "java/lang/String" = some m.cls := findClass_of_methodNamed Bd.named
  have hnm := (name_of_methodNamed Bd.named Bd.method).1
  have X0 : Stand p l e ({ frames := 2, cells := 2, slots := 5, locals := 27 } : Room) s m #[(.int y0)] below meth c s₁ [] 0 0 := Stand.of_body Bd
  have e0 : s₁.heap = h0 := by rw [← hh, Bd.state]; rfl
  have N0 := Fr.nil n0
  have K0 : Keep h0 h0 [] := Keep.refl _ _
  show oG p e below (own_K s (Q_valueOf_5 Z y0 h0 n0) ({ frames := 2, cells := 2, slots := 5, locals := 27 } : Room).cells ({ frames := 2, cells := 2, slots := 5, locals := 27 } : Room).slots) (s₁.setTop (entryFrame m #[(.int y0)] 1))
  rw [(by first | (simp [entryFrame, mkF, argsToLocals, Value.category]; done) | rfl : entryFrame m #[(.int y0)] 1 = mkF m 0 #[.val (.int y0)] [])]
  show oG p e below _ (s₁.setTop (mkF m 0 #[.val (.int y0)] []))
  obtain ⟨T1, X1, e1, st1⟩ := getS2 X0 hx hZ hown (host := "") (Or.inl (hw _ (own_m 59 rfl))) Via.refl e0 P0 (g := (mkF m 0 #[.val (.int y0)] [])) rfl (hb hby dc17_0)
  refine og st1 ?_
  show oG p e below _ (T1.setTop (mkF m 3 #[.val (.int y0)] [(.int y1)]))
  refine og (fun _ hr => XS.ifNo X1.here hx rfl (hb hby dc17_3) rfl ((if0 _ _).trans (feq hb0).1) hr) ?_
  show oG p e below _ (T1.setTop (mkF m 6 #[.val (.int y0)] []))
  refine og (fun _ hr => XS.iloadN X1.here hx rfl (hb hby dc17_6) rfl hr) ?_
  show oG p e below _ (T1.setTop (mkF m 7 #[.val (.int y0)] [(.int y0)]))
  refine own_cs X1 hx hZ hown (hw _ (own_m 105 rfl)) (hw _ (own_m 106 rfl)) (hw _ (own_m 100 rfl)) (hw _ (own_m 107 rfl)) (by decide) (rm := { frames := 0, cells := 0, slots := 0, locals := 0 }) (rm_canEncode_2 l Z a0 hw [] y0 h0 n0 Z0 hb1) (by decide) (W := 0) (by decide) (by decide) (by decide) e1 (by rw [hml]; rfl) (argsL := [(.int y0)]) (lenOf own_pd2 rfl) (rest := []) rfl rfl (Nat.le_of_eq rfl) (hb hby dc17_7) ?_
  intro _ T2 L2 X2 hQ2
  obtain ⟨rfl, N2q, e2⟩ := hQ2
  have N2 := Fr.app N0 N2q
  show oG p e below _ (T2.setTop (mkF m 10 #[.val (.int y0)] [(.int (1 : Int32))]))
  refine og (fun _ hr => XS.ifNo X2.here hx rfl (hb hby dc17_10) rfl ((if0 _ _).trans (feq (by decide)).1) hr) ?_
  show oG p e below _ (T2.setTop (mkF m 13 #[.val (.int y0)] []))
  obtain ⟨T3, h3, X3, e3, E3, A3, D3, -, st3⟩ := newO X2 hx hZ hown (hw _ (own_m 97 rfl)) (hw _ (own_m 8 rfl)) (hw _ (own_m 7 rfl)) e2 (g := (mkF m 13 #[.val (.int y0)] [])) rfl (hb hby dc17_13) (by decide) (by decide)
  obtain ⟨b3, g3⟩ : ∃ z, z = h0.size := ⟨_, rfl⟩
  rw [← g3] at A3 D3 st3
  have ge4 : n0 ≤ b3 := Nat.le_trans Z0 (Nat.le_of_eq g3.symm)
  have sz5 : h0.size ≤ b3 := Nat.le_trans K0.1 (Nat.le_of_eq g3.symm)
  refine og st3 ?_
  have f6 : Fld Z h3 b3 "java/lang/String" "value" "[B" .null := D3 (Or.inr (hw _ (own_m 10 rfl))) (ty := (.array .byte)) (by decide)
  have f7 : Fld Z h3 b3 "java/lang/String" "coder" "B" (.int (0 : Int32)) := D3 (Or.inr (hw _ (own_m 11 rfl))) (ty := .byte) (by decide)
  show oG p e below _ (T3.setTop (mkF m 16 #[.val (.int y0)] [(.ref b3)]))
  refine og (fun _ hr => XS.dup X3.here hx rfl (hb hby dc17_16) rfl rfl (XS.iloadN X3.here hx rfl (hb hby dc17_17) rfl hr)) ?_
  show oG p e below _ (T3.setTop (mkF m 18 #[.val (.int y0)] [(.int y0), (.ref b3), (.ref b3)]))
  have Z9 := (Nat.le_trans Z0 E3.1)
  refine own_cs X3 hx hZ hown (hw _ (own_m 108 rfl)) (hw _ (own_m 109 rfl)) (hw _ (own_m 100 rfl)) (hw _ (own_m 110 rfl)) (by decide) (rm := { frames := 0, cells := 1, slots := 1, locals := 0 }) (rm_toBytes_3 l Z a0 hw [] y0 h3 n0 Z9 hb2) (by decide) (W := 2) (by decide) (by decide) (by decide) e3 (by rw [hml]; rfl) (argsL := [(.int y0)]) (lenOf own_pd3 rfl) (rest := [(.ref b3), (.ref b3)]) rfl rfl (Nat.le_of_eq rfl) (hb hby dc17_18) ?_
  intro _ T8 L8 X8 hQ8
  obtain ⟨b8_0, kb8_0, rfl, N8q, K8, ge8_0, sz8_0, f8_0, f8_1⟩ := hQ8
  have N8 := Fr.app N2 N8q
  have K11 := (K0.ext E3)
  have sz10 : h0.size ≤ b8_0 := Nat.le_trans K11.1 sz8_0
  show oG p e below _ (T8.setTop (mkF m 21 #[.val (.int y0)] [(.ref b8_0), (.ref b3), (.ref b3)]))
  refine og (fun _ hr => XS.iconst X8.here hx rfl (hb hby dc17_21) hr) ?_
  show oG p e below _ (T8.setTop (mkF m 22 #[.val (.int y0)] [(.int (0 : Int32)), (.ref b8_0), (.ref b3), (.ref b3)]))
  have f13 := (A3.keep K8)
  have f14 := (f6.keep K8 nin0)
  have f15 := (f7.keep K8 nin0)
  have Z16 := (Nat.le_trans Z9 K8.1)
  refine own_cp X8 hx hZ hown rfl (hw _ (own_m 111 rfl)) (hw _ (own_m 112 rfl)) (hw _ (own_m 7 rfl)) (hw _ (own_m 113 rfl)) (by decide) (rm := { frames := 1, cells := 0, slots := 0, locals := 12 }) (rm_init_4 l Z a0 hw [] b3 b8_0 T8.heap n0 Z16 f13 f14 f15 ge4) (by decide) (W := 1) (by decide) (by decide) (by decide) rfl (by rw [hml]; rfl) (argsL := [(.ref b8_0), (.int (0 : Int32))]) (lenOf own_pd4 rfl) (rest := [(.ref b3)]) rfl rfl (Nat.le_of_eq rfl) (hb hby dc17_22) ?_
  intro _ T12 L12 X12 hQ12
  obtain ⟨rfl, N12q, K12, f12_0, f12_1⟩ := hQ12
  have N12 := Fr.app N8 N12q
  show oG p e below _ (T12.setTop (mkF m 25 #[.val (.int y0)] [(.ref b3)]))
  have f17 := (f13.keep K12)
  have f18 := (f8_0.keep K12)
  have f19 := (f8_1.keep K12 (ninS (Ne.symm (Nat.ne_of_lt (Nat.lt_of_lt_of_le A3.lt sz8_0))) nin0))
  have K20 := ((K11.trans K8 all0).trans K12 (allS (Or.inr sz5) all0))
  exact own_retR X12 hx hlk Bd.returns rfl rfl (hb hby dc17_25) (by decide) (by decide) (by exact ⟨b3, b8_0, kb8_0, rfl, N12, K20, ge4, sz5, ge8_0, sz10, (Nat.ne_of_lt (Nat.lt_of_lt_of_le A3.lt sz8_0)), f17, f12_0, f12_1, f18, f19⟩)
theorem own_pd5 : parseMethodDescriptor "(C)Ljava/lang/String;" = some ⟨[.char], some (.object "java/lang/String")⟩ := by decide +kernel
theorem dc2_26 : decode method_4_code 26 = .ok (.areturn, 1) := by decide +kernel
theorem dc2_27 : decode method_4_code 27 = .ok (.iload_n 1, 1) := by decide +kernel
theorem dc2_28 : decode method_4_code 28 = .ok (.iconst 2, 1) := by decide +kernel
theorem dc2_29 : decode method_4_code 29 = .ok (.if_icmp .ne 26, 3) := by decide +kernel
theorem dc2_32 : decode method_4_code 32 = .ok (.new 41, 3) := by decide +kernel
theorem dc2_35 : decode method_4_code 35 = .ok (.dup, 1) := by decide +kernel
theorem dc2_36 : decode method_4_code 36 = .ok (.iconst 2, 1) := by decide +kernel
theorem dc2_37 : decode method_4_code 37 = .ok (.newarray .char, 2) := by decide +kernel
theorem dc2_39 : decode method_4_code 39 = .ok (.dup, 1) := by decide +kernel
theorem dc2_40 : decode method_4_code 40 = .ok (.iconst 0, 1) := by decide +kernel
theorem dc2_41 : decode method_4_code 41 = .ok (.aload_n 0, 1) := by decide +kernel
theorem dc2_42 : decode method_4_code 42 = .ok (.iconst 0, 1) := by decide +kernel
theorem dc2_43 : decode method_4_code 43 = .ok (.caload, 1) := by decide +kernel
theorem dc2_44 : decode method_4_code 44 = .ok (.castore, 1) := by decide +kernel
theorem dc2_45 : decode method_4_code 45 = .ok (.dup, 1) := by decide +kernel
theorem dc2_46 : decode method_4_code 46 = .ok (.iconst 1, 1) := by decide +kernel
theorem dc2_47 : decode method_4_code 47 = .ok (.aload_n 0, 1) := by decide +kernel
theorem dc2_48 : decode method_4_code 48 = .ok (.iconst 1, 1) := by decide +kernel
theorem dc2_49 : decode method_4_code 49 = .ok (.caload, 1) := by decide +kernel
theorem dc2_50 : decode method_4_code 50 = .ok (.castore, 1) := by decide +kernel
theorem dc2_51 : decode method_4_code 51 = .ok (.invokespecial 43, 3) := by decide +kernel
theorem dc4_27 : decode jdk_42_method_149_code 27 = .ok (.getstatic 38, 3) := by decide +kernel
theorem dc4_30 : decode jdk_42_method_149_code 30 = .ok (.ifCond .eq 28, 3) := by decide +kernel
theorem dc4_33 : decode jdk_42_method_149_code 33 = .ok (.aload_n 1, 1) := by decide +kernel
theorem dc4_34 : decode jdk_42_method_149_code 34 = .ok (.iload_n 2, 1) := by decide +kernel
theorem dc4_35 : decode jdk_42_method_149_code 35 = .ok (.iload_n 3, 1) := by decide +kernel
theorem dc4_36 : decode jdk_42_method_149_code 36 = .ok (.invokestatic 177, 3) := by decide +kernel
theorem dc10_0 : decode jdk_52_method_16_code 0 = .ok (.iload_n 2, 1) := by decide +kernel
theorem dc10_1 : decode jdk_52_method_16_code 1 = .ok (.newarray .byte, 2) := by decide +kernel
theorem dc10_3 : decode jdk_52_method_16_code 3 = .ok (.astore_n 3, 1) := by decide +kernel
theorem dc10_4 : decode jdk_52_method_16_code 4 = .ok (.aload_n 0, 1) := by decide +kernel
theorem dc10_5 : decode jdk_52_method_16_code 5 = .ok (.iload_n 1, 1) := by decide +kernel
theorem dc10_6 : decode jdk_52_method_16_code 6 = .ok (.aload_n 3, 1) := by decide +kernel
theorem dc10_7 : decode jdk_52_method_16_code 7 = .ok (.iconst 0, 1) := by decide +kernel
theorem dc10_8 : decode jdk_52_method_16_code 8 = .ok (.iload_n 2, 1) := by decide +kernel
theorem dc10_9 : decode jdk_52_method_16_code 9 = .ok (.invokestatic 115, 3) := by decide +kernel
theorem dc11_0 : decode jdk_52_method_21_code 0 = .ok (.iconst 0, 1) := by decide +kernel
theorem dc11_1 : decode jdk_52_method_21_code 1 = .ok (.istore 5, 2) := by decide +kernel
theorem dc11_3 : decode jdk_52_method_21_code 3 = .ok (.iload 5, 2) := by decide +kernel
theorem dc11_5 : decode jdk_52_method_21_code 5 = .ok (.iload 4, 2) := by decide +kernel
theorem dc11_7 : decode jdk_52_method_21_code 7 = .ok (.if_icmp .ge 37, 3) := by decide +kernel
theorem dc11_10 : decode jdk_52_method_21_code 10 = .ok (.aload_n 0, 1) := by decide +kernel
theorem dc11_11 : decode jdk_52_method_21_code 11 = .ok (.iload_n 1, 1) := by decide +kernel
theorem dc11_12 : decode jdk_52_method_21_code 12 = .ok (.caload, 1) := by decide +kernel
theorem dc11_13 : decode jdk_52_method_21_code 13 = .ok (.istore 6, 2) := by decide +kernel
theorem dc11_15 : decode jdk_52_method_21_code 15 = .ok (.iload 6, 2) := by decide +kernel
theorem dc11_17 : decode jdk_52_method_21_code 17 = .ok (.sipush 255, 3) := by decide +kernel
theorem dc11_20 : decode jdk_52_method_21_code 20 = .ok (.if_icmp .le 6, 3) := by decide +kernel
theorem dc11_26 : decode jdk_52_method_21_code 26 = .ok (.aload_n 2, 1) := by decide +kernel
theorem dc11_27 : decode jdk_52_method_21_code 27 = .ok (.iload_n 3, 1) := by decide +kernel
theorem dc11_28 : decode jdk_52_method_21_code 28 = .ok (.iload 6, 2) := by decide +kernel
theorem dc11_30 : decode jdk_52_method_21_code 30 = .ok (.i2b, 1) := by decide +kernel
theorem dc11_31 : decode jdk_52_method_21_code 31 = .ok (.bastore, 1) := by decide +kernel
theorem dc11_32 : decode jdk_52_method_21_code 32 = .ok (.iinc 1 1, 3) := by decide +kernel
theorem dc11_35 : decode jdk_52_method_21_code 35 = .ok (.iinc 3 1, 3) := by decide +kernel
theorem dc11_38 : decode jdk_52_method_21_code 38 = .ok (.iinc 5 1, 3) := by decide +kernel
theorem dc11_41 : decode jdk_52_method_21_code 41 = .ok (.goto (-38), 3) := by decide +kernel
theorem dc11_44 : decode jdk_52_method_21_code 44 = .ok (.iload 4, 2) := by decide +kernel
theorem dc11_46 : decode jdk_52_method_21_code 46 = .ok (.ireturn, 1) := by decide +kernel
theorem own_pn_java_lang_StringUTF16 : plainName "java/lang/StringUTF16" = true := by first | (simp [plainName, overriddenIn]; done) | decide +kernel
def Q_compress_6 (Z : State) (o1 : Addr) (y0 : Int32) (y1 : Int32) (kc1 : ClassId) (h0 : Heap) (n0 : Nat) (v : Option Value) (h : Heap) (L : List Loc) : Prop := (v = some (.int (2 : Int32)) ∧ Fr n0 L ∧ Keep h0 h [o1] ∧ Arv Z h o1 kc1 .byte (2 : Int32) [(.int (y0.toInt8.toInt32)), (.int (y1.toInt8.toInt32))] (.int (0 : Int32)))
set_option maxRecDepth 65536 in
set_option maxHeartbeats 40000000 in
theorem rm_compress_6 (l : Launch) (Z : State) (a0 : Array Value) (hw : ∀ d ∈ tables_1, d.before a0 Z = true) (ws : List Jvm.Cond) (o0 : Addr) (o1 : Addr) (y0 : Int32) (y1 : Int32) (kc0 : ClassId) (kc1 : ClassId) (h0 : Heap) (n0 : Nat) (Z0 : n0 ≤ h0.size) (P0 : Arv Z h0 o0 kc0 .char (2 : Int32) [(.int y0), (.int y1)] (.int (0 : Int32))) (P1 : Arv Z h0 o1 kc1 .byte (2 : Int32) [(.int (0 : Int32)), (.int (0 : Int32))] (.int (0 : Int32))) (ne0p : o0 ≠ o1) (ge0p : n0 ≤ o1) (hb0 : ¬ ((255 : Int32) < y0)) (hb1 : (nar .byte (y0.toInt8.toInt32)) = (y0.toInt8.toInt32)) (hb2 : ¬ ((255 : Int32) < y1)) (hb3 : (nar .byte (y1.toInt8.toInt32)) = (y1.toInt8.toInt32)) :
    MetFree l (⟨"java/lang/StringUTF16", "compress", "([CI[BII)I"⟩ : MethodName) (head1 (Jvm.Cond.code (⟨"java/lang/StringUTF16", "compress", "([CI[BII)I"⟩ : MethodName) jdk_52_method_21_code 7 (some .int) :: ws) ({ frames := 0, cells := 0, slots := 0, locals := 0 } : Room)) (fun aA U => aA = #[(.ref o0), (.int (0 : Int32)), (.ref o1), (.int (0 : Int32)), (.int (2 : Int32))] ∧ Z.Warmed39 U.vm ∧ U.heap = h0) (fun _ _ _ _ _ => True) (fun _ U o U' => ∃ v L, o = .returned v ∧ Q_compress_6 Z o1 y0 y1 kc1 h0 n0 v U'.heap L ∧ FrameEnd U o U' L ({ frames := 0, cells := 0, slots := 0, locals := 0 } : Room).cells ({ frames := 0, cells := 0, slots := 0, locals := 0 } : Room).slots) := by
  refine MetFree.of_bodySF (plainFor_of_name own_pn_java_lang_StringUTF16) hisR ?_
  intro p e s m args below meth c s₁ Bd hml0 hP hK
  obtain ⟨rfl, hZ, hh⟩ := hP
  have hx := Bd.exec
  have hby := Bd.bytes
  have hlk : meth.locks = false := BodyLoose.notSynchronized Bd
  have hml : c.maxLocals = 7 := hml0
  have hown : s.vm.findClass "java/lang/StringUTF16" = some m.cls := findClass_of_methodNamed Bd.named
  have hnm := (name_of_methodNamed Bd.named Bd.method).1
  have X0 : Stand p l e ({ frames := 0, cells := 0, slots := 0, locals := 0 } : Room) s m #[(.ref o0), (.int (0 : Int32)), (.ref o1), (.int (0 : Int32)), (.int (2 : Int32))] below meth c s₁ [] 0 0 := Stand.of_body Bd
  have e0 : s₁.heap = h0 := by rw [← hh, Bd.state]; rfl
  have N0 := Fr.nil n0
  have K0 : Keep h0 h0 [o1] := Keep.refl _ _
  show oG p e below (own_K s (Q_compress_6 Z o1 y0 y1 kc1 h0 n0) ({ frames := 0, cells := 0, slots := 0, locals := 0 } : Room).cells ({ frames := 0, cells := 0, slots := 0, locals := 0 } : Room).slots) (s₁.setTop (entryFrame m #[(.ref o0), (.int (0 : Int32)), (.ref o1), (.int (0 : Int32)), (.int (2 : Int32))] 7))
  rw [(by first | (simp [entryFrame, mkF, argsToLocals, Value.category]; done) | rfl : entryFrame m #[(.ref o0), (.int (0 : Int32)), (.ref o1), (.int (0 : Int32)), (.int (2 : Int32))] 7 = mkF m 0 #[.val (.ref o0), .val (.int (0 : Int32)), .val (.ref o1), .val (.int (0 : Int32)), .val (.int (2 : Int32)), .unset, .unset] [])]
  show oG p e below _ (s₁.setTop (mkF m 0 #[.val (.ref o0), .val (.int (0 : Int32)), .val (.ref o1), .val (.int (0 : Int32)), .val (.int (2 : Int32)), .unset, .unset] []))
  refine og (fun _ hr => XS.iconst X0.here hx rfl (hb hby dc11_0) (XS.istore X0.here hx rfl (hb hby dc11_1) rfl (l' := #[.val (.ref o0), .val (.int (0 : Int32)), .val (.ref o1), .val (.int (0 : Int32)), .val (.int (2 : Int32)), .val (.int (0 : Int32)), .unset]) rfl (XS.iload X0.here hx rfl (hb hby dc11_3) rfl (XS.iload X0.here hx rfl (hb hby dc11_5) rfl (XS.icmpNo X0.here hx rfl (hb hby dc11_7) rfl (tlt (by decide)).2.1 (XS.aloadN X0.here hx rfl (hb hby dc11_10) rfl rfl (XS.iloadN X0.here hx rfl (hb hby dc11_11) rfl (own_caload X0 hx hZ e0 P0 (0 : Int32) (.int y0) ⟨by decide, by decide⟩ rfl rfl rfl (hb hby dc11_12) (XS.istore X0.here hx rfl (hb hby dc11_13) rfl (l' := #[.val (.ref o0), .val (.int (0 : Int32)), .val (.ref o1), .val (.int (0 : Int32)), .val (.int (2 : Int32)), .val (.int (0 : Int32)), .val (.int y0)]) rfl (XS.iload X0.here hx rfl (hb hby dc11_15) rfl (XS.sipush X0.here hx rfl (hb hby dc11_17) hr))))))))))) ?_
  show oG p e below _ (s₁.setTop (mkF m 20 #[.val (.ref o0), .val (.int (0 : Int32)), .val (.ref o1), .val (.int (0 : Int32)), .val (.int (2 : Int32)), .val (.int (0 : Int32)), .val (.int y0)] [(.int (255 : Int32)), (.int y0)]))
  refine og (fun _ hr => XS.icmpYes X0.here hx rfl (pc0 := 20) (pc' := 26) rfl (hb hby dc11_20) rfl (flt hb0).2.2.2 (by decide) (by decide) hr) ?_
  show oG p e below _ (s₁.setTop (mkF m 26 #[.val (.ref o0), .val (.int (0 : Int32)), .val (.ref o1), .val (.int (0 : Int32)), .val (.int (2 : Int32)), .val (.int (0 : Int32)), .val (.int y0)] []))
  refine og (fun _ hr => XS.aloadN X0.here hx rfl (hb hby dc11_26) rfl rfl (XS.iloadN X0.here hx rfl (hb hby dc11_27) rfl (XS.iload X0.here hx rfl (hb hby dc11_28) rfl (XS.i2b X0.here hx rfl (hb hby dc11_30) rfl hr)))) ?_
  show oG p e below _ (s₁.setTop (mkF m 31 #[.val (.ref o0), .val (.int (0 : Int32)), .val (.ref o1), .val (.int (0 : Int32)), .val (.int (2 : Int32)), .val (.int (0 : Int32)), .val (.int y0)] [(.int (y0.toInt8.toInt32)), (.int (0 : Int32)), (.ref o1)]))
  refine own_stB X0 hx hZ e0 P1 (0 : Int32) (y0.toInt8.toInt32) (y0.toInt8.toInt32) 0 ⟨by decide, by decide⟩ rfl (Nat.le_of_ble_eq_true rfl) hb1 [(.int (y0.toInt8.toInt32)), (.int (0 : Int32))] rfl N0 ge0p (hb hby dc11_31) ?_
  intro T1 h1 L1 X1 e1 W1 N1 f1
  show oG p e below _ (T1.setTop (mkF m 32 #[.val (.ref o0), .val (.int (0 : Int32)), .val (.ref o1), .val (.int (0 : Int32)), .val (.int (2 : Int32)), .val (.int (0 : Int32)), .val (.int y0)] []))
  have f2 := (P0.other W1 ne0p)
  refine og (fun _ hr => XS.iinc X1.here hx rfl (hb hby dc11_32) rfl (l' := #[.val (.ref o0), .val (.int (1 : Int32)), .val (.ref o1), .val (.int (0 : Int32)), .val (.int (2 : Int32)), .val (.int (0 : Int32)), .val (.int y0)]) rfl (XS.iinc X1.here hx rfl (hb hby dc11_35) rfl (l' := #[.val (.ref o0), .val (.int (1 : Int32)), .val (.ref o1), .val (.int (1 : Int32)), .val (.int (2 : Int32)), .val (.int (0 : Int32)), .val (.int y0)]) rfl (XS.iinc X1.here hx rfl (hb hby dc11_38) rfl (l' := #[.val (.ref o0), .val (.int (1 : Int32)), .val (.ref o1), .val (.int (1 : Int32)), .val (.int (2 : Int32)), .val (.int (1 : Int32)), .val (.int y0)]) rfl (XS.goto X1.here hx rfl (pc0 := 41) (pc' := 3) rfl (hb hby dc11_41) (by decide) (by decide) (XS.iload X1.here hx rfl (hb hby dc11_3) rfl (XS.iload X1.here hx rfl (hb hby dc11_5) rfl (XS.icmpNo X1.here hx rfl (hb hby dc11_7) rfl (tlt (by decide)).2.1 (XS.aloadN X1.here hx rfl (hb hby dc11_10) rfl rfl (XS.iloadN X1.here hx rfl (hb hby dc11_11) rfl (own_caload X1 hx hZ e1 f2 (1 : Int32) (.int y1) ⟨by decide, by decide⟩ rfl rfl rfl (hb hby dc11_12) (XS.istore X1.here hx rfl (hb hby dc11_13) rfl (l' := #[.val (.ref o0), .val (.int (1 : Int32)), .val (.ref o1), .val (.int (1 : Int32)), .val (.int (2 : Int32)), .val (.int (1 : Int32)), .val (.int y1)]) rfl (XS.iload X1.here hx rfl (hb hby dc11_15) rfl (XS.sipush X1.here hx rfl (hb hby dc11_17) hr))))))))))))) ?_
  show oG p e below _ (T1.setTop (mkF m 20 #[.val (.ref o0), .val (.int (1 : Int32)), .val (.ref o1), .val (.int (1 : Int32)), .val (.int (2 : Int32)), .val (.int (1 : Int32)), .val (.int y1)] [(.int (255 : Int32)), (.int y1)]))
  refine og (fun _ hr => XS.icmpYes X1.here hx rfl (pc0 := 20) (pc' := 26) rfl (hb hby dc11_20) rfl (flt hb2).2.2.2 (by decide) (by decide) hr) ?_
  show oG p e below _ (T1.setTop (mkF m 26 #[.val (.ref o0), .val (.int (1 : Int32)), .val (.ref o1), .val (.int (1 : Int32)), .val (.int (2 : Int32)), .val (.int (1 : Int32)), .val (.int y1)] []))
  refine og (fun _ hr => XS.aloadN X1.here hx rfl (hb hby dc11_26) rfl rfl (XS.iloadN X1.here hx rfl (hb hby dc11_27) rfl (XS.iload X1.here hx rfl (hb hby dc11_28) rfl (XS.i2b X1.here hx rfl (hb hby dc11_30) rfl hr)))) ?_
  show oG p e below _ (T1.setTop (mkF m 31 #[.val (.ref o0), .val (.int (1 : Int32)), .val (.ref o1), .val (.int (1 : Int32)), .val (.int (2 : Int32)), .val (.int (1 : Int32)), .val (.int y1)] [(.int (y1.toInt8.toInt32)), (.int (1 : Int32)), (.ref o1)]))
  refine own_stB X1 hx hZ e1 f1 (1 : Int32) (y1.toInt8.toInt32) (y1.toInt8.toInt32) 1 ⟨by decide, by decide⟩ rfl (Nat.le_of_ble_eq_true rfl) hb3 [(.int (y0.toInt8.toInt32)), (.int (y1.toInt8.toInt32))] rfl N1 ge0p (hb hby dc11_31) ?_
  intro T3 h3 L3 X3 e3 W3 N3 f3
  show oG p e below _ (T3.setTop (mkF m 32 #[.val (.ref o0), .val (.int (1 : Int32)), .val (.ref o1), .val (.int (1 : Int32)), .val (.int (2 : Int32)), .val (.int (1 : Int32)), .val (.int y1)] []))
  refine og (fun _ hr => XS.iinc X3.here hx rfl (hb hby dc11_32) rfl (l' := #[.val (.ref o0), .val (.int (2 : Int32)), .val (.ref o1), .val (.int (1 : Int32)), .val (.int (2 : Int32)), .val (.int (1 : Int32)), .val (.int y1)]) rfl (XS.iinc X3.here hx rfl (hb hby dc11_35) rfl (l' := #[.val (.ref o0), .val (.int (2 : Int32)), .val (.ref o1), .val (.int (2 : Int32)), .val (.int (2 : Int32)), .val (.int (1 : Int32)), .val (.int y1)]) rfl (XS.iinc X3.here hx rfl (hb hby dc11_38) rfl (l' := #[.val (.ref o0), .val (.int (2 : Int32)), .val (.ref o1), .val (.int (2 : Int32)), .val (.int (2 : Int32)), .val (.int (2 : Int32)), .val (.int y1)]) rfl (XS.goto X3.here hx rfl (pc0 := 41) (pc' := 3) rfl (hb hby dc11_41) (by decide) (by decide) (XS.iload X3.here hx rfl (hb hby dc11_3) rfl (XS.iload X3.here hx rfl (hb hby dc11_5) rfl (XS.icmpYes X3.here hx rfl (pc0 := 7) (pc' := 44) rfl (hb hby dc11_7) rfl (flt (by decide)).2.1 (by decide) (by decide) (XS.iload X3.here hx rfl (hb hby dc11_44) rfl hr)))))))) ?_
  show oG p e below _ (T3.setTop (mkF m 46 #[.val (.ref o0), .val (.int (2 : Int32)), .val (.ref o1), .val (.int (2 : Int32)), .val (.int (2 : Int32)), .val (.int (2 : Int32)), .val (.int y1)] [(.int (2 : Int32))]))
  have K4 := ((K0.wr W1 (Or.inl (List.mem_of_getElem? (i := 0) rfl))).wr W3 (Or.inl (List.mem_of_getElem? (i := 0) rfl)))
  exact own_retI X3 hx hlk Bd.returns (hb hby dc11_46) (by decide) (by decide) (by rw [e3]; exact ⟨rfl, N3, K4, f3⟩)
theorem own_pd6 : parseMethodDescriptor "([CI[BII)I" = some ⟨[(.array .char), .int, (.array .byte), .int, .int], some .int⟩ := by decide +kernel
theorem dc10_12 : decode jdk_52_method_16_code 12 = .ok (.istore 4, 2) := by decide +kernel
theorem dc10_14 : decode jdk_52_method_16_code 14 = .ok (.iload 4, 2) := by decide +kernel
theorem dc10_16 : decode jdk_52_method_16_code 16 = .ok (.iload_n 2, 1) := by decide +kernel
theorem dc10_17 : decode jdk_52_method_16_code 17 = .ok (.if_icmp .eq 40, 3) := by decide +kernel
theorem dc10_57 : decode jdk_52_method_16_code 57 = .ok (.aload_n 3, 1) := by decide +kernel
theorem dc10_58 : decode jdk_52_method_16_code 58 = .ok (.areturn, 1) := by decide +kernel
def Q_compress_7 (Z : State) (y0 : Int32) (y1 : Int32) (h0 : Heap) (n0 : Nat) (v : Option Value) (h : Heap) (L : List Loc) : Prop := (∃ (b1 : Addr) (k1 : ClassId), v = some (.ref b1) ∧ Fr n0 L ∧ Keep h0 h [] ∧ n0 ≤ b1 ∧ h0.size ≤ b1 ∧ Exa Z h b1 "[B" ∧ Arv Z h b1 k1 .byte (2 : Int32) [(.int (y0.toInt8.toInt32)), (.int (y1.toInt8.toInt32))] (.int (0 : Int32)))
set_option maxRecDepth 65536 in
set_option maxHeartbeats 40000000 in
theorem rm_compress_7 (l : Launch) (Z : State) (a0 : Array Value) (hw : ∀ d ∈ tables_1, d.before a0 Z = true) (ws : List Jvm.Cond) (o0 : Addr) (y0 : Int32) (y1 : Int32) (kc0 : ClassId) (h0 : Heap) (n0 : Nat) (Z0 : n0 ≤ h0.size) (P0 : Exa Z h0 o0 "[C") (P1 : Arv Z h0 o0 kc0 .char (2 : Int32) [(.int y0), (.int y1)] (.int (0 : Int32))) (hb0 : ¬ ((255 : Int32) < y0)) (hb1 : (nar .byte (y0.toInt8.toInt32)) = (y0.toInt8.toInt32)) (hb2 : ¬ ((255 : Int32) < y1)) (hb3 : (nar .byte (y1.toInt8.toInt32)) = (y1.toInt8.toInt32)) :
    MetFree l (⟨"java/lang/StringUTF16", "compress", "([CII)[B"⟩ : MethodName) (head1 (Jvm.Cond.code (⟨"java/lang/StringUTF16", "compress", "([CII)[B"⟩ : MethodName) jdk_52_method_16_code 6 (some (.array .byte)) :: ws) ({ frames := 1, cells := 1, slots := 2, locals := 18 } : Room)) (fun aA U => aA = #[(.ref o0), (.int (0 : Int32)), (.int (2 : Int32))] ∧ Z.Warmed39 U.vm ∧ U.heap = h0) (fun _ _ _ _ _ => True) (fun _ U o U' => ∃ v L, o = .returned v ∧ Q_compress_7 Z y0 y1 h0 n0 v U'.heap L ∧ FrameEnd U o U' L ({ frames := 1, cells := 1, slots := 2, locals := 18 } : Room).cells ({ frames := 1, cells := 1, slots := 2, locals := 18 } : Room).slots) := by
  refine MetFree.of_bodySF (plainFor_of_name own_pn_java_lang_StringUTF16) hisR ?_
  intro p e s m args below meth c s₁ Bd hml0 hP hK
  obtain ⟨rfl, hZ, hh⟩ := hP
  have hx := Bd.exec
  have hby := Bd.bytes
  have hlk : meth.locks = false := BodyLoose.notSynchronized Bd
  have hml : c.maxLocals = 6 := hml0
  have hown : s.vm.findClass "java/lang/StringUTF16" = some m.cls := findClass_of_methodNamed Bd.named
  have hnm := (name_of_methodNamed Bd.named Bd.method).1
  have X0 : Stand p l e ({ frames := 1, cells := 1, slots := 2, locals := 18 } : Room) s m #[(.ref o0), (.int (0 : Int32)), (.int (2 : Int32))] below meth c s₁ [] 0 0 := Stand.of_body Bd
  have e0 : s₁.heap = h0 := by rw [← hh, Bd.state]; rfl
  have N0 := Fr.nil n0
  have K0 : Keep h0 h0 [] := Keep.refl _ _
  show oG p e below (own_K s (Q_compress_7 Z y0 y1 h0 n0) ({ frames := 1, cells := 1, slots := 2, locals := 18 } : Room).cells ({ frames := 1, cells := 1, slots := 2, locals := 18 } : Room).slots) (s₁.setTop (entryFrame m #[(.ref o0), (.int (0 : Int32)), (.int (2 : Int32))] 6))
  rw [(by first | (simp [entryFrame, mkF, argsToLocals, Value.category]; done) | rfl : entryFrame m #[(.ref o0), (.int (0 : Int32)), (.int (2 : Int32))] 6 = mkF m 0 #[.val (.ref o0), .val (.int (0 : Int32)), .val (.int (2 : Int32)), .unset, .unset, .unset] [])]
  show oG p e below _ (s₁.setTop (mkF m 0 #[.val (.ref o0), .val (.int (0 : Int32)), .val (.int (2 : Int32)), .unset, .unset, .unset] []))
  refine og (fun _ hr => XS.iloadN X0.here hx rfl (hb hby dc10_0) rfl hr) ?_
  show oG p e below _ (s₁.setTop (mkF m 1 #[.val (.ref o0), .val (.int (0 : Int32)), .val (.int (2 : Int32)), .unset, .unset, .unset] [(.int (2 : Int32))]))
  obtain ⟨T1, h1, k1, X1, e1, E1, A1, EA1, st1⟩ := newPE X0 hx hZ (hw _ (own_m 9 rfl)) e0 (g := (mkF m 1 #[.val (.ref o0), .val (.int (0 : Int32)), .val (.int (2 : Int32)), .unset, .unset, .unset] [(.int (2 : Int32))])) rfl (hb hby dc10_1) rfl (by decide) (cap := 2) (by decide) (by decide) (by decide) (by decide) (ad := "[B") (by decide)
  obtain ⟨b1, g1⟩ : ∃ z, z = h0.size := ⟨_, rfl⟩
  rw [← g1] at A1 EA1 st1
  have ge2 : n0 ≤ b1 := Nat.le_trans Z0 (Nat.le_of_eq g1.symm)
  have sz3 : h0.size ≤ b1 := Nat.le_trans K0.1 (Nat.le_of_eq g1.symm)
  refine og st1 ?_
  have f4 : Arv Z h1 b1 k1 .byte (2 : Int32) [(.int (0 : Int32)), (.int (0 : Int32))] (.int (0 : Int32)) := (Arv.new A1 (by decide)).pad (pad_rep [] (.int (0 : Int32)) 2)
  show oG p e below _ (T1.setTop (mkF m 3 #[.val (.ref o0), .val (.int (0 : Int32)), .val (.int (2 : Int32)), .unset, .unset, .unset] [(.ref b1)]))
  refine og (fun _ hr => XS.astoreN X1.here hx rfl (hb hby dc10_3) rfl rfl (l' := #[.val (.ref o0), .val (.int (0 : Int32)), .val (.int (2 : Int32)), .val (.ref b1), .unset, .unset]) rfl (XS.aloadN X1.here hx rfl (hb hby dc10_4) rfl rfl (XS.iloadN X1.here hx rfl (hb hby dc10_5) rfl (XS.aloadN X1.here hx rfl (hb hby dc10_6) rfl rfl (XS.iconst X1.here hx rfl (hb hby dc10_7) (XS.iloadN X1.here hx rfl (hb hby dc10_8) rfl hr)))))) ?_
  show oG p e below _ (T1.setTop (mkF m 9 #[.val (.ref o0), .val (.int (0 : Int32)), .val (.int (2 : Int32)), .val (.ref b1), .unset, .unset] [(.int (2 : Int32)), (.int (0 : Int32)), (.ref b1), (.int (0 : Int32)), (.ref o0)]))
  have f6 := (P1.ext E1)
  have Z7 := (Nat.le_trans Z0 E1.1)
  refine own_cs X1 hx hZ hown (hw _ (own_m 64 rfl)) (hw _ (own_m 65 rfl)) (hw _ (own_m 62 rfl)) (hw _ (own_m 66 rfl)) (by decide) (rm := { frames := 0, cells := 0, slots := 0, locals := 0 }) (rm_compress_6 l Z a0 hw [] o0 b1 y0 y1 kc0 k1 h1 n0 Z7 f6 f4 (Nat.ne_of_lt (Nat.lt_of_lt_of_le P0.lt (Nat.le_of_eq g1.symm))) ge2 hb0 hb1 hb2 hb3) (by decide) (W := 0) (by decide) (by decide) (by decide) e1 (by rw [hml]; rfl) (argsL := [(.ref o0), (.int (0 : Int32)), (.ref b1), (.int (0 : Int32)), (.int (2 : Int32))]) (lenOf own_pd6 rfl) (rest := []) rfl rfl (Nat.le_of_eq rfl) (hb hby dc10_9) ?_
  intro _ T5 L5 X5 hQ5
  obtain ⟨rfl, N5q, K5, f5_0⟩ := hQ5
  have N5 := Fr.app N0 N5q
  show oG p e below _ (T5.setTop (mkF m 12 #[.val (.ref o0), .val (.int (0 : Int32)), .val (.int (2 : Int32)), .val (.ref b1), .unset, .unset] [(.int (2 : Int32))]))
  refine og (fun _ hr => XS.istore X5.here hx rfl (hb hby dc10_12) rfl (l' := #[.val (.ref o0), .val (.int (0 : Int32)), .val (.int (2 : Int32)), .val (.ref b1), .val (.int (2 : Int32)), .unset]) rfl (XS.iload X5.here hx rfl (hb hby dc10_14) rfl (XS.iloadN X5.here hx rfl (hb hby dc10_16) rfl (XS.icmpYes X5.here hx rfl (pc0 := 17) (pc' := 57) rfl (hb hby dc10_17) rfl (teq (by decide)).1 (by decide) (by decide) (XS.aloadN X5.here hx rfl (hb hby dc10_57) rfl rfl hr))))) ?_
  show oG p e below _ (T5.setTop (mkF m 58 #[.val (.ref o0), .val (.int (0 : Int32)), .val (.int (2 : Int32)), .val (.ref b1), .val (.int (2 : Int32)), .unset] [(.ref b1)]))
  have f8 := (EA1.keep K5)
  have K9 := ((K0.ext E1).trans K5 (allS (Or.inr sz3) all0))
  exact own_retR X5 hx hlk Bd.returns rfl rfl (hb hby dc10_58) (by decide) (by decide) (by exact ⟨b1, k1, rfl, N5, K9, ge2, sz3, f8, f5_0⟩)
theorem own_pd7 : parseMethodDescriptor "([CII)[B" = some ⟨[(.array .char), .int, .int], some (.array .byte)⟩ := by decide +kernel
theorem dc4_39 : decode jdk_42_method_149_code 39 = .ok (.astore 5, 2) := by decide +kernel
theorem dc4_41 : decode jdk_42_method_149_code 41 = .ok (.aload_n 0, 1) := by decide +kernel
theorem dc4_42 : decode jdk_42_method_149_code 42 = .ok (.aload 5, 2) := by decide +kernel
theorem dc4_44 : decode jdk_42_method_149_code 44 = .ok (.iload_n 3, 1) := by decide +kernel
theorem dc4_45 : decode jdk_42_method_149_code 45 = .ok (.invokestatic 47, 3) := by decide +kernel
theorem dc12_0 : decode jdk_52_method_15_code 0 = .ok (.iload_n 1, 1) := by decide +kernel
theorem dc12_1 : decode jdk_52_method_15_code 1 = .ok (.aload_n 0, 1) := by decide +kernel
theorem dc12_2 : decode jdk_52_method_15_code 2 = .ok (.arraylength, 1) := by decide +kernel
theorem dc12_3 : decode jdk_52_method_15_code 3 = .ok (.isub, 1) := by decide +kernel
theorem dc12_4 : decode jdk_52_method_15_code 4 = .ok (.bipush 31, 2) := by decide +kernel
theorem dc12_6 : decode jdk_52_method_15_code 6 = .ok (.iushr, 1) := by decide +kernel
theorem dc12_7 : decode jdk_52_method_15_code 7 = .ok (.i2b, 1) := by decide +kernel
theorem dc12_8 : decode jdk_52_method_15_code 8 = .ok (.ireturn, 1) := by decide +kernel
def Q_coderFromArrayLen_8 (Z : State) (h0 : Heap) (n0 : Nat) (v : Option Value) (h : Heap) (L : List Loc) : Prop := v = some (.int (0 : Int32)) ∧ Fr n0 L ∧ h = h0
set_option maxRecDepth 65536 in
set_option maxHeartbeats 40000000 in
theorem rm_coderFromArrayLen_8 (l : Launch) (Z : State) (a0 : Array Value) (hw : ∀ d ∈ tables_1, d.before a0 Z = true) (ws : List Jvm.Cond) (o0 : Addr) (y0 : Int32) (y1 : Int32) (kc0 : ClassId) (h0 : Heap) (n0 : Nat) (Z0 : n0 ≤ h0.size) (P0 : Arv Z h0 o0 kc0 .byte (2 : Int32) [(.int y0), (.int y1)] (.int (0 : Int32))) :
    MetFree l (⟨"java/lang/StringUTF16", "coderFromArrayLen", "([BI)B"⟩ : MethodName) (head1 (Jvm.Cond.code (⟨"java/lang/StringUTF16", "coderFromArrayLen", "([BI)B"⟩ : MethodName) jdk_52_method_15_code 2 (some .byte) :: ws) ({ frames := 0, cells := 0, slots := 0, locals := 0 } : Room)) (fun aA U => aA = #[(.ref o0), (.int (2 : Int32))] ∧ Z.Warmed39 U.vm ∧ U.heap = h0) (fun _ _ _ _ _ => True) (fun _ U o U' => ∃ v L, o = .returned v ∧ Q_coderFromArrayLen_8 Z h0 n0 v U'.heap L ∧ FrameEnd U o U' L ({ frames := 0, cells := 0, slots := 0, locals := 0 } : Room).cells ({ frames := 0, cells := 0, slots := 0, locals := 0 } : Room).slots) := by
  refine MetFree.of_bodySF (plainFor_of_name own_pn_java_lang_StringUTF16) hisR ?_
  intro p e s m args below meth c s₁ Bd hml0 hP hK
  obtain ⟨rfl, hZ, hh⟩ := hP
  have hx := Bd.exec
  have hby := Bd.bytes
  have hlk : meth.locks = false := BodyLoose.notSynchronized Bd
  have hml : c.maxLocals = 2 := hml0
  have hown : s.vm.findClass "java/lang/StringUTF16" = some m.cls := findClass_of_methodNamed Bd.named
  have hnm := (name_of_methodNamed Bd.named Bd.method).1
  have X0 : Stand p l e ({ frames := 0, cells := 0, slots := 0, locals := 0 } : Room) s m #[(.ref o0), (.int (2 : Int32))] below meth c s₁ [] 0 0 := Stand.of_body Bd
  have e0 : s₁.heap = h0 := by rw [← hh, Bd.state]; rfl
  have N0 := Fr.nil n0
  show oG p e below (own_K s (Q_coderFromArrayLen_8 Z h0 n0) ({ frames := 0, cells := 0, slots := 0, locals := 0 } : Room).cells ({ frames := 0, cells := 0, slots := 0, locals := 0 } : Room).slots) (s₁.setTop (entryFrame m #[(.ref o0), (.int (2 : Int32))] 2))
  rw [(by first | (simp [entryFrame, mkF, argsToLocals, Value.category]; done) | rfl : entryFrame m #[(.ref o0), (.int (2 : Int32))] 2 = mkF m 0 #[.val (.ref o0), .val (.int (2 : Int32))] [])]
  show oG p e below _ (s₁.setTop (mkF m 0 #[.val (.ref o0), .val (.int (2 : Int32))] []))
  refine og (fun _ hr => XS.iloadN X0.here hx rfl (hb hby dc12_0) rfl (XS.aloadN X0.here hx rfl (hb hby dc12_1) rfl rfl (own_alen X0 hx hZ e0 P0 rfl rfl (hb hby dc12_2) (XS.isub X0.here hx rfl (hb hby dc12_3) rfl (XS.bipush X0.here hx rfl (hb hby dc12_4) (XS.iushr X0.here hx rfl (hb hby dc12_6) rfl (XS.i2b X0.here hx rfl (hb hby dc12_7) rfl hr))))))) ?_
  show oG p e below _ (s₁.setTop (mkF m 8 #[.val (.ref o0), .val (.int (2 : Int32))] [(.int (0 : Int32))]))
  exact own_retN X0 hx hlk Bd.returns (t := .byte) (by simp) (hb hby dc12_8) (by decide) (by decide) ⟨rfl, N0, e0⟩
theorem own_pd8 : parseMethodDescriptor "([BI)B" = some ⟨[(.array .byte), .int], some .byte⟩ := by decide +kernel
theorem dc4_48 : decode jdk_42_method_149_code 48 = .ok (.putfield 15, 3) := by decide +kernel
theorem dc4_51 : decode jdk_42_method_149_code 51 = .ok (.aload_n 0, 1) := by decide +kernel
theorem dc4_52 : decode jdk_42_method_149_code 52 = .ok (.aload 5, 2) := by decide +kernel
theorem dc4_54 : decode jdk_42_method_149_code 54 = .ok (.putfield 9, 3) := by decide +kernel
theorem dc4_57 : decode jdk_42_method_149_code 57 = .ok (.return_, 1) := by decide +kernel
def Q_init_9 (Z : State) (o0 : Addr) (y1 : Int32) (y2 : Int32) (h0 : Heap) (n0 : Nat) (v : Option Value) (h : Heap) (L : List Loc) : Prop := (∃ (b3_0 : Addr) (kb3_0 : ClassId), v = none ∧ Fr n0 L ∧ Keep h0 h [o0] ∧ n0 ≤ b3_0 ∧ h0.size ≤ b3_0 ∧ Fld Z h o0 "java/lang/String" "coder" "B" (.int (0 : Int32)) ∧ Fld Z h o0 "java/lang/String" "value" "[B" (.ref b3_0) ∧ Exa Z h b3_0 "[B" ∧ Arv Z h b3_0 kb3_0 .byte (2 : Int32) [(.int (y1.toInt8.toInt32)), (.int (y2.toInt8.toInt32))] (.int (0 : Int32)))
set_option maxRecDepth 65536 in
set_option maxHeartbeats 40000000 in
theorem rm_init_9 (l : Launch) (Z : State) (a0 : Array Value) (hw : ∀ d ∈ tables_1, d.before a0 Z = true) (ws : List Jvm.Cond) (o0 : Addr) (o1 : Addr) (y0 : Int32) (y1 : Int32) (y2 : Int32) (kc0 : ClassId) (h0 : Heap) (n0 : Nat) (Z0 : n0 ≤ h0.size) (P0 : Sta Z h0 "java/lang/String" "COMPACT_STRINGS" "Z" (.int y0)) (P1 : Exa Z h0 o1 "[C") (P2 : Arv Z h0 o1 kc0 .char (2 : Int32) [(.int y1), (.int y2)] (.int (0 : Int32))) (P3 : Exa Z h0 o0 "java/lang/String") (P4 : Fld Z h0 o0 "java/lang/String" "coder" "B" (.int (0 : Int32))) (P5 : Fld Z h0 o0 "java/lang/String" "value" "[B" .null) (ge0p : n0 ≤ o0) (hb0 : ¬ (y0 = (0 : Int32))) (hb1 : ¬ ((255 : Int32) < y1)) (hb2 : (nar .byte (y1.toInt8.toInt32)) = (y1.toInt8.toInt32)) (hb3 : ¬ ((255 : Int32) < y2)) (hb4 : (nar .byte (y2.toInt8.toInt32)) = (y2.toInt8.toInt32)) :
    MetFree l (⟨"java/lang/String", "<init>", "([CIILjava/lang/Void;)V"⟩ : MethodName) (head1 (Jvm.Cond.code (⟨"java/lang/String", "<init>", "([CIILjava/lang/Void;)V"⟩ : MethodName) jdk_42_method_149_code 6 none :: ws) ({ frames := 2, cells := 1, slots := 2, locals := 35 } : Room)) (fun aA U => aA = #[(.ref o0), (.ref o1), (.int (0 : Int32)), (.int (2 : Int32)), .null] ∧ Z.Warmed39 U.vm ∧ U.heap = h0) (fun _ _ _ _ _ => True) (fun _ U o U' => ∃ v L, o = .returned v ∧ Q_init_9 Z o0 y1 y2 h0 n0 v U'.heap L ∧ FrameEnd U o U' L ({ frames := 2, cells := 1, slots := 2, locals := 35 } : Room).cells ({ frames := 2, cells := 1, slots := 2, locals := 35 } : Room).slots) := by
  refine MetFree.of_bodySF (plainFor_of_name own_pn_java_lang_String) hisR ?_
  intro p e s m args below meth c s₁ Bd hml0 hP hK
  obtain ⟨rfl, hZ, hh⟩ := hP
  have hx := Bd.exec
  have hby := Bd.bytes
  have hlk : meth.locks = false := BodyLoose.notSynchronized Bd
  have hml : c.maxLocals = 6 := hml0
  have hown : s.vm.findClass "java/lang/String" = some m.cls := findClass_of_methodNamed Bd.named
  have hnm := (name_of_methodNamed Bd.named Bd.method).1
  have X0 : Stand p l e ({ frames := 2, cells := 1, slots := 2, locals := 35 } : Room) s m #[(.ref o0), (.ref o1), (.int (0 : Int32)), (.int (2 : Int32)), .null] below meth c s₁ [] 0 0 := Stand.of_body Bd
  have e0 : s₁.heap = h0 := by rw [← hh, Bd.state]; rfl
  have N0 := Fr.nil n0
  have K0 : Keep h0 h0 [o0] := Keep.refl _ _
  show oG p e below (own_K s (Q_init_9 Z o0 y1 y2 h0 n0) ({ frames := 2, cells := 1, slots := 2, locals := 35 } : Room).cells ({ frames := 2, cells := 1, slots := 2, locals := 35 } : Room).slots) (s₁.setTop (entryFrame m #[(.ref o0), (.ref o1), (.int (0 : Int32)), (.int (2 : Int32)), .null] 6))
  rw [(by first | (simp [entryFrame, mkF, argsToLocals, Value.category]; done) | rfl : entryFrame m #[(.ref o0), (.ref o1), (.int (0 : Int32)), (.int (2 : Int32)), .null] 6 = mkF m 0 #[.val (.ref o0), .val (.ref o1), .val (.int (0 : Int32)), .val (.int (2 : Int32)), .val .null, .unset] [])]
  show oG p e below _ (s₁.setTop (mkF m 0 #[.val (.ref o0), .val (.ref o1), .val (.int (0 : Int32)), .val (.int (2 : Int32)), .val .null, .unset] []))
  refine og (fun _ hr => XS.aloadN X0.here hx rfl (hb hby dc4_0) rfl rfl hr) ?_
  show oG p e below _ (s₁.setTop (mkF m 1 #[.val (.ref o0), .val (.ref o1), .val (.int (0 : Int32)), .val (.int (2 : Int32)), .val .null, .unset] [(.ref o0)]))
  obtain ⟨T1, X1, e1, st1⟩ := initO X0 hx hZ hown (hw _ (own_m 25 rfl)) (hw _ (own_m 26 rfl)) (hw _ (own_m 27 rfl)) e0 (g := (mkF m 1 #[.val (.ref o0), .val (.ref o1), .val (.int (0 : Int32)), .val (.int (2 : Int32)), .val .null, .unset] [(.ref o0)])) rfl (by rw [hml]; rfl) rfl (hb hby dc4_1) (by decide) (W := 0) (by show 2 * 0 + _ ≤ _; exact Nat.le_of_eq rfl) (by decide)
  refine og st1 ?_
  show oG p e below _ (T1.setTop (mkF m 4 #[.val (.ref o0), .val (.ref o1), .val (.int (0 : Int32)), .val (.int (2 : Int32)), .val .null, .unset] []))
  refine og (fun _ hr => XS.iloadN X1.here hx rfl (hb hby dc4_4) rfl (XS.ifYes X1.here hx rfl (pc0 := 5) (pc' := 27) rfl (hb hby dc4_5) rfl ((if0 _ _).trans (feq (by decide)).2) (by decide) (by decide) hr)) ?_
  show oG p e below _ (T1.setTop (mkF m 27 #[.val (.ref o0), .val (.ref o1), .val (.int (0 : Int32)), .val (.int (2 : Int32)), .val .null, .unset] []))
  obtain ⟨T2, X2, e2, st2⟩ := getS2 X1 hx hZ hown (host := "") (Or.inl (hw _ (own_m 59 rfl))) Via.refl e1 P0 (g := (mkF m 27 #[.val (.ref o0), .val (.ref o1), .val (.int (0 : Int32)), .val (.int (2 : Int32)), .val .null, .unset] [])) rfl (hb hby dc4_27)
  refine og st2 ?_
  show oG p e below _ (T2.setTop (mkF m 30 #[.val (.ref o0), .val (.ref o1), .val (.int (0 : Int32)), .val (.int (2 : Int32)), .val .null, .unset] [(.int y0)]))
  refine og (fun _ hr => XS.ifNo X2.here hx rfl (hb hby dc4_30) rfl ((if0 _ _).trans (feq hb0).1) hr) ?_
  show oG p e below _ (T2.setTop (mkF m 33 #[.val (.ref o0), .val (.ref o1), .val (.int (0 : Int32)), .val (.int (2 : Int32)), .val .null, .unset] []))
  refine og (fun _ hr => XS.aloadN X2.here hx rfl (hb hby dc4_33) rfl rfl (XS.iloadN X2.here hx rfl (hb hby dc4_34) rfl (XS.iloadN X2.here hx rfl (hb hby dc4_35) rfl hr))) ?_
  show oG p e below _ (T2.setTop (mkF m 36 #[.val (.ref o0), .val (.ref o1), .val (.int (0 : Int32)), .val (.int (2 : Int32)), .val .null, .unset] [(.int (2 : Int32)), (.int (0 : Int32)), (.ref o1)]))
  refine own_cs X2 hx hZ hown (hw _ (own_m 60 rfl)) (hw _ (own_m 61 rfl)) (hw _ (own_m 62 rfl)) (hw _ (own_m 63 rfl)) (by decide) (rm := { frames := 1, cells := 1, slots := 2, locals := 18 }) (rm_compress_7 l Z a0 hw [] o1 y1 y2 kc0 h0 n0 Z0 P1 P2 hb1 hb2 hb3 hb4) (by decide) (W := 0) (by decide) (by decide) (by decide) e2 (by rw [hml]; rfl) (argsL := [(.ref o1), (.int (0 : Int32)), (.int (2 : Int32))]) (lenOf own_pd7 rfl) (rest := []) rfl rfl (Nat.le_of_eq rfl) (hb hby dc4_36) ?_
  intro _ T3 L3 X3 hQ3
  obtain ⟨b3_0, kb3_0, rfl, N3q, K3, ge3_0, sz3_0, f3_0, f3_1⟩ := hQ3
  have N3 := Fr.app N0 N3q
  have sz4 : h0.size ≤ b3_0 := Nat.le_trans K0.1 sz3_0
  show oG p e below _ (T3.setTop (mkF m 39 #[.val (.ref o0), .val (.ref o1), .val (.int (0 : Int32)), .val (.int (2 : Int32)), .val .null, .unset] [(.ref b3_0)]))
  refine og (fun _ hr => XS.astore X3.here hx rfl (hb hby dc4_39) rfl rfl (l' := #[.val (.ref o0), .val (.ref o1), .val (.int (0 : Int32)), .val (.int (2 : Int32)), .val .null, .val (.ref b3_0)]) rfl (XS.aloadN X3.here hx rfl (hb hby dc4_41) rfl rfl (XS.aload X3.here hx rfl (hb hby dc4_42) rfl rfl (XS.iloadN X3.here hx rfl (hb hby dc4_44) rfl hr)))) ?_
  show oG p e below _ (T3.setTop (mkF m 45 #[.val (.ref o0), .val (.ref o1), .val (.int (0 : Int32)), .val (.int (2 : Int32)), .val .null, .val (.ref b3_0)] [(.int (2 : Int32)), (.ref b3_0), (.ref o0)]))
  have Z6 := (Nat.le_trans Z0 K3.1)
  refine own_cs X3 hx hZ hown (hw _ (own_m 67 rfl)) (hw _ (own_m 68 rfl)) (hw _ (own_m 62 rfl)) (hw _ (own_m 69 rfl)) (by decide) (rm := { frames := 0, cells := 0, slots := 0, locals := 0 }) (rm_coderFromArrayLen_8 l Z a0 hw [] b3_0 (y1.toInt8.toInt32) (y2.toInt8.toInt32) kb3_0 T3.heap n0 Z6 f3_1) (by decide) (W := 1) (by decide) (by decide) (by decide) rfl (by rw [hml]; rfl) (argsL := [(.ref b3_0), (.int (2 : Int32))]) (lenOf own_pd8 rfl) (rest := [(.ref o0)]) rfl rfl (Nat.le_of_eq rfl) (hb hby dc4_45) ?_
  intro _ T5 L5 X5 hQ5
  obtain ⟨rfl, N5q, e5⟩ := hQ5
  have N5 := Fr.app N3 N5q
  show oG p e below _ (T5.setTop (mkF m 48 #[.val (.ref o0), .val (.ref o1), .val (.int (0 : Int32)), .val (.int (2 : Int32)), .val .null, .val (.ref b3_0)] [(.int (0 : Int32)), (.ref o0)]))
  have f7 := (P3.keep K3)
  have f8 := (P4.keep K3 nin0)
  obtain ⟨T9, h9, X9, e9, W9, st9⟩ := putFN X5 hx hZ hown (hw _ (own_m 30 rfl)) Via.refl e5 f8 f7 (Or.inr ⟨(hw _ (own_m 11 rfl)), rfl, hnm⟩) (hw _ (own_m 8 rfl)) (ty := .byte) (v' := .int (0 : Int32)) (by decide) rfl (by decide) (g := (mkF m 48 #[.val (.ref o0), .val (.ref o1), .val (.int (0 : Int32)), .val (.int (2 : Int32)), .val .null, .val (.ref b3_0)] [(.int (0 : Int32)), (.ref o0)])) rfl rfl (hb hby dc4_48)
  refine og st9 ?_
  have f10 := f8.same W9
  have N11 := Fr.snoc X9 N5 ge0p
  show oG p e below _ (T9.setTop (mkF m 51 #[.val (.ref o0), .val (.ref o1), .val (.int (0 : Int32)), .val (.int (2 : Int32)), .val .null, .val (.ref b3_0)] []))
  refine og (fun _ hr => XS.aloadN X9.here hx rfl (hb hby dc4_51) rfl rfl (XS.aload X9.here hx rfl (hb hby dc4_52) rfl rfl hr)) ?_
  show oG p e below _ (T9.setTop (mkF m 54 #[.val (.ref o0), .val (.ref o1), .val (.int (0 : Int32)), .val (.int (2 : Int32)), .val .null, .val (.ref b3_0)] [(.ref b3_0), (.ref o0)]))
  have f12 := (f7.wr W9)
  have f13 := ((P5.keep K3 nin0).other W9 (Or.inr (slot_ne (Or.inr (hw _ (own_m 10 rfl))) (Or.inr (hw _ (own_m 11 rfl))) (by decide) (t := (.array .byte)) (t' := .byte) (by decide) (by decide))))
  obtain ⟨T14, h14, X14, e14, W14, st14⟩ := putF X9 hx hZ hown (host := "") (Or.inl (hw _ (own_m 29 rfl))) Via.refl e9 f13 f12 (Or.inr ⟨(hw _ (own_m 10 rfl)), rfl, hnm⟩) (hw _ (own_m 8 rfl)) (ty := (.array .byte)) (by decide) rfl rfl (g := (mkF m 54 #[.val (.ref o0), .val (.ref o1), .val (.int (0 : Int32)), .val (.int (2 : Int32)), .val .null, .val (.ref b3_0)] [(.ref b3_0), (.ref o0)])) rfl rfl (hb hby dc4_54)
  refine og st14 ?_
  have f15 := f13.same W14
  have N16 := Fr.snoc X14 N11 ge0p
  show oG p e below _ (T14.setTop (mkF m 57 #[.val (.ref o0), .val (.ref o1), .val (.int (0 : Int32)), .val (.int (2 : Int32)), .val .null, .val (.ref b3_0)] []))
  have f17 := (f10.other W14 (Or.inr (slot_ne (Or.inr (hw _ (own_m 11 rfl))) (Or.inr (hw _ (own_m 10 rfl))) (by decide) (t := .byte) (t' := (.array .byte)) (by decide) (by decide))))
  have f18 := ((f3_0.wr W9).wr W14)
  have f19 := ((f3_1.other W9 (Ne.symm (Nat.ne_of_lt (Nat.lt_of_lt_of_le P3.lt sz3_0)))).other W14 (Ne.symm (Nat.ne_of_lt (Nat.lt_of_lt_of_le P3.lt sz3_0))))
  have K20 := (((K0.trans K3 all0).wr W9 (Or.inl (List.mem_of_getElem? (i := 0) rfl))).wr W14 (Or.inl (List.mem_of_getElem? (i := 0) rfl)))
  exact own_ret0 X14 hx hlk Bd.returns (hb hby dc4_57) (by decide) (by decide) (by rw [e14]; exact ⟨b3_0, kb3_0, rfl, N16, K20, ge3_0, sz4, f17, f15, f18, f19⟩)
def Q_compress_11 (Z : State) (y0 : Int32) (y1 : Int32) (h0 : Heap) (n0 : Nat) (v : Option Value) (h : Heap) (L : List Loc) : Prop := (∃ (b1 : Addr) (k1 : ClassId), v = some (.ref b1) ∧ Fr n0 L ∧ Keep h0 h [] ∧ n0 ≤ b1 ∧ h0.size ≤ b1 ∧ Exa Z h b1 "[B" ∧ Arv Z h b1 k1 .byte (2 : Int32) [(.int (y0.toInt8.toInt32)), (.int (y1.toInt8.toInt32))] (.int (0 : Int32)))
set_option maxRecDepth 65536 in
set_option maxHeartbeats 40000000 in
theorem rm_compress_11 (l : Launch) (Z : State) (a0 : Array Value) (hw : ∀ d ∈ tables_1, d.before a0 Z = true) (ws : List Jvm.Cond) (o0 : Addr) (y0 : Int32) (y1 : Int32) (kc0 : ClassId) (h0 : Heap) (n0 : Nat) (Z0 : n0 ≤ h0.size) (P0 : Arv Z h0 o0 kc0 .char (2 : Int32) [(.int y0), (.int y1)] (.int (0 : Int32))) (hb0 : ¬ ((255 : Int32) < y0)) (hb1 : (nar .byte (y0.toInt8.toInt32)) = (y0.toInt8.toInt32)) (hb2 : ¬ ((255 : Int32) < y1)) (hb3 : (nar .byte (y1.toInt8.toInt32)) = (y1.toInt8.toInt32)) :
    MetFree l (⟨"java/lang/StringUTF16", "compress", "([CII)[B"⟩ : MethodName) (head1 (Jvm.Cond.code (⟨"java/lang/StringUTF16", "compress", "([CII)[B"⟩ : MethodName) jdk_52_method_16_code 6 (some (.array .byte)) :: ws) ({ frames := 1, cells := 1, slots := 2, locals := 18 } : Room)) (fun aA U => aA = #[(.ref o0), (.int (0 : Int32)), (.int (2 : Int32))] ∧ Z.Warmed39 U.vm ∧ U.heap = h0) (fun _ _ _ _ _ => True) (fun _ U o U' => ∃ v L, o = .returned v ∧ Q_compress_11 Z y0 y1 h0 n0 v U'.heap L ∧ FrameEnd U o U' L ({ frames := 1, cells := 1, slots := 2, locals := 18 } : Room).cells ({ frames := 1, cells := 1, slots := 2, locals := 18 } : Room).slots) := by
  refine MetFree.of_bodySF (plainFor_of_name own_pn_java_lang_StringUTF16) hisR ?_
  intro p e s m args below meth c s₁ Bd hml0 hP hK
  obtain ⟨rfl, hZ, hh⟩ := hP
  have hx := Bd.exec
  have hby := Bd.bytes
  have hlk : meth.locks = false := BodyLoose.notSynchronized Bd
  have hml : c.maxLocals = 6 := hml0
  have hown : s.vm.findClass "java/lang/StringUTF16" = some m.cls := findClass_of_methodNamed Bd.named
  have hnm := (name_of_methodNamed Bd.named Bd.method).1
  have X0 : Stand p l e ({ frames := 1, cells := 1, slots := 2, locals := 18 } : Room) s m #[(.ref o0), (.int (0 : Int32)), (.int (2 : Int32))] below meth c s₁ [] 0 0 := Stand.of_body Bd
  have e0 : s₁.heap = h0 := by rw [← hh, Bd.state]; rfl
  have N0 := Fr.nil n0
  have K0 : Keep h0 h0 [] := Keep.refl _ _
  show oG p e below (own_K s (Q_compress_11 Z y0 y1 h0 n0) ({ frames := 1, cells := 1, slots := 2, locals := 18 } : Room).cells ({ frames := 1, cells := 1, slots := 2, locals := 18 } : Room).slots) (s₁.setTop (entryFrame m #[(.ref o0), (.int (0 : Int32)), (.int (2 : Int32))] 6))
  rw [(by first | (simp [entryFrame, mkF, argsToLocals, Value.category]; done) | rfl : entryFrame m #[(.ref o0), (.int (0 : Int32)), (.int (2 : Int32))] 6 = mkF m 0 #[.val (.ref o0), .val (.int (0 : Int32)), .val (.int (2 : Int32)), .unset, .unset, .unset] [])]
  show oG p e below _ (s₁.setTop (mkF m 0 #[.val (.ref o0), .val (.int (0 : Int32)), .val (.int (2 : Int32)), .unset, .unset, .unset] []))
  refine og (fun _ hr => XS.iloadN X0.here hx rfl (hb hby dc10_0) rfl hr) ?_
  show oG p e below _ (s₁.setTop (mkF m 1 #[.val (.ref o0), .val (.int (0 : Int32)), .val (.int (2 : Int32)), .unset, .unset, .unset] [(.int (2 : Int32))]))
  obtain ⟨T1, h1, k1, X1, e1, E1, A1, EA1, st1⟩ := newPE X0 hx hZ (hw _ (own_m 9 rfl)) e0 (g := (mkF m 1 #[.val (.ref o0), .val (.int (0 : Int32)), .val (.int (2 : Int32)), .unset, .unset, .unset] [(.int (2 : Int32))])) rfl (hb hby dc10_1) rfl (by decide) (cap := 2) (by decide) (by decide) (by decide) (by decide) (ad := "[B") (by decide)
  obtain ⟨b1, g1⟩ : ∃ z, z = h0.size := ⟨_, rfl⟩
  rw [← g1] at A1 EA1 st1
  have ge2 : n0 ≤ b1 := Nat.le_trans Z0 (Nat.le_of_eq g1.symm)
  have sz3 : h0.size ≤ b1 := Nat.le_trans K0.1 (Nat.le_of_eq g1.symm)
  refine og st1 ?_
  have f4 : Arv Z h1 b1 k1 .byte (2 : Int32) [(.int (0 : Int32)), (.int (0 : Int32))] (.int (0 : Int32)) := (Arv.new A1 (by decide)).pad (pad_rep [] (.int (0 : Int32)) 2)
  show oG p e below _ (T1.setTop (mkF m 3 #[.val (.ref o0), .val (.int (0 : Int32)), .val (.int (2 : Int32)), .unset, .unset, .unset] [(.ref b1)]))
  refine og (fun _ hr => XS.astoreN X1.here hx rfl (hb hby dc10_3) rfl rfl (l' := #[.val (.ref o0), .val (.int (0 : Int32)), .val (.int (2 : Int32)), .val (.ref b1), .unset, .unset]) rfl (XS.aloadN X1.here hx rfl (hb hby dc10_4) rfl rfl (XS.iloadN X1.here hx rfl (hb hby dc10_5) rfl (XS.aloadN X1.here hx rfl (hb hby dc10_6) rfl rfl (XS.iconst X1.here hx rfl (hb hby dc10_7) (XS.iloadN X1.here hx rfl (hb hby dc10_8) rfl hr)))))) ?_
  show oG p e below _ (T1.setTop (mkF m 9 #[.val (.ref o0), .val (.int (0 : Int32)), .val (.int (2 : Int32)), .val (.ref b1), .unset, .unset] [(.int (2 : Int32)), (.int (0 : Int32)), (.ref b1), (.int (0 : Int32)), (.ref o0)]))
  have f6 := (P0.ext E1)
  have Z7 := (Nat.le_trans Z0 E1.1)
  refine own_cs X1 hx hZ hown (hw _ (own_m 64 rfl)) (hw _ (own_m 65 rfl)) (hw _ (own_m 62 rfl)) (hw _ (own_m 66 rfl)) (by decide) (rm := { frames := 0, cells := 0, slots := 0, locals := 0 }) (rm_compress_6 l Z a0 hw [] o0 b1 y0 y1 kc0 k1 h1 n0 Z7 f6 f4 (Nat.ne_of_lt (Nat.lt_of_lt_of_le P0.lt (Nat.le_of_eq g1.symm))) ge2 hb0 hb1 hb2 hb3) (by decide) (W := 0) (by decide) (by decide) (by decide) e1 (by rw [hml]; rfl) (argsL := [(.ref o0), (.int (0 : Int32)), (.ref b1), (.int (0 : Int32)), (.int (2 : Int32))]) (lenOf own_pd6 rfl) (rest := []) rfl rfl (Nat.le_of_eq rfl) (hb hby dc10_9) ?_
  intro _ T5 L5 X5 hQ5
  obtain ⟨rfl, N5q, K5, f5_0⟩ := hQ5
  have N5 := Fr.app N0 N5q
  show oG p e below _ (T5.setTop (mkF m 12 #[.val (.ref o0), .val (.int (0 : Int32)), .val (.int (2 : Int32)), .val (.ref b1), .unset, .unset] [(.int (2 : Int32))]))
  refine og (fun _ hr => XS.istore X5.here hx rfl (hb hby dc10_12) rfl (l' := #[.val (.ref o0), .val (.int (0 : Int32)), .val (.int (2 : Int32)), .val (.ref b1), .val (.int (2 : Int32)), .unset]) rfl (XS.iload X5.here hx rfl (hb hby dc10_14) rfl (XS.iloadN X5.here hx rfl (hb hby dc10_16) rfl (XS.icmpYes X5.here hx rfl (pc0 := 17) (pc' := 57) rfl (hb hby dc10_17) rfl (teq (by decide)).1 (by decide) (by decide) (XS.aloadN X5.here hx rfl (hb hby dc10_57) rfl rfl hr))))) ?_
  show oG p e below _ (T5.setTop (mkF m 58 #[.val (.ref o0), .val (.int (0 : Int32)), .val (.int (2 : Int32)), .val (.ref b1), .val (.int (2 : Int32)), .unset] [(.ref b1)]))
  have f8 := (EA1.keep K5)
  have K9 := ((K0.ext E1).trans K5 (allS (Or.inr sz3) all0))
  exact own_retR X5 hx hlk Bd.returns rfl rfl (hb hby dc10_58) (by decide) (by decide) (by exact ⟨b1, k1, rfl, N5, K9, ge2, sz3, f8, f5_0⟩)
def Q_init_12 (Z : State) (o0 : Addr) (y1 : Int32) (y2 : Int32) (h0 : Heap) (n0 : Nat) (v : Option Value) (h : Heap) (L : List Loc) : Prop := (∃ (b3_0 : Addr) (kb3_0 : ClassId), v = none ∧ Fr n0 L ∧ Keep h0 h [o0] ∧ n0 ≤ b3_0 ∧ h0.size ≤ b3_0 ∧ Fld Z h o0 "java/lang/String" "coder" "B" (.int (0 : Int32)) ∧ Fld Z h o0 "java/lang/String" "value" "[B" (.ref b3_0) ∧ Exa Z h b3_0 "[B" ∧ Arv Z h b3_0 kb3_0 .byte (2 : Int32) [(.int (y1.toInt8.toInt32)), (.int (y2.toInt8.toInt32))] (.int (0 : Int32)))
set_option maxRecDepth 65536 in
set_option maxHeartbeats 40000000 in
theorem rm_init_12 (l : Launch) (Z : State) (a0 : Array Value) (hw : ∀ d ∈ tables_1, d.before a0 Z = true) (ws : List Jvm.Cond) (o0 : Addr) (o1 : Addr) (y0 : Int32) (y1 : Int32) (y2 : Int32) (kc0 : ClassId) (h0 : Heap) (n0 : Nat) (Z0 : n0 ≤ h0.size) (P0 : Sta Z h0 "java/lang/String" "COMPACT_STRINGS" "Z" (.int y0)) (P1 : Arv Z h0 o1 kc0 .char (2 : Int32) [(.int y1), (.int y2)] (.int (0 : Int32))) (P2 : Exa Z h0 o0 "java/lang/String") (P3 : Fld Z h0 o0 "java/lang/String" "coder" "B" (.int (0 : Int32))) (P4 : Fld Z h0 o0 "java/lang/String" "value" "[B" .null) (ge0p : n0 ≤ o0) (hb0 : ¬ (y0 = (0 : Int32))) (hb1 : ¬ ((255 : Int32) < y1)) (hb2 : (nar .byte (y1.toInt8.toInt32)) = (y1.toInt8.toInt32)) (hb3 : ¬ ((255 : Int32) < y2)) (hb4 : (nar .byte (y2.toInt8.toInt32)) = (y2.toInt8.toInt32)) :
    MetFree l (⟨"java/lang/String", "<init>", "([CIILjava/lang/Void;)V"⟩ : MethodName) (head1 (Jvm.Cond.code (⟨"java/lang/String", "<init>", "([CIILjava/lang/Void;)V"⟩ : MethodName) jdk_42_method_149_code 6 none :: ws) ({ frames := 2, cells := 1, slots := 2, locals := 35 } : Room)) (fun aA U => aA = #[(.ref o0), (.ref o1), (.int (0 : Int32)), (.int (2 : Int32)), .null] ∧ Z.Warmed39 U.vm ∧ U.heap = h0) (fun _ _ _ _ _ => True) (fun _ U o U' => ∃ v L, o = .returned v ∧ Q_init_12 Z o0 y1 y2 h0 n0 v U'.heap L ∧ FrameEnd U o U' L ({ frames := 2, cells := 1, slots := 2, locals := 35 } : Room).cells ({ frames := 2, cells := 1, slots := 2, locals := 35 } : Room).slots) := by
  refine MetFree.of_bodySF (plainFor_of_name own_pn_java_lang_String) hisR ?_
  intro p e s m args below meth c s₁ Bd hml0 hP hK
  obtain ⟨rfl, hZ, hh⟩ := hP
  have hx := Bd.exec
  have hby := Bd.bytes
  have hlk : meth.locks = false := BodyLoose.notSynchronized Bd
  have hml : c.maxLocals = 6 := hml0
  have hown : s.vm.findClass "java/lang/String" = some m.cls := findClass_of_methodNamed Bd.named
  have hnm := (name_of_methodNamed Bd.named Bd.method).1
  have X0 : Stand p l e ({ frames := 2, cells := 1, slots := 2, locals := 35 } : Room) s m #[(.ref o0), (.ref o1), (.int (0 : Int32)), (.int (2 : Int32)), .null] below meth c s₁ [] 0 0 := Stand.of_body Bd
  have e0 : s₁.heap = h0 := by rw [← hh, Bd.state]; rfl
  have N0 := Fr.nil n0
  have K0 : Keep h0 h0 [o0] := Keep.refl _ _
  show oG p e below (own_K s (Q_init_12 Z o0 y1 y2 h0 n0) ({ frames := 2, cells := 1, slots := 2, locals := 35 } : Room).cells ({ frames := 2, cells := 1, slots := 2, locals := 35 } : Room).slots) (s₁.setTop (entryFrame m #[(.ref o0), (.ref o1), (.int (0 : Int32)), (.int (2 : Int32)), .null] 6))
  rw [(by first | (simp [entryFrame, mkF, argsToLocals, Value.category]; done) | rfl : entryFrame m #[(.ref o0), (.ref o1), (.int (0 : Int32)), (.int (2 : Int32)), .null] 6 = mkF m 0 #[.val (.ref o0), .val (.ref o1), .val (.int (0 : Int32)), .val (.int (2 : Int32)), .val .null, .unset] [])]
  show oG p e below _ (s₁.setTop (mkF m 0 #[.val (.ref o0), .val (.ref o1), .val (.int (0 : Int32)), .val (.int (2 : Int32)), .val .null, .unset] []))
  refine og (fun _ hr => XS.aloadN X0.here hx rfl (hb hby dc4_0) rfl rfl hr) ?_
  show oG p e below _ (s₁.setTop (mkF m 1 #[.val (.ref o0), .val (.ref o1), .val (.int (0 : Int32)), .val (.int (2 : Int32)), .val .null, .unset] [(.ref o0)]))
  obtain ⟨T1, X1, e1, st1⟩ := initO X0 hx hZ hown (hw _ (own_m 25 rfl)) (hw _ (own_m 26 rfl)) (hw _ (own_m 27 rfl)) e0 (g := (mkF m 1 #[.val (.ref o0), .val (.ref o1), .val (.int (0 : Int32)), .val (.int (2 : Int32)), .val .null, .unset] [(.ref o0)])) rfl (by rw [hml]; rfl) rfl (hb hby dc4_1) (by decide) (W := 0) (by show 2 * 0 + _ ≤ _; exact Nat.le_of_eq rfl) (by decide)
  refine og st1 ?_
  show oG p e below _ (T1.setTop (mkF m 4 #[.val (.ref o0), .val (.ref o1), .val (.int (0 : Int32)), .val (.int (2 : Int32)), .val .null, .unset] []))
  refine og (fun _ hr => XS.iloadN X1.here hx rfl (hb hby dc4_4) rfl (XS.ifYes X1.here hx rfl (pc0 := 5) (pc' := 27) rfl (hb hby dc4_5) rfl ((if0 _ _).trans (feq (by decide)).2) (by decide) (by decide) hr)) ?_
  show oG p e below _ (T1.setTop (mkF m 27 #[.val (.ref o0), .val (.ref o1), .val (.int (0 : Int32)), .val (.int (2 : Int32)), .val .null, .unset] []))
  obtain ⟨T2, X2, e2, st2⟩ := getS2 X1 hx hZ hown (host := "") (Or.inl (hw _ (own_m 59 rfl))) Via.refl e1 P0 (g := (mkF m 27 #[.val (.ref o0), .val (.ref o1), .val (.int (0 : Int32)), .val (.int (2 : Int32)), .val .null, .unset] [])) rfl (hb hby dc4_27)
  refine og st2 ?_
  show oG p e below _ (T2.setTop (mkF m 30 #[.val (.ref o0), .val (.ref o1), .val (.int (0 : Int32)), .val (.int (2 : Int32)), .val .null, .unset] [(.int y0)]))
  refine og (fun _ hr => XS.ifNo X2.here hx rfl (hb hby dc4_30) rfl ((if0 _ _).trans (feq hb0).1) hr) ?_
  show oG p e below _ (T2.setTop (mkF m 33 #[.val (.ref o0), .val (.ref o1), .val (.int (0 : Int32)), .val (.int (2 : Int32)), .val .null, .unset] []))
  refine og (fun _ hr => XS.aloadN X2.here hx rfl (hb hby dc4_33) rfl rfl (XS.iloadN X2.here hx rfl (hb hby dc4_34) rfl (XS.iloadN X2.here hx rfl (hb hby dc4_35) rfl hr))) ?_
  show oG p e below _ (T2.setTop (mkF m 36 #[.val (.ref o0), .val (.ref o1), .val (.int (0 : Int32)), .val (.int (2 : Int32)), .val .null, .unset] [(.int (2 : Int32)), (.int (0 : Int32)), (.ref o1)]))
  refine own_cs X2 hx hZ hown (hw _ (own_m 60 rfl)) (hw _ (own_m 61 rfl)) (hw _ (own_m 62 rfl)) (hw _ (own_m 63 rfl)) (by decide) (rm := { frames := 1, cells := 1, slots := 2, locals := 18 }) (rm_compress_11 l Z a0 hw [] o1 y1 y2 kc0 h0 n0 Z0 P1 hb1 hb2 hb3 hb4) (by decide) (W := 0) (by decide) (by decide) (by decide) e2 (by rw [hml]; rfl) (argsL := [(.ref o1), (.int (0 : Int32)), (.int (2 : Int32))]) (lenOf own_pd7 rfl) (rest := []) rfl rfl (Nat.le_of_eq rfl) (hb hby dc4_36) ?_
  intro _ T3 L3 X3 hQ3
  obtain ⟨b3_0, kb3_0, rfl, N3q, K3, ge3_0, sz3_0, f3_0, f3_1⟩ := hQ3
  have N3 := Fr.app N0 N3q
  have sz4 : h0.size ≤ b3_0 := Nat.le_trans K0.1 sz3_0
  show oG p e below _ (T3.setTop (mkF m 39 #[.val (.ref o0), .val (.ref o1), .val (.int (0 : Int32)), .val (.int (2 : Int32)), .val .null, .unset] [(.ref b3_0)]))
  refine og (fun _ hr => XS.astore X3.here hx rfl (hb hby dc4_39) rfl rfl (l' := #[.val (.ref o0), .val (.ref o1), .val (.int (0 : Int32)), .val (.int (2 : Int32)), .val .null, .val (.ref b3_0)]) rfl (XS.aloadN X3.here hx rfl (hb hby dc4_41) rfl rfl (XS.aload X3.here hx rfl (hb hby dc4_42) rfl rfl (XS.iloadN X3.here hx rfl (hb hby dc4_44) rfl hr)))) ?_
  show oG p e below _ (T3.setTop (mkF m 45 #[.val (.ref o0), .val (.ref o1), .val (.int (0 : Int32)), .val (.int (2 : Int32)), .val .null, .val (.ref b3_0)] [(.int (2 : Int32)), (.ref b3_0), (.ref o0)]))
  have Z6 := (Nat.le_trans Z0 K3.1)
  refine own_cs X3 hx hZ hown (hw _ (own_m 67 rfl)) (hw _ (own_m 68 rfl)) (hw _ (own_m 62 rfl)) (hw _ (own_m 69 rfl)) (by decide) (rm := { frames := 0, cells := 0, slots := 0, locals := 0 }) (rm_coderFromArrayLen_8 l Z a0 hw [] b3_0 (y1.toInt8.toInt32) (y2.toInt8.toInt32) kb3_0 T3.heap n0 Z6 f3_1) (by decide) (W := 1) (by decide) (by decide) (by decide) rfl (by rw [hml]; rfl) (argsL := [(.ref b3_0), (.int (2 : Int32))]) (lenOf own_pd8 rfl) (rest := [(.ref o0)]) rfl rfl (Nat.le_of_eq rfl) (hb hby dc4_45) ?_
  intro _ T5 L5 X5 hQ5
  obtain ⟨rfl, N5q, e5⟩ := hQ5
  have N5 := Fr.app N3 N5q
  show oG p e below _ (T5.setTop (mkF m 48 #[.val (.ref o0), .val (.ref o1), .val (.int (0 : Int32)), .val (.int (2 : Int32)), .val .null, .val (.ref b3_0)] [(.int (0 : Int32)), (.ref o0)]))
  have f7 := (P2.keep K3)
  have f8 := (P3.keep K3 nin0)
  obtain ⟨T9, h9, X9, e9, W9, st9⟩ := putFN X5 hx hZ hown (hw _ (own_m 30 rfl)) Via.refl e5 f8 f7 (Or.inr ⟨(hw _ (own_m 11 rfl)), rfl, hnm⟩) (hw _ (own_m 8 rfl)) (ty := .byte) (v' := .int (0 : Int32)) (by decide) rfl (by decide) (g := (mkF m 48 #[.val (.ref o0), .val (.ref o1), .val (.int (0 : Int32)), .val (.int (2 : Int32)), .val .null, .val (.ref b3_0)] [(.int (0 : Int32)), (.ref o0)])) rfl rfl (hb hby dc4_48)
  refine og st9 ?_
  have f10 := f8.same W9
  have N11 := Fr.snoc X9 N5 ge0p
  show oG p e below _ (T9.setTop (mkF m 51 #[.val (.ref o0), .val (.ref o1), .val (.int (0 : Int32)), .val (.int (2 : Int32)), .val .null, .val (.ref b3_0)] []))
  refine og (fun _ hr => XS.aloadN X9.here hx rfl (hb hby dc4_51) rfl rfl (XS.aload X9.here hx rfl (hb hby dc4_52) rfl rfl hr)) ?_
  show oG p e below _ (T9.setTop (mkF m 54 #[.val (.ref o0), .val (.ref o1), .val (.int (0 : Int32)), .val (.int (2 : Int32)), .val .null, .val (.ref b3_0)] [(.ref b3_0), (.ref o0)]))
  have f12 := (f7.wr W9)
  have f13 := ((P4.keep K3 nin0).other W9 (Or.inr (slot_ne (Or.inr (hw _ (own_m 10 rfl))) (Or.inr (hw _ (own_m 11 rfl))) (by decide) (t := (.array .byte)) (t' := .byte) (by decide) (by decide))))
  obtain ⟨T14, h14, X14, e14, W14, st14⟩ := putF X9 hx hZ hown (host := "") (Or.inl (hw _ (own_m 29 rfl))) Via.refl e9 f13 f12 (Or.inr ⟨(hw _ (own_m 10 rfl)), rfl, hnm⟩) (hw _ (own_m 8 rfl)) (ty := (.array .byte)) (by decide) rfl rfl (g := (mkF m 54 #[.val (.ref o0), .val (.ref o1), .val (.int (0 : Int32)), .val (.int (2 : Int32)), .val .null, .val (.ref b3_0)] [(.ref b3_0), (.ref o0)])) rfl rfl (hb hby dc4_54)
  refine og st14 ?_
  have f15 := f13.same W14
  have N16 := Fr.snoc X14 N11 ge0p
  show oG p e below _ (T14.setTop (mkF m 57 #[.val (.ref o0), .val (.ref o1), .val (.int (0 : Int32)), .val (.int (2 : Int32)), .val .null, .val (.ref b3_0)] []))
  have f17 := (f10.other W14 (Or.inr (slot_ne (Or.inr (hw _ (own_m 11 rfl))) (Or.inr (hw _ (own_m 10 rfl))) (by decide) (t := .byte) (t' := (.array .byte)) (by decide) (by decide))))
  have f18 := ((f3_0.wr W9).wr W14)
  have f19 := ((f3_1.other W9 (Ne.symm (Nat.ne_of_lt (Nat.lt_of_lt_of_le P2.lt sz3_0)))).other W14 (Ne.symm (Nat.ne_of_lt (Nat.lt_of_lt_of_le P2.lt sz3_0))))
  have K20 := (((K0.trans K3 all0).wr W9 (Or.inl (List.mem_of_getElem? (i := 0) rfl))).wr W14 (Or.inl (List.mem_of_getElem? (i := 0) rfl)))
  exact own_ret0 X14 hx hlk Bd.returns (hb hby dc4_57) (by decide) (by decide) (by rw [e14]; exact ⟨b3_0, kb3_0, rfl, N16, K20, ge3_0, sz4, f17, f15, f18, f19⟩)
def Q_init_10 (Z : State) (o0 : Addr) (y0 : Int32) (y1 : Int32) (h0 : Heap) (n0 : Nat) (v : Option Value) (h : Heap) (L : List Loc) : Prop := (∃ (b1_0 : Addr) (kb1_0 : ClassId), v = none ∧ Fr n0 L ∧ Keep h0 h [o0] ∧ n0 ≤ b1_0 ∧ h0.size ≤ b1_0 ∧ Fld Z h o0 "java/lang/String" "coder" "B" (.int (0 : Int32)) ∧ Fld Z h o0 "java/lang/String" "value" "[B" (.ref b1_0) ∧ Exa Z h b1_0 "[B" ∧ Arv Z h b1_0 kb1_0 .byte (2 : Int32) [(.int (y0.toInt8.toInt32)), (.int (y1.toInt8.toInt32))] (.int (0 : Int32)))
set_option maxRecDepth 65536 in
set_option maxHeartbeats 40000000 in
theorem rm_init_10 (l : Launch) (Z : State) (a0 : Array Value) (hw : ∀ d ∈ tables_1, d.before a0 Z = true) (ws : List Jvm.Cond) (o0 : Addr) (o1 : Addr) (y0 : Int32) (y1 : Int32) (kc0 : ClassId) (y2 : Int32) (h0 : Heap) (n0 : Nat) (Z0 : n0 ≤ h0.size) (P0 : Arv Z h0 o1 kc0 .char (2 : Int32) [(.int y0), (.int y1)] (.int (0 : Int32))) (P1 : Sta Z h0 "java/lang/String" "COMPACT_STRINGS" "Z" (.int y2)) (P2 : Exa Z h0 o1 "[C") (P3 : Exa Z h0 o0 "java/lang/String") (P4 : Fld Z h0 o0 "java/lang/String" "coder" "B" (.int (0 : Int32))) (P5 : Fld Z h0 o0 "java/lang/String" "value" "[B" .null) (ge0p : n0 ≤ o0) (hb0 : ¬ (y2 = (0 : Int32))) (hb1 : ¬ ((255 : Int32) < y0)) (hb2 : (nar .byte (y0.toInt8.toInt32)) = (y0.toInt8.toInt32)) (hb3 : ¬ ((255 : Int32) < y1)) (hb4 : (nar .byte (y1.toInt8.toInt32)) = (y1.toInt8.toInt32)) :
    MetFree l (⟨"java/lang/String", "<init>", "([C)V"⟩ : MethodName) (head1 (Jvm.Cond.code (⟨"java/lang/String", "<init>", "([C)V"⟩ : MethodName) jdk_42_method_3_code 2 none :: ws) ({ frames := 3, cells := 1, slots := 2, locals := 52 } : Room)) (fun aA U => aA = #[(.ref o0), (.ref o1)] ∧ Z.Warmed39 U.vm ∧ U.heap = h0) (fun _ _ _ _ _ => True) (fun _ U o U' => ∃ v L, o = .returned v ∧ Q_init_10 Z o0 y0 y1 h0 n0 v U'.heap L ∧ FrameEnd U o U' L ({ frames := 3, cells := 1, slots := 2, locals := 52 } : Room).cells ({ frames := 3, cells := 1, slots := 2, locals := 52 } : Room).slots) := by
  refine MetFree.of_bodySF (plainFor_of_name own_pn_java_lang_String) hisR ?_
  intro p e s m args below meth c s₁ Bd hml0 hP hK
  obtain ⟨rfl, hZ, hh⟩ := hP
  have hx := Bd.exec
  have hby := Bd.bytes
  have hlk : meth.locks = false := BodyLoose.notSynchronized Bd
  have hml : c.maxLocals = 2 := hml0
  have hown : s.vm.findClass "java/lang/String" = some m.cls := findClass_of_methodNamed Bd.named
  have hnm := (name_of_methodNamed Bd.named Bd.method).1
  have X0 : Stand p l e ({ frames := 3, cells := 1, slots := 2, locals := 52 } : Room) s m #[(.ref o0), (.ref o1)] below meth c s₁ [] 0 0 := Stand.of_body Bd
  have e0 : s₁.heap = h0 := by rw [← hh, Bd.state]; rfl
  have N0 := Fr.nil n0
  have K0 : Keep h0 h0 [o0] := Keep.refl _ _
  show oG p e below (own_K s (Q_init_10 Z o0 y0 y1 h0 n0) ({ frames := 3, cells := 1, slots := 2, locals := 52 } : Room).cells ({ frames := 3, cells := 1, slots := 2, locals := 52 } : Room).slots) (s₁.setTop (entryFrame m #[(.ref o0), (.ref o1)] 2))
  rw [(by first | (simp [entryFrame, mkF, argsToLocals, Value.category]; done) | rfl : entryFrame m #[(.ref o0), (.ref o1)] 2 = mkF m 0 #[.val (.ref o0), .val (.ref o1)] [])]
  show oG p e below _ (s₁.setTop (mkF m 0 #[.val (.ref o0), .val (.ref o1)] []))
  refine og (fun _ hr => XS.aloadN X0.here hx rfl (hb hby dc3_0) rfl rfl (XS.aloadN X0.here hx rfl (hb hby dc3_1) rfl rfl (XS.iconst X0.here hx rfl (hb hby dc3_2) (XS.aloadN X0.here hx rfl (hb hby dc3_3) rfl rfl (own_alen X0 hx hZ e0 P0 rfl rfl (hb hby dc3_4) (XS.aconstNull X0.here hx rfl (hb hby dc3_5) hr)))))) ?_
  show oG p e below _ (s₁.setTop (mkF m 6 #[.val (.ref o0), .val (.ref o1)] [.null, (.int (2 : Int32)), (.int (0 : Int32)), (.ref o1), (.ref o0)]))
  refine own_cp X0 hx hZ hown rfl (hw _ (own_m 21 rfl)) (hw _ (own_m 22 rfl)) (hw _ (own_m 7 rfl)) (hw _ (own_m 24 rfl)) (by decide) (rm := { frames := 2, cells := 1, slots := 2, locals := 35 }) (rm_init_12 l Z a0 hw [] o0 o1 y2 y0 y1 kc0 h0 n0 Z0 P1 P0 P3 P4 P5 ge0p hb0 hb1 hb2 hb3 hb4) (by decide) (W := 0) (by decide) (by decide) (by decide) e0 (by rw [hml]; rfl) (argsL := [(.ref o1), (.int (0 : Int32)), (.int (2 : Int32)), .null]) (lenOf own_pd0 rfl) (rest := []) rfl rfl (Nat.le_of_eq rfl) (hb hby dc3_6) ?_
  intro _ T1 L1 X1 hQ1
  obtain ⟨b1_0, kb1_0, rfl, N1q, K1, ge1_0, sz1_0, f1_0, f1_1, f1_2, f1_3⟩ := hQ1
  have N1 := Fr.app N0 N1q
  have sz2 : h0.size ≤ b1_0 := Nat.le_trans K0.1 sz1_0
  show oG p e below _ (T1.setTop (mkF m 9 #[.val (.ref o0), .val (.ref o1)] []))
  have K3 := (K0.trans K1 (allS (Or.inl (List.mem_of_getElem? (i := 0) rfl)) all0))
  exact own_ret0 X1 hx hlk Bd.returns (hb hby dc3_9) (by decide) (by decide) (by exact ⟨b1_0, kb1_0, rfl, N1, K3, ge1_0, sz2, f1_0, f1_1, f1_2, f1_3⟩)
theorem dc2_54 : decode method_4_code 54 = .ok (.areturn, 1) := by decide +kernel
theorem dc2_55 : decode method_4_code 55 = .ok (.new 41, 3) := by decide +kernel
theorem dc2_58 : decode method_4_code 58 = .ok (.dup, 1) := by decide +kernel
theorem dc2_59 : decode method_4_code 59 = .ok (.iconst 3, 1) := by decide +kernel
theorem dc2_60 : decode method_4_code 60 = .ok (.newarray .char, 2) := by decide +kernel
theorem dc2_62 : decode method_4_code 62 = .ok (.dup, 1) := by decide +kernel
theorem dc2_63 : decode method_4_code 63 = .ok (.iconst 0, 1) := by decide +kernel
theorem dc2_64 : decode method_4_code 64 = .ok (.aload_n 0, 1) := by decide +kernel
theorem dc2_65 : decode method_4_code 65 = .ok (.iconst 0, 1) := by decide +kernel
theorem dc2_66 : decode method_4_code 66 = .ok (.caload, 1) := by decide +kernel
theorem dc2_67 : decode method_4_code 67 = .ok (.castore, 1) := by decide +kernel
theorem dc2_68 : decode method_4_code 68 = .ok (.dup, 1) := by decide +kernel
theorem dc2_69 : decode method_4_code 69 = .ok (.iconst 1, 1) := by decide +kernel
theorem dc2_70 : decode method_4_code 70 = .ok (.aload_n 0, 1) := by decide +kernel
theorem dc2_71 : decode method_4_code 71 = .ok (.iconst 1, 1) := by decide +kernel
theorem dc2_72 : decode method_4_code 72 = .ok (.caload, 1) := by decide +kernel
theorem dc2_73 : decode method_4_code 73 = .ok (.castore, 1) := by decide +kernel
theorem dc2_74 : decode method_4_code 74 = .ok (.dup, 1) := by decide +kernel
theorem dc2_75 : decode method_4_code 75 = .ok (.iconst 2, 1) := by decide +kernel
theorem dc2_76 : decode method_4_code 76 = .ok (.aload_n 0, 1) := by decide +kernel
theorem dc2_77 : decode method_4_code 77 = .ok (.iconst 2, 1) := by decide +kernel
theorem dc2_78 : decode method_4_code 78 = .ok (.caload, 1) := by decide +kernel
theorem dc2_79 : decode method_4_code 79 = .ok (.castore, 1) := by decide +kernel
theorem dc2_80 : decode method_4_code 80 = .ok (.invokespecial 43, 3) := by decide +kernel
def Q_compress_13 (Z : State) (o1 : Addr) (y0 : Int32) (y1 : Int32) (y2 : Int32) (kc1 : ClassId) (h0 : Heap) (n0 : Nat) (v : Option Value) (h : Heap) (L : List Loc) : Prop := (v = some (.int (3 : Int32)) ∧ Fr n0 L ∧ Keep h0 h [o1] ∧ Arv Z h o1 kc1 .byte (3 : Int32) [(.int (y0.toInt8.toInt32)), (.int (y1.toInt8.toInt32)), (.int (y2.toInt8.toInt32))] (.int (0 : Int32)))
set_option maxRecDepth 65536 in
set_option maxHeartbeats 40000000 in
theorem rm_compress_13 (l : Launch) (Z : State) (a0 : Array Value) (hw : ∀ d ∈ tables_1, d.before a0 Z = true) (ws : List Jvm.Cond) (o0 : Addr) (o1 : Addr) (y0 : Int32) (y1 : Int32) (y2 : Int32) (kc0 : ClassId) (kc1 : ClassId) (h0 : Heap) (n0 : Nat) (Z0 : n0 ≤ h0.size) (P0 : Arv Z h0 o0 kc0 .char (3 : Int32) [(.int y0), (.int y1), (.int y2)] (.int (0 : Int32))) (P1 : Arv Z h0 o1 kc1 .byte (3 : Int32) [(.int (0 : Int32)), (.int (0 : Int32)), (.int (0 : Int32))] (.int (0 : Int32))) (ne0p : o0 ≠ o1) (ge0p : n0 ≤ o1) (hb0 : ¬ ((255 : Int32) < y0)) (hb1 : (nar .byte (y0.toInt8.toInt32)) = (y0.toInt8.toInt32)) (hb2 : ¬ ((255 : Int32) < y1)) (hb3 : (nar .byte (y1.toInt8.toInt32)) = (y1.toInt8.toInt32)) (hb4 : ¬ ((255 : Int32) < y2)) (hb5 : (nar .byte (y2.toInt8.toInt32)) = (y2.toInt8.toInt32)) :
    MetFree l (⟨"java/lang/StringUTF16", "compress", "([CI[BII)I"⟩ : MethodName) (head1 (Jvm.Cond.code (⟨"java/lang/StringUTF16", "compress", "([CI[BII)I"⟩ : MethodName) jdk_52_method_21_code 7 (some .int) :: ws) ({ frames := 0, cells := 0, slots := 0, locals := 0 } : Room)) (fun aA U => aA = #[(.ref o0), (.int (0 : Int32)), (.ref o1), (.int (0 : Int32)), (.int (3 : Int32))] ∧ Z.Warmed39 U.vm ∧ U.heap = h0) (fun _ _ _ _ _ => True) (fun _ U o U' => ∃ v L, o = .returned v ∧ Q_compress_13 Z o1 y0 y1 y2 kc1 h0 n0 v U'.heap L ∧ FrameEnd U o U' L ({ frames := 0, cells := 0, slots := 0, locals := 0 } : Room).cells ({ frames := 0, cells := 0, slots := 0, locals := 0 } : Room).slots) := by
  refine MetFree.of_bodySF (plainFor_of_name own_pn_java_lang_StringUTF16) hisR ?_
  intro p e s m args below meth c s₁ Bd hml0 hP hK
  obtain ⟨rfl, hZ, hh⟩ := hP
  have hx := Bd.exec
  have hby := Bd.bytes
  have hlk : meth.locks = false := BodyLoose.notSynchronized Bd
  have hml : c.maxLocals = 7 := hml0
  have hown : s.vm.findClass "java/lang/StringUTF16" = some m.cls := findClass_of_methodNamed Bd.named
  have hnm := (name_of_methodNamed Bd.named Bd.method).1
  have X0 : Stand p l e ({ frames := 0, cells := 0, slots := 0, locals := 0 } : Room) s m #[(.ref o0), (.int (0 : Int32)), (.ref o1), (.int (0 : Int32)), (.int (3 : Int32))] below meth c s₁ [] 0 0 := Stand.of_body Bd
  have e0 : s₁.heap = h0 := by rw [← hh, Bd.state]; rfl
  have N0 := Fr.nil n0
  have K0 : Keep h0 h0 [o1] := Keep.refl _ _
  show oG p e below (own_K s (Q_compress_13 Z o1 y0 y1 y2 kc1 h0 n0) ({ frames := 0, cells := 0, slots := 0, locals := 0 } : Room).cells ({ frames := 0, cells := 0, slots := 0, locals := 0 } : Room).slots) (s₁.setTop (entryFrame m #[(.ref o0), (.int (0 : Int32)), (.ref o1), (.int (0 : Int32)), (.int (3 : Int32))] 7))
  rw [(by first | (simp [entryFrame, mkF, argsToLocals, Value.category]; done) | rfl : entryFrame m #[(.ref o0), (.int (0 : Int32)), (.ref o1), (.int (0 : Int32)), (.int (3 : Int32))] 7 = mkF m 0 #[.val (.ref o0), .val (.int (0 : Int32)), .val (.ref o1), .val (.int (0 : Int32)), .val (.int (3 : Int32)), .unset, .unset] [])]
  show oG p e below _ (s₁.setTop (mkF m 0 #[.val (.ref o0), .val (.int (0 : Int32)), .val (.ref o1), .val (.int (0 : Int32)), .val (.int (3 : Int32)), .unset, .unset] []))
  refine og (fun _ hr => XS.iconst X0.here hx rfl (hb hby dc11_0) (XS.istore X0.here hx rfl (hb hby dc11_1) rfl (l' := #[.val (.ref o0), .val (.int (0 : Int32)), .val (.ref o1), .val (.int (0 : Int32)), .val (.int (3 : Int32)), .val (.int (0 : Int32)), .unset]) rfl (XS.iload X0.here hx rfl (hb hby dc11_3) rfl (XS.iload X0.here hx rfl (hb hby dc11_5) rfl (XS.icmpNo X0.here hx rfl (hb hby dc11_7) rfl (tlt (by decide)).2.1 (XS.aloadN X0.here hx rfl (hb hby dc11_10) rfl rfl (XS.iloadN X0.here hx rfl (hb hby dc11_11) rfl (own_caload X0 hx hZ e0 P0 (0 : Int32) (.int y0) ⟨by decide, by decide⟩ rfl rfl rfl (hb hby dc11_12) (XS.istore X0.here hx rfl (hb hby dc11_13) rfl (l' := #[.val (.ref o0), .val (.int (0 : Int32)), .val (.ref o1), .val (.int (0 : Int32)), .val (.int (3 : Int32)), .val (.int (0 : Int32)), .val (.int y0)]) rfl (XS.iload X0.here hx rfl (hb hby dc11_15) rfl (XS.sipush X0.here hx rfl (hb hby dc11_17) hr))))))))))) ?_
  show oG p e below _ (s₁.setTop (mkF m 20 #[.val (.ref o0), .val (.int (0 : Int32)), .val (.ref o1), .val (.int (0 : Int32)), .val (.int (3 : Int32)), .val (.int (0 : Int32)), .val (.int y0)] [(.int (255 : Int32)), (.int y0)]))
  refine og (fun _ hr => XS.icmpYes X0.here hx rfl (pc0 := 20) (pc' := 26) rfl (hb hby dc11_20) rfl (flt hb0).2.2.2 (by decide) (by decide) hr) ?_
  show oG p e below _ (s₁.setTop (mkF m 26 #[.val (.ref o0), .val (.int (0 : Int32)), .val (.ref o1), .val (.int (0 : Int32)), .val (.int (3 : Int32)), .val (.int (0 : Int32)), .val (.int y0)] []))
  refine og (fun _ hr => XS.aloadN X0.here hx rfl (hb hby dc11_26) rfl rfl (XS.iloadN X0.here hx rfl (hb hby dc11_27) rfl (XS.iload X0.here hx rfl (hb hby dc11_28) rfl (XS.i2b X0.here hx rfl (hb hby dc11_30) rfl hr)))) ?_
  show oG p e below _ (s₁.setTop (mkF m 31 #[.val (.ref o0), .val (.int (0 : Int32)), .val (.ref o1), .val (.int (0 : Int32)), .val (.int (3 : Int32)), .val (.int (0 : Int32)), .val (.int y0)] [(.int (y0.toInt8.toInt32)), (.int (0 : Int32)), (.ref o1)]))
  refine own_stB X0 hx hZ e0 P1 (0 : Int32) (y0.toInt8.toInt32) (y0.toInt8.toInt32) 0 ⟨by decide, by decide⟩ rfl (Nat.le_of_ble_eq_true rfl) hb1 [(.int (y0.toInt8.toInt32)), (.int (0 : Int32)), (.int (0 : Int32))] rfl N0 ge0p (hb hby dc11_31) ?_
  intro T1 h1 L1 X1 e1 W1 N1 f1
  show oG p e below _ (T1.setTop (mkF m 32 #[.val (.ref o0), .val (.int (0 : Int32)), .val (.ref o1), .val (.int (0 : Int32)), .val (.int (3 : Int32)), .val (.int (0 : Int32)), .val (.int y0)] []))
  have f2 := (P0.other W1 ne0p)
  refine og (fun _ hr => XS.iinc X1.here hx rfl (hb hby dc11_32) rfl (l' := #[.val (.ref o0), .val (.int (1 : Int32)), .val (.ref o1), .val (.int (0 : Int32)), .val (.int (3 : Int32)), .val (.int (0 : Int32)), .val (.int y0)]) rfl (XS.iinc X1.here hx rfl (hb hby dc11_35) rfl (l' := #[.val (.ref o0), .val (.int (1 : Int32)), .val (.ref o1), .val (.int (1 : Int32)), .val (.int (3 : Int32)), .val (.int (0 : Int32)), .val (.int y0)]) rfl (XS.iinc X1.here hx rfl (hb hby dc11_38) rfl (l' := #[.val (.ref o0), .val (.int (1 : Int32)), .val (.ref o1), .val (.int (1 : Int32)), .val (.int (3 : Int32)), .val (.int (1 : Int32)), .val (.int y0)]) rfl (XS.goto X1.here hx rfl (pc0 := 41) (pc' := 3) rfl (hb hby dc11_41) (by decide) (by decide) (XS.iload X1.here hx rfl (hb hby dc11_3) rfl (XS.iload X1.here hx rfl (hb hby dc11_5) rfl (XS.icmpNo X1.here hx rfl (hb hby dc11_7) rfl (tlt (by decide)).2.1 (XS.aloadN X1.here hx rfl (hb hby dc11_10) rfl rfl (XS.iloadN X1.here hx rfl (hb hby dc11_11) rfl (own_caload X1 hx hZ e1 f2 (1 : Int32) (.int y1) ⟨by decide, by decide⟩ rfl rfl rfl (hb hby dc11_12) (XS.istore X1.here hx rfl (hb hby dc11_13) rfl (l' := #[.val (.ref o0), .val (.int (1 : Int32)), .val (.ref o1), .val (.int (1 : Int32)), .val (.int (3 : Int32)), .val (.int (1 : Int32)), .val (.int y1)]) rfl (XS.iload X1.here hx rfl (hb hby dc11_15) rfl (XS.sipush X1.here hx rfl (hb hby dc11_17) hr))))))))))))) ?_
  show oG p e below _ (T1.setTop (mkF m 20 #[.val (.ref o0), .val (.int (1 : Int32)), .val (.ref o1), .val (.int (1 : Int32)), .val (.int (3 : Int32)), .val (.int (1 : Int32)), .val (.int y1)] [(.int (255 : Int32)), (.int y1)]))
  refine og (fun _ hr => XS.icmpYes X1.here hx rfl (pc0 := 20) (pc' := 26) rfl (hb hby dc11_20) rfl (flt hb2).2.2.2 (by decide) (by decide) hr) ?_
  show oG p e below _ (T1.setTop (mkF m 26 #[.val (.ref o0), .val (.int (1 : Int32)), .val (.ref o1), .val (.int (1 : Int32)), .val (.int (3 : Int32)), .val (.int (1 : Int32)), .val (.int y1)] []))
  refine og (fun _ hr => XS.aloadN X1.here hx rfl (hb hby dc11_26) rfl rfl (XS.iloadN X1.here hx rfl (hb hby dc11_27) rfl (XS.iload X1.here hx rfl (hb hby dc11_28) rfl (XS.i2b X1.here hx rfl (hb hby dc11_30) rfl hr)))) ?_
  show oG p e below _ (T1.setTop (mkF m 31 #[.val (.ref o0), .val (.int (1 : Int32)), .val (.ref o1), .val (.int (1 : Int32)), .val (.int (3 : Int32)), .val (.int (1 : Int32)), .val (.int y1)] [(.int (y1.toInt8.toInt32)), (.int (1 : Int32)), (.ref o1)]))
  refine own_stB X1 hx hZ e1 f1 (1 : Int32) (y1.toInt8.toInt32) (y1.toInt8.toInt32) 1 ⟨by decide, by decide⟩ rfl (Nat.le_of_ble_eq_true rfl) hb3 [(.int (y0.toInt8.toInt32)), (.int (y1.toInt8.toInt32)), (.int (0 : Int32))] rfl N1 ge0p (hb hby dc11_31) ?_
  intro T3 h3 L3 X3 e3 W3 N3 f3
  show oG p e below _ (T3.setTop (mkF m 32 #[.val (.ref o0), .val (.int (1 : Int32)), .val (.ref o1), .val (.int (1 : Int32)), .val (.int (3 : Int32)), .val (.int (1 : Int32)), .val (.int y1)] []))
  have f4 := (f2.other W3 ne0p)
  refine og (fun _ hr => XS.iinc X3.here hx rfl (hb hby dc11_32) rfl (l' := #[.val (.ref o0), .val (.int (2 : Int32)), .val (.ref o1), .val (.int (1 : Int32)), .val (.int (3 : Int32)), .val (.int (1 : Int32)), .val (.int y1)]) rfl (XS.iinc X3.here hx rfl (hb hby dc11_35) rfl (l' := #[.val (.ref o0), .val (.int (2 : Int32)), .val (.ref o1), .val (.int (2 : Int32)), .val (.int (3 : Int32)), .val (.int (1 : Int32)), .val (.int y1)]) rfl (XS.iinc X3.here hx rfl (hb hby dc11_38) rfl (l' := #[.val (.ref o0), .val (.int (2 : Int32)), .val (.ref o1), .val (.int (2 : Int32)), .val (.int (3 : Int32)), .val (.int (2 : Int32)), .val (.int y1)]) rfl (XS.goto X3.here hx rfl (pc0 := 41) (pc' := 3) rfl (hb hby dc11_41) (by decide) (by decide) (XS.iload X3.here hx rfl (hb hby dc11_3) rfl (XS.iload X3.here hx rfl (hb hby dc11_5) rfl (XS.icmpNo X3.here hx rfl (hb hby dc11_7) rfl (tlt (by decide)).2.1 (XS.aloadN X3.here hx rfl (hb hby dc11_10) rfl rfl (XS.iloadN X3.here hx rfl (hb hby dc11_11) rfl (own_caload X3 hx hZ e3 f4 (2 : Int32) (.int y2) ⟨by decide, by decide⟩ rfl rfl rfl (hb hby dc11_12) (XS.istore X3.here hx rfl (hb hby dc11_13) rfl (l' := #[.val (.ref o0), .val (.int (2 : Int32)), .val (.ref o1), .val (.int (2 : Int32)), .val (.int (3 : Int32)), .val (.int (2 : Int32)), .val (.int y2)]) rfl (XS.iload X3.here hx rfl (hb hby dc11_15) rfl (XS.sipush X3.here hx rfl (hb hby dc11_17) hr))))))))))))) ?_
  show oG p e below _ (T3.setTop (mkF m 20 #[.val (.ref o0), .val (.int (2 : Int32)), .val (.ref o1), .val (.int (2 : Int32)), .val (.int (3 : Int32)), .val (.int (2 : Int32)), .val (.int y2)] [(.int (255 : Int32)), (.int y2)]))
  refine og (fun _ hr => XS.icmpYes X3.here hx rfl (pc0 := 20) (pc' := 26) rfl (hb hby dc11_20) rfl (flt hb4).2.2.2 (by decide) (by decide) hr) ?_
  show oG p e below _ (T3.setTop (mkF m 26 #[.val (.ref o0), .val (.int (2 : Int32)), .val (.ref o1), .val (.int (2 : Int32)), .val (.int (3 : Int32)), .val (.int (2 : Int32)), .val (.int y2)] []))
  refine og (fun _ hr => XS.aloadN X3.here hx rfl (hb hby dc11_26) rfl rfl (XS.iloadN X3.here hx rfl (hb hby dc11_27) rfl (XS.iload X3.here hx rfl (hb hby dc11_28) rfl (XS.i2b X3.here hx rfl (hb hby dc11_30) rfl hr)))) ?_
  show oG p e below _ (T3.setTop (mkF m 31 #[.val (.ref o0), .val (.int (2 : Int32)), .val (.ref o1), .val (.int (2 : Int32)), .val (.int (3 : Int32)), .val (.int (2 : Int32)), .val (.int y2)] [(.int (y2.toInt8.toInt32)), (.int (2 : Int32)), (.ref o1)]))
  refine own_stB X3 hx hZ e3 f3 (2 : Int32) (y2.toInt8.toInt32) (y2.toInt8.toInt32) 2 ⟨by decide, by decide⟩ rfl (Nat.le_of_ble_eq_true rfl) hb5 [(.int (y0.toInt8.toInt32)), (.int (y1.toInt8.toInt32)), (.int (y2.toInt8.toInt32))] rfl N3 ge0p (hb hby dc11_31) ?_
  intro T5 h5 L5 X5 e5 W5 N5 f5
  show oG p e below _ (T5.setTop (mkF m 32 #[.val (.ref o0), .val (.int (2 : Int32)), .val (.ref o1), .val (.int (2 : Int32)), .val (.int (3 : Int32)), .val (.int (2 : Int32)), .val (.int y2)] []))
  refine og (fun _ hr => XS.iinc X5.here hx rfl (hb hby dc11_32) rfl (l' := #[.val (.ref o0), .val (.int (3 : Int32)), .val (.ref o1), .val (.int (2 : Int32)), .val (.int (3 : Int32)), .val (.int (2 : Int32)), .val (.int y2)]) rfl (XS.iinc X5.here hx rfl (hb hby dc11_35) rfl (l' := #[.val (.ref o0), .val (.int (3 : Int32)), .val (.ref o1), .val (.int (3 : Int32)), .val (.int (3 : Int32)), .val (.int (2 : Int32)), .val (.int y2)]) rfl (XS.iinc X5.here hx rfl (hb hby dc11_38) rfl (l' := #[.val (.ref o0), .val (.int (3 : Int32)), .val (.ref o1), .val (.int (3 : Int32)), .val (.int (3 : Int32)), .val (.int (3 : Int32)), .val (.int y2)]) rfl (XS.goto X5.here hx rfl (pc0 := 41) (pc' := 3) rfl (hb hby dc11_41) (by decide) (by decide) (XS.iload X5.here hx rfl (hb hby dc11_3) rfl (XS.iload X5.here hx rfl (hb hby dc11_5) rfl (XS.icmpYes X5.here hx rfl (pc0 := 7) (pc' := 44) rfl (hb hby dc11_7) rfl (flt (by decide)).2.1 (by decide) (by decide) (XS.iload X5.here hx rfl (hb hby dc11_44) rfl hr)))))))) ?_
  show oG p e below _ (T5.setTop (mkF m 46 #[.val (.ref o0), .val (.int (3 : Int32)), .val (.ref o1), .val (.int (3 : Int32)), .val (.int (3 : Int32)), .val (.int (3 : Int32)), .val (.int y2)] [(.int (3 : Int32))]))
  have K6 := (((K0.wr W1 (Or.inl (List.mem_of_getElem? (i := 0) rfl))).wr W3 (Or.inl (List.mem_of_getElem? (i := 0) rfl))).wr W5 (Or.inl (List.mem_of_getElem? (i := 0) rfl)))
  exact own_retI X5 hx hlk Bd.returns (hb hby dc11_46) (by decide) (by decide) (by rw [e5]; exact ⟨rfl, N5, K6, f5⟩)
def Q_compress_14 (Z : State) (y0 : Int32) (y1 : Int32) (y2 : Int32) (h0 : Heap) (n0 : Nat) (v : Option Value) (h : Heap) (L : List Loc) : Prop := (∃ (b1 : Addr) (k1 : ClassId), v = some (.ref b1) ∧ Fr n0 L ∧ Keep h0 h [] ∧ n0 ≤ b1 ∧ h0.size ≤ b1 ∧ Exa Z h b1 "[B" ∧ Arv Z h b1 k1 .byte (3 : Int32) [(.int (y0.toInt8.toInt32)), (.int (y1.toInt8.toInt32)), (.int (y2.toInt8.toInt32))] (.int (0 : Int32)))
set_option maxRecDepth 65536 in
set_option maxHeartbeats 40000000 in
theorem rm_compress_14 (l : Launch) (Z : State) (a0 : Array Value) (hw : ∀ d ∈ tables_1, d.before a0 Z = true) (ws : List Jvm.Cond) (o0 : Addr) (y0 : Int32) (y1 : Int32) (y2 : Int32) (kc0 : ClassId) (h0 : Heap) (n0 : Nat) (Z0 : n0 ≤ h0.size) (P0 : Exa Z h0 o0 "[C") (P1 : Arv Z h0 o0 kc0 .char (3 : Int32) [(.int y0), (.int y1), (.int y2)] (.int (0 : Int32))) (hb0 : ¬ ((255 : Int32) < y0)) (hb1 : (nar .byte (y0.toInt8.toInt32)) = (y0.toInt8.toInt32)) (hb2 : ¬ ((255 : Int32) < y1)) (hb3 : (nar .byte (y1.toInt8.toInt32)) = (y1.toInt8.toInt32)) (hb4 : ¬ ((255 : Int32) < y2)) (hb5 : (nar .byte (y2.toInt8.toInt32)) = (y2.toInt8.toInt32)) :
    MetFree l (⟨"java/lang/StringUTF16", "compress", "([CII)[B"⟩ : MethodName) (head1 (Jvm.Cond.code (⟨"java/lang/StringUTF16", "compress", "([CII)[B"⟩ : MethodName) jdk_52_method_16_code 6 (some (.array .byte)) :: ws) ({ frames := 1, cells := 1, slots := 3, locals := 18 } : Room)) (fun aA U => aA = #[(.ref o0), (.int (0 : Int32)), (.int (3 : Int32))] ∧ Z.Warmed39 U.vm ∧ U.heap = h0) (fun _ _ _ _ _ => True) (fun _ U o U' => ∃ v L, o = .returned v ∧ Q_compress_14 Z y0 y1 y2 h0 n0 v U'.heap L ∧ FrameEnd U o U' L ({ frames := 1, cells := 1, slots := 3, locals := 18 } : Room).cells ({ frames := 1, cells := 1, slots := 3, locals := 18 } : Room).slots) := by
  refine MetFree.of_bodySF (plainFor_of_name own_pn_java_lang_StringUTF16) hisR ?_
  intro p e s m args below meth c s₁ Bd hml0 hP hK
  obtain ⟨rfl, hZ, hh⟩ := hP
  have hx := Bd.exec
  have hby := Bd.bytes
  have hlk : meth.locks = false := BodyLoose.notSynchronized Bd
  have hml : c.maxLocals = 6 := hml0
  have hown : s.vm.findClass "java/lang/StringUTF16" = some m.cls := findClass_of_methodNamed Bd.named
  have hnm := (name_of_methodNamed Bd.named Bd.method).1
  have X0 : Stand p l e ({ frames := 1, cells := 1, slots := 3, locals := 18 } : Room) s m #[(.ref o0), (.int (0 : Int32)), (.int (3 : Int32))] below meth c s₁ [] 0 0 := Stand.of_body Bd
  have e0 : s₁.heap = h0 := by rw [← hh, Bd.state]; rfl
  have N0 := Fr.nil n0
  have K0 : Keep h0 h0 [] := Keep.refl _ _
  show oG p e below (own_K s (Q_compress_14 Z y0 y1 y2 h0 n0) ({ frames := 1, cells := 1, slots := 3, locals := 18 } : Room).cells ({ frames := 1, cells := 1, slots := 3, locals := 18 } : Room).slots) (s₁.setTop (entryFrame m #[(.ref o0), (.int (0 : Int32)), (.int (3 : Int32))] 6))
  rw [(by first | (simp [entryFrame, mkF, argsToLocals, Value.category]; done) | rfl : entryFrame m #[(.ref o0), (.int (0 : Int32)), (.int (3 : Int32))] 6 = mkF m 0 #[.val (.ref o0), .val (.int (0 : Int32)), .val (.int (3 : Int32)), .unset, .unset, .unset] [])]
  show oG p e below _ (s₁.setTop (mkF m 0 #[.val (.ref o0), .val (.int (0 : Int32)), .val (.int (3 : Int32)), .unset, .unset, .unset] []))
  refine og (fun _ hr => XS.iloadN X0.here hx rfl (hb hby dc10_0) rfl hr) ?_
  show oG p e below _ (s₁.setTop (mkF m 1 #[.val (.ref o0), .val (.int (0 : Int32)), .val (.int (3 : Int32)), .unset, .unset, .unset] [(.int (3 : Int32))]))
  obtain ⟨T1, h1, k1, X1, e1, E1, A1, EA1, st1⟩ := newPE X0 hx hZ (hw _ (own_m 9 rfl)) e0 (g := (mkF m 1 #[.val (.ref o0), .val (.int (0 : Int32)), .val (.int (3 : Int32)), .unset, .unset, .unset] [(.int (3 : Int32))])) rfl (hb hby dc10_1) rfl (by decide) (cap := 3) (by decide) (by decide) (by decide) (by decide) (ad := "[B") (by decide)
  obtain ⟨b1, g1⟩ : ∃ z, z = h0.size := ⟨_, rfl⟩
  rw [← g1] at A1 EA1 st1
  have ge2 : n0 ≤ b1 := Nat.le_trans Z0 (Nat.le_of_eq g1.symm)
  have sz3 : h0.size ≤ b1 := Nat.le_trans K0.1 (Nat.le_of_eq g1.symm)
  refine og st1 ?_
  have f4 : Arv Z h1 b1 k1 .byte (3 : Int32) [(.int (0 : Int32)), (.int (0 : Int32)), (.int (0 : Int32))] (.int (0 : Int32)) := (Arv.new A1 (by decide)).pad (pad_rep [] (.int (0 : Int32)) 3)
  show oG p e below _ (T1.setTop (mkF m 3 #[.val (.ref o0), .val (.int (0 : Int32)), .val (.int (3 : Int32)), .unset, .unset, .unset] [(.ref b1)]))
  refine og (fun _ hr => XS.astoreN X1.here hx rfl (hb hby dc10_3) rfl rfl (l' := #[.val (.ref o0), .val (.int (0 : Int32)), .val (.int (3 : Int32)), .val (.ref b1), .unset, .unset]) rfl (XS.aloadN X1.here hx rfl (hb hby dc10_4) rfl rfl (XS.iloadN X1.here hx rfl (hb hby dc10_5) rfl (XS.aloadN X1.here hx rfl (hb hby dc10_6) rfl rfl (XS.iconst X1.here hx rfl (hb hby dc10_7) (XS.iloadN X1.here hx rfl (hb hby dc10_8) rfl hr)))))) ?_
  show oG p e below _ (T1.setTop (mkF m 9 #[.val (.ref o0), .val (.int (0 : Int32)), .val (.int (3 : Int32)), .val (.ref b1), .unset, .unset] [(.int (3 : Int32)), (.int (0 : Int32)), (.ref b1), (.int (0 : Int32)), (.ref o0)]))
  have f6 := (P1.ext E1)
  have Z7 := (Nat.le_trans Z0 E1.1)
  refine own_cs X1 hx hZ hown (hw _ (own_m 64 rfl)) (hw _ (own_m 65 rfl)) (hw _ (own_m 62 rfl)) (hw _ (own_m 66 rfl)) (by decide) (rm := { frames := 0, cells := 0, slots := 0, locals := 0 }) (rm_compress_13 l Z a0 hw [] o0 b1 y0 y1 y2 kc0 k1 h1 n0 Z7 f6 f4 (Nat.ne_of_lt (Nat.lt_of_lt_of_le P0.lt (Nat.le_of_eq g1.symm))) ge2 hb0 hb1 hb2 hb3 hb4 hb5) (by decide) (W := 0) (by decide) (by decide) (by decide) e1 (by rw [hml]; rfl) (argsL := [(.ref o0), (.int (0 : Int32)), (.ref b1), (.int (0 : Int32)), (.int (3 : Int32))]) (lenOf own_pd6 rfl) (rest := []) rfl rfl (Nat.le_of_eq rfl) (hb hby dc10_9) ?_
  intro _ T5 L5 X5 hQ5
  obtain ⟨rfl, N5q, K5, f5_0⟩ := hQ5
  have N5 := Fr.app N0 N5q
  show oG p e below _ (T5.setTop (mkF m 12 #[.val (.ref o0), .val (.int (0 : Int32)), .val (.int (3 : Int32)), .val (.ref b1), .unset, .unset] [(.int (3 : Int32))]))
  refine og (fun _ hr => XS.istore X5.here hx rfl (hb hby dc10_12) rfl (l' := #[.val (.ref o0), .val (.int (0 : Int32)), .val (.int (3 : Int32)), .val (.ref b1), .val (.int (3 : Int32)), .unset]) rfl (XS.iload X5.here hx rfl (hb hby dc10_14) rfl (XS.iloadN X5.here hx rfl (hb hby dc10_16) rfl (XS.icmpYes X5.here hx rfl (pc0 := 17) (pc' := 57) rfl (hb hby dc10_17) rfl (teq (by decide)).1 (by decide) (by decide) (XS.aloadN X5.here hx rfl (hb hby dc10_57) rfl rfl hr))))) ?_
  show oG p e below _ (T5.setTop (mkF m 58 #[.val (.ref o0), .val (.int (0 : Int32)), .val (.int (3 : Int32)), .val (.ref b1), .val (.int (3 : Int32)), .unset] [(.ref b1)]))
  have f8 := (EA1.keep K5)
  have K9 := ((K0.ext E1).trans K5 (allS (Or.inr sz3) all0))
  exact own_retR X5 hx hlk Bd.returns rfl rfl (hb hby dc10_58) (by decide) (by decide) (by exact ⟨b1, k1, rfl, N5, K9, ge2, sz3, f8, f5_0⟩)
def Q_coderFromArrayLen_15 (Z : State) (h0 : Heap) (n0 : Nat) (v : Option Value) (h : Heap) (L : List Loc) : Prop := v = some (.int (0 : Int32)) ∧ Fr n0 L ∧ h = h0
set_option maxRecDepth 65536 in
set_option maxHeartbeats 40000000 in
theorem rm_coderFromArrayLen_15 (l : Launch) (Z : State) (a0 : Array Value) (hw : ∀ d ∈ tables_1, d.before a0 Z = true) (ws : List Jvm.Cond) (o0 : Addr) (y0 : Int32) (y1 : Int32) (y2 : Int32) (kc0 : ClassId) (h0 : Heap) (n0 : Nat) (Z0 : n0 ≤ h0.size) (P0 : Arv Z h0 o0 kc0 .byte (3 : Int32) [(.int y0), (.int y1), (.int y2)] (.int (0 : Int32))) :
    MetFree l (⟨"java/lang/StringUTF16", "coderFromArrayLen", "([BI)B"⟩ : MethodName) (head1 (Jvm.Cond.code (⟨"java/lang/StringUTF16", "coderFromArrayLen", "([BI)B"⟩ : MethodName) jdk_52_method_15_code 2 (some .byte) :: ws) ({ frames := 0, cells := 0, slots := 0, locals := 0 } : Room)) (fun aA U => aA = #[(.ref o0), (.int (3 : Int32))] ∧ Z.Warmed39 U.vm ∧ U.heap = h0) (fun _ _ _ _ _ => True) (fun _ U o U' => ∃ v L, o = .returned v ∧ Q_coderFromArrayLen_15 Z h0 n0 v U'.heap L ∧ FrameEnd U o U' L ({ frames := 0, cells := 0, slots := 0, locals := 0 } : Room).cells ({ frames := 0, cells := 0, slots := 0, locals := 0 } : Room).slots) := by
  refine MetFree.of_bodySF (plainFor_of_name own_pn_java_lang_StringUTF16) hisR ?_
  intro p e s m args below meth c s₁ Bd hml0 hP hK
  obtain ⟨rfl, hZ, hh⟩ := hP
  have hx := Bd.exec
  have hby := Bd.bytes
  have hlk : meth.locks = false := BodyLoose.notSynchronized Bd
  have hml : c.maxLocals = 2 := hml0
  have hown : s.vm.findClass "java/lang/StringUTF16" = some m.cls := findClass_of_methodNamed Bd.named
  have hnm := (name_of_methodNamed Bd.named Bd.method).1
  have X0 : Stand p l e ({ frames := 0, cells := 0, slots := 0, locals := 0 } : Room) s m #[(.ref o0), (.int (3 : Int32))] below meth c s₁ [] 0 0 := Stand.of_body Bd
  have e0 : s₁.heap = h0 := by rw [← hh, Bd.state]; rfl
  have N0 := Fr.nil n0
  show oG p e below (own_K s (Q_coderFromArrayLen_15 Z h0 n0) ({ frames := 0, cells := 0, slots := 0, locals := 0 } : Room).cells ({ frames := 0, cells := 0, slots := 0, locals := 0 } : Room).slots) (s₁.setTop (entryFrame m #[(.ref o0), (.int (3 : Int32))] 2))
  rw [(by first | (simp [entryFrame, mkF, argsToLocals, Value.category]; done) | rfl : entryFrame m #[(.ref o0), (.int (3 : Int32))] 2 = mkF m 0 #[.val (.ref o0), .val (.int (3 : Int32))] [])]
  show oG p e below _ (s₁.setTop (mkF m 0 #[.val (.ref o0), .val (.int (3 : Int32))] []))
  refine og (fun _ hr => XS.iloadN X0.here hx rfl (hb hby dc12_0) rfl (XS.aloadN X0.here hx rfl (hb hby dc12_1) rfl rfl (own_alen X0 hx hZ e0 P0 rfl rfl (hb hby dc12_2) (XS.isub X0.here hx rfl (hb hby dc12_3) rfl (XS.bipush X0.here hx rfl (hb hby dc12_4) (XS.iushr X0.here hx rfl (hb hby dc12_6) rfl (XS.i2b X0.here hx rfl (hb hby dc12_7) rfl hr))))))) ?_
  show oG p e below _ (s₁.setTop (mkF m 8 #[.val (.ref o0), .val (.int (3 : Int32))] [(.int (0 : Int32))]))
  exact own_retN X0 hx hlk Bd.returns (t := .byte) (by simp) (hb hby dc12_8) (by decide) (by decide) ⟨rfl, N0, e0⟩
def Q_init_16 (Z : State) (o0 : Addr) (y1 : Int32) (y2 : Int32) (y3 : Int32) (h0 : Heap) (n0 : Nat) (v : Option Value) (h : Heap) (L : List Loc) : Prop := (∃ (b3_0 : Addr) (kb3_0 : ClassId), v = none ∧ Fr n0 L ∧ Keep h0 h [o0] ∧ n0 ≤ b3_0 ∧ h0.size ≤ b3_0 ∧ Fld Z h o0 "java/lang/String" "coder" "B" (.int (0 : Int32)) ∧ Fld Z h o0 "java/lang/String" "value" "[B" (.ref b3_0) ∧ Exa Z h b3_0 "[B" ∧ Arv Z h b3_0 kb3_0 .byte (3 : Int32) [(.int (y1.toInt8.toInt32)), (.int (y2.toInt8.toInt32)), (.int (y3.toInt8.toInt32))] (.int (0 : Int32)))
set_option maxRecDepth 65536 in
set_option maxHeartbeats 40000000 in
theorem rm_init_16 (l : Launch) (Z : State) (a0 : Array Value) (hw : ∀ d ∈ tables_1, d.before a0 Z = true) (ws : List Jvm.Cond) (o0 : Addr) (o1 : Addr) (y0 : Int32) (y1 : Int32) (y2 : Int32) (y3 : Int32) (kc0 : ClassId) (h0 : Heap) (n0 : Nat) (Z0 : n0 ≤ h0.size) (P0 : Sta Z h0 "java/lang/String" "COMPACT_STRINGS" "Z" (.int y0)) (P1 : Exa Z h0 o1 "[C") (P2 : Arv Z h0 o1 kc0 .char (3 : Int32) [(.int y1), (.int y2), (.int y3)] (.int (0 : Int32))) (P3 : Exa Z h0 o0 "java/lang/String") (P4 : Fld Z h0 o0 "java/lang/String" "coder" "B" (.int (0 : Int32))) (P5 : Fld Z h0 o0 "java/lang/String" "value" "[B" .null) (ge0p : n0 ≤ o0) (hb0 : ¬ (y0 = (0 : Int32))) (hb1 : ¬ ((255 : Int32) < y1)) (hb2 : (nar .byte (y1.toInt8.toInt32)) = (y1.toInt8.toInt32)) (hb3 : ¬ ((255 : Int32) < y2)) (hb4 : (nar .byte (y2.toInt8.toInt32)) = (y2.toInt8.toInt32)) (hb5 : ¬ ((255 : Int32) < y3)) (hb6 : (nar .byte (y3.toInt8.toInt32)) = (y3.toInt8.toInt32)) :
    MetFree l (⟨"java/lang/String", "<init>", "([CIILjava/lang/Void;)V"⟩ : MethodName) (head1 (Jvm.Cond.code (⟨"java/lang/String", "<init>", "([CIILjava/lang/Void;)V"⟩ : MethodName) jdk_42_method_149_code 6 none :: ws) ({ frames := 2, cells := 1, slots := 3, locals := 35 } : Room)) (fun aA U => aA = #[(.ref o0), (.ref o1), (.int (0 : Int32)), (.int (3 : Int32)), .null] ∧ Z.Warmed39 U.vm ∧ U.heap = h0) (fun _ _ _ _ _ => True) (fun _ U o U' => ∃ v L, o = .returned v ∧ Q_init_16 Z o0 y1 y2 y3 h0 n0 v U'.heap L ∧ FrameEnd U o U' L ({ frames := 2, cells := 1, slots := 3, locals := 35 } : Room).cells ({ frames := 2, cells := 1, slots := 3, locals := 35 } : Room).slots) := by
  refine MetFree.of_bodySF (plainFor_of_name own_pn_java_lang_String) hisR ?_
  intro p e s m args below meth c s₁ Bd hml0 hP hK
  obtain ⟨rfl, hZ, hh⟩ := hP
  have hx := Bd.exec
  have hby := Bd.bytes
  have hlk : meth.locks = false := BodyLoose.notSynchronized Bd
  have hml : c.maxLocals = 6 := hml0
  have hown : s.vm.findClass "java/lang/String" = some m.cls := findClass_of_methodNamed Bd.named
  have hnm := (name_of_methodNamed Bd.named Bd.method).1
  have X0 : Stand p l e ({ frames := 2, cells := 1, slots := 3, locals := 35 } : Room) s m #[(.ref o0), (.ref o1), (.int (0 : Int32)), (.int (3 : Int32)), .null] below meth c s₁ [] 0 0 := Stand.of_body Bd
  have e0 : s₁.heap = h0 := by rw [← hh, Bd.state]; rfl
  have N0 := Fr.nil n0
  have K0 : Keep h0 h0 [o0] := Keep.refl _ _
  show oG p e below (own_K s (Q_init_16 Z o0 y1 y2 y3 h0 n0) ({ frames := 2, cells := 1, slots := 3, locals := 35 } : Room).cells ({ frames := 2, cells := 1, slots := 3, locals := 35 } : Room).slots) (s₁.setTop (entryFrame m #[(.ref o0), (.ref o1), (.int (0 : Int32)), (.int (3 : Int32)), .null] 6))
  rw [(by first | (simp [entryFrame, mkF, argsToLocals, Value.category]; done) | rfl : entryFrame m #[(.ref o0), (.ref o1), (.int (0 : Int32)), (.int (3 : Int32)), .null] 6 = mkF m 0 #[.val (.ref o0), .val (.ref o1), .val (.int (0 : Int32)), .val (.int (3 : Int32)), .val .null, .unset] [])]
  show oG p e below _ (s₁.setTop (mkF m 0 #[.val (.ref o0), .val (.ref o1), .val (.int (0 : Int32)), .val (.int (3 : Int32)), .val .null, .unset] []))
  refine og (fun _ hr => XS.aloadN X0.here hx rfl (hb hby dc4_0) rfl rfl hr) ?_
  show oG p e below _ (s₁.setTop (mkF m 1 #[.val (.ref o0), .val (.ref o1), .val (.int (0 : Int32)), .val (.int (3 : Int32)), .val .null, .unset] [(.ref o0)]))
  obtain ⟨T1, X1, e1, st1⟩ := initO X0 hx hZ hown (hw _ (own_m 25 rfl)) (hw _ (own_m 26 rfl)) (hw _ (own_m 27 rfl)) e0 (g := (mkF m 1 #[.val (.ref o0), .val (.ref o1), .val (.int (0 : Int32)), .val (.int (3 : Int32)), .val .null, .unset] [(.ref o0)])) rfl (by rw [hml]; rfl) rfl (hb hby dc4_1) (by decide) (W := 0) (by show 2 * 0 + _ ≤ _; exact Nat.le_of_eq rfl) (by decide)
  refine og st1 ?_
  show oG p e below _ (T1.setTop (mkF m 4 #[.val (.ref o0), .val (.ref o1), .val (.int (0 : Int32)), .val (.int (3 : Int32)), .val .null, .unset] []))
  refine og (fun _ hr => XS.iloadN X1.here hx rfl (hb hby dc4_4) rfl (XS.ifYes X1.here hx rfl (pc0 := 5) (pc' := 27) rfl (hb hby dc4_5) rfl ((if0 _ _).trans (feq (by decide)).2) (by decide) (by decide) hr)) ?_
  show oG p e below _ (T1.setTop (mkF m 27 #[.val (.ref o0), .val (.ref o1), .val (.int (0 : Int32)), .val (.int (3 : Int32)), .val .null, .unset] []))
  obtain ⟨T2, X2, e2, st2⟩ := getS2 X1 hx hZ hown (host := "") (Or.inl (hw _ (own_m 59 rfl))) Via.refl e1 P0 (g := (mkF m 27 #[.val (.ref o0), .val (.ref o1), .val (.int (0 : Int32)), .val (.int (3 : Int32)), .val .null, .unset] [])) rfl (hb hby dc4_27)
  refine og st2 ?_
  show oG p e below _ (T2.setTop (mkF m 30 #[.val (.ref o0), .val (.ref o1), .val (.int (0 : Int32)), .val (.int (3 : Int32)), .val .null, .unset] [(.int y0)]))
  refine og (fun _ hr => XS.ifNo X2.here hx rfl (hb hby dc4_30) rfl ((if0 _ _).trans (feq hb0).1) hr) ?_
  show oG p e below _ (T2.setTop (mkF m 33 #[.val (.ref o0), .val (.ref o1), .val (.int (0 : Int32)), .val (.int (3 : Int32)), .val .null, .unset] []))
  refine og (fun _ hr => XS.aloadN X2.here hx rfl (hb hby dc4_33) rfl rfl (XS.iloadN X2.here hx rfl (hb hby dc4_34) rfl (XS.iloadN X2.here hx rfl (hb hby dc4_35) rfl hr))) ?_
  show oG p e below _ (T2.setTop (mkF m 36 #[.val (.ref o0), .val (.ref o1), .val (.int (0 : Int32)), .val (.int (3 : Int32)), .val .null, .unset] [(.int (3 : Int32)), (.int (0 : Int32)), (.ref o1)]))
  refine own_cs X2 hx hZ hown (hw _ (own_m 60 rfl)) (hw _ (own_m 61 rfl)) (hw _ (own_m 62 rfl)) (hw _ (own_m 63 rfl)) (by decide) (rm := { frames := 1, cells := 1, slots := 3, locals := 18 }) (rm_compress_14 l Z a0 hw [] o1 y1 y2 y3 kc0 h0 n0 Z0 P1 P2 hb1 hb2 hb3 hb4 hb5 hb6) (by decide) (W := 0) (by decide) (by decide) (by decide) e2 (by rw [hml]; rfl) (argsL := [(.ref o1), (.int (0 : Int32)), (.int (3 : Int32))]) (lenOf own_pd7 rfl) (rest := []) rfl rfl (Nat.le_of_eq rfl) (hb hby dc4_36) ?_
  intro _ T3 L3 X3 hQ3
  obtain ⟨b3_0, kb3_0, rfl, N3q, K3, ge3_0, sz3_0, f3_0, f3_1⟩ := hQ3
  have N3 := Fr.app N0 N3q
  have sz4 : h0.size ≤ b3_0 := Nat.le_trans K0.1 sz3_0
  show oG p e below _ (T3.setTop (mkF m 39 #[.val (.ref o0), .val (.ref o1), .val (.int (0 : Int32)), .val (.int (3 : Int32)), .val .null, .unset] [(.ref b3_0)]))
  refine og (fun _ hr => XS.astore X3.here hx rfl (hb hby dc4_39) rfl rfl (l' := #[.val (.ref o0), .val (.ref o1), .val (.int (0 : Int32)), .val (.int (3 : Int32)), .val .null, .val (.ref b3_0)]) rfl (XS.aloadN X3.here hx rfl (hb hby dc4_41) rfl rfl (XS.aload X3.here hx rfl (hb hby dc4_42) rfl rfl (XS.iloadN X3.here hx rfl (hb hby dc4_44) rfl hr)))) ?_
  show oG p e below _ (T3.setTop (mkF m 45 #[.val (.ref o0), .val (.ref o1), .val (.int (0 : Int32)), .val (.int (3 : Int32)), .val .null, .val (.ref b3_0)] [(.int (3 : Int32)), (.ref b3_0), (.ref o0)]))
  have Z6 := (Nat.le_trans Z0 K3.1)
  refine own_cs X3 hx hZ hown (hw _ (own_m 67 rfl)) (hw _ (own_m 68 rfl)) (hw _ (own_m 62 rfl)) (hw _ (own_m 69 rfl)) (by decide) (rm := { frames := 0, cells := 0, slots := 0, locals := 0 }) (rm_coderFromArrayLen_15 l Z a0 hw [] b3_0 (y1.toInt8.toInt32) (y2.toInt8.toInt32) (y3.toInt8.toInt32) kb3_0 T3.heap n0 Z6 f3_1) (by decide) (W := 1) (by decide) (by decide) (by decide) rfl (by rw [hml]; rfl) (argsL := [(.ref b3_0), (.int (3 : Int32))]) (lenOf own_pd8 rfl) (rest := [(.ref o0)]) rfl rfl (Nat.le_of_eq rfl) (hb hby dc4_45) ?_
  intro _ T5 L5 X5 hQ5
  obtain ⟨rfl, N5q, e5⟩ := hQ5
  have N5 := Fr.app N3 N5q
  show oG p e below _ (T5.setTop (mkF m 48 #[.val (.ref o0), .val (.ref o1), .val (.int (0 : Int32)), .val (.int (3 : Int32)), .val .null, .val (.ref b3_0)] [(.int (0 : Int32)), (.ref o0)]))
  have f7 := (P3.keep K3)
  have f8 := (P4.keep K3 nin0)
  obtain ⟨T9, h9, X9, e9, W9, st9⟩ := putFN X5 hx hZ hown (hw _ (own_m 30 rfl)) Via.refl e5 f8 f7 (Or.inr ⟨(hw _ (own_m 11 rfl)), rfl, hnm⟩) (hw _ (own_m 8 rfl)) (ty := .byte) (v' := .int (0 : Int32)) (by decide) rfl (by decide) (g := (mkF m 48 #[.val (.ref o0), .val (.ref o1), .val (.int (0 : Int32)), .val (.int (3 : Int32)), .val .null, .val (.ref b3_0)] [(.int (0 : Int32)), (.ref o0)])) rfl rfl (hb hby dc4_48)
  refine og st9 ?_
  have f10 := f8.same W9
  have N11 := Fr.snoc X9 N5 ge0p
  show oG p e below _ (T9.setTop (mkF m 51 #[.val (.ref o0), .val (.ref o1), .val (.int (0 : Int32)), .val (.int (3 : Int32)), .val .null, .val (.ref b3_0)] []))
  refine og (fun _ hr => XS.aloadN X9.here hx rfl (hb hby dc4_51) rfl rfl (XS.aload X9.here hx rfl (hb hby dc4_52) rfl rfl hr)) ?_
  show oG p e below _ (T9.setTop (mkF m 54 #[.val (.ref o0), .val (.ref o1), .val (.int (0 : Int32)), .val (.int (3 : Int32)), .val .null, .val (.ref b3_0)] [(.ref b3_0), (.ref o0)]))
  have f12 := (f7.wr W9)
  have f13 := ((P5.keep K3 nin0).other W9 (Or.inr (slot_ne (Or.inr (hw _ (own_m 10 rfl))) (Or.inr (hw _ (own_m 11 rfl))) (by decide) (t := (.array .byte)) (t' := .byte) (by decide) (by decide))))
  obtain ⟨T14, h14, X14, e14, W14, st14⟩ := putF X9 hx hZ hown (host := "") (Or.inl (hw _ (own_m 29 rfl))) Via.refl e9 f13 f12 (Or.inr ⟨(hw _ (own_m 10 rfl)), rfl, hnm⟩) (hw _ (own_m 8 rfl)) (ty := (.array .byte)) (by decide) rfl rfl (g := (mkF m 54 #[.val (.ref o0), .val (.ref o1), .val (.int (0 : Int32)), .val (.int (3 : Int32)), .val .null, .val (.ref b3_0)] [(.ref b3_0), (.ref o0)])) rfl rfl (hb hby dc4_54)
  refine og st14 ?_
  have f15 := f13.same W14
  have N16 := Fr.snoc X14 N11 ge0p
  show oG p e below _ (T14.setTop (mkF m 57 #[.val (.ref o0), .val (.ref o1), .val (.int (0 : Int32)), .val (.int (3 : Int32)), .val .null, .val (.ref b3_0)] []))
  have f17 := (f10.other W14 (Or.inr (slot_ne (Or.inr (hw _ (own_m 11 rfl))) (Or.inr (hw _ (own_m 10 rfl))) (by decide) (t := .byte) (t' := (.array .byte)) (by decide) (by decide))))
  have f18 := ((f3_0.wr W9).wr W14)
  have f19 := ((f3_1.other W9 (Ne.symm (Nat.ne_of_lt (Nat.lt_of_lt_of_le P3.lt sz3_0)))).other W14 (Ne.symm (Nat.ne_of_lt (Nat.lt_of_lt_of_le P3.lt sz3_0))))
  have K20 := (((K0.trans K3 all0).wr W9 (Or.inl (List.mem_of_getElem? (i := 0) rfl))).wr W14 (Or.inl (List.mem_of_getElem? (i := 0) rfl)))
  exact own_ret0 X14 hx hlk Bd.returns (hb hby dc4_57) (by decide) (by decide) (by rw [e14]; exact ⟨b3_0, kb3_0, rfl, N16, K20, ge3_0, sz4, f17, f15, f18, f19⟩)
def Q_compress_18 (Z : State) (y0 : Int32) (y1 : Int32) (y2 : Int32) (h0 : Heap) (n0 : Nat) (v : Option Value) (h : Heap) (L : List Loc) : Prop := (∃ (b1 : Addr) (k1 : ClassId), v = some (.ref b1) ∧ Fr n0 L ∧ Keep h0 h [] ∧ n0 ≤ b1 ∧ h0.size ≤ b1 ∧ Exa Z h b1 "[B" ∧ Arv Z h b1 k1 .byte (3 : Int32) [(.int (y0.toInt8.toInt32)), (.int (y1.toInt8.toInt32)), (.int (y2.toInt8.toInt32))] (.int (0 : Int32)))
set_option maxRecDepth 65536 in
set_option maxHeartbeats 40000000 in
theorem rm_compress_18 (l : Launch) (Z : State) (a0 : Array Value) (hw : ∀ d ∈ tables_1, d.before a0 Z = true) (ws : List Jvm.Cond) (o0 : Addr) (y0 : Int32) (y1 : Int32) (y2 : Int32) (kc0 : ClassId) (h0 : Heap) (n0 : Nat) (Z0 : n0 ≤ h0.size) (P0 : Arv Z h0 o0 kc0 .char (3 : Int32) [(.int y0), (.int y1), (.int y2)] (.int (0 : Int32))) (hb0 : ¬ ((255 : Int32) < y0)) (hb1 : (nar .byte (y0.toInt8.toInt32)) = (y0.toInt8.toInt32)) (hb2 : ¬ ((255 : Int32) < y1)) (hb3 : (nar .byte (y1.toInt8.toInt32)) = (y1.toInt8.toInt32)) (hb4 : ¬ ((255 : Int32) < y2)) (hb5 : (nar .byte (y2.toInt8.toInt32)) = (y2.toInt8.toInt32)) :
    MetFree l (⟨"java/lang/StringUTF16", "compress", "([CII)[B"⟩ : MethodName) (head1 (Jvm.Cond.code (⟨"java/lang/StringUTF16", "compress", "([CII)[B"⟩ : MethodName) jdk_52_method_16_code 6 (some (.array .byte)) :: ws) ({ frames := 1, cells := 1, slots := 3, locals := 18 } : Room)) (fun aA U => aA = #[(.ref o0), (.int (0 : Int32)), (.int (3 : Int32))] ∧ Z.Warmed39 U.vm ∧ U.heap = h0) (fun _ _ _ _ _ => True) (fun _ U o U' => ∃ v L, o = .returned v ∧ Q_compress_18 Z y0 y1 y2 h0 n0 v U'.heap L ∧ FrameEnd U o U' L ({ frames := 1, cells := 1, slots := 3, locals := 18 } : Room).cells ({ frames := 1, cells := 1, slots := 3, locals := 18 } : Room).slots) := by
  refine MetFree.of_bodySF (plainFor_of_name own_pn_java_lang_StringUTF16) hisR ?_
  intro p e s m args below meth c s₁ Bd hml0 hP hK
  obtain ⟨rfl, hZ, hh⟩ := hP
  have hx := Bd.exec
  have hby := Bd.bytes
  have hlk : meth.locks = false := BodyLoose.notSynchronized Bd
  have hml : c.maxLocals = 6 := hml0
  have hown : s.vm.findClass "java/lang/StringUTF16" = some m.cls := findClass_of_methodNamed Bd.named
  have hnm := (name_of_methodNamed Bd.named Bd.method).1
  have X0 : Stand p l e ({ frames := 1, cells := 1, slots := 3, locals := 18 } : Room) s m #[(.ref o0), (.int (0 : Int32)), (.int (3 : Int32))] below meth c s₁ [] 0 0 := Stand.of_body Bd
  have e0 : s₁.heap = h0 := by rw [← hh, Bd.state]; rfl
  have N0 := Fr.nil n0
  have K0 : Keep h0 h0 [] := Keep.refl _ _
  show oG p e below (own_K s (Q_compress_18 Z y0 y1 y2 h0 n0) ({ frames := 1, cells := 1, slots := 3, locals := 18 } : Room).cells ({ frames := 1, cells := 1, slots := 3, locals := 18 } : Room).slots) (s₁.setTop (entryFrame m #[(.ref o0), (.int (0 : Int32)), (.int (3 : Int32))] 6))
  rw [(by first | (simp [entryFrame, mkF, argsToLocals, Value.category]; done) | rfl : entryFrame m #[(.ref o0), (.int (0 : Int32)), (.int (3 : Int32))] 6 = mkF m 0 #[.val (.ref o0), .val (.int (0 : Int32)), .val (.int (3 : Int32)), .unset, .unset, .unset] [])]
  show oG p e below _ (s₁.setTop (mkF m 0 #[.val (.ref o0), .val (.int (0 : Int32)), .val (.int (3 : Int32)), .unset, .unset, .unset] []))
  refine og (fun _ hr => XS.iloadN X0.here hx rfl (hb hby dc10_0) rfl hr) ?_
  show oG p e below _ (s₁.setTop (mkF m 1 #[.val (.ref o0), .val (.int (0 : Int32)), .val (.int (3 : Int32)), .unset, .unset, .unset] [(.int (3 : Int32))]))
  obtain ⟨T1, h1, k1, X1, e1, E1, A1, EA1, st1⟩ := newPE X0 hx hZ (hw _ (own_m 9 rfl)) e0 (g := (mkF m 1 #[.val (.ref o0), .val (.int (0 : Int32)), .val (.int (3 : Int32)), .unset, .unset, .unset] [(.int (3 : Int32))])) rfl (hb hby dc10_1) rfl (by decide) (cap := 3) (by decide) (by decide) (by decide) (by decide) (ad := "[B") (by decide)
  obtain ⟨b1, g1⟩ : ∃ z, z = h0.size := ⟨_, rfl⟩
  rw [← g1] at A1 EA1 st1
  have ge2 : n0 ≤ b1 := Nat.le_trans Z0 (Nat.le_of_eq g1.symm)
  have sz3 : h0.size ≤ b1 := Nat.le_trans K0.1 (Nat.le_of_eq g1.symm)
  refine og st1 ?_
  have f4 : Arv Z h1 b1 k1 .byte (3 : Int32) [(.int (0 : Int32)), (.int (0 : Int32)), (.int (0 : Int32))] (.int (0 : Int32)) := (Arv.new A1 (by decide)).pad (pad_rep [] (.int (0 : Int32)) 3)
  show oG p e below _ (T1.setTop (mkF m 3 #[.val (.ref o0), .val (.int (0 : Int32)), .val (.int (3 : Int32)), .unset, .unset, .unset] [(.ref b1)]))
  refine og (fun _ hr => XS.astoreN X1.here hx rfl (hb hby dc10_3) rfl rfl (l' := #[.val (.ref o0), .val (.int (0 : Int32)), .val (.int (3 : Int32)), .val (.ref b1), .unset, .unset]) rfl (XS.aloadN X1.here hx rfl (hb hby dc10_4) rfl rfl (XS.iloadN X1.here hx rfl (hb hby dc10_5) rfl (XS.aloadN X1.here hx rfl (hb hby dc10_6) rfl rfl (XS.iconst X1.here hx rfl (hb hby dc10_7) (XS.iloadN X1.here hx rfl (hb hby dc10_8) rfl hr)))))) ?_
  show oG p e below _ (T1.setTop (mkF m 9 #[.val (.ref o0), .val (.int (0 : Int32)), .val (.int (3 : Int32)), .val (.ref b1), .unset, .unset] [(.int (3 : Int32)), (.int (0 : Int32)), (.ref b1), (.int (0 : Int32)), (.ref o0)]))
  have f6 := (P0.ext E1)
  have Z7 := (Nat.le_trans Z0 E1.1)
  refine own_cs X1 hx hZ hown (hw _ (own_m 64 rfl)) (hw _ (own_m 65 rfl)) (hw _ (own_m 62 rfl)) (hw _ (own_m 66 rfl)) (by decide) (rm := { frames := 0, cells := 0, slots := 0, locals := 0 }) (rm_compress_13 l Z a0 hw [] o0 b1 y0 y1 y2 kc0 k1 h1 n0 Z7 f6 f4 (Nat.ne_of_lt (Nat.lt_of_lt_of_le P0.lt (Nat.le_of_eq g1.symm))) ge2 hb0 hb1 hb2 hb3 hb4 hb5) (by decide) (W := 0) (by decide) (by decide) (by decide) e1 (by rw [hml]; rfl) (argsL := [(.ref o0), (.int (0 : Int32)), (.ref b1), (.int (0 : Int32)), (.int (3 : Int32))]) (lenOf own_pd6 rfl) (rest := []) rfl rfl (Nat.le_of_eq rfl) (hb hby dc10_9) ?_
  intro _ T5 L5 X5 hQ5
  obtain ⟨rfl, N5q, K5, f5_0⟩ := hQ5
  have N5 := Fr.app N0 N5q
  show oG p e below _ (T5.setTop (mkF m 12 #[.val (.ref o0), .val (.int (0 : Int32)), .val (.int (3 : Int32)), .val (.ref b1), .unset, .unset] [(.int (3 : Int32))]))
  refine og (fun _ hr => XS.istore X5.here hx rfl (hb hby dc10_12) rfl (l' := #[.val (.ref o0), .val (.int (0 : Int32)), .val (.int (3 : Int32)), .val (.ref b1), .val (.int (3 : Int32)), .unset]) rfl (XS.iload X5.here hx rfl (hb hby dc10_14) rfl (XS.iloadN X5.here hx rfl (hb hby dc10_16) rfl (XS.icmpYes X5.here hx rfl (pc0 := 17) (pc' := 57) rfl (hb hby dc10_17) rfl (teq (by decide)).1 (by decide) (by decide) (XS.aloadN X5.here hx rfl (hb hby dc10_57) rfl rfl hr))))) ?_
  show oG p e below _ (T5.setTop (mkF m 58 #[.val (.ref o0), .val (.int (0 : Int32)), .val (.int (3 : Int32)), .val (.ref b1), .val (.int (3 : Int32)), .unset] [(.ref b1)]))
  have f8 := (EA1.keep K5)
  have K9 := ((K0.ext E1).trans K5 (allS (Or.inr sz3) all0))
  exact own_retR X5 hx hlk Bd.returns rfl rfl (hb hby dc10_58) (by decide) (by decide) (by exact ⟨b1, k1, rfl, N5, K9, ge2, sz3, f8, f5_0⟩)
def Q_init_19 (Z : State) (o0 : Addr) (y1 : Int32) (y2 : Int32) (y3 : Int32) (h0 : Heap) (n0 : Nat) (v : Option Value) (h : Heap) (L : List Loc) : Prop := (∃ (b3_0 : Addr) (kb3_0 : ClassId), v = none ∧ Fr n0 L ∧ Keep h0 h [o0] ∧ n0 ≤ b3_0 ∧ h0.size ≤ b3_0 ∧ Fld Z h o0 "java/lang/String" "coder" "B" (.int (0 : Int32)) ∧ Fld Z h o0 "java/lang/String" "value" "[B" (.ref b3_0) ∧ Exa Z h b3_0 "[B" ∧ Arv Z h b3_0 kb3_0 .byte (3 : Int32) [(.int (y1.toInt8.toInt32)), (.int (y2.toInt8.toInt32)), (.int (y3.toInt8.toInt32))] (.int (0 : Int32)))
set_option maxRecDepth 65536 in
set_option maxHeartbeats 40000000 in
theorem rm_init_19 (l : Launch) (Z : State) (a0 : Array Value) (hw : ∀ d ∈ tables_1, d.before a0 Z = true) (ws : List Jvm.Cond) (o0 : Addr) (o1 : Addr) (y0 : Int32) (y1 : Int32) (y2 : Int32) (y3 : Int32) (kc0 : ClassId) (h0 : Heap) (n0 : Nat) (Z0 : n0 ≤ h0.size) (P0 : Sta Z h0 "java/lang/String" "COMPACT_STRINGS" "Z" (.int y0)) (P1 : Arv Z h0 o1 kc0 .char (3 : Int32) [(.int y1), (.int y2), (.int y3)] (.int (0 : Int32))) (P2 : Exa Z h0 o0 "java/lang/String") (P3 : Fld Z h0 o0 "java/lang/String" "coder" "B" (.int (0 : Int32))) (P4 : Fld Z h0 o0 "java/lang/String" "value" "[B" .null) (ge0p : n0 ≤ o0) (hb0 : ¬ (y0 = (0 : Int32))) (hb1 : ¬ ((255 : Int32) < y1)) (hb2 : (nar .byte (y1.toInt8.toInt32)) = (y1.toInt8.toInt32)) (hb3 : ¬ ((255 : Int32) < y2)) (hb4 : (nar .byte (y2.toInt8.toInt32)) = (y2.toInt8.toInt32)) (hb5 : ¬ ((255 : Int32) < y3)) (hb6 : (nar .byte (y3.toInt8.toInt32)) = (y3.toInt8.toInt32)) :
    MetFree l (⟨"java/lang/String", "<init>", "([CIILjava/lang/Void;)V"⟩ : MethodName) (head1 (Jvm.Cond.code (⟨"java/lang/String", "<init>", "([CIILjava/lang/Void;)V"⟩ : MethodName) jdk_42_method_149_code 6 none :: ws) ({ frames := 2, cells := 1, slots := 3, locals := 35 } : Room)) (fun aA U => aA = #[(.ref o0), (.ref o1), (.int (0 : Int32)), (.int (3 : Int32)), .null] ∧ Z.Warmed39 U.vm ∧ U.heap = h0) (fun _ _ _ _ _ => True) (fun _ U o U' => ∃ v L, o = .returned v ∧ Q_init_19 Z o0 y1 y2 y3 h0 n0 v U'.heap L ∧ FrameEnd U o U' L ({ frames := 2, cells := 1, slots := 3, locals := 35 } : Room).cells ({ frames := 2, cells := 1, slots := 3, locals := 35 } : Room).slots) := by
  refine MetFree.of_bodySF (plainFor_of_name own_pn_java_lang_String) hisR ?_
  intro p e s m args below meth c s₁ Bd hml0 hP hK
  obtain ⟨rfl, hZ, hh⟩ := hP
  have hx := Bd.exec
  have hby := Bd.bytes
  have hlk : meth.locks = false := BodyLoose.notSynchronized Bd
  have hml : c.maxLocals = 6 := hml0
  have hown : s.vm.findClass "java/lang/String" = some m.cls := findClass_of_methodNamed Bd.named
  have hnm := (name_of_methodNamed Bd.named Bd.method).1
  have X0 : Stand p l e ({ frames := 2, cells := 1, slots := 3, locals := 35 } : Room) s m #[(.ref o0), (.ref o1), (.int (0 : Int32)), (.int (3 : Int32)), .null] below meth c s₁ [] 0 0 := Stand.of_body Bd
  have e0 : s₁.heap = h0 := by rw [← hh, Bd.state]; rfl
  have N0 := Fr.nil n0
  have K0 : Keep h0 h0 [o0] := Keep.refl _ _
  show oG p e below (own_K s (Q_init_19 Z o0 y1 y2 y3 h0 n0) ({ frames := 2, cells := 1, slots := 3, locals := 35 } : Room).cells ({ frames := 2, cells := 1, slots := 3, locals := 35 } : Room).slots) (s₁.setTop (entryFrame m #[(.ref o0), (.ref o1), (.int (0 : Int32)), (.int (3 : Int32)), .null] 6))
  rw [(by first | (simp [entryFrame, mkF, argsToLocals, Value.category]; done) | rfl : entryFrame m #[(.ref o0), (.ref o1), (.int (0 : Int32)), (.int (3 : Int32)), .null] 6 = mkF m 0 #[.val (.ref o0), .val (.ref o1), .val (.int (0 : Int32)), .val (.int (3 : Int32)), .val .null, .unset] [])]
  show oG p e below _ (s₁.setTop (mkF m 0 #[.val (.ref o0), .val (.ref o1), .val (.int (0 : Int32)), .val (.int (3 : Int32)), .val .null, .unset] []))
  refine og (fun _ hr => XS.aloadN X0.here hx rfl (hb hby dc4_0) rfl rfl hr) ?_
  show oG p e below _ (s₁.setTop (mkF m 1 #[.val (.ref o0), .val (.ref o1), .val (.int (0 : Int32)), .val (.int (3 : Int32)), .val .null, .unset] [(.ref o0)]))
  obtain ⟨T1, X1, e1, st1⟩ := initO X0 hx hZ hown (hw _ (own_m 25 rfl)) (hw _ (own_m 26 rfl)) (hw _ (own_m 27 rfl)) e0 (g := (mkF m 1 #[.val (.ref o0), .val (.ref o1), .val (.int (0 : Int32)), .val (.int (3 : Int32)), .val .null, .unset] [(.ref o0)])) rfl (by rw [hml]; rfl) rfl (hb hby dc4_1) (by decide) (W := 0) (by show 2 * 0 + _ ≤ _; exact Nat.le_of_eq rfl) (by decide)
  refine og st1 ?_
  show oG p e below _ (T1.setTop (mkF m 4 #[.val (.ref o0), .val (.ref o1), .val (.int (0 : Int32)), .val (.int (3 : Int32)), .val .null, .unset] []))
  refine og (fun _ hr => XS.iloadN X1.here hx rfl (hb hby dc4_4) rfl (XS.ifYes X1.here hx rfl (pc0 := 5) (pc' := 27) rfl (hb hby dc4_5) rfl ((if0 _ _).trans (feq (by decide)).2) (by decide) (by decide) hr)) ?_
  show oG p e below _ (T1.setTop (mkF m 27 #[.val (.ref o0), .val (.ref o1), .val (.int (0 : Int32)), .val (.int (3 : Int32)), .val .null, .unset] []))
  obtain ⟨T2, X2, e2, st2⟩ := getS2 X1 hx hZ hown (host := "") (Or.inl (hw _ (own_m 59 rfl))) Via.refl e1 P0 (g := (mkF m 27 #[.val (.ref o0), .val (.ref o1), .val (.int (0 : Int32)), .val (.int (3 : Int32)), .val .null, .unset] [])) rfl (hb hby dc4_27)
  refine og st2 ?_
  show oG p e below _ (T2.setTop (mkF m 30 #[.val (.ref o0), .val (.ref o1), .val (.int (0 : Int32)), .val (.int (3 : Int32)), .val .null, .unset] [(.int y0)]))
  refine og (fun _ hr => XS.ifNo X2.here hx rfl (hb hby dc4_30) rfl ((if0 _ _).trans (feq hb0).1) hr) ?_
  show oG p e below _ (T2.setTop (mkF m 33 #[.val (.ref o0), .val (.ref o1), .val (.int (0 : Int32)), .val (.int (3 : Int32)), .val .null, .unset] []))
  refine og (fun _ hr => XS.aloadN X2.here hx rfl (hb hby dc4_33) rfl rfl (XS.iloadN X2.here hx rfl (hb hby dc4_34) rfl (XS.iloadN X2.here hx rfl (hb hby dc4_35) rfl hr))) ?_
  show oG p e below _ (T2.setTop (mkF m 36 #[.val (.ref o0), .val (.ref o1), .val (.int (0 : Int32)), .val (.int (3 : Int32)), .val .null, .unset] [(.int (3 : Int32)), (.int (0 : Int32)), (.ref o1)]))
  refine own_cs X2 hx hZ hown (hw _ (own_m 60 rfl)) (hw _ (own_m 61 rfl)) (hw _ (own_m 62 rfl)) (hw _ (own_m 63 rfl)) (by decide) (rm := { frames := 1, cells := 1, slots := 3, locals := 18 }) (rm_compress_18 l Z a0 hw [] o1 y1 y2 y3 kc0 h0 n0 Z0 P1 hb1 hb2 hb3 hb4 hb5 hb6) (by decide) (W := 0) (by decide) (by decide) (by decide) e2 (by rw [hml]; rfl) (argsL := [(.ref o1), (.int (0 : Int32)), (.int (3 : Int32))]) (lenOf own_pd7 rfl) (rest := []) rfl rfl (Nat.le_of_eq rfl) (hb hby dc4_36) ?_
  intro _ T3 L3 X3 hQ3
  obtain ⟨b3_0, kb3_0, rfl, N3q, K3, ge3_0, sz3_0, f3_0, f3_1⟩ := hQ3
  have N3 := Fr.app N0 N3q
  have sz4 : h0.size ≤ b3_0 := Nat.le_trans K0.1 sz3_0
  show oG p e below _ (T3.setTop (mkF m 39 #[.val (.ref o0), .val (.ref o1), .val (.int (0 : Int32)), .val (.int (3 : Int32)), .val .null, .unset] [(.ref b3_0)]))
  refine og (fun _ hr => XS.astore X3.here hx rfl (hb hby dc4_39) rfl rfl (l' := #[.val (.ref o0), .val (.ref o1), .val (.int (0 : Int32)), .val (.int (3 : Int32)), .val .null, .val (.ref b3_0)]) rfl (XS.aloadN X3.here hx rfl (hb hby dc4_41) rfl rfl (XS.aload X3.here hx rfl (hb hby dc4_42) rfl rfl (XS.iloadN X3.here hx rfl (hb hby dc4_44) rfl hr)))) ?_
  show oG p e below _ (T3.setTop (mkF m 45 #[.val (.ref o0), .val (.ref o1), .val (.int (0 : Int32)), .val (.int (3 : Int32)), .val .null, .val (.ref b3_0)] [(.int (3 : Int32)), (.ref b3_0), (.ref o0)]))
  have Z6 := (Nat.le_trans Z0 K3.1)
  refine own_cs X3 hx hZ hown (hw _ (own_m 67 rfl)) (hw _ (own_m 68 rfl)) (hw _ (own_m 62 rfl)) (hw _ (own_m 69 rfl)) (by decide) (rm := { frames := 0, cells := 0, slots := 0, locals := 0 }) (rm_coderFromArrayLen_15 l Z a0 hw [] b3_0 (y1.toInt8.toInt32) (y2.toInt8.toInt32) (y3.toInt8.toInt32) kb3_0 T3.heap n0 Z6 f3_1) (by decide) (W := 1) (by decide) (by decide) (by decide) rfl (by rw [hml]; rfl) (argsL := [(.ref b3_0), (.int (3 : Int32))]) (lenOf own_pd8 rfl) (rest := [(.ref o0)]) rfl rfl (Nat.le_of_eq rfl) (hb hby dc4_45) ?_
  intro _ T5 L5 X5 hQ5
  obtain ⟨rfl, N5q, e5⟩ := hQ5
  have N5 := Fr.app N3 N5q
  show oG p e below _ (T5.setTop (mkF m 48 #[.val (.ref o0), .val (.ref o1), .val (.int (0 : Int32)), .val (.int (3 : Int32)), .val .null, .val (.ref b3_0)] [(.int (0 : Int32)), (.ref o0)]))
  have f7 := (P2.keep K3)
  have f8 := (P3.keep K3 nin0)
  obtain ⟨T9, h9, X9, e9, W9, st9⟩ := putFN X5 hx hZ hown (hw _ (own_m 30 rfl)) Via.refl e5 f8 f7 (Or.inr ⟨(hw _ (own_m 11 rfl)), rfl, hnm⟩) (hw _ (own_m 8 rfl)) (ty := .byte) (v' := .int (0 : Int32)) (by decide) rfl (by decide) (g := (mkF m 48 #[.val (.ref o0), .val (.ref o1), .val (.int (0 : Int32)), .val (.int (3 : Int32)), .val .null, .val (.ref b3_0)] [(.int (0 : Int32)), (.ref o0)])) rfl rfl (hb hby dc4_48)
  refine og st9 ?_
  have f10 := f8.same W9
  have N11 := Fr.snoc X9 N5 ge0p
  show oG p e below _ (T9.setTop (mkF m 51 #[.val (.ref o0), .val (.ref o1), .val (.int (0 : Int32)), .val (.int (3 : Int32)), .val .null, .val (.ref b3_0)] []))
  refine og (fun _ hr => XS.aloadN X9.here hx rfl (hb hby dc4_51) rfl rfl (XS.aload X9.here hx rfl (hb hby dc4_52) rfl rfl hr)) ?_
  show oG p e below _ (T9.setTop (mkF m 54 #[.val (.ref o0), .val (.ref o1), .val (.int (0 : Int32)), .val (.int (3 : Int32)), .val .null, .val (.ref b3_0)] [(.ref b3_0), (.ref o0)]))
  have f12 := (f7.wr W9)
  have f13 := ((P4.keep K3 nin0).other W9 (Or.inr (slot_ne (Or.inr (hw _ (own_m 10 rfl))) (Or.inr (hw _ (own_m 11 rfl))) (by decide) (t := (.array .byte)) (t' := .byte) (by decide) (by decide))))
  obtain ⟨T14, h14, X14, e14, W14, st14⟩ := putF X9 hx hZ hown (host := "") (Or.inl (hw _ (own_m 29 rfl))) Via.refl e9 f13 f12 (Or.inr ⟨(hw _ (own_m 10 rfl)), rfl, hnm⟩) (hw _ (own_m 8 rfl)) (ty := (.array .byte)) (by decide) rfl rfl (g := (mkF m 54 #[.val (.ref o0), .val (.ref o1), .val (.int (0 : Int32)), .val (.int (3 : Int32)), .val .null, .val (.ref b3_0)] [(.ref b3_0), (.ref o0)])) rfl rfl (hb hby dc4_54)
  refine og st14 ?_
  have f15 := f13.same W14
  have N16 := Fr.snoc X14 N11 ge0p
  show oG p e below _ (T14.setTop (mkF m 57 #[.val (.ref o0), .val (.ref o1), .val (.int (0 : Int32)), .val (.int (3 : Int32)), .val .null, .val (.ref b3_0)] []))
  have f17 := (f10.other W14 (Or.inr (slot_ne (Or.inr (hw _ (own_m 11 rfl))) (Or.inr (hw _ (own_m 10 rfl))) (by decide) (t := .byte) (t' := (.array .byte)) (by decide) (by decide))))
  have f18 := ((f3_0.wr W9).wr W14)
  have f19 := ((f3_1.other W9 (Ne.symm (Nat.ne_of_lt (Nat.lt_of_lt_of_le P2.lt sz3_0)))).other W14 (Ne.symm (Nat.ne_of_lt (Nat.lt_of_lt_of_le P2.lt sz3_0))))
  have K20 := (((K0.trans K3 all0).wr W9 (Or.inl (List.mem_of_getElem? (i := 0) rfl))).wr W14 (Or.inl (List.mem_of_getElem? (i := 0) rfl)))
  exact own_ret0 X14 hx hlk Bd.returns (hb hby dc4_57) (by decide) (by decide) (by rw [e14]; exact ⟨b3_0, kb3_0, rfl, N16, K20, ge3_0, sz4, f17, f15, f18, f19⟩)
def Q_init_17 (Z : State) (o0 : Addr) (y0 : Int32) (y1 : Int32) (y2 : Int32) (h0 : Heap) (n0 : Nat) (v : Option Value) (h : Heap) (L : List Loc) : Prop := (∃ (b1_0 : Addr) (kb1_0 : ClassId), v = none ∧ Fr n0 L ∧ Keep h0 h [o0] ∧ n0 ≤ b1_0 ∧ h0.size ≤ b1_0 ∧ Fld Z h o0 "java/lang/String" "coder" "B" (.int (0 : Int32)) ∧ Fld Z h o0 "java/lang/String" "value" "[B" (.ref b1_0) ∧ Exa Z h b1_0 "[B" ∧ Arv Z h b1_0 kb1_0 .byte (3 : Int32) [(.int (y0.toInt8.toInt32)), (.int (y1.toInt8.toInt32)), (.int (y2.toInt8.toInt32))] (.int (0 : Int32)))
set_option maxRecDepth 65536 in
set_option maxHeartbeats 40000000 in
theorem rm_init_17 (l : Launch) (Z : State) (a0 : Array Value) (hw : ∀ d ∈ tables_1, d.before a0 Z = true) (ws : List Jvm.Cond) (o0 : Addr) (o1 : Addr) (y0 : Int32) (y1 : Int32) (y2 : Int32) (kc0 : ClassId) (y3 : Int32) (h0 : Heap) (n0 : Nat) (Z0 : n0 ≤ h0.size) (P0 : Arv Z h0 o1 kc0 .char (3 : Int32) [(.int y0), (.int y1), (.int y2)] (.int (0 : Int32))) (P1 : Sta Z h0 "java/lang/String" "COMPACT_STRINGS" "Z" (.int y3)) (P2 : Exa Z h0 o1 "[C") (P3 : Exa Z h0 o0 "java/lang/String") (P4 : Fld Z h0 o0 "java/lang/String" "coder" "B" (.int (0 : Int32))) (P5 : Fld Z h0 o0 "java/lang/String" "value" "[B" .null) (ge0p : n0 ≤ o0) (hb0 : ¬ (y3 = (0 : Int32))) (hb1 : ¬ ((255 : Int32) < y0)) (hb2 : (nar .byte (y0.toInt8.toInt32)) = (y0.toInt8.toInt32)) (hb3 : ¬ ((255 : Int32) < y1)) (hb4 : (nar .byte (y1.toInt8.toInt32)) = (y1.toInt8.toInt32)) (hb5 : ¬ ((255 : Int32) < y2)) (hb6 : (nar .byte (y2.toInt8.toInt32)) = (y2.toInt8.toInt32)) :
    MetFree l (⟨"java/lang/String", "<init>", "([C)V"⟩ : MethodName) (head1 (Jvm.Cond.code (⟨"java/lang/String", "<init>", "([C)V"⟩ : MethodName) jdk_42_method_3_code 2 none :: ws) ({ frames := 3, cells := 1, slots := 3, locals := 52 } : Room)) (fun aA U => aA = #[(.ref o0), (.ref o1)] ∧ Z.Warmed39 U.vm ∧ U.heap = h0) (fun _ _ _ _ _ => True) (fun _ U o U' => ∃ v L, o = .returned v ∧ Q_init_17 Z o0 y0 y1 y2 h0 n0 v U'.heap L ∧ FrameEnd U o U' L ({ frames := 3, cells := 1, slots := 3, locals := 52 } : Room).cells ({ frames := 3, cells := 1, slots := 3, locals := 52 } : Room).slots) := by
  refine MetFree.of_bodySF (plainFor_of_name own_pn_java_lang_String) hisR ?_
  intro p e s m args below meth c s₁ Bd hml0 hP hK
  obtain ⟨rfl, hZ, hh⟩ := hP
  have hx := Bd.exec
  have hby := Bd.bytes
  have hlk : meth.locks = false := BodyLoose.notSynchronized Bd
  have hml : c.maxLocals = 2 := hml0
  have hown : s.vm.findClass "java/lang/String" = some m.cls := findClass_of_methodNamed Bd.named
  have hnm := (name_of_methodNamed Bd.named Bd.method).1
  have X0 : Stand p l e ({ frames := 3, cells := 1, slots := 3, locals := 52 } : Room) s m #[(.ref o0), (.ref o1)] below meth c s₁ [] 0 0 := Stand.of_body Bd
  have e0 : s₁.heap = h0 := by rw [← hh, Bd.state]; rfl
  have N0 := Fr.nil n0
  have K0 : Keep h0 h0 [o0] := Keep.refl _ _
  show oG p e below (own_K s (Q_init_17 Z o0 y0 y1 y2 h0 n0) ({ frames := 3, cells := 1, slots := 3, locals := 52 } : Room).cells ({ frames := 3, cells := 1, slots := 3, locals := 52 } : Room).slots) (s₁.setTop (entryFrame m #[(.ref o0), (.ref o1)] 2))
  rw [(by first | (simp [entryFrame, mkF, argsToLocals, Value.category]; done) | rfl : entryFrame m #[(.ref o0), (.ref o1)] 2 = mkF m 0 #[.val (.ref o0), .val (.ref o1)] [])]
  show oG p e below _ (s₁.setTop (mkF m 0 #[.val (.ref o0), .val (.ref o1)] []))
  refine og (fun _ hr => XS.aloadN X0.here hx rfl (hb hby dc3_0) rfl rfl (XS.aloadN X0.here hx rfl (hb hby dc3_1) rfl rfl (XS.iconst X0.here hx rfl (hb hby dc3_2) (XS.aloadN X0.here hx rfl (hb hby dc3_3) rfl rfl (own_alen X0 hx hZ e0 P0 rfl rfl (hb hby dc3_4) (XS.aconstNull X0.here hx rfl (hb hby dc3_5) hr)))))) ?_
  show oG p e below _ (s₁.setTop (mkF m 6 #[.val (.ref o0), .val (.ref o1)] [.null, (.int (3 : Int32)), (.int (0 : Int32)), (.ref o1), (.ref o0)]))
  refine own_cp X0 hx hZ hown rfl (hw _ (own_m 21 rfl)) (hw _ (own_m 22 rfl)) (hw _ (own_m 7 rfl)) (hw _ (own_m 24 rfl)) (by decide) (rm := { frames := 2, cells := 1, slots := 3, locals := 35 }) (rm_init_19 l Z a0 hw [] o0 o1 y3 y0 y1 y2 kc0 h0 n0 Z0 P1 P0 P3 P4 P5 ge0p hb0 hb1 hb2 hb3 hb4 hb5 hb6) (by decide) (W := 0) (by decide) (by decide) (by decide) e0 (by rw [hml]; rfl) (argsL := [(.ref o1), (.int (0 : Int32)), (.int (3 : Int32)), .null]) (lenOf own_pd0 rfl) (rest := []) rfl rfl (Nat.le_of_eq rfl) (hb hby dc3_6) ?_
  intro _ T1 L1 X1 hQ1
  obtain ⟨b1_0, kb1_0, rfl, N1q, K1, ge1_0, sz1_0, f1_0, f1_1, f1_2, f1_3⟩ := hQ1
  have N1 := Fr.app N0 N1q
  have sz2 : h0.size ≤ b1_0 := Nat.le_trans K0.1 sz1_0
  show oG p e below _ (T1.setTop (mkF m 9 #[.val (.ref o0), .val (.ref o1)] []))
  have K3 := (K0.trans K1 (allS (Or.inl (List.mem_of_getElem? (i := 0) rfl)) all0))
  exact own_ret0 X1 hx hlk Bd.returns (hb hby dc3_9) (by decide) (by decide) (by exact ⟨b1_0, kb1_0, rfl, N1, K3, ge1_0, sz2, f1_0, f1_1, f1_2, f1_3⟩)
theorem dc2_83 : decode method_4_code 83 = .ok (.areturn, 1) := by decide +kernel
def own_by (c : Int32) : Int32 := (c.toInt8.toInt32)
def own_sl (c0_ c1_ c2_ z : Int32) : List Value := if z = 0 then [] else if z = 1 then [.int (own_by c0_)] else if z = 2 then [.int (own_by c0_), .int (own_by c1_)] else [.int (own_by c0_), .int (own_by c1_), .int (own_by c2_)]
theorem own_pn_com_example_ruleweave_ruleweave_CommonPolicySchemaTermAdmitsPinLaw : plainName "com/example/ruleweave/ruleweave/CommonPolicySchemaTermAdmitsPinLaw" = true := by first | (simp [plainName, overriddenIn]; done) | decide +kernel
def Q_str (Z : State) (z : Int32) (c0_ : Int32) (c1_ : Int32) (c2_ : Int32) (h0 : Heap) (n0 : Nat) (v : Option Value) (h : Heap) (L : List Loc) : Prop := (∃ (a b : Addr) (k : ClassId), v = some (.ref a) ∧ Fr n0 L ∧ Keep h0 h [] ∧ n0 ≤ a ∧ h0.size ≤ a ∧ Exa Z h a "java/lang/String" ∧ Fld Z h a "java/lang/String" "coder" "B" (.int (0 : Int32)) ∧ Fld Z h a "java/lang/String" "value" "[B" (.ref b) ∧ Arv Z h b k .byte z (own_sl c0_ c1_ c2_ z) (.int (0 : Int32)))
set_option maxRecDepth 65536 in
set_option maxHeartbeats 40000000 in
theorem rm_str (l : Launch) (Z : State) (a0 : Array Value) (hw : ∀ d ∈ tables_1, d.before a0 Z = true) (ws : List Jvm.Cond) (ar : Addr) (ka : ClassId) (z : Int32) (c0_ : Int32) (c1_ : Int32) (c2_ : Int32) (i_COMPACT_STRINGS : Int32) (h0 : Heap) (n0 : Nat) (Z0 : n0 ≤ h0.size) (S_COMPACT_STRINGS : Sta Z h0 "java/lang/String" "COMPACT_STRINGS" "Z" (.int i_COMPACT_STRINGS)) (hs_COMPACT_STRINGS : ¬ (i_COMPACT_STRINGS = (0 : Int32))) (VA : Arv Z h0 ar ka .char (3 : Int32) [(.int c0_), (.int c1_), (.int c2_)] (.int (0 : Int32))) (hz0 : ¬ (z < (0 : Int32))) (hzT : ¬ ((3 : Int32) < z)) (hr0 : ¬ (c0_ < (0 : Int32))) (ht0 : ¬ ((255 : Int32) < c0_)) (hr1 : ¬ (c1_ < (0 : Int32))) (ht1 : ¬ ((255 : Int32) < c1_)) (hr2 : ¬ (c2_ < (0 : Int32))) (ht2 : ¬ ((255 : Int32) < c2_)) :
    MetFree l (⟨"com/example/ruleweave/ruleweave/CommonPolicySchemaTermAdmitsPinLaw", "str", "([CI)Ljava/lang/String;"⟩ : MethodName) (head1 (Jvm.Cond.code (⟨"com/example/ruleweave/ruleweave/CommonPolicySchemaTermAdmitsPinLaw", "str", "([CI)Ljava/lang/String;"⟩ : MethodName) method_4_code 2 (some (.object "java/lang/String")) :: ws) ({ frames := 4, cells := 6, slots := 12, locals := 66 } : Room)) (fun aA U => aA = #[(.ref ar), (.int z)] ∧ Z.Warmed39 U.vm ∧ U.heap = h0 ∧ CHv Z own_EL U.vm h0) (fun _ _ _ _ _ => True) (fun _ U o U' => ∃ v L, o = .returned v ∧ Q_str Z z c0_ c1_ c2_ h0 n0 v U'.heap L ∧ CHr Z own_EL U.vm U.heap U'.vm U'.heap ∧ ReturnedEndW U o U' L ({ frames := 4, cells := 6, slots := 12, locals := 66 } : Room).cells ({ frames := 4, cells := 6, slots := 12, locals := 66 } : Room).slots) := by
  refine MetFree.of_bodySF (plainFor_of_name own_pn_com_example_ruleweave_ruleweave_CommonPolicySchemaTermAdmitsPinLaw) hisR ?_
  intro p e s m args below meth c s₁ Bd hml0 hP hK
  obtain ⟨rfl, hZ, hh, hC0⟩ := hP
  have hx := Bd.exec
  have hby := Bd.bytes
  have hlk : meth.locks = false := BodyLoose.notSynchronized Bd
  have hml : c.maxLocals = 2 := hml0
  have hown : s.vm.findClass "com/example/ruleweave/ruleweave/CommonPolicySchemaTermAdmitsPinLaw" = some m.cls := findClass_of_methodNamed Bd.named
  have hnm := (name_of_methodNamed Bd.named Bd.method).1
  have X0 : Stand p l e ({ frames := 4, cells := 6, slots := 12, locals := 66 } : Room) (s.setVm s.vm) m #[(.ref ar), (.int z)] below meth c s₁ [] 0 0 := Stand.of_body Bd
  have e0 : s₁.heap = h0 := by rw [← hh, Bd.state]; rfl
  have N0 := Fr.nil n0
  have hS : s.Since s.vm 0 := (State.WarmedH.refl s).since 0
  have hk := Nat.zero_le h0.size
  have hEL : EW Z a0 own_EL := own_ew hw
  have A0 : CHr Z own_EL s.vm h0 s.vm h0 := CHr.refl hC0
  have K0 : Keep h0 h0 [] := Keep.refl _ _
  show oG p e below (own_KW Z own_EL s (Q_str Z z c0_ c1_ c2_ h0 n0) ({ frames := 4, cells := 6, slots := 12, locals := 66 } : Room).cells ({ frames := 4, cells := 6, slots := 12, locals := 66 } : Room).slots) (s₁.setTop (entryFrame m #[(.ref ar), (.int z)] 2))
  rw [(by first | (simp [entryFrame, mkF, argsToLocals, Value.category]; done) | rfl : entryFrame m #[(.ref ar), (.int z)] 2 = mkF m 0 #[.val (.ref ar), .val (.int z)] [])]
  show oG p e below _ (s₁.setTop (mkF m 0 #[.val (.ref ar), .val (.int z)] []))
  refine og (fun _ hr => XS.iloadN X0.here hx rfl (hb hby dc2_0) rfl hr) ?_
  show oG p e below _ (s₁.setTop (mkF m 1 #[.val (.ref ar), .val (.int z)] [(.int z)]))
  rcases Classical.em (z = (0 : Int32)) with c1 | c1
  · skip
    refine og (fun _ hr => XS.ifNo X0.here hx rfl (hb hby dc2_1) rfl ((if0 _ _).trans (teq c1).2) hr) ?_
    show oG p e below _ (s₁.setTop (mkF m 4 #[.val (.ref ar), .val (.int z)] []))
    obtain ⟨T2, h2, X2, e2, E2, A2, D2, -, st2⟩ := newO X0 hx hZ hown (hw _ (own_m 17 rfl)) (hw _ (own_m 8 rfl)) (hw _ (own_m 7 rfl)) e0 (g := (mkF m 4 #[.val (.ref ar), .val (.int z)] [])) rfl (hb hby dc2_4) (by decide) (by decide)
    obtain ⟨b2, g2⟩ : ∃ z, z = h0.size := ⟨_, rfl⟩
    rw [← g2] at A2 D2 st2
    have ge3 : n0 ≤ b2 := Nat.le_trans Z0 (Nat.le_of_eq g2.symm)
    have sz4 : h0.size ≤ b2 := Nat.le_trans K0.1 (Nat.le_of_eq g2.symm)
    refine og st2 ?_
    have f5 : Fld Z h2 b2 "java/lang/String" "value" "[B" .null := D2 (Or.inr (hw _ (own_m 10 rfl))) (ty := (.array .byte)) (by decide)
    have f6 : Fld Z h2 b2 "java/lang/String" "coder" "B" (.int (0 : Int32)) := D2 (Or.inr (hw _ (own_m 11 rfl))) (ty := .byte) (by decide)
    show oG p e below _ (T2.setTop (mkF m 7 #[.val (.ref ar), .val (.int z)] [(.ref b2)]))
    refine og (fun _ hr => XS.dup X2.here hx rfl (hb hby dc2_7) rfl rfl (XS.iconst X2.here hx rfl (hb hby dc2_8) hr)) ?_
    show oG p e below _ (T2.setTop (mkF m 9 #[.val (.ref ar), .val (.int z)] [(.int (0 : Int32)), (.ref b2), (.ref b2)]))
    obtain ⟨T7, h7, k7, X7, e7, E7, A7, EA7, st7⟩ := newPE X2 hx hZ (hw _ (own_m 4 rfl)) e2 (g := (mkF m 9 #[.val (.ref ar), .val (.int z)] [(.int (0 : Int32)), (.ref b2), (.ref b2)])) rfl (hb hby dc2_9) rfl (by decide) (cap := 0) (by decide) (by decide) (by decide) (by decide) (ad := "[C") (by decide)
    obtain ⟨b7, g7⟩ : ∃ z, z = h2.size := ⟨_, rfl⟩
    rw [← g7] at A7 EA7 st7
    have Z8 := (Nat.le_trans Z0 E2.1)
    have ge9 : n0 ≤ b7 := Nat.le_trans Z8 (Nat.le_of_eq g7.symm)
    have K10 := (K0.ext E2)
    have sz11 : h0.size ≤ b7 := Nat.le_trans K10.1 (Nat.le_of_eq g7.symm)
    refine og st7 ?_
    have f12 : Arv Z h7 b7 k7 .char (0 : Int32) [] (.int (0 : Int32)) := (Arv.new A7 (by decide)).pad (pad_rep [] (.int (0 : Int32)) 0)
    show oG p e below _ (T7.setTop (mkF m 11 #[.val (.ref ar), .val (.int z)] [(.ref b7), (.ref b2), (.ref b2)]))
    have f14 := (A2.ext E7)
    have f15 := (f5.ext E7)
    have f16 := (f6.ext E7)
    have Z17 := (Nat.le_trans Z8 E7.1)
    have hZo18 := hZ
    have A19 := A0.trans (CHr.ext E2 A0.1)
    have A20 := A19.trans (CHr.ext E7 A19.1)
    have hk21 := (Nat.le_trans (Nat.le_trans hk E2.1) E7.1)
    refine own_cpW X7 hx hZ hown rfl (hw _ (own_m 18 rfl)) (hw _ (own_m 19 rfl)) (hw _ (own_m 7 rfl)) (hw _ (own_m 20 rfl)) (by decide) (rm := { frames := 2, cells := 4, slots := 8, locals := 29 }) (rm_init_1 l Z a0 hw [] b2 b7 k7 h7 n0 Z17 f12 f14 f15 f16 ge3) (by decide) (W := 1) (by decide) (by decide) (by decide) e7 hEL A20.1 hS hk21 (by rw [hml]; rfl) (argsL := [(.ref b7)]) (lenOf own_pd1 rfl) (rest := [(.ref b2)]) rfl rfl (Nat.le_of_eq rfl) (hb hby dc2_11) ?_
    intro _ T13 L13 X13 hQ13 Ac13 hS hZ hown
    obtain ⟨b13_0, kb13_0, rfl, N13q, K13, f13_0, f13_1, f13_2⟩ := hQ13
    have N13 := Fr.app N0 N13q
    show oG p e below _ (T13.setTop (mkF m 14 #[.val (.ref ar), .val (.int z)] [(.ref b2)]))
    have f22 := (f14.keep K13)
    have el23 : z = (0 : Int32) := c1
    have ev24 : (own_sl c0_ c1_ c2_ z) = [] := by first | (rw [el23]; rfl) | (rw [el23]; simp [own_sl]; done) | (simp [own_sl, hs_COMPACT_STRINGS, hz0, hzT, hr0, ht0, hr1, ht1, hr2, ht2, c1]; done)
    have eb25 : Arv Z T13.heap b13_0 kb13_0 .byte z (own_sl c0_ c1_ c2_ z) (.int (0 : Int32)) := by rw [ev24, el23]; exact f13_2
    have K26 := ((K10.ext E7).trans K13 (allS (Or.inr sz4) all0))
    have A27 := A20.trans Ac13
    exact own_retRW X13 hx hlk Bd.returns hS (Nat.le_refl _) hZ hEL hh rfl A27 rfl rfl (hb hby dc2_14) (by decide) (by decide) (by exact ⟨b2, b13_0, kb13_0, rfl, N13, K26, ge3, sz4, f22, f13_0, f13_1, eb25⟩)
  refine og (fun _ hr => XS.ifYes X0.here hx rfl (pc0 := 1) (pc' := 15) rfl (hb hby dc2_1) rfl ((if0 _ _).trans (feq c1).2) (by decide) (by decide) hr) ?_
  show oG p e below _ (s₁.setTop (mkF m 15 #[.val (.ref ar), .val (.int z)] []))
  refine og (fun _ hr => XS.iloadN X0.here hx rfl (hb hby dc2_15) rfl (XS.iconst X0.here hx rfl (hb hby dc2_16) hr)) ?_
  show oG p e below _ (s₁.setTop (mkF m 17 #[.val (.ref ar), .val (.int z)] [(.int (1 : Int32)), (.int z)]))
  rcases Classical.em (z = (1 : Int32)) with c28 | c28
  · skip
    refine og (fun _ hr => XS.icmpNo X0.here hx rfl (hb hby dc2_17) rfl (teq c28).2 hr) ?_
    show oG p e below _ (s₁.setTop (mkF m 20 #[.val (.ref ar), .val (.int z)] []))
    refine og (fun _ hr => XS.aloadN X0.here hx rfl (hb hby dc2_20) rfl rfl (XS.iconst X0.here hx rfl (hb hby dc2_21) (own_caload X0 hx hZ e0 VA (0 : Int32) (.int c0_) ⟨by decide, by decide⟩ rfl rfl rfl (hb hby dc2_22) hr))) ?_
    show oG p e below _ (s₁.setTop (mkF m 23 #[.val (.ref ar), .val (.int z)] [(.int c0_)]))
    have c29 : (nar .byte (c0_.toInt8.toInt32)) = (c0_.toInt8.toInt32) := by
      have q0 := rng32 c0_
      have q1 := c_i2b c0_
      have q2 := (show ((nar .byte (c0_.toInt8.toInt32)).toInt - (c0_.toInt8.toInt32).toInt) % 256 = 0 ∧ -128 ≤ (nar .byte (c0_.toInt8.toInt32)).toInt ∧ (nar .byte (c0_.toInt8.toInt32)).toInt < 128 from c_i2b (c0_.toInt8.toInt32))
      have p0 := hr0
      have p1 := ht0
      simp only [true_implies, Int32.lt_iff_toInt_lt, ← Int32.toInt_inj, Int32.reduceToInt, Int64.lt_iff_toInt_lt, ← Int64.toInt_inj, Int64.reduceToInt] at q0 q1 q2 p0 p1 ⊢
      omega
    refine own_cs X0 hx hZ hown (hw _ (own_m 102 rfl)) (hw _ (own_m 103 rfl)) (hw _ (own_m 7 rfl)) (hw _ (own_m 104 rfl)) (by decide) (rm := { frames := 2, cells := 2, slots := 5, locals := 27 }) (rm_valueOf_5 l Z a0 hw [] c0_ i_COMPACT_STRINGS h0 n0 Z0 S_COMPACT_STRINGS hs_COMPACT_STRINGS ht0 c29) (by decide) (W := 0) (by decide) (by decide) (by decide) e0 (by rw [hml]; rfl) (argsL := [(.int c0_)]) (lenOf own_pd5 rfl) (rest := []) rfl rfl (Nat.le_of_eq rfl) (hb hby dc2_23) ?_
    intro _ T30 L30 X30 hQ30
    obtain ⟨b30_0, b30_1, kb30_0, rfl, N30q, K30, ge30_0, sz30_0, ge30_1, sz30_1, ne30_0, f30_0, f30_1, f30_2, f30_3, f30_4⟩ := hQ30
    have N30 := Fr.app N0 N30q
    have sz31 : h0.size ≤ b30_0 := Nat.le_trans K0.1 sz30_0
    have sz32 : h0.size ≤ b30_1 := Nat.le_trans K0.1 sz30_1
    show oG p e below _ (T30.setTop (mkF m 26 #[.val (.ref ar), .val (.int z)] [(.ref b30_0)]))
    have el33 : z = (1 : Int32) := c28
    have ev34 : (own_sl c0_ c1_ c2_ z) = [(.int (c0_.toInt8.toInt32))] := by first | (rw [el33]; rfl) | (rw [el33]; simp [own_sl]; done) | (simp [own_sl, hs_COMPACT_STRINGS, hz0, hzT, hr0, ht0, hr1, ht1, hr2, ht2, c1, c28, c29]; done)
    have eb35 : Arv Z T30.heap b30_1 kb30_0 .byte z (own_sl c0_ c1_ c2_ z) (.int (0 : Int32)) := by rw [ev34, el33]; exact f30_4
    have K36 := (K0.trans K30 all0)
    have hk37 := (Nat.le_trans hk K30.1)
    have A38 := A0.trans (CHr.keep K30 sf0 A0.1)
    exact own_retRW X30 hx hlk Bd.returns hS hk37 hZ hEL hh rfl A38 rfl rfl (hb hby dc2_26) (by decide) (by decide) (by exact ⟨b30_0, b30_1, kb30_0, rfl, N30, K36, ge30_0, sz31, f30_0, f30_1, f30_2, eb35⟩)
  refine og (fun _ hr => XS.icmpYes X0.here hx rfl (pc0 := 17) (pc' := 27) rfl (hb hby dc2_17) rfl (feq c28).2 (by decide) (by decide) hr) ?_
  show oG p e below _ (s₁.setTop (mkF m 27 #[.val (.ref ar), .val (.int z)] []))
  refine og (fun _ hr => XS.iloadN X0.here hx rfl (hb hby dc2_27) rfl (XS.iconst X0.here hx rfl (hb hby dc2_28) hr)) ?_
  show oG p e below _ (s₁.setTop (mkF m 29 #[.val (.ref ar), .val (.int z)] [(.int (2 : Int32)), (.int z)]))
  rcases Classical.em (z = (2 : Int32)) with c39 | c39
  · skip
    refine og (fun _ hr => XS.icmpNo X0.here hx rfl (hb hby dc2_29) rfl (teq c39).2 hr) ?_
    show oG p e below _ (s₁.setTop (mkF m 32 #[.val (.ref ar), .val (.int z)] []))
    obtain ⟨T40, h40, X40, e40, E40, A40, D40, -, st40⟩ := newO X0 hx hZ hown (hw _ (own_m 17 rfl)) (hw _ (own_m 8 rfl)) (hw _ (own_m 7 rfl)) e0 (g := (mkF m 32 #[.val (.ref ar), .val (.int z)] [])) rfl (hb hby dc2_32) (by decide) (by decide)
    obtain ⟨b40, g40⟩ : ∃ z, z = h0.size := ⟨_, rfl⟩
    rw [← g40] at A40 D40 st40
    have ge41 : n0 ≤ b40 := Nat.le_trans Z0 (Nat.le_of_eq g40.symm)
    have sz42 : h0.size ≤ b40 := Nat.le_trans K0.1 (Nat.le_of_eq g40.symm)
    refine og st40 ?_
    have f43 : Fld Z h40 b40 "java/lang/String" "value" "[B" .null := D40 (Or.inr (hw _ (own_m 10 rfl))) (ty := (.array .byte)) (by decide)
    have f44 : Fld Z h40 b40 "java/lang/String" "coder" "B" (.int (0 : Int32)) := D40 (Or.inr (hw _ (own_m 11 rfl))) (ty := .byte) (by decide)
    show oG p e below _ (T40.setTop (mkF m 35 #[.val (.ref ar), .val (.int z)] [(.ref b40)]))
    refine og (fun _ hr => XS.dup X40.here hx rfl (hb hby dc2_35) rfl rfl (XS.iconst X40.here hx rfl (hb hby dc2_36) hr)) ?_
    show oG p e below _ (T40.setTop (mkF m 37 #[.val (.ref ar), .val (.int z)] [(.int (2 : Int32)), (.ref b40), (.ref b40)]))
    obtain ⟨T45, h45, k45, X45, e45, E45, A45, EA45, st45⟩ := newPE X40 hx hZ (hw _ (own_m 4 rfl)) e40 (g := (mkF m 37 #[.val (.ref ar), .val (.int z)] [(.int (2 : Int32)), (.ref b40), (.ref b40)])) rfl (hb hby dc2_37) rfl (by decide) (cap := 2) (by decide) (by decide) (by decide) (by decide) (ad := "[C") (by decide)
    obtain ⟨b45, g45⟩ : ∃ z, z = h40.size := ⟨_, rfl⟩
    rw [← g45] at A45 EA45 st45
    have Z46 := (Nat.le_trans Z0 E40.1)
    have ge47 : n0 ≤ b45 := Nat.le_trans Z46 (Nat.le_of_eq g45.symm)
    have K48 := (K0.ext E40)
    have sz49 : h0.size ≤ b45 := Nat.le_trans K48.1 (Nat.le_of_eq g45.symm)
    refine og st45 ?_
    have f50 : Arv Z h45 b45 k45 .char (2 : Int32) [(.int (0 : Int32)), (.int (0 : Int32))] (.int (0 : Int32)) := (Arv.new A45 (by decide)).pad (pad_rep [] (.int (0 : Int32)) 2)
    show oG p e below _ (T45.setTop (mkF m 39 #[.val (.ref ar), .val (.int z)] [(.ref b45), (.ref b40), (.ref b40)]))
    have f51 := ((VA.ext E40).ext E45)
    refine og (fun _ hr => XS.dup X45.here hx rfl (hb hby dc2_39) rfl rfl (XS.iconst X45.here hx rfl (hb hby dc2_40) (XS.aloadN X45.here hx rfl (hb hby dc2_41) rfl rfl (XS.iconst X45.here hx rfl (hb hby dc2_42) (own_caload X45 hx hZ e45 f51 (0 : Int32) (.int c0_) ⟨by decide, by decide⟩ rfl rfl rfl (hb hby dc2_43) hr))))) ?_
    show oG p e below _ (T45.setTop (mkF m 44 #[.val (.ref ar), .val (.int z)] [(.int c0_), (.int (0 : Int32)), (.ref b45), (.ref b45), (.ref b40), (.ref b40)]))
    have c53 : (nar .char c0_) = c0_ := by
      have q0 := rng32 c0_
      have q1 := (show ((nar .char c0_).toInt - c0_.toInt) % 65536 = 0 ∧ 0 ≤ (nar .char c0_).toInt ∧ (nar .char c0_).toInt < 65536 from c_i2c c0_)
      have p0 := hr0
      have p1 := ht0
      simp only [true_implies, Int32.lt_iff_toInt_lt, ← Int32.toInt_inj, Int32.reduceToInt, Int64.lt_iff_toInt_lt, ← Int64.toInt_inj, Int64.reduceToInt] at q0 q1 p0 p1 ⊢
      omega
    refine own_stC X45 hx hZ e45 f50 (0 : Int32) c0_ c0_ 0 ⟨by decide, by decide⟩ rfl (Nat.le_of_ble_eq_true rfl) c53 [(.int c0_), (.int (0 : Int32))] rfl N0 ge47 (hb hby dc2_44) ?_
    intro T52 h52 L52 X52 e52 W52 N52 f52
    show oG p e below _ (T52.setTop (mkF m 45 #[.val (.ref ar), .val (.int z)] [(.ref b45), (.ref b40), (.ref b40)]))
    have f54 := (f51.other W52 (Nat.ne_of_lt (Nat.lt_of_lt_of_le (VA.ext E40).lt (Nat.le_of_eq g45.symm))))
    refine og (fun _ hr => XS.dup X52.here hx rfl (hb hby dc2_45) rfl rfl (XS.iconst X52.here hx rfl (hb hby dc2_46) (XS.aloadN X52.here hx rfl (hb hby dc2_47) rfl rfl (XS.iconst X52.here hx rfl (hb hby dc2_48) (own_caload X52 hx hZ e52 f54 (1 : Int32) (.int c1_) ⟨by decide, by decide⟩ rfl rfl rfl (hb hby dc2_49) hr))))) ?_
    show oG p e below _ (T52.setTop (mkF m 50 #[.val (.ref ar), .val (.int z)] [(.int c1_), (.int (1 : Int32)), (.ref b45), (.ref b45), (.ref b40), (.ref b40)]))
    have c56 : (nar .char c1_) = c1_ := by
      have q0 := rng32 c1_
      have q1 := (show ((nar .char c1_).toInt - c1_.toInt) % 65536 = 0 ∧ 0 ≤ (nar .char c1_).toInt ∧ (nar .char c1_).toInt < 65536 from c_i2c c1_)
      have p0 := hr1
      have p1 := ht1
      simp only [true_implies, Int32.lt_iff_toInt_lt, ← Int32.toInt_inj, Int32.reduceToInt, Int64.lt_iff_toInt_lt, ← Int64.toInt_inj, Int64.reduceToInt] at q0 q1 p0 p1 ⊢
      omega
    refine own_stC X52 hx hZ e52 f52 (1 : Int32) c1_ c1_ 1 ⟨by decide, by decide⟩ rfl (Nat.le_of_ble_eq_true rfl) c56 [(.int c0_), (.int c1_)] rfl N52 ge47 (hb hby dc2_50) ?_
    intro T55 h55 L55 X55 e55 W55 N55 f55
    show oG p e below _ (T55.setTop (mkF m 51 #[.val (.ref ar), .val (.int z)] [(.ref b45), (.ref b40), (.ref b40)]))
    have c57 : (nar .byte (c0_.toInt8.toInt32)) = (c0_.toInt8.toInt32) := by
      have q0 := rng32 c0_
      have q1 := (show ((nar .char c0_).toInt - c0_.toInt) % 65536 = 0 ∧ 0 ≤ (nar .char c0_).toInt ∧ (nar .char c0_).toInt < 65536 from c_i2c c0_)
      have q2 := c_i2b c0_
      have q3 := (show ((nar .byte (c0_.toInt8.toInt32)).toInt - (c0_.toInt8.toInt32).toInt) % 256 = 0 ∧ -128 ≤ (nar .byte (c0_.toInt8.toInt32)).toInt ∧ (nar .byte (c0_.toInt8.toInt32)).toInt < 128 from c_i2b (c0_.toInt8.toInt32))
      have p0 := hr0
      have p1 := ht0
      have p2 := c53
      simp only [true_implies, Int32.lt_iff_toInt_lt, ← Int32.toInt_inj, Int32.reduceToInt, Int64.lt_iff_toInt_lt, ← Int64.toInt_inj, Int64.reduceToInt] at q0 q1 q2 q3 p0 p1 p2 ⊢
      omega
    have c58 : (nar .byte (c1_.toInt8.toInt32)) = (c1_.toInt8.toInt32) := by
      have q0 := rng32 c1_
      have q1 := (show ((nar .char c1_).toInt - c1_.toInt) % 65536 = 0 ∧ 0 ≤ (nar .char c1_).toInt ∧ (nar .char c1_).toInt < 65536 from c_i2c c1_)
      have q2 := c_i2b c1_
      have q3 := (show ((nar .byte (c1_.toInt8.toInt32)).toInt - (c1_.toInt8.toInt32).toInt) % 256 = 0 ∧ -128 ≤ (nar .byte (c1_.toInt8.toInt32)).toInt ∧ (nar .byte (c1_.toInt8.toInt32)).toInt < 128 from c_i2b (c1_.toInt8.toInt32))
      have p0 := hr1
      have p1 := ht1
      have p2 := c56
      simp only [true_implies, Int32.lt_iff_toInt_lt, ← Int32.toInt_inj, Int32.reduceToInt, Int64.lt_iff_toInt_lt, ← Int64.toInt_inj, Int64.reduceToInt] at q0 q1 q2 q3 p0 p1 p2 ⊢
      omega
    have K60 := (((K48.ext E45).wr W52 (Or.inr sz49)).wr W55 (Or.inr sz49))
    have f61 := (own_sta_keep S_COMPACT_STRINGS K60 all0)
    have f62 := ((EA45.wr W52).wr W55)
    have f63 := (((A40.ext E45).wr W52).wr W55)
    have f64 := (((f44.ext E45).other W52 (Or.inl (Nat.ne_of_lt (Nat.lt_of_lt_of_le A40.lt (Nat.le_of_eq g45.symm))))).other W55 (Or.inl (Nat.ne_of_lt (Nat.lt_of_lt_of_le A40.lt (Nat.le_of_eq g45.symm)))))
    have f65 := (((f43.ext E45).other W52 (Or.inl (Nat.ne_of_lt (Nat.lt_of_lt_of_le A40.lt (Nat.le_of_eq g45.symm))))).other W55 (Or.inl (Nat.ne_of_lt (Nat.lt_of_lt_of_le A40.lt (Nat.le_of_eq g45.symm)))))
    have Z66 := (Nat.le_trans (Nat.le_trans (Nat.le_trans Z46 E45.1) (Nat.le_of_eq W52.size.symm)) (Nat.le_of_eq W55.size.symm))
    refine own_cp X55 hx hZ hown rfl (hw _ (own_m 18 rfl)) (hw _ (own_m 19 rfl)) (hw _ (own_m 7 rfl)) (hw _ (own_m 20 rfl)) (by decide) (rm := { frames := 3, cells := 1, slots := 2, locals := 52 }) (rm_init_10 l Z a0 hw [] b40 b45 c0_ c1_ k45 i_COMPACT_STRINGS h55 n0 Z66 f55 f61 f62 f63 f64 f65 ge41 hs_COMPACT_STRINGS ht0 c57 ht1 c58) (by decide) (W := 1) (by decide) (by decide) (by decide) e55 (by rw [hml]; rfl) (argsL := [(.ref b45)]) (lenOf own_pd1 rfl) (rest := [(.ref b40)]) rfl rfl (Nat.le_of_eq rfl) (hb hby dc2_51) ?_
    intro _ T59 L59 X59 hQ59
    obtain ⟨b59_0, kb59_0, rfl, N59q, K59, ge59_0, sz59_0, f59_0, f59_1, f59_2, f59_3⟩ := hQ59
    have N59 := Fr.app N55 N59q
    have sz67 : h0.size ≤ b59_0 := Nat.le_trans K60.1 sz59_0
    show oG p e below _ (T59.setTop (mkF m 54 #[.val (.ref ar), .val (.int z)] [(.ref b40)]))
    have f68 := (f63.keep K59)
    have el69 : z = (2 : Int32) := c39
    have ev70 : (own_sl c0_ c1_ c2_ z) = [(.int (c0_.toInt8.toInt32)), (.int (c1_.toInt8.toInt32))] := by first | (rw [el69]; rfl) | (rw [el69]; simp [own_sl]; done) | (simp [own_sl, hs_COMPACT_STRINGS, hz0, hzT, hr0, ht0, hr1, ht1, hr2, ht2, c1, c28, c39, c53, c56, c57, c58]; done)
    have eb71 : Arv Z T59.heap b59_0 kb59_0 .byte z (own_sl c0_ c1_ c2_ z) (.int (0 : Int32)) := by rw [ev70, el69]; exact f59_3
    have K72 := (K60.trans K59 (allS (Or.inr sz42) all0))
    have hk73 := (Nat.le_trans (Nat.le_trans (Nat.le_trans (Nat.le_trans (Nat.le_trans hk E40.1) E45.1) (Nat.le_of_eq W52.size.symm)) (Nat.le_of_eq W55.size.symm)) K59.1)
    have A74 := A0.trans (CHr.ext E40 A0.1)
    have A75 := A74.trans (CHr.ext E45 A74.1)
    have sf77 := (Safe.ext E45 A74.1 (Safe.new (Nat.le_of_eq g45.symm)))
    have A76 := A75.trans (CHr.wr W52 sf77 A75.1)
    have sf79 := (Safe.wr W52 sf77 A75.1 sf77)
    have A78 := A76.trans (CHr.wr W55 sf79 A76.1)
    have sf81 := (Safe.wr W55 sf79 A76.1 (Safe.wr W52 sf77 A75.1 (Safe.ext E45 A74.1 (Safe.ext E40 A0.1 (Safe.new (Nat.le_of_eq g40.symm))))))
    have A80 := A78.trans (CHr.keep K59 (sfS sf81 sf0) A78.1)
    exact own_retRW X59 hx hlk Bd.returns hS hk73 hZ hEL hh rfl A80 rfl rfl (hb hby dc2_54) (by decide) (by decide) (by exact ⟨b40, b59_0, kb59_0, rfl, N59, K72, ge41, sz42, f68, f59_0, f59_1, eb71⟩)
  refine og (fun _ hr => XS.icmpYes X0.here hx rfl (pc0 := 29) (pc' := 55) rfl (hb hby dc2_29) rfl (feq c39).2 (by decide) (by decide) hr) ?_
  show oG p e below _ (s₁.setTop (mkF m 55 #[.val (.ref ar), .val (.int z)] []))
  obtain ⟨T82, h82, X82, e82, E82, A82, D82, -, st82⟩ := newO X0 hx hZ hown (hw _ (own_m 17 rfl)) (hw _ (own_m 8 rfl)) (hw _ (own_m 7 rfl)) e0 (g := (mkF m 55 #[.val (.ref ar), .val (.int z)] [])) rfl (hb hby dc2_55) (by decide) (by decide)
  obtain ⟨b82, g82⟩ : ∃ z, z = h0.size := ⟨_, rfl⟩
  rw [← g82] at A82 D82 st82
  have ge83 : n0 ≤ b82 := Nat.le_trans Z0 (Nat.le_of_eq g82.symm)
  have sz84 : h0.size ≤ b82 := Nat.le_trans K0.1 (Nat.le_of_eq g82.symm)
  refine og st82 ?_
  have f85 : Fld Z h82 b82 "java/lang/String" "value" "[B" .null := D82 (Or.inr (hw _ (own_m 10 rfl))) (ty := (.array .byte)) (by decide)
  have f86 : Fld Z h82 b82 "java/lang/String" "coder" "B" (.int (0 : Int32)) := D82 (Or.inr (hw _ (own_m 11 rfl))) (ty := .byte) (by decide)
  show oG p e below _ (T82.setTop (mkF m 58 #[.val (.ref ar), .val (.int z)] [(.ref b82)]))
  refine og (fun _ hr => XS.dup X82.here hx rfl (hb hby dc2_58) rfl rfl (XS.iconst X82.here hx rfl (hb hby dc2_59) hr)) ?_
  show oG p e below _ (T82.setTop (mkF m 60 #[.val (.ref ar), .val (.int z)] [(.int (3 : Int32)), (.ref b82), (.ref b82)]))
  obtain ⟨T87, h87, k87, X87, e87, E87, A87, EA87, st87⟩ := newPE X82 hx hZ (hw _ (own_m 4 rfl)) e82 (g := (mkF m 60 #[.val (.ref ar), .val (.int z)] [(.int (3 : Int32)), (.ref b82), (.ref b82)])) rfl (hb hby dc2_60) rfl (by decide) (cap := 3) (by decide) (by decide) (by decide) (by decide) (ad := "[C") (by decide)
  obtain ⟨b87, g87⟩ : ∃ z, z = h82.size := ⟨_, rfl⟩
  rw [← g87] at A87 EA87 st87
  have Z88 := (Nat.le_trans Z0 E82.1)
  have ge89 : n0 ≤ b87 := Nat.le_trans Z88 (Nat.le_of_eq g87.symm)
  have K90 := (K0.ext E82)
  have sz91 : h0.size ≤ b87 := Nat.le_trans K90.1 (Nat.le_of_eq g87.symm)
  refine og st87 ?_
  have f92 : Arv Z h87 b87 k87 .char (3 : Int32) [(.int (0 : Int32)), (.int (0 : Int32)), (.int (0 : Int32))] (.int (0 : Int32)) := (Arv.new A87 (by decide)).pad (pad_rep [] (.int (0 : Int32)) 3)
  show oG p e below _ (T87.setTop (mkF m 62 #[.val (.ref ar), .val (.int z)] [(.ref b87), (.ref b82), (.ref b82)]))
  have f93 := ((VA.ext E82).ext E87)
  refine og (fun _ hr => XS.dup X87.here hx rfl (hb hby dc2_62) rfl rfl (XS.iconst X87.here hx rfl (hb hby dc2_63) (XS.aloadN X87.here hx rfl (hb hby dc2_64) rfl rfl (XS.iconst X87.here hx rfl (hb hby dc2_65) (own_caload X87 hx hZ e87 f93 (0 : Int32) (.int c0_) ⟨by decide, by decide⟩ rfl rfl rfl (hb hby dc2_66) hr))))) ?_
  show oG p e below _ (T87.setTop (mkF m 67 #[.val (.ref ar), .val (.int z)] [(.int c0_), (.int (0 : Int32)), (.ref b87), (.ref b87), (.ref b82), (.ref b82)]))
  have c95 : (nar .char c0_) = c0_ := by
    have q0 := rng32 c0_
    have q1 := (show ((nar .char c0_).toInt - c0_.toInt) % 65536 = 0 ∧ 0 ≤ (nar .char c0_).toInt ∧ (nar .char c0_).toInt < 65536 from c_i2c c0_)
    have p0 := hr0
    have p1 := ht0
    simp only [true_implies, Int32.lt_iff_toInt_lt, ← Int32.toInt_inj, Int32.reduceToInt, Int64.lt_iff_toInt_lt, ← Int64.toInt_inj, Int64.reduceToInt] at q0 q1 p0 p1 ⊢
    omega
  refine own_stC X87 hx hZ e87 f92 (0 : Int32) c0_ c0_ 0 ⟨by decide, by decide⟩ rfl (Nat.le_of_ble_eq_true rfl) c95 [(.int c0_), (.int (0 : Int32)), (.int (0 : Int32))] rfl N0 ge89 (hb hby dc2_67) ?_
  intro T94 h94 L94 X94 e94 W94 N94 f94
  show oG p e below _ (T94.setTop (mkF m 68 #[.val (.ref ar), .val (.int z)] [(.ref b87), (.ref b82), (.ref b82)]))
  have f96 := (f93.other W94 (Nat.ne_of_lt (Nat.lt_of_lt_of_le (VA.ext E82).lt (Nat.le_of_eq g87.symm))))
  refine og (fun _ hr => XS.dup X94.here hx rfl (hb hby dc2_68) rfl rfl (XS.iconst X94.here hx rfl (hb hby dc2_69) (XS.aloadN X94.here hx rfl (hb hby dc2_70) rfl rfl (XS.iconst X94.here hx rfl (hb hby dc2_71) (own_caload X94 hx hZ e94 f96 (1 : Int32) (.int c1_) ⟨by decide, by decide⟩ rfl rfl rfl (hb hby dc2_72) hr))))) ?_
  show oG p e below _ (T94.setTop (mkF m 73 #[.val (.ref ar), .val (.int z)] [(.int c1_), (.int (1 : Int32)), (.ref b87), (.ref b87), (.ref b82), (.ref b82)]))
  have c98 : (nar .char c1_) = c1_ := by
    have q0 := rng32 c1_
    have q1 := (show ((nar .char c1_).toInt - c1_.toInt) % 65536 = 0 ∧ 0 ≤ (nar .char c1_).toInt ∧ (nar .char c1_).toInt < 65536 from c_i2c c1_)
    have p0 := hr1
    have p1 := ht1
    simp only [true_implies, Int32.lt_iff_toInt_lt, ← Int32.toInt_inj, Int32.reduceToInt, Int64.lt_iff_toInt_lt, ← Int64.toInt_inj, Int64.reduceToInt] at q0 q1 p0 p1 ⊢
    omega
  refine own_stC X94 hx hZ e94 f94 (1 : Int32) c1_ c1_ 1 ⟨by decide, by decide⟩ rfl (Nat.le_of_ble_eq_true rfl) c98 [(.int c0_), (.int c1_), (.int (0 : Int32))] rfl N94 ge89 (hb hby dc2_73) ?_
  intro T97 h97 L97 X97 e97 W97 N97 f97
  show oG p e below _ (T97.setTop (mkF m 74 #[.val (.ref ar), .val (.int z)] [(.ref b87), (.ref b82), (.ref b82)]))
  have f99 := (f96.other W97 (Nat.ne_of_lt (Nat.lt_of_lt_of_le (VA.ext E82).lt (Nat.le_of_eq g87.symm))))
  refine og (fun _ hr => XS.dup X97.here hx rfl (hb hby dc2_74) rfl rfl (XS.iconst X97.here hx rfl (hb hby dc2_75) (XS.aloadN X97.here hx rfl (hb hby dc2_76) rfl rfl (XS.iconst X97.here hx rfl (hb hby dc2_77) (own_caload X97 hx hZ e97 f99 (2 : Int32) (.int c2_) ⟨by decide, by decide⟩ rfl rfl rfl (hb hby dc2_78) hr))))) ?_
  show oG p e below _ (T97.setTop (mkF m 79 #[.val (.ref ar), .val (.int z)] [(.int c2_), (.int (2 : Int32)), (.ref b87), (.ref b87), (.ref b82), (.ref b82)]))
  have c101 : (nar .char c2_) = c2_ := by
    have q0 := rng32 c2_
    have q1 := (show ((nar .char c2_).toInt - c2_.toInt) % 65536 = 0 ∧ 0 ≤ (nar .char c2_).toInt ∧ (nar .char c2_).toInt < 65536 from c_i2c c2_)
    have p0 := hr2
    have p1 := ht2
    simp only [true_implies, Int32.lt_iff_toInt_lt, ← Int32.toInt_inj, Int32.reduceToInt, Int64.lt_iff_toInt_lt, ← Int64.toInt_inj, Int64.reduceToInt] at q0 q1 p0 p1 ⊢
    omega
  refine own_stC X97 hx hZ e97 f97 (2 : Int32) c2_ c2_ 2 ⟨by decide, by decide⟩ rfl (Nat.le_of_ble_eq_true rfl) c101 [(.int c0_), (.int c1_), (.int c2_)] rfl N97 ge89 (hb hby dc2_79) ?_
  intro T100 h100 L100 X100 e100 W100 N100 f100
  show oG p e below _ (T100.setTop (mkF m 80 #[.val (.ref ar), .val (.int z)] [(.ref b87), (.ref b82), (.ref b82)]))
  have c102 : (nar .byte (c0_.toInt8.toInt32)) = (c0_.toInt8.toInt32) := by
    have q0 := rng32 c0_
    have q1 := (show ((nar .char c0_).toInt - c0_.toInt) % 65536 = 0 ∧ 0 ≤ (nar .char c0_).toInt ∧ (nar .char c0_).toInt < 65536 from c_i2c c0_)
    have q2 := c_i2b c0_
    have q3 := (show ((nar .byte (c0_.toInt8.toInt32)).toInt - (c0_.toInt8.toInt32).toInt) % 256 = 0 ∧ -128 ≤ (nar .byte (c0_.toInt8.toInt32)).toInt ∧ (nar .byte (c0_.toInt8.toInt32)).toInt < 128 from c_i2b (c0_.toInt8.toInt32))
    have p0 := hr0
    have p1 := ht0
    have p2 := c95
    simp only [true_implies, Int32.lt_iff_toInt_lt, ← Int32.toInt_inj, Int32.reduceToInt, Int64.lt_iff_toInt_lt, ← Int64.toInt_inj, Int64.reduceToInt] at q0 q1 q2 q3 p0 p1 p2 ⊢
    omega
  have c103 : (nar .byte (c1_.toInt8.toInt32)) = (c1_.toInt8.toInt32) := by
    have q0 := rng32 c1_
    have q1 := (show ((nar .char c1_).toInt - c1_.toInt) % 65536 = 0 ∧ 0 ≤ (nar .char c1_).toInt ∧ (nar .char c1_).toInt < 65536 from c_i2c c1_)
    have q2 := c_i2b c1_
    have q3 := (show ((nar .byte (c1_.toInt8.toInt32)).toInt - (c1_.toInt8.toInt32).toInt) % 256 = 0 ∧ -128 ≤ (nar .byte (c1_.toInt8.toInt32)).toInt ∧ (nar .byte (c1_.toInt8.toInt32)).toInt < 128 from c_i2b (c1_.toInt8.toInt32))
    have p0 := hr1
    have p1 := ht1
    have p2 := c98
    simp only [true_implies, Int32.lt_iff_toInt_lt, ← Int32.toInt_inj, Int32.reduceToInt, Int64.lt_iff_toInt_lt, ← Int64.toInt_inj, Int64.reduceToInt] at q0 q1 q2 q3 p0 p1 p2 ⊢
    omega
  have c104 : (nar .byte (c2_.toInt8.toInt32)) = (c2_.toInt8.toInt32) := by
    have q0 := rng32 c2_
    have q1 := (show ((nar .char c2_).toInt - c2_.toInt) % 65536 = 0 ∧ 0 ≤ (nar .char c2_).toInt ∧ (nar .char c2_).toInt < 65536 from c_i2c c2_)
    have q2 := c_i2b c2_
    have q3 := (show ((nar .byte (c2_.toInt8.toInt32)).toInt - (c2_.toInt8.toInt32).toInt) % 256 = 0 ∧ -128 ≤ (nar .byte (c2_.toInt8.toInt32)).toInt ∧ (nar .byte (c2_.toInt8.toInt32)).toInt < 128 from c_i2b (c2_.toInt8.toInt32))
    have p0 := hr2
    have p1 := ht2
    have p2 := c101
    simp only [true_implies, Int32.lt_iff_toInt_lt, ← Int32.toInt_inj, Int32.reduceToInt, Int64.lt_iff_toInt_lt, ← Int64.toInt_inj, Int64.reduceToInt] at q0 q1 q2 q3 p0 p1 p2 ⊢
    omega
  have K106 := ((((K90.ext E87).wr W94 (Or.inr sz91)).wr W97 (Or.inr sz91)).wr W100 (Or.inr sz91))
  have f107 := (own_sta_keep S_COMPACT_STRINGS K106 all0)
  have f108 := (((EA87.wr W94).wr W97).wr W100)
  have f109 := ((((A82.ext E87).wr W94).wr W97).wr W100)
  have f110 := ((((f86.ext E87).other W94 (Or.inl (Nat.ne_of_lt (Nat.lt_of_lt_of_le A82.lt (Nat.le_of_eq g87.symm))))).other W97 (Or.inl (Nat.ne_of_lt (Nat.lt_of_lt_of_le A82.lt (Nat.le_of_eq g87.symm))))).other W100 (Or.inl (Nat.ne_of_lt (Nat.lt_of_lt_of_le A82.lt (Nat.le_of_eq g87.symm)))))
  have f111 := ((((f85.ext E87).other W94 (Or.inl (Nat.ne_of_lt (Nat.lt_of_lt_of_le A82.lt (Nat.le_of_eq g87.symm))))).other W97 (Or.inl (Nat.ne_of_lt (Nat.lt_of_lt_of_le A82.lt (Nat.le_of_eq g87.symm))))).other W100 (Or.inl (Nat.ne_of_lt (Nat.lt_of_lt_of_le A82.lt (Nat.le_of_eq g87.symm)))))
  have Z112 := (Nat.le_trans (Nat.le_trans (Nat.le_trans (Nat.le_trans Z88 E87.1) (Nat.le_of_eq W94.size.symm)) (Nat.le_of_eq W97.size.symm)) (Nat.le_of_eq W100.size.symm))
  refine own_cp X100 hx hZ hown rfl (hw _ (own_m 18 rfl)) (hw _ (own_m 19 rfl)) (hw _ (own_m 7 rfl)) (hw _ (own_m 20 rfl)) (by decide) (rm := { frames := 3, cells := 1, slots := 3, locals := 52 }) (rm_init_17 l Z a0 hw [] b82 b87 c0_ c1_ c2_ k87 i_COMPACT_STRINGS h100 n0 Z112 f100 f107 f108 f109 f110 f111 ge83 hs_COMPACT_STRINGS ht0 c102 ht1 c103 ht2 c104) (by decide) (W := 1) (by decide) (by decide) (by decide) e100 (by rw [hml]; rfl) (argsL := [(.ref b87)]) (lenOf own_pd1 rfl) (rest := [(.ref b82)]) rfl rfl (Nat.le_of_eq rfl) (hb hby dc2_80) ?_
  intro _ T105 L105 X105 hQ105
  obtain ⟨b105_0, kb105_0, rfl, N105q, K105, ge105_0, sz105_0, f105_0, f105_1, f105_2, f105_3⟩ := hQ105
  have N105 := Fr.app N100 N105q
  have sz113 : h0.size ≤ b105_0 := Nat.le_trans K106.1 sz105_0
  show oG p e below _ (T105.setTop (mkF m 83 #[.val (.ref ar), .val (.int z)] [(.ref b82)]))
  have f114 := (f109.keep K105)
  have el115 : z = (3 : Int32) := by
    have q0 := rng32 z
    have p0 := hz0
    have p1 := hzT
    have p2 := c1
    have p3 := c28
    have p4 := c39
    simp only [true_implies, Int32.lt_iff_toInt_lt, ← Int32.toInt_inj, Int32.reduceToInt, Int64.lt_iff_toInt_lt, ← Int64.toInt_inj, Int64.reduceToInt] at q0 p0 p1 p2 p3 p4 ⊢
    omega
  have ev116 : (own_sl c0_ c1_ c2_ z) = [(.int (c0_.toInt8.toInt32)), (.int (c1_.toInt8.toInt32)), (.int (c2_.toInt8.toInt32))] := by first | (rw [el115]; rfl) | (rw [el115]; simp [own_sl]; done) | (simp [own_sl, hs_COMPACT_STRINGS, hz0, hzT, hr0, ht0, hr1, ht1, hr2, ht2, c1, c28, c39, c95, c98, c101, c102, c103, c104]; done)
  have eb117 : Arv Z T105.heap b105_0 kb105_0 .byte z (own_sl c0_ c1_ c2_ z) (.int (0 : Int32)) := by rw [ev116, el115]; exact f105_3
  have K118 := (K106.trans K105 (allS (Or.inr sz84) all0))
  have hk119 := (Nat.le_trans (Nat.le_trans (Nat.le_trans (Nat.le_trans (Nat.le_trans (Nat.le_trans hk E82.1) E87.1) (Nat.le_of_eq W94.size.symm)) (Nat.le_of_eq W97.size.symm)) (Nat.le_of_eq W100.size.symm)) K105.1)
  have A120 := A0.trans (CHr.ext E82 A0.1)
  have A121 := A120.trans (CHr.ext E87 A120.1)
  have sf123 := (Safe.ext E87 A120.1 (Safe.new (Nat.le_of_eq g87.symm)))
  have A122 := A121.trans (CHr.wr W94 sf123 A121.1)
  have sf125 := (Safe.wr W94 sf123 A121.1 sf123)
  have A124 := A122.trans (CHr.wr W97 sf125 A122.1)
  have sf127 := (Safe.wr W97 sf125 A122.1 sf125)
  have A126 := A124.trans (CHr.wr W100 sf127 A124.1)
  have sf129 := (Safe.wr W100 sf127 A124.1 (Safe.wr W97 sf125 A122.1 (Safe.wr W94 sf123 A121.1 (Safe.ext E87 A120.1 (Safe.ext E82 A0.1 (Safe.new (Nat.le_of_eq g82.symm)))))))
  have A128 := A126.trans (CHr.keep K105 (sfS sf129 sf0) A126.1)
  exact own_retRW X105 hx hlk Bd.returns hS hk119 hZ hEL hh rfl A128 rfl rfl (hb hby dc2_83) (by decide) (by decide) (by exact ⟨b82, b105_0, kb105_0, rfl, N105, K118, ge83, sz84, f114, f105_0, f105_1, eb117⟩)
theorem own_sl_0 {c0_ c1_ c2_ z : Int32} {dv : Value} (h : (0 : Int32) < z) : (own_sl c0_ c1_ c2_ z).getD 0 dv = .int (own_by c0_) := by
  have h0 : z ≠ 0 := fun e => by subst e; exact absurd h (by decide)
  unfold own_sl; rw [if_neg h0]; repeat' split
  all_goals rfl
theorem own_sl_1 {c0_ c1_ c2_ z : Int32} {dv : Value} (h : (1 : Int32) < z) : (own_sl c0_ c1_ c2_ z).getD 1 dv = .int (own_by c1_) := by
  have h0 : z ≠ 0 := fun e => by subst e; exact absurd h (by decide)
  have h1 : z ≠ 1 := fun e => by subst e; exact absurd h (by decide)
  unfold own_sl; rw [if_neg h0, if_neg h1]; repeat' split
  all_goals rfl
theorem own_sl_2 {c0_ c1_ c2_ z : Int32} {dv : Value} (h : (2 : Int32) < z) : (own_sl c0_ c1_ c2_ z).getD 2 dv = .int (own_by c2_) := by
  have h0 : z ≠ 0 := fun e => by subst e; exact absurd h (by decide)
  have h1 : z ≠ 1 := fun e => by subst e; exact absurd h (by decide)
  have h2 : z ≠ 2 := fun e => by subst e; exact absurd h (by decide)
  unfold own_sl; rw [if_neg h0, if_neg h1, if_neg h2]; rfl
theorem dc16_0 : decode jdk_43_method_13_code 0 = .ok (.aload_n 0, 1) := by decide +kernel
theorem dc16_1 : decode jdk_43_method_13_code 1 = .ok (.arraylength, 1) := by decide +kernel
theorem dc16_2 : decode jdk_43_method_13_code 2 = .ok (.aload_n 1, 1) := by decide +kernel
theorem dc16_3 : decode jdk_43_method_13_code 3 = .ok (.arraylength, 1) := by decide +kernel
theorem dc16_4 : decode jdk_43_method_13_code 4 = .ok (.if_icmp .ne 30, 3) := by decide +kernel
theorem dc16_7 : decode jdk_43_method_13_code 7 = .ok (.iconst 0, 1) := by decide +kernel
theorem dc16_8 : decode jdk_43_method_13_code 8 = .ok (.istore_n 2, 1) := by decide +kernel
theorem dc16_9 : decode jdk_43_method_13_code 9 = .ok (.iload_n 2, 1) := by decide +kernel
theorem dc16_10 : decode jdk_43_method_13_code 10 = .ok (.aload_n 0, 1) := by decide +kernel
theorem dc16_11 : decode jdk_43_method_13_code 11 = .ok (.arraylength, 1) := by decide +kernel
theorem dc16_12 : decode jdk_43_method_13_code 12 = .ok (.if_icmp .ge 20, 3) := by decide +kernel
theorem dc16_15 : decode jdk_43_method_13_code 15 = .ok (.aload_n 0, 1) := by decide +kernel
theorem dc16_16 : decode jdk_43_method_13_code 16 = .ok (.iload_n 2, 1) := by decide +kernel
theorem dc16_17 : decode jdk_43_method_13_code 17 = .ok (.baload, 1) := by decide +kernel
theorem dc16_18 : decode jdk_43_method_13_code 18 = .ok (.aload_n 1, 1) := by decide +kernel
theorem dc16_19 : decode jdk_43_method_13_code 19 = .ok (.iload_n 2, 1) := by decide +kernel
theorem dc16_20 : decode jdk_43_method_13_code 20 = .ok (.baload, 1) := by decide +kernel
theorem dc16_21 : decode jdk_43_method_13_code 21 = .ok (.if_icmp .eq 5, 3) := by decide +kernel
theorem dc16_26 : decode jdk_43_method_13_code 26 = .ok (.iinc 2 1, 3) := by decide +kernel
theorem dc16_29 : decode jdk_43_method_13_code 29 = .ok (.goto (-20), 3) := by decide +kernel
theorem dc16_32 : decode jdk_43_method_13_code 32 = .ok (.iconst 1, 1) := by decide +kernel
theorem dc16_33 : decode jdk_43_method_13_code 33 = .ok (.ireturn, 1) := by decide +kernel
theorem dc16_24 : decode jdk_43_method_13_code 24 = .ok (.iconst 0, 1) := by decide +kernel
theorem dc16_25 : decode jdk_43_method_13_code 25 = .ok (.ireturn, 1) := by decide +kernel
theorem dc16_34 : decode jdk_43_method_13_code 34 = .ok (.iconst 0, 1) := by decide +kernel
theorem dc16_35 : decode jdk_43_method_13_code 35 = .ok (.ireturn, 1) := by decide +kernel
def own_leq (c0_1 : Int32) (c1_1 : Int32) (c2_1 : Int32) (z1 : Int32) (c0_2 : Int32) (c1_2 : Int32) (c2_2 : Int32) (z2 : Int32) : Int32 := (if z1 = z2 then (if (0 : Int32) < z1 then (if (own_by c0_1) = (own_by c0_2) then (if (1 : Int32) < z1 then (if (own_by c1_1) = (own_by c1_2) then (if (2 : Int32) < z1 then (if (own_by c2_1) = (own_by c2_2) then (1 : Int32) else (0 : Int32)) else (1 : Int32)) else (0 : Int32)) else (1 : Int32)) else (0 : Int32)) else (1 : Int32)) else (0 : Int32))
def Q_leq (Z : State) (c0_1 : Int32) (c1_1 : Int32) (c2_1 : Int32) (z1 : Int32) (c0_2 : Int32) (c1_2 : Int32) (c2_2 : Int32) (z2 : Int32) (h0 : Heap) (n0 : Nat) (v : Option Value) (h : Heap) (L : List Loc) : Prop := v = some (.int (own_leq c0_1 c1_1 c2_1 z1 c0_2 c1_2 c2_2 z2)) ∧ Fr n0 L ∧ h = h0
set_option maxRecDepth 65536 in
set_option maxHeartbeats 40000000 in
theorem rm_leq (l : Launch) (Z : State) (a0 : Array Value) (hw : ∀ d ∈ tables_1, d.before a0 Z = true) (ws : List Jvm.Cond) (o1 : Addr) (o2 : Addr) (k1 : ClassId) (k2 : ClassId) (c0_1 : Int32) (c1_1 : Int32) (c2_1 : Int32) (z1 : Int32) (c0_2 : Int32) (c1_2 : Int32) (c2_2 : Int32) (z2 : Int32) (h0 : Heap) (n0 : Nat) (Z0 : n0 ≤ h0.size) (V1 : Arv Z h0 o1 k1 .byte z1 (own_sl c0_1 c1_1 c2_1 z1) (.int (0 : Int32))) (V2 : Arv Z h0 o2 k2 .byte z2 (own_sl c0_2 c1_2 c2_2 z2) (.int (0 : Int32))) (hz10 : ¬ (z1 < (0 : Int32))) (hz1T : ¬ ((3 : Int32) < z1)) (hz20 : ¬ (z2 < (0 : Int32))) (hz2T : ¬ ((3 : Int32) < z2)) :
    MetFree l (⟨"java/lang/StringLatin1", "equals", "([B[B)Z"⟩ : MethodName) (head1 (Jvm.Cond.code (⟨"java/lang/StringLatin1", "equals", "([B[B)Z"⟩ : MethodName) jdk_43_method_13_code 3 (some .boolean) :: ws) ({ frames := 0, cells := 0, slots := 0, locals := 0 } : Room)) (fun aA U => aA = #[(.ref o1), (.ref o2)] ∧ Z.Warmed39 U.vm ∧ U.heap = h0) (fun _ _ _ _ _ => True) (fun _ U o U' => ∃ v L, o = .returned v ∧ Q_leq Z c0_1 c1_1 c2_1 z1 c0_2 c1_2 c2_2 z2 h0 n0 v U'.heap L ∧ FrameEnd U o U' L ({ frames := 0, cells := 0, slots := 0, locals := 0 } : Room).cells ({ frames := 0, cells := 0, slots := 0, locals := 0 } : Room).slots) := by
  refine MetFree.of_bodySF (plainFor_of_name own_pn_java_lang_StringLatin1) hisR ?_
  intro p e s m args below meth c s₁ Bd hml0 hP hK
  obtain ⟨rfl, hZ, hh⟩ := hP
  have hx := Bd.exec
  have hby := Bd.bytes
  have hlk : meth.locks = false := BodyLoose.notSynchronized Bd
  have hml : c.maxLocals = 3 := hml0
  have hown : s.vm.findClass "java/lang/StringLatin1" = some m.cls := findClass_of_methodNamed Bd.named
  have hnm := (name_of_methodNamed Bd.named Bd.method).1
  have X0 : Stand p l e ({ frames := 0, cells := 0, slots := 0, locals := 0 } : Room) s m #[(.ref o1), (.ref o2)] below meth c s₁ [] 0 0 := Stand.of_body Bd
  have e0 : s₁.heap = h0 := by rw [← hh, Bd.state]; rfl
  have N0 := Fr.nil n0
  show oG p e below (own_K s (Q_leq Z c0_1 c1_1 c2_1 z1 c0_2 c1_2 c2_2 z2 h0 n0) ({ frames := 0, cells := 0, slots := 0, locals := 0 } : Room).cells ({ frames := 0, cells := 0, slots := 0, locals := 0 } : Room).slots) (s₁.setTop (entryFrame m #[(.ref o1), (.ref o2)] 3))
  rw [(by first | (simp [entryFrame, mkF, argsToLocals, Value.category]; done) | rfl : entryFrame m #[(.ref o1), (.ref o2)] 3 = mkF m 0 #[.val (.ref o1), .val (.ref o2), .unset] [])]
  show oG p e below _ (s₁.setTop (mkF m 0 #[.val (.ref o1), .val (.ref o2), .unset] []))
  refine og (fun _ hr => XS.aloadN X0.here hx rfl (hb hby dc16_0) rfl rfl (own_alen X0 hx hZ e0 V1 rfl rfl (hb hby dc16_1) (XS.aloadN X0.here hx rfl (hb hby dc16_2) rfl rfl (own_alen X0 hx hZ e0 V2 rfl rfl (hb hby dc16_3) hr)))) ?_
  show oG p e below _ (s₁.setTop (mkF m 4 #[.val (.ref o1), .val (.ref o2), .unset] [(.int z2), (.int z1)]))
  rcases Classical.em (z1 = z2) with c1 | c1
  · skip
    refine og (fun _ hr => XS.icmpNo X0.here hx rfl (hb hby dc16_4) rfl (teq c1).2 hr) ?_
    show oG p e below _ (s₁.setTop (mkF m 7 #[.val (.ref o1), .val (.ref o2), .unset] []))
    refine og (fun _ hr => XS.iconst X0.here hx rfl (hb hby dc16_7) (XS.istoreN X0.here hx rfl (hb hby dc16_8) rfl (l' := #[.val (.ref o1), .val (.ref o2), .val (.int (0 : Int32))]) rfl (XS.iloadN X0.here hx rfl (hb hby dc16_9) rfl (XS.aloadN X0.here hx rfl (hb hby dc16_10) rfl rfl (own_alen X0 hx hZ e0 V1 rfl rfl (hb hby dc16_11) hr))))) ?_
    show oG p e below _ (s₁.setTop (mkF m 12 #[.val (.ref o1), .val (.ref o2), .val (.int (0 : Int32))] [(.int z1), (.int (0 : Int32))]))
    rcases Classical.em ((0 : Int32) < z1) with c2 | c2
    · skip
      refine og (fun _ hr => XS.icmpNo X0.here hx rfl (hb hby dc16_12) rfl (tlt c2).2.1 hr) ?_
      show oG p e below _ (s₁.setTop (mkF m 15 #[.val (.ref o1), .val (.ref o2), .val (.int (0 : Int32))] []))
      have c3 : (0 : Int32) < z2 := by
        have q0 := rng32 z2
        have q1 := rng32 z1
        have p0 := hz20
        have p1 := hz2T
        have p2 := c1
        have p3 := c2
        have p4 := hz10
        have p5 := hz1T
        simp only [true_implies, Int32.lt_iff_toInt_lt, ← Int32.toInt_inj, Int32.reduceToInt, Int64.lt_iff_toInt_lt, ← Int64.toInt_inj, Int64.reduceToInt] at q0 q1 p0 p1 p2 p3 p4 p5 ⊢
        omega
      refine og (fun _ hr => XS.aloadN X0.here hx rfl (hb hby dc16_15) rfl rfl (XS.iloadN X0.here hx rfl (hb hby dc16_16) rfl (own_baload X0 hx hZ e0 V1 (0 : Int32) (.int (own_by c0_1)) ⟨by decide, c2⟩ (own_sl_0 c2) rfl rfl (hb hby dc16_17) (XS.aloadN X0.here hx rfl (hb hby dc16_18) rfl rfl (XS.iloadN X0.here hx rfl (hb hby dc16_19) rfl (own_baload X0 hx hZ e0 V2 (0 : Int32) (.int (own_by c0_2)) ⟨by decide, c3⟩ (own_sl_0 c3) rfl rfl (hb hby dc16_20) hr)))))) ?_
      show oG p e below _ (s₁.setTop (mkF m 21 #[.val (.ref o1), .val (.ref o2), .val (.int (0 : Int32))] [(.int (own_by c0_2)), (.int (own_by c0_1))]))
      rcases Classical.em ((own_by c0_1) = (own_by c0_2)) with c4 | c4
      · skip
        refine og (fun _ hr => XS.icmpYes X0.here hx rfl (pc0 := 21) (pc' := 26) rfl (hb hby dc16_21) rfl (teq c4).1 (by decide) (by decide) hr) ?_
        show oG p e below _ (s₁.setTop (mkF m 26 #[.val (.ref o1), .val (.ref o2), .val (.int (0 : Int32))] []))
        refine og (fun _ hr => XS.iinc X0.here hx rfl (hb hby dc16_26) rfl (l' := #[.val (.ref o1), .val (.ref o2), .val (.int (1 : Int32))]) rfl (XS.goto X0.here hx rfl (pc0 := 29) (pc' := 9) rfl (hb hby dc16_29) (by decide) (by decide) (XS.iloadN X0.here hx rfl (hb hby dc16_9) rfl (XS.aloadN X0.here hx rfl (hb hby dc16_10) rfl rfl (own_alen X0 hx hZ e0 V1 rfl rfl (hb hby dc16_11) hr))))) ?_
        show oG p e below _ (s₁.setTop (mkF m 12 #[.val (.ref o1), .val (.ref o2), .val (.int (1 : Int32))] [(.int z1), (.int (1 : Int32))]))
        rcases Classical.em ((1 : Int32) < z1) with c5 | c5
        · skip
          refine og (fun _ hr => XS.icmpNo X0.here hx rfl (hb hby dc16_12) rfl (tlt c5).2.1 hr) ?_
          show oG p e below _ (s₁.setTop (mkF m 15 #[.val (.ref o1), .val (.ref o2), .val (.int (1 : Int32))] []))
          have c6 : (1 : Int32) < z2 := by
            have q0 := rng32 z2
            have q1 := rng32 z1
            have p0 := hz20
            have p1 := hz2T
            have p2 := c1
            have p3 := c2
            have p4 := c3
            have p5 := c5
            have p6 := hz10
            have p7 := hz1T
            simp only [true_implies, Int32.lt_iff_toInt_lt, ← Int32.toInt_inj, Int32.reduceToInt, Int64.lt_iff_toInt_lt, ← Int64.toInt_inj, Int64.reduceToInt] at q0 q1 p0 p1 p2 p3 p4 p5 p6 p7 ⊢
            omega
          refine og (fun _ hr => XS.aloadN X0.here hx rfl (hb hby dc16_15) rfl rfl (XS.iloadN X0.here hx rfl (hb hby dc16_16) rfl (own_baload X0 hx hZ e0 V1 (1 : Int32) (.int (own_by c1_1)) ⟨by decide, c5⟩ (own_sl_1 c5) rfl rfl (hb hby dc16_17) (XS.aloadN X0.here hx rfl (hb hby dc16_18) rfl rfl (XS.iloadN X0.here hx rfl (hb hby dc16_19) rfl (own_baload X0 hx hZ e0 V2 (1 : Int32) (.int (own_by c1_2)) ⟨by decide, c6⟩ (own_sl_1 c6) rfl rfl (hb hby dc16_20) hr)))))) ?_
          show oG p e below _ (s₁.setTop (mkF m 21 #[.val (.ref o1), .val (.ref o2), .val (.int (1 : Int32))] [(.int (own_by c1_2)), (.int (own_by c1_1))]))
          rcases Classical.em ((own_by c1_1) = (own_by c1_2)) with c7 | c7
          · skip
            refine og (fun _ hr => XS.icmpYes X0.here hx rfl (pc0 := 21) (pc' := 26) rfl (hb hby dc16_21) rfl (teq c7).1 (by decide) (by decide) hr) ?_
            show oG p e below _ (s₁.setTop (mkF m 26 #[.val (.ref o1), .val (.ref o2), .val (.int (1 : Int32))] []))
            refine og (fun _ hr => XS.iinc X0.here hx rfl (hb hby dc16_26) rfl (l' := #[.val (.ref o1), .val (.ref o2), .val (.int (2 : Int32))]) rfl (XS.goto X0.here hx rfl (pc0 := 29) (pc' := 9) rfl (hb hby dc16_29) (by decide) (by decide) (XS.iloadN X0.here hx rfl (hb hby dc16_9) rfl (XS.aloadN X0.here hx rfl (hb hby dc16_10) rfl rfl (own_alen X0 hx hZ e0 V1 rfl rfl (hb hby dc16_11) hr))))) ?_
            show oG p e below _ (s₁.setTop (mkF m 12 #[.val (.ref o1), .val (.ref o2), .val (.int (2 : Int32))] [(.int z1), (.int (2 : Int32))]))
            rcases Classical.em ((2 : Int32) < z1) with c8 | c8
            · skip
              refine og (fun _ hr => XS.icmpNo X0.here hx rfl (hb hby dc16_12) rfl (tlt c8).2.1 hr) ?_
              show oG p e below _ (s₁.setTop (mkF m 15 #[.val (.ref o1), .val (.ref o2), .val (.int (2 : Int32))] []))
              have c9 : (2 : Int32) < z2 := by
                have q0 := rng32 z2
                have q1 := rng32 z1
                have p0 := hz20
                have p1 := hz2T
                have p2 := c1
                have p3 := c2
                have p4 := c3
                have p5 := c5
                have p6 := c6
                have p7 := c8
                have p8 := hz10
                have p9 := hz1T
                simp only [true_implies, Int32.lt_iff_toInt_lt, ← Int32.toInt_inj, Int32.reduceToInt, Int64.lt_iff_toInt_lt, ← Int64.toInt_inj, Int64.reduceToInt] at q0 q1 p0 p1 p2 p3 p4 p5 p6 p7 p8 p9 ⊢
                omega
              refine og (fun _ hr => XS.aloadN X0.here hx rfl (hb hby dc16_15) rfl rfl (XS.iloadN X0.here hx rfl (hb hby dc16_16) rfl (own_baload X0 hx hZ e0 V1 (2 : Int32) (.int (own_by c2_1)) ⟨by decide, c8⟩ (own_sl_2 c8) rfl rfl (hb hby dc16_17) (XS.aloadN X0.here hx rfl (hb hby dc16_18) rfl rfl (XS.iloadN X0.here hx rfl (hb hby dc16_19) rfl (own_baload X0 hx hZ e0 V2 (2 : Int32) (.int (own_by c2_2)) ⟨by decide, c9⟩ (own_sl_2 c9) rfl rfl (hb hby dc16_20) hr)))))) ?_
              show oG p e below _ (s₁.setTop (mkF m 21 #[.val (.ref o1), .val (.ref o2), .val (.int (2 : Int32))] [(.int (own_by c2_2)), (.int (own_by c2_1))]))
              rcases Classical.em ((own_by c2_1) = (own_by c2_2)) with c10 | c10
              · skip
                refine og (fun _ hr => XS.icmpYes X0.here hx rfl (pc0 := 21) (pc' := 26) rfl (hb hby dc16_21) rfl (teq c10).1 (by decide) (by decide) hr) ?_
                show oG p e below _ (s₁.setTop (mkF m 26 #[.val (.ref o1), .val (.ref o2), .val (.int (2 : Int32))] []))
                refine og (fun _ hr => XS.iinc X0.here hx rfl (hb hby dc16_26) rfl (l' := #[.val (.ref o1), .val (.ref o2), .val (.int (3 : Int32))]) rfl (XS.goto X0.here hx rfl (pc0 := 29) (pc' := 9) rfl (hb hby dc16_29) (by decide) (by decide) (XS.iloadN X0.here hx rfl (hb hby dc16_9) rfl (XS.aloadN X0.here hx rfl (hb hby dc16_10) rfl rfl (own_alen X0 hx hZ e0 V1 rfl rfl (hb hby dc16_11) hr))))) ?_
                show oG p e below _ (s₁.setTop (mkF m 12 #[.val (.ref o1), .val (.ref o2), .val (.int (3 : Int32))] [(.int z1), (.int (3 : Int32))]))
                refine og (fun _ hr => XS.icmpYes X0.here hx rfl (pc0 := 12) (pc' := 32) rfl (hb hby dc16_12) rfl (flt hz1T).2.1 (by decide) (by decide) hr) ?_
                show oG p e below _ (s₁.setTop (mkF m 32 #[.val (.ref o1), .val (.ref o2), .val (.int (3 : Int32))] []))
                refine og (fun _ hr => XS.iconst X0.here hx rfl (hb hby dc16_32) hr) ?_
                show oG p e below _ (s₁.setTop (mkF m 33 #[.val (.ref o1), .val (.ref o2), .val (.int (3 : Int32))] [(.int (1 : Int32))]))
                exact own_retN X0 hx hlk Bd.returns (t := .boolean) (by simp) (hb hby dc16_33) (by decide) (by decide) ⟨(congrArg (fun q => some (Value.int q)) (show (1 : Int32) = own_leq c0_1 c1_1 c2_1 z1 c0_2 c1_2 c2_2 z2 from Eq.symm (by unfold own_leq; rw [if_pos c1, if_pos c2, if_pos c4, if_pos c5, if_pos c7, if_pos c8, if_pos c10]))), N0, e0⟩
              refine og (fun _ hr => XS.icmpNo X0.here hx rfl (hb hby dc16_21) rfl (feq c10).1 hr) ?_
              show oG p e below _ (s₁.setTop (mkF m 24 #[.val (.ref o1), .val (.ref o2), .val (.int (2 : Int32))] []))
              refine og (fun _ hr => XS.iconst X0.here hx rfl (hb hby dc16_24) hr) ?_
              show oG p e below _ (s₁.setTop (mkF m 25 #[.val (.ref o1), .val (.ref o2), .val (.int (2 : Int32))] [(.int (0 : Int32))]))
              exact own_retN X0 hx hlk Bd.returns (t := .boolean) (by simp) (hb hby dc16_25) (by decide) (by decide) ⟨(congrArg (fun q => some (Value.int q)) (show (0 : Int32) = own_leq c0_1 c1_1 c2_1 z1 c0_2 c1_2 c2_2 z2 from Eq.symm (by unfold own_leq; rw [if_pos c1, if_pos c2, if_pos c4, if_pos c5, if_pos c7, if_pos c8, if_neg c10]))), N0, e0⟩
            refine og (fun _ hr => XS.icmpYes X0.here hx rfl (pc0 := 12) (pc' := 32) rfl (hb hby dc16_12) rfl (flt c8).2.1 (by decide) (by decide) hr) ?_
            show oG p e below _ (s₁.setTop (mkF m 32 #[.val (.ref o1), .val (.ref o2), .val (.int (2 : Int32))] []))
            refine og (fun _ hr => XS.iconst X0.here hx rfl (hb hby dc16_32) hr) ?_
            show oG p e below _ (s₁.setTop (mkF m 33 #[.val (.ref o1), .val (.ref o2), .val (.int (2 : Int32))] [(.int (1 : Int32))]))
            exact own_retN X0 hx hlk Bd.returns (t := .boolean) (by simp) (hb hby dc16_33) (by decide) (by decide) ⟨(congrArg (fun q => some (Value.int q)) (show (1 : Int32) = own_leq c0_1 c1_1 c2_1 z1 c0_2 c1_2 c2_2 z2 from Eq.symm (by unfold own_leq; rw [if_pos c1, if_pos c2, if_pos c4, if_pos c5, if_pos c7, if_neg c8]))), N0, e0⟩
          refine og (fun _ hr => XS.icmpNo X0.here hx rfl (hb hby dc16_21) rfl (feq c7).1 hr) ?_
          show oG p e below _ (s₁.setTop (mkF m 24 #[.val (.ref o1), .val (.ref o2), .val (.int (1 : Int32))] []))
          refine og (fun _ hr => XS.iconst X0.here hx rfl (hb hby dc16_24) hr) ?_
          show oG p e below _ (s₁.setTop (mkF m 25 #[.val (.ref o1), .val (.ref o2), .val (.int (1 : Int32))] [(.int (0 : Int32))]))
          exact own_retN X0 hx hlk Bd.returns (t := .boolean) (by simp) (hb hby dc16_25) (by decide) (by decide) ⟨(congrArg (fun q => some (Value.int q)) (show (0 : Int32) = own_leq c0_1 c1_1 c2_1 z1 c0_2 c1_2 c2_2 z2 from Eq.symm (by unfold own_leq; rw [if_pos c1, if_pos c2, if_pos c4, if_pos c5, if_neg c7]))), N0, e0⟩
        refine og (fun _ hr => XS.icmpYes X0.here hx rfl (pc0 := 12) (pc' := 32) rfl (hb hby dc16_12) rfl (flt c5).2.1 (by decide) (by decide) hr) ?_
        show oG p e below _ (s₁.setTop (mkF m 32 #[.val (.ref o1), .val (.ref o2), .val (.int (1 : Int32))] []))
        refine og (fun _ hr => XS.iconst X0.here hx rfl (hb hby dc16_32) hr) ?_
        show oG p e below _ (s₁.setTop (mkF m 33 #[.val (.ref o1), .val (.ref o2), .val (.int (1 : Int32))] [(.int (1 : Int32))]))
        exact own_retN X0 hx hlk Bd.returns (t := .boolean) (by simp) (hb hby dc16_33) (by decide) (by decide) ⟨(congrArg (fun q => some (Value.int q)) (show (1 : Int32) = own_leq c0_1 c1_1 c2_1 z1 c0_2 c1_2 c2_2 z2 from Eq.symm (by unfold own_leq; rw [if_pos c1, if_pos c2, if_pos c4, if_neg c5]))), N0, e0⟩
      refine og (fun _ hr => XS.icmpNo X0.here hx rfl (hb hby dc16_21) rfl (feq c4).1 hr) ?_
      show oG p e below _ (s₁.setTop (mkF m 24 #[.val (.ref o1), .val (.ref o2), .val (.int (0 : Int32))] []))
      refine og (fun _ hr => XS.iconst X0.here hx rfl (hb hby dc16_24) hr) ?_
      show oG p e below _ (s₁.setTop (mkF m 25 #[.val (.ref o1), .val (.ref o2), .val (.int (0 : Int32))] [(.int (0 : Int32))]))
      exact own_retN X0 hx hlk Bd.returns (t := .boolean) (by simp) (hb hby dc16_25) (by decide) (by decide) ⟨(congrArg (fun q => some (Value.int q)) (show (0 : Int32) = own_leq c0_1 c1_1 c2_1 z1 c0_2 c1_2 c2_2 z2 from Eq.symm (by unfold own_leq; rw [if_pos c1, if_pos c2, if_neg c4]))), N0, e0⟩
    refine og (fun _ hr => XS.icmpYes X0.here hx rfl (pc0 := 12) (pc' := 32) rfl (hb hby dc16_12) rfl (flt c2).2.1 (by decide) (by decide) hr) ?_
    show oG p e below _ (s₁.setTop (mkF m 32 #[.val (.ref o1), .val (.ref o2), .val (.int (0 : Int32))] []))
    refine og (fun _ hr => XS.iconst X0.here hx rfl (hb hby dc16_32) hr) ?_
    show oG p e below _ (s₁.setTop (mkF m 33 #[.val (.ref o1), .val (.ref o2), .val (.int (0 : Int32))] [(.int (1 : Int32))]))
    exact own_retN X0 hx hlk Bd.returns (t := .boolean) (by simp) (hb hby dc16_33) (by decide) (by decide) ⟨(congrArg (fun q => some (Value.int q)) (show (1 : Int32) = own_leq c0_1 c1_1 c2_1 z1 c0_2 c1_2 c2_2 z2 from Eq.symm (by unfold own_leq; rw [if_pos c1, if_neg c2]))), N0, e0⟩
  refine og (fun _ hr => XS.icmpYes X0.here hx rfl (pc0 := 4) (pc' := 34) rfl (hb hby dc16_4) rfl (feq c1).2 (by decide) (by decide) hr) ?_
  show oG p e below _ (s₁.setTop (mkF m 34 #[.val (.ref o1), .val (.ref o2), .unset] []))
  refine og (fun _ hr => XS.iconst X0.here hx rfl (hb hby dc16_34) hr) ?_
  show oG p e below _ (s₁.setTop (mkF m 35 #[.val (.ref o1), .val (.ref o2), .unset] [(.int (0 : Int32))]))
  exact own_retN X0 hx hlk Bd.returns (t := .boolean) (by simp) (hb hby dc16_35) (by decide) (by decide) ⟨(congrArg (fun q => some (Value.int q)) (show (0 : Int32) = own_leq c0_1 c1_1 c2_1 z1 c0_2 c1_2 c2_2 z2 from Eq.symm (by unfold own_leq; rw [if_neg c1]))), N0, e0⟩
theorem dc1_0 : decode method_3_code 0 = .ok (.iconst 3, 1) := by decide +kernel
theorem dc1_1 : decode method_3_code 1 = .ok (.newarray .char, 2) := by decide +kernel
theorem dc1_3 : decode method_3_code 3 = .ok (.dup, 1) := by decide +kernel
theorem dc1_4 : decode method_3_code 4 = .ok (.iconst 0, 1) := by decide +kernel
theorem dc1_5 : decode method_3_code 5 = .ok (.lload_n 0, 1) := by decide +kernel
theorem dc1_6 : decode method_3_code 6 = .ok (.iload_n 2, 1) := by decide +kernel
theorem dc1_7 : decode method_3_code 7 = .ok (.lushr, 1) := by decide +kernel
theorem dc1_8 : decode method_3_code 8 = .ok (.ldc2_w 39, 3) := by decide +kernel
theorem dc1_11 : decode method_3_code 11 = .ok (.land, 1) := by decide +kernel
theorem dc1_12 : decode method_3_code 12 = .ok (.l2i, 1) := by decide +kernel
theorem dc1_13 : decode method_3_code 13 = .ok (.i2c, 1) := by decide +kernel
theorem dc1_14 : decode method_3_code 14 = .ok (.castore, 1) := by decide +kernel
theorem dc1_15 : decode method_3_code 15 = .ok (.dup, 1) := by decide +kernel
theorem dc1_16 : decode method_3_code 16 = .ok (.iconst 1, 1) := by decide +kernel
theorem dc1_17 : decode method_3_code 17 = .ok (.lload_n 0, 1) := by decide +kernel
theorem dc1_18 : decode method_3_code 18 = .ok (.iload_n 2, 1) := by decide +kernel
theorem dc1_19 : decode method_3_code 19 = .ok (.bipush 8, 2) := by decide +kernel
theorem dc1_21 : decode method_3_code 21 = .ok (.iadd, 1) := by decide +kernel
theorem dc1_22 : decode method_3_code 22 = .ok (.lushr, 1) := by decide +kernel
theorem dc1_23 : decode method_3_code 23 = .ok (.ldc2_w 39, 3) := by decide +kernel
theorem dc1_26 : decode method_3_code 26 = .ok (.land, 1) := by decide +kernel
theorem dc1_27 : decode method_3_code 27 = .ok (.l2i, 1) := by decide +kernel
theorem dc1_28 : decode method_3_code 28 = .ok (.i2c, 1) := by decide +kernel
theorem dc1_29 : decode method_3_code 29 = .ok (.castore, 1) := by decide +kernel
theorem dc1_30 : decode method_3_code 30 = .ok (.dup, 1) := by decide +kernel
theorem dc1_31 : decode method_3_code 31 = .ok (.iconst 2, 1) := by decide +kernel
theorem dc1_32 : decode method_3_code 32 = .ok (.lload_n 0, 1) := by decide +kernel
theorem dc1_33 : decode method_3_code 33 = .ok (.iload_n 2, 1) := by decide +kernel
theorem dc1_34 : decode method_3_code 34 = .ok (.bipush 16, 2) := by decide +kernel
theorem dc1_36 : decode method_3_code 36 = .ok (.iadd, 1) := by decide +kernel
theorem dc1_37 : decode method_3_code 37 = .ok (.lushr, 1) := by decide +kernel
theorem dc1_38 : decode method_3_code 38 = .ok (.ldc2_w 39, 3) := by decide +kernel
theorem dc1_41 : decode method_3_code 41 = .ok (.land, 1) := by decide +kernel
theorem dc1_42 : decode method_3_code 42 = .ok (.l2i, 1) := by decide +kernel
theorem dc1_43 : decode method_3_code 43 = .ok (.i2c, 1) := by decide +kernel
theorem dc1_44 : decode method_3_code 44 = .ok (.castore, 1) := by decide +kernel
theorem dc1_45 : decode method_3_code 45 = .ok (.areturn, 1) := by decide +kernel
def own_ch (xx_ : Int64) (sh_ : Int32) : Int32 := (((((xx_.toUInt64 >>> (sh_ &&& 0x3f).toInt64.toUInt64).toInt64) &&& (255 : Int64)).toInt32).toUInt32.toUInt16.toUInt32.toInt32)
theorem own_ch_v (xx_ : Int64) (sh_ : Int32) : 0 ≤ (own_ch xx_ sh_).toInt ∧ (own_ch xx_ sh_).toInt < 256 := by
  unfold own_ch
  have q1 := rng32 sh_
  have q3 := c_maskL ((xx_.toUInt64 >>> (sh_ &&& 0x3f).toInt64.toUInt64).toInt64) (255 : Int64) 8 (by decide) (by decide)
  have q4 := c_l2i (((xx_.toUInt64 >>> (sh_ &&& 0x3f).toInt64.toUInt64).toInt64) &&& (255 : Int64))
  have q5 := c_i2c ((((xx_.toUInt64 >>> (sh_ &&& 0x3f).toInt64.toUInt64).toInt64) &&& (255 : Int64)).toInt32)
  omega
def Q_chars (Z : State) (xx_ : Int64) (sh_ : Int32) (sh8_ : Int32) (sh16_ : Int32) (h0 : Heap) (n0 : Nat) (v : Option Value) (h : Heap) (L : List Loc) : Prop := (∃ (a : Addr) (k : ClassId), v = some (.ref a) ∧ Fr n0 L ∧ Keep h0 h [] ∧ n0 ≤ a ∧ h0.size ≤ a ∧ Exa Z h a "[C" ∧ Arv Z h a k .char (3 : Int32) [(.int (own_ch xx_ sh_)), (.int (own_ch xx_ sh8_)), (.int (own_ch xx_ sh16_))] (.int (0 : Int32)))
set_option maxRecDepth 65536 in
set_option maxHeartbeats 40000000 in
theorem rm_chars (l : Launch) (Z : State) (a0 : Array Value) (hw : ∀ d ∈ tables_1, d.before a0 Z = true) (ws : List Jvm.Cond) (xx_ : Int64) (sh_ : Int32) (sh8_ : Int32) (sh16_ : Int32) (h0 : Heap) (n0 : Nat) (Z0 : n0 ≤ h0.size) (hs8 : sh_ + (8 : Int32) = sh8_) (hs16 : sh_ + (16 : Int32) = sh16_) :
    MetFree l (⟨"com/example/ruleweave/ruleweave/CommonPolicySchemaTermAdmitsPinLaw", "chars", "(JI)[C"⟩ : MethodName) (head1 (Jvm.Cond.code (⟨"com/example/ruleweave/ruleweave/CommonPolicySchemaTermAdmitsPinLaw", "chars", "(JI)[C"⟩ : MethodName) method_3_code 3 (some (.array .char)) :: ws) ({ frames := 0, cells := 1, slots := 3, locals := 0 } : Room)) (fun aA U => aA = #[(.long xx_), (.int sh_)] ∧ Z.Warmed39 U.vm ∧ U.heap = h0) (fun _ _ _ _ _ => True) (fun _ U o U' => ∃ v L, o = .returned v ∧ Q_chars Z xx_ sh_ sh8_ sh16_ h0 n0 v U'.heap L ∧ FrameEnd U o U' L ({ frames := 0, cells := 1, slots := 3, locals := 0 } : Room).cells ({ frames := 0, cells := 1, slots := 3, locals := 0 } : Room).slots) := by
  refine MetFree.of_bodySF (plainFor_of_name own_pn_com_example_ruleweave_ruleweave_CommonPolicySchemaTermAdmitsPinLaw) hisR ?_
  intro p e s m args below meth c s₁ Bd hml0 hP hK
  obtain ⟨rfl, hZ, hh⟩ := hP
  have hx := Bd.exec
  have hby := Bd.bytes
  have hlk : meth.locks = false := BodyLoose.notSynchronized Bd
  have hml : c.maxLocals = 3 := hml0
  have hown : s.vm.findClass "com/example/ruleweave/ruleweave/CommonPolicySchemaTermAdmitsPinLaw" = some m.cls := findClass_of_methodNamed Bd.named
  have hnm := (name_of_methodNamed Bd.named Bd.method).1
  have X0 : Stand p l e ({ frames := 0, cells := 1, slots := 3, locals := 0 } : Room) s m #[(.long xx_), (.int sh_)] below meth c s₁ [] 0 0 := Stand.of_body Bd
  have e0 : s₁.heap = h0 := by rw [← hh, Bd.state]; rfl
  have N0 := Fr.nil n0
  have K0 : Keep h0 h0 [] := Keep.refl _ _
  show oG p e below (own_K s (Q_chars Z xx_ sh_ sh8_ sh16_ h0 n0) ({ frames := 0, cells := 1, slots := 3, locals := 0 } : Room).cells ({ frames := 0, cells := 1, slots := 3, locals := 0 } : Room).slots) (s₁.setTop (entryFrame m #[(.long xx_), (.int sh_)] 3))
  rw [(by first | (simp [entryFrame, mkF, argsToLocals, Value.category]; done) | rfl : entryFrame m #[(.long xx_), (.int sh_)] 3 = mkF m 0 #[.val (.long xx_), .second, .val (.int sh_)] [])]
  show oG p e below _ (s₁.setTop (mkF m 0 #[.val (.long xx_), .second, .val (.int sh_)] []))
  refine og (fun _ hr => XS.iconst X0.here hx rfl (hb hby dc1_0) hr) ?_
  show oG p e below _ (s₁.setTop (mkF m 1 #[.val (.long xx_), .second, .val (.int sh_)] [(.int (3 : Int32))]))
  obtain ⟨T1, h1, k1, X1, e1, E1, A1, EA1, st1⟩ := newPE X0 hx hZ (hw _ (own_m 4 rfl)) e0 (g := (mkF m 1 #[.val (.long xx_), .second, .val (.int sh_)] [(.int (3 : Int32))])) rfl (hb hby dc1_1) rfl (by decide) (cap := 3) (by decide) (by decide) (by decide) (by decide) (ad := "[C") (by decide)
  obtain ⟨b1, g1⟩ : ∃ z, z = h0.size := ⟨_, rfl⟩
  rw [← g1] at A1 EA1 st1
  have ge2 : n0 ≤ b1 := Nat.le_trans Z0 (Nat.le_of_eq g1.symm)
  have sz3 : h0.size ≤ b1 := Nat.le_trans K0.1 (Nat.le_of_eq g1.symm)
  refine og st1 ?_
  have f4 : Arv Z h1 b1 k1 .char (3 : Int32) [(.int (0 : Int32)), (.int (0 : Int32)), (.int (0 : Int32))] (.int (0 : Int32)) := (Arv.new A1 (by decide)).pad (pad_rep [] (.int (0 : Int32)) 3)
  show oG p e below _ (T1.setTop (mkF m 3 #[.val (.long xx_), .second, .val (.int sh_)] [(.ref b1)]))
  refine og (fun _ hr => XS.dup X1.here hx rfl (hb hby dc1_3) rfl rfl (XS.iconst X1.here hx rfl (hb hby dc1_4) (XS.lloadN X1.here hx rfl (hb hby dc1_5) rfl (XS.iloadN X1.here hx rfl (hb hby dc1_6) rfl (XS.lushr X1.here hx rfl (hb hby dc1_7) rfl hr))))) ?_
  show oG p e below _ (T1.setTop (mkF m 8 #[.val (.long xx_), .second, .val (.int sh_)] [(.long ((xx_.toUInt64 >>> (sh_ &&& 0x3f).toInt64.toUInt64).toInt64)), (.int (0 : Int32)), (.ref b1), (.ref b1)]))
  refine og (X1.ldc2Long hx hown (mvT hZ (hw _ (own_m 5 rfl))) rfl (hb hby dc1_8)) ?_
  show oG p e below _ (T1.setTop (mkF m 11 #[.val (.long xx_), .second, .val (.int sh_)] [(.long (255 : Int64)), (.long ((xx_.toUInt64 >>> (sh_ &&& 0x3f).toInt64.toUInt64).toInt64)), (.int (0 : Int32)), (.ref b1), (.ref b1)]))
  refine og (fun _ hr => XS.land X1.here hx rfl (hb hby dc1_11) rfl (XS.l2i X1.here hx rfl (hb hby dc1_12) rfl (XS.i2c X1.here hx rfl (hb hby dc1_13) rfl hr))) ?_
  show oG p e below _ (T1.setTop (mkF m 14 #[.val (.long xx_), .second, .val (.int sh_)] [(.int (((((xx_.toUInt64 >>> (sh_ &&& 0x3f).toInt64.toUInt64).toInt64) &&& (255 : Int64)).toInt32).toUInt32.toUInt16.toUInt32.toInt32)), (.int (0 : Int32)), (.ref b1), (.ref b1)]))
  have c6 : (nar .char (((((xx_.toUInt64 >>> (sh_ &&& 0x3f).toInt64.toUInt64).toInt64) &&& (255 : Int64)).toInt32).toUInt32.toUInt16.toUInt32.toInt32)) = (((((xx_.toUInt64 >>> (sh_ &&& 0x3f).toInt64.toUInt64).toInt64) &&& (255 : Int64)).toInt32).toUInt32.toUInt16.toUInt32.toInt32) := by
    have q0 := rng64 xx_
    have q1 := rng32 sh_
    have q3 := c_maskL ((xx_.toUInt64 >>> (sh_ &&& 0x3f).toInt64.toUInt64).toInt64) (255 : Int64) 8 (by decide) (by decide)
    have q4 := c_l2i (((xx_.toUInt64 >>> (sh_ &&& 0x3f).toInt64.toUInt64).toInt64) &&& (255 : Int64))
    have q5 := c_i2c ((((xx_.toUInt64 >>> (sh_ &&& 0x3f).toInt64.toUInt64).toInt64) &&& (255 : Int64)).toInt32)
    have q6 := (show ((nar .char (((((xx_.toUInt64 >>> (sh_ &&& 0x3f).toInt64.toUInt64).toInt64) &&& (255 : Int64)).toInt32).toUInt32.toUInt16.toUInt32.toInt32)).toInt - (((((xx_.toUInt64 >>> (sh_ &&& 0x3f).toInt64.toUInt64).toInt64) &&& (255 : Int64)).toInt32).toUInt32.toUInt16.toUInt32.toInt32).toInt) % 65536 = 0 ∧ 0 ≤ (nar .char (((((xx_.toUInt64 >>> (sh_ &&& 0x3f).toInt64.toUInt64).toInt64) &&& (255 : Int64)).toInt32).toUInt32.toUInt16.toUInt32.toInt32)).toInt ∧ (nar .char (((((xx_.toUInt64 >>> (sh_ &&& 0x3f).toInt64.toUInt64).toInt64) &&& (255 : Int64)).toInt32).toUInt32.toUInt16.toUInt32.toInt32)).toInt < 65536 from c_i2c (((((xx_.toUInt64 >>> (sh_ &&& 0x3f).toInt64.toUInt64).toInt64) &&& (255 : Int64)).toInt32).toUInt32.toUInt16.toUInt32.toInt32))
    simp only [true_implies, Int32.lt_iff_toInt_lt, ← Int32.toInt_inj, Int32.reduceToInt, Int64.lt_iff_toInt_lt, ← Int64.toInt_inj, Int64.reduceToInt] at q0 q1 q3 q4 q5 q6 ⊢
    omega
  refine own_stC X1 hx hZ e1 f4 (0 : Int32) (((((xx_.toUInt64 >>> (sh_ &&& 0x3f).toInt64.toUInt64).toInt64) &&& (255 : Int64)).toInt32).toUInt32.toUInt16.toUInt32.toInt32) (((((xx_.toUInt64 >>> (sh_ &&& 0x3f).toInt64.toUInt64).toInt64) &&& (255 : Int64)).toInt32).toUInt32.toUInt16.toUInt32.toInt32) 0 ⟨by decide, by decide⟩ rfl (Nat.le_of_ble_eq_true rfl) c6 [(.int (((((xx_.toUInt64 >>> (sh_ &&& 0x3f).toInt64.toUInt64).toInt64) &&& (255 : Int64)).toInt32).toUInt32.toUInt16.toUInt32.toInt32)), (.int (0 : Int32)), (.int (0 : Int32))] rfl N0 ge2 (hb hby dc1_14) ?_
  intro T5 h5 L5 X5 e5 W5 N5 f5
  show oG p e below _ (T5.setTop (mkF m 15 #[.val (.long xx_), .second, .val (.int sh_)] [(.ref b1)]))
  refine og (fun _ hr => XS.dup X5.here hx rfl (hb hby dc1_15) rfl rfl (XS.iconst X5.here hx rfl (hb hby dc1_16) (XS.lloadN X5.here hx rfl (hb hby dc1_17) rfl (XS.iloadN X5.here hx rfl (hb hby dc1_18) rfl (XS.bipush X5.here hx rfl (hb hby dc1_19) (XS.iadd X5.here hx rfl (hb hby dc1_21) rfl (XS.lushr X5.here hx rfl (hb hby dc1_22) rfl hr))))))) ?_
  show oG p e below _ (T5.setTop (mkF m 23 #[.val (.long xx_), .second, .val (.int sh_)] [(.long ((xx_.toUInt64 >>> ((sh_ + (8 : Int32)) &&& 0x3f).toInt64.toUInt64).toInt64)), (.int (1 : Int32)), (.ref b1), (.ref b1)]))
  refine og (X5.ldc2Long hx hown (mvT hZ (hw _ (own_m 5 rfl))) rfl (hb hby dc1_23)) ?_
  show oG p e below _ (T5.setTop (mkF m 26 #[.val (.long xx_), .second, .val (.int sh_)] [(.long (255 : Int64)), (.long ((xx_.toUInt64 >>> ((sh_ + (8 : Int32)) &&& 0x3f).toInt64.toUInt64).toInt64)), (.int (1 : Int32)), (.ref b1), (.ref b1)]))
  refine og (fun _ hr => XS.land X5.here hx rfl (hb hby dc1_26) rfl (XS.l2i X5.here hx rfl (hb hby dc1_27) rfl (XS.i2c X5.here hx rfl (hb hby dc1_28) rfl hr))) ?_
  show oG p e below _ (T5.setTop (mkF m 29 #[.val (.long xx_), .second, .val (.int sh_)] [(.int (((((xx_.toUInt64 >>> ((sh_ + (8 : Int32)) &&& 0x3f).toInt64.toUInt64).toInt64) &&& (255 : Int64)).toInt32).toUInt32.toUInt16.toUInt32.toInt32)), (.int (1 : Int32)), (.ref b1), (.ref b1)]))
  have c8 : (nar .char (((((xx_.toUInt64 >>> ((sh_ + (8 : Int32)) &&& 0x3f).toInt64.toUInt64).toInt64) &&& (255 : Int64)).toInt32).toUInt32.toUInt16.toUInt32.toInt32)) = (((((xx_.toUInt64 >>> ((sh_ + (8 : Int32)) &&& 0x3f).toInt64.toUInt64).toInt64) &&& (255 : Int64)).toInt32).toUInt32.toUInt16.toUInt32.toInt32) := by
    have q0 := rng64 xx_
    have q1 := rng32 sh_
    have q3 := c_maskL ((xx_.toUInt64 >>> (sh_ &&& 0x3f).toInt64.toUInt64).toInt64) (255 : Int64) 8 (by decide) (by decide)
    have q4 := c_l2i (((xx_.toUInt64 >>> (sh_ &&& 0x3f).toInt64.toUInt64).toInt64) &&& (255 : Int64))
    have q5 := c_i2c ((((xx_.toUInt64 >>> (sh_ &&& 0x3f).toInt64.toUInt64).toInt64) &&& (255 : Int64)).toInt32)
    have q6 := (show ((nar .char (((((xx_.toUInt64 >>> (sh_ &&& 0x3f).toInt64.toUInt64).toInt64) &&& (255 : Int64)).toInt32).toUInt32.toUInt16.toUInt32.toInt32)).toInt - (((((xx_.toUInt64 >>> (sh_ &&& 0x3f).toInt64.toUInt64).toInt64) &&& (255 : Int64)).toInt32).toUInt32.toUInt16.toUInt32.toInt32).toInt) % 65536 = 0 ∧ 0 ≤ (nar .char (((((xx_.toUInt64 >>> (sh_ &&& 0x3f).toInt64.toUInt64).toInt64) &&& (255 : Int64)).toInt32).toUInt32.toUInt16.toUInt32.toInt32)).toInt ∧ (nar .char (((((xx_.toUInt64 >>> (sh_ &&& 0x3f).toInt64.toUInt64).toInt64) &&& (255 : Int64)).toInt32).toUInt32.toUInt16.toUInt32.toInt32)).toInt < 65536 from c_i2c (((((xx_.toUInt64 >>> (sh_ &&& 0x3f).toInt64.toUInt64).toInt64) &&& (255 : Int64)).toInt32).toUInt32.toUInt16.toUInt32.toInt32))
    have q7 := c_iadd sh_ (8 : Int32)
    have r7 := rng32 (sh_ + (8 : Int32))
    have q9 := c_maskL ((xx_.toUInt64 >>> ((sh_ + (8 : Int32)) &&& 0x3f).toInt64.toUInt64).toInt64) (255 : Int64) 8 (by decide) (by decide)
    have q10 := c_l2i (((xx_.toUInt64 >>> ((sh_ + (8 : Int32)) &&& 0x3f).toInt64.toUInt64).toInt64) &&& (255 : Int64))
    have q11 := c_i2c ((((xx_.toUInt64 >>> ((sh_ + (8 : Int32)) &&& 0x3f).toInt64.toUInt64).toInt64) &&& (255 : Int64)).toInt32)
    have q12 := (show ((nar .char (((((xx_.toUInt64 >>> ((sh_ + (8 : Int32)) &&& 0x3f).toInt64.toUInt64).toInt64) &&& (255 : Int64)).toInt32).toUInt32.toUInt16.toUInt32.toInt32)).toInt - (((((xx_.toUInt64 >>> ((sh_ + (8 : Int32)) &&& 0x3f).toInt64.toUInt64).toInt64) &&& (255 : Int64)).toInt32).toUInt32.toUInt16.toUInt32.toInt32).toInt) % 65536 = 0 ∧ 0 ≤ (nar .char (((((xx_.toUInt64 >>> ((sh_ + (8 : Int32)) &&& 0x3f).toInt64.toUInt64).toInt64) &&& (255 : Int64)).toInt32).toUInt32.toUInt16.toUInt32.toInt32)).toInt ∧ (nar .char (((((xx_.toUInt64 >>> ((sh_ + (8 : Int32)) &&& 0x3f).toInt64.toUInt64).toInt64) &&& (255 : Int64)).toInt32).toUInt32.toUInt16.toUInt32.toInt32)).toInt < 65536 from c_i2c (((((xx_.toUInt64 >>> ((sh_ + (8 : Int32)) &&& 0x3f).toInt64.toUInt64).toInt64) &&& (255 : Int64)).toInt32).toUInt32.toUInt16.toUInt32.toInt32))
    have p0 := c6
    simp only [true_implies, Int32.lt_iff_toInt_lt, ← Int32.toInt_inj, Int32.reduceToInt, Int64.lt_iff_toInt_lt, ← Int64.toInt_inj, Int64.reduceToInt] at q0 q1 q3 q4 q5 q6 q7 q9 q10 q11 q12 p0 ⊢
    omega
  refine own_stC X5 hx hZ e5 f5 (1 : Int32) (((((xx_.toUInt64 >>> ((sh_ + (8 : Int32)) &&& 0x3f).toInt64.toUInt64).toInt64) &&& (255 : Int64)).toInt32).toUInt32.toUInt16.toUInt32.toInt32) (((((xx_.toUInt64 >>> ((sh_ + (8 : Int32)) &&& 0x3f).toInt64.toUInt64).toInt64) &&& (255 : Int64)).toInt32).toUInt32.toUInt16.toUInt32.toInt32) 1 ⟨by decide, by decide⟩ rfl (Nat.le_of_ble_eq_true rfl) c8 [(.int (((((xx_.toUInt64 >>> (sh_ &&& 0x3f).toInt64.toUInt64).toInt64) &&& (255 : Int64)).toInt32).toUInt32.toUInt16.toUInt32.toInt32)), (.int (((((xx_.toUInt64 >>> ((sh_ + (8 : Int32)) &&& 0x3f).toInt64.toUInt64).toInt64) &&& (255 : Int64)).toInt32).toUInt32.toUInt16.toUInt32.toInt32)), (.int (0 : Int32))] rfl N5 ge2 (hb hby dc1_29) ?_
  intro T7 h7 L7 X7 e7 W7 N7 f7
  show oG p e below _ (T7.setTop (mkF m 30 #[.val (.long xx_), .second, .val (.int sh_)] [(.ref b1)]))
  refine og (fun _ hr => XS.dup X7.here hx rfl (hb hby dc1_30) rfl rfl (XS.iconst X7.here hx rfl (hb hby dc1_31) (XS.lloadN X7.here hx rfl (hb hby dc1_32) rfl (XS.iloadN X7.here hx rfl (hb hby dc1_33) rfl (XS.bipush X7.here hx rfl (hb hby dc1_34) (XS.iadd X7.here hx rfl (hb hby dc1_36) rfl (XS.lushr X7.here hx rfl (hb hby dc1_37) rfl hr))))))) ?_
  show oG p e below _ (T7.setTop (mkF m 38 #[.val (.long xx_), .second, .val (.int sh_)] [(.long ((xx_.toUInt64 >>> ((sh_ + (16 : Int32)) &&& 0x3f).toInt64.toUInt64).toInt64)), (.int (2 : Int32)), (.ref b1), (.ref b1)]))
  refine og (X7.ldc2Long hx hown (mvT hZ (hw _ (own_m 5 rfl))) rfl (hb hby dc1_38)) ?_
  show oG p e below _ (T7.setTop (mkF m 41 #[.val (.long xx_), .second, .val (.int sh_)] [(.long (255 : Int64)), (.long ((xx_.toUInt64 >>> ((sh_ + (16 : Int32)) &&& 0x3f).toInt64.toUInt64).toInt64)), (.int (2 : Int32)), (.ref b1), (.ref b1)]))
  refine og (fun _ hr => XS.land X7.here hx rfl (hb hby dc1_41) rfl (XS.l2i X7.here hx rfl (hb hby dc1_42) rfl (XS.i2c X7.here hx rfl (hb hby dc1_43) rfl hr))) ?_
  show oG p e below _ (T7.setTop (mkF m 44 #[.val (.long xx_), .second, .val (.int sh_)] [(.int (((((xx_.toUInt64 >>> ((sh_ + (16 : Int32)) &&& 0x3f).toInt64.toUInt64).toInt64) &&& (255 : Int64)).toInt32).toUInt32.toUInt16.toUInt32.toInt32)), (.int (2 : Int32)), (.ref b1), (.ref b1)]))
  have c10 : (nar .char (((((xx_.toUInt64 >>> ((sh_ + (16 : Int32)) &&& 0x3f).toInt64.toUInt64).toInt64) &&& (255 : Int64)).toInt32).toUInt32.toUInt16.toUInt32.toInt32)) = (((((xx_.toUInt64 >>> ((sh_ + (16 : Int32)) &&& 0x3f).toInt64.toUInt64).toInt64) &&& (255 : Int64)).toInt32).toUInt32.toUInt16.toUInt32.toInt32) := by
    have q0 := rng64 xx_
    have q1 := rng32 sh_
    have q3 := c_maskL ((xx_.toUInt64 >>> (sh_ &&& 0x3f).toInt64.toUInt64).toInt64) (255 : Int64) 8 (by decide) (by decide)
    have q4 := c_l2i (((xx_.toUInt64 >>> (sh_ &&& 0x3f).toInt64.toUInt64).toInt64) &&& (255 : Int64))
    have q5 := c_i2c ((((xx_.toUInt64 >>> (sh_ &&& 0x3f).toInt64.toUInt64).toInt64) &&& (255 : Int64)).toInt32)
    have q6 := (show ((nar .char (((((xx_.toUInt64 >>> (sh_ &&& 0x3f).toInt64.toUInt64).toInt64) &&& (255 : Int64)).toInt32).toUInt32.toUInt16.toUInt32.toInt32)).toInt - (((((xx_.toUInt64 >>> (sh_ &&& 0x3f).toInt64.toUInt64).toInt64) &&& (255 : Int64)).toInt32).toUInt32.toUInt16.toUInt32.toInt32).toInt) % 65536 = 0 ∧ 0 ≤ (nar .char (((((xx_.toUInt64 >>> (sh_ &&& 0x3f).toInt64.toUInt64).toInt64) &&& (255 : Int64)).toInt32).toUInt32.toUInt16.toUInt32.toInt32)).toInt ∧ (nar .char (((((xx_.toUInt64 >>> (sh_ &&& 0x3f).toInt64.toUInt64).toInt64) &&& (255 : Int64)).toInt32).toUInt32.toUInt16.toUInt32.toInt32)).toInt < 65536 from c_i2c (((((xx_.toUInt64 >>> (sh_ &&& 0x3f).toInt64.toUInt64).toInt64) &&& (255 : Int64)).toInt32).toUInt32.toUInt16.toUInt32.toInt32))
    have q7 := c_iadd sh_ (8 : Int32)
    have r7 := rng32 (sh_ + (8 : Int32))
    have q9 := c_maskL ((xx_.toUInt64 >>> ((sh_ + (8 : Int32)) &&& 0x3f).toInt64.toUInt64).toInt64) (255 : Int64) 8 (by decide) (by decide)
    have q10 := c_l2i (((xx_.toUInt64 >>> ((sh_ + (8 : Int32)) &&& 0x3f).toInt64.toUInt64).toInt64) &&& (255 : Int64))
    have q11 := c_i2c ((((xx_.toUInt64 >>> ((sh_ + (8 : Int32)) &&& 0x3f).toInt64.toUInt64).toInt64) &&& (255 : Int64)).toInt32)
    have q12 := (show ((nar .char (((((xx_.toUInt64 >>> ((sh_ + (8 : Int32)) &&& 0x3f).toInt64.toUInt64).toInt64) &&& (255 : Int64)).toInt32).toUInt32.toUInt16.toUInt32.toInt32)).toInt - (((((xx_.toUInt64 >>> ((sh_ + (8 : Int32)) &&& 0x3f).toInt64.toUInt64).toInt64) &&& (255 : Int64)).toInt32).toUInt32.toUInt16.toUInt32.toInt32).toInt) % 65536 = 0 ∧ 0 ≤ (nar .char (((((xx_.toUInt64 >>> ((sh_ + (8 : Int32)) &&& 0x3f).toInt64.toUInt64).toInt64) &&& (255 : Int64)).toInt32).toUInt32.toUInt16.toUInt32.toInt32)).toInt ∧ (nar .char (((((xx_.toUInt64 >>> ((sh_ + (8 : Int32)) &&& 0x3f).toInt64.toUInt64).toInt64) &&& (255 : Int64)).toInt32).toUInt32.toUInt16.toUInt32.toInt32)).toInt < 65536 from c_i2c (((((xx_.toUInt64 >>> ((sh_ + (8 : Int32)) &&& 0x3f).toInt64.toUInt64).toInt64) &&& (255 : Int64)).toInt32).toUInt32.toUInt16.toUInt32.toInt32))
    have q13 := c_iadd sh_ (16 : Int32)
    have r13 := rng32 (sh_ + (16 : Int32))
    have q15 := c_maskL ((xx_.toUInt64 >>> ((sh_ + (16 : Int32)) &&& 0x3f).toInt64.toUInt64).toInt64) (255 : Int64) 8 (by decide) (by decide)
    have q16 := c_l2i (((xx_.toUInt64 >>> ((sh_ + (16 : Int32)) &&& 0x3f).toInt64.toUInt64).toInt64) &&& (255 : Int64))
    have q17 := c_i2c ((((xx_.toUInt64 >>> ((sh_ + (16 : Int32)) &&& 0x3f).toInt64.toUInt64).toInt64) &&& (255 : Int64)).toInt32)
    have q18 := (show ((nar .char (((((xx_.toUInt64 >>> ((sh_ + (16 : Int32)) &&& 0x3f).toInt64.toUInt64).toInt64) &&& (255 : Int64)).toInt32).toUInt32.toUInt16.toUInt32.toInt32)).toInt - (((((xx_.toUInt64 >>> ((sh_ + (16 : Int32)) &&& 0x3f).toInt64.toUInt64).toInt64) &&& (255 : Int64)).toInt32).toUInt32.toUInt16.toUInt32.toInt32).toInt) % 65536 = 0 ∧ 0 ≤ (nar .char (((((xx_.toUInt64 >>> ((sh_ + (16 : Int32)) &&& 0x3f).toInt64.toUInt64).toInt64) &&& (255 : Int64)).toInt32).toUInt32.toUInt16.toUInt32.toInt32)).toInt ∧ (nar .char (((((xx_.toUInt64 >>> ((sh_ + (16 : Int32)) &&& 0x3f).toInt64.toUInt64).toInt64) &&& (255 : Int64)).toInt32).toUInt32.toUInt16.toUInt32.toInt32)).toInt < 65536 from c_i2c (((((xx_.toUInt64 >>> ((sh_ + (16 : Int32)) &&& 0x3f).toInt64.toUInt64).toInt64) &&& (255 : Int64)).toInt32).toUInt32.toUInt16.toUInt32.toInt32))
    have p0 := c6
    have p1 := c8
    simp only [true_implies, Int32.lt_iff_toInt_lt, ← Int32.toInt_inj, Int32.reduceToInt, Int64.lt_iff_toInt_lt, ← Int64.toInt_inj, Int64.reduceToInt] at q0 q1 q3 q4 q5 q6 q7 q9 q10 q11 q12 q13 q15 q16 q17 q18 p0 p1 ⊢
    omega
  refine own_stC X7 hx hZ e7 f7 (2 : Int32) (((((xx_.toUInt64 >>> ((sh_ + (16 : Int32)) &&& 0x3f).toInt64.toUInt64).toInt64) &&& (255 : Int64)).toInt32).toUInt32.toUInt16.toUInt32.toInt32) (((((xx_.toUInt64 >>> ((sh_ + (16 : Int32)) &&& 0x3f).toInt64.toUInt64).toInt64) &&& (255 : Int64)).toInt32).toUInt32.toUInt16.toUInt32.toInt32) 2 ⟨by decide, by decide⟩ rfl (Nat.le_of_ble_eq_true rfl) c10 [(.int (((((xx_.toUInt64 >>> (sh_ &&& 0x3f).toInt64.toUInt64).toInt64) &&& (255 : Int64)).toInt32).toUInt32.toUInt16.toUInt32.toInt32)), (.int (((((xx_.toUInt64 >>> ((sh_ + (8 : Int32)) &&& 0x3f).toInt64.toUInt64).toInt64) &&& (255 : Int64)).toInt32).toUInt32.toUInt16.toUInt32.toInt32)), (.int (((((xx_.toUInt64 >>> ((sh_ + (16 : Int32)) &&& 0x3f).toInt64.toUInt64).toInt64) &&& (255 : Int64)).toInt32).toUInt32.toUInt16.toUInt32.toInt32))] rfl N7 ge2 (hb hby dc1_44) ?_
  intro T9 h9 L9 X9 e9 W9 N9 f9
  show oG p e below _ (T9.setTop (mkF m 45 #[.val (.long xx_), .second, .val (.int sh_)] [(.ref b1)]))
  have f11 := (((EA1.wr W5).wr W7).wr W9)
  have eb12 : Arv Z h9 b1 k1 .char (3 : Int32) [(.int (own_ch xx_ sh_)), (.int (own_ch xx_ sh8_)), (.int (own_ch xx_ sh16_))] (.int (0 : Int32)) := by first | exact f9 | (simp only [← hs8, ← hs16]; exact f9)
  have K13 := ((((K0.ext E1).wr W5 (Or.inr sz3)).wr W7 (Or.inr sz3)).wr W9 (Or.inr sz3))
  exact own_retR X9 hx hlk Bd.returns rfl rfl (hb hby dc1_45) (by decide) (by decide) (by rw [e9]; exact ⟨b1, k1, rfl, N9, K13, ge2, sz3, f11, eb12⟩)
theorem dc14_0 : decode method_5_code 0 = .ok (.iload_n 1, 1) := by decide +kernel
theorem dc14_1 : decode method_5_code 1 = .ok (.iload_n 3, 1) := by decide +kernel
theorem dc14_2 : decode method_5_code 2 = .ok (.if_icmp .ne 49, 3) := by decide +kernel
theorem dc14_5 : decode method_5_code 5 = .ok (.iload_n 1, 1) := by decide +kernel
theorem dc14_6 : decode method_5_code 6 = .ok (.iconst 1, 1) := by decide +kernel
theorem dc14_7 : decode method_5_code 7 = .ok (.if_icmp .lt 12, 3) := by decide +kernel
theorem dc14_19 : decode method_5_code 19 = .ok (.iload_n 1, 1) := by decide +kernel
theorem dc14_20 : decode method_5_code 20 = .ok (.iconst 2, 1) := by decide +kernel
theorem dc14_21 : decode method_5_code 21 = .ok (.if_icmp .lt 12, 3) := by decide +kernel
theorem dc14_33 : decode method_5_code 33 = .ok (.iload_n 1, 1) := by decide +kernel
theorem dc14_34 : decode method_5_code 34 = .ok (.iconst 3, 1) := by decide +kernel
theorem dc14_35 : decode method_5_code 35 = .ok (.if_icmp .lt 12, 3) := by decide +kernel
theorem dc14_47 : decode method_5_code 47 = .ok (.iconst 1, 1) := by decide +kernel
theorem dc14_48 : decode method_5_code 48 = .ok (.goto 4, 3) := by decide +kernel
theorem dc14_52 : decode method_5_code 52 = .ok (.ireturn, 1) := by decide +kernel
theorem dc14_10 : decode method_5_code 10 = .ok (.aload_n 0, 1) := by decide +kernel
theorem dc14_11 : decode method_5_code 11 = .ok (.iconst 0, 1) := by decide +kernel
theorem dc14_12 : decode method_5_code 12 = .ok (.caload, 1) := by decide +kernel
theorem dc14_13 : decode method_5_code 13 = .ok (.aload_n 2, 1) := by decide +kernel
theorem dc14_14 : decode method_5_code 14 = .ok (.iconst 0, 1) := by decide +kernel
theorem dc14_15 : decode method_5_code 15 = .ok (.caload, 1) := by decide +kernel
theorem dc14_16 : decode method_5_code 16 = .ok (.if_icmp .ne 35, 3) := by decide +kernel
theorem dc14_24 : decode method_5_code 24 = .ok (.aload_n 0, 1) := by decide +kernel
theorem dc14_25 : decode method_5_code 25 = .ok (.iconst 1, 1) := by decide +kernel
theorem dc14_26 : decode method_5_code 26 = .ok (.caload, 1) := by decide +kernel
theorem dc14_27 : decode method_5_code 27 = .ok (.aload_n 2, 1) := by decide +kernel
theorem dc14_28 : decode method_5_code 28 = .ok (.iconst 1, 1) := by decide +kernel
theorem dc14_29 : decode method_5_code 29 = .ok (.caload, 1) := by decide +kernel
theorem dc14_30 : decode method_5_code 30 = .ok (.if_icmp .ne 21, 3) := by decide +kernel
theorem dc14_38 : decode method_5_code 38 = .ok (.aload_n 0, 1) := by decide +kernel
theorem dc14_39 : decode method_5_code 39 = .ok (.iconst 2, 1) := by decide +kernel
theorem dc14_40 : decode method_5_code 40 = .ok (.caload, 1) := by decide +kernel
theorem dc14_41 : decode method_5_code 41 = .ok (.aload_n 2, 1) := by decide +kernel
theorem dc14_42 : decode method_5_code 42 = .ok (.iconst 2, 1) := by decide +kernel
theorem dc14_43 : decode method_5_code 43 = .ok (.caload, 1) := by decide +kernel
theorem dc14_44 : decode method_5_code 44 = .ok (.if_icmp .ne 7, 3) := by decide +kernel
theorem dc14_51 : decode method_5_code 51 = .ok (.iconst 0, 1) := by decide +kernel
def own_same (c0_1 : Int32) (c1_1 : Int32) (c2_1 : Int32) (z1 : Int32) (c0_2 : Int32) (c1_2 : Int32) (c2_2 : Int32) (z2 : Int32) : Int32 := (if z1 = z2 then (if z1 < (1 : Int32) then (1 : Int32) else (if c0_1 = c0_2 then (if z1 < (2 : Int32) then (1 : Int32) else (if c1_1 = c1_2 then (if z1 < (3 : Int32) then (1 : Int32) else (if c2_1 = c2_2 then (1 : Int32) else (0 : Int32))) else (0 : Int32))) else (0 : Int32))) else (0 : Int32))
def Q_same (Z : State) (c0_1 : Int32) (c1_1 : Int32) (c2_1 : Int32) (z1 : Int32) (c0_2 : Int32) (c1_2 : Int32) (c2_2 : Int32) (z2 : Int32) (h0 : Heap) (n0 : Nat) (v : Option Value) (h : Heap) (L : List Loc) : Prop := v = some (.int (own_same c0_1 c1_1 c2_1 z1 c0_2 c1_2 c2_2 z2)) ∧ Fr n0 L ∧ h = h0
set_option maxRecDepth 65536 in
set_option maxHeartbeats 40000000 in
theorem rm_same (l : Launch) (Z : State) (a0 : Array Value) (hw : ∀ d ∈ tables_1, d.before a0 Z = true) (ws : List Jvm.Cond) (o1 : Addr) (o2 : Addr) (k1 : ClassId) (k2 : ClassId) (c0_1 : Int32) (c1_1 : Int32) (c2_1 : Int32) (z1 : Int32) (c0_2 : Int32) (c1_2 : Int32) (c2_2 : Int32) (z2 : Int32) (h0 : Heap) (n0 : Nat) (Z0 : n0 ≤ h0.size) (V1 : Arv Z h0 o1 k1 .char (3 : Int32) [(.int c0_1), (.int c1_1), (.int c2_1)] (.int (0 : Int32))) (V2 : Arv Z h0 o2 k2 .char (3 : Int32) [(.int c0_2), (.int c1_2), (.int c2_2)] (.int (0 : Int32))) :
    MetFree l (⟨"com/example/ruleweave/ruleweave/CommonPolicySchemaTermAdmitsPinLaw", "same", "([CI[CI)Z"⟩ : MethodName) (head1 (Jvm.Cond.code (⟨"com/example/ruleweave/ruleweave/CommonPolicySchemaTermAdmitsPinLaw", "same", "([CI[CI)Z"⟩ : MethodName) method_5_code 4 (some .boolean) :: ws) ({ frames := 0, cells := 0, slots := 0, locals := 0 } : Room)) (fun aA U => aA = #[(.ref o1), (.int z1), (.ref o2), (.int z2)] ∧ Z.Warmed39 U.vm ∧ U.heap = h0) (fun _ _ _ _ _ => True) (fun _ U o U' => ∃ v L, o = .returned v ∧ Q_same Z c0_1 c1_1 c2_1 z1 c0_2 c1_2 c2_2 z2 h0 n0 v U'.heap L ∧ FrameEnd U o U' L ({ frames := 0, cells := 0, slots := 0, locals := 0 } : Room).cells ({ frames := 0, cells := 0, slots := 0, locals := 0 } : Room).slots) := by
  refine MetFree.of_bodySF (plainFor_of_name own_pn_com_example_ruleweave_ruleweave_CommonPolicySchemaTermAdmitsPinLaw) hisR ?_
  intro p e s m args below meth c s₁ Bd hml0 hP hK
  obtain ⟨rfl, hZ, hh⟩ := hP
  have hx := Bd.exec
  have hby := Bd.bytes
  have hlk : meth.locks = false := BodyLoose.notSynchronized Bd
  have hml : c.maxLocals = 4 := hml0
  have hown : s.vm.findClass "com/example/ruleweave/ruleweave/CommonPolicySchemaTermAdmitsPinLaw" = some m.cls := findClass_of_methodNamed Bd.named
  have hnm := (name_of_methodNamed Bd.named Bd.method).1
  have X0 : Stand p l e ({ frames := 0, cells := 0, slots := 0, locals := 0 } : Room) s m #[(.ref o1), (.int z1), (.ref o2), (.int z2)] below meth c s₁ [] 0 0 := Stand.of_body Bd
  have e0 : s₁.heap = h0 := by rw [← hh, Bd.state]; rfl
  have N0 := Fr.nil n0
  show oG p e below (own_K s (Q_same Z c0_1 c1_1 c2_1 z1 c0_2 c1_2 c2_2 z2 h0 n0) ({ frames := 0, cells := 0, slots := 0, locals := 0 } : Room).cells ({ frames := 0, cells := 0, slots := 0, locals := 0 } : Room).slots) (s₁.setTop (entryFrame m #[(.ref o1), (.int z1), (.ref o2), (.int z2)] 4))
  rw [(by first | (simp [entryFrame, mkF, argsToLocals, Value.category]; done) | rfl : entryFrame m #[(.ref o1), (.int z1), (.ref o2), (.int z2)] 4 = mkF m 0 #[.val (.ref o1), .val (.int z1), .val (.ref o2), .val (.int z2)] [])]
  show oG p e below _ (s₁.setTop (mkF m 0 #[.val (.ref o1), .val (.int z1), .val (.ref o2), .val (.int z2)] []))
  refine og (fun _ hr => XS.iloadN X0.here hx rfl (hb hby dc14_0) rfl (XS.iloadN X0.here hx rfl (hb hby dc14_1) rfl hr)) ?_
  show oG p e below _ (s₁.setTop (mkF m 2 #[.val (.ref o1), .val (.int z1), .val (.ref o2), .val (.int z2)] [(.int z2), (.int z1)]))
  rcases Classical.em (z1 = z2) with c1 | c1
  · skip
    refine og (fun _ hr => XS.icmpNo X0.here hx rfl (hb hby dc14_2) rfl (teq c1).2 hr) ?_
    show oG p e below _ (s₁.setTop (mkF m 5 #[.val (.ref o1), .val (.int z1), .val (.ref o2), .val (.int z2)] []))
    refine og (fun _ hr => XS.iloadN X0.here hx rfl (hb hby dc14_5) rfl (XS.iconst X0.here hx rfl (hb hby dc14_6) hr)) ?_
    show oG p e below _ (s₁.setTop (mkF m 7 #[.val (.ref o1), .val (.int z1), .val (.ref o2), .val (.int z2)] [(.int (1 : Int32)), (.int z1)]))
    rcases Classical.em (z1 < (1 : Int32)) with c2 | c2
    · skip
      refine og (fun _ hr => XS.icmpYes X0.here hx rfl (pc0 := 7) (pc' := 19) rfl (hb hby dc14_7) rfl (tlt c2).1 (by decide) (by decide) hr) ?_
      show oG p e below _ (s₁.setTop (mkF m 19 #[.val (.ref o1), .val (.int z1), .val (.ref o2), .val (.int z2)] []))
      refine og (fun _ hr => XS.iloadN X0.here hx rfl (hb hby dc14_19) rfl (XS.iconst X0.here hx rfl (hb hby dc14_20) hr)) ?_
      show oG p e below _ (s₁.setTop (mkF m 21 #[.val (.ref o1), .val (.int z1), .val (.ref o2), .val (.int z2)] [(.int (2 : Int32)), (.int z1)]))
      have c3 : z1 < (2 : Int32) := by
        have q0 := rng32 z1
        have q1 := rng32 z2
        have p0 := c1
        have p1 := c2
        simp only [true_implies, Int32.lt_iff_toInt_lt, ← Int32.toInt_inj, Int32.reduceToInt, Int64.lt_iff_toInt_lt, ← Int64.toInt_inj, Int64.reduceToInt] at q0 q1 p0 p1 ⊢
        omega
      refine og (fun _ hr => XS.icmpYes X0.here hx rfl (pc0 := 21) (pc' := 33) rfl (hb hby dc14_21) rfl (tlt c3).1 (by decide) (by decide) hr) ?_
      show oG p e below _ (s₁.setTop (mkF m 33 #[.val (.ref o1), .val (.int z1), .val (.ref o2), .val (.int z2)] []))
      refine og (fun _ hr => XS.iloadN X0.here hx rfl (hb hby dc14_33) rfl (XS.iconst X0.here hx rfl (hb hby dc14_34) hr)) ?_
      show oG p e below _ (s₁.setTop (mkF m 35 #[.val (.ref o1), .val (.int z1), .val (.ref o2), .val (.int z2)] [(.int (3 : Int32)), (.int z1)]))
      have c4 : z1 < (3 : Int32) := by
        have q0 := rng32 z1
        have q1 := rng32 z2
        have p0 := c1
        have p1 := c2
        have p2 := c3
        simp only [true_implies, Int32.lt_iff_toInt_lt, ← Int32.toInt_inj, Int32.reduceToInt, Int64.lt_iff_toInt_lt, ← Int64.toInt_inj, Int64.reduceToInt] at q0 q1 p0 p1 p2 ⊢
        omega
      refine og (fun _ hr => XS.icmpYes X0.here hx rfl (pc0 := 35) (pc' := 47) rfl (hb hby dc14_35) rfl (tlt c4).1 (by decide) (by decide) hr) ?_
      show oG p e below _ (s₁.setTop (mkF m 47 #[.val (.ref o1), .val (.int z1), .val (.ref o2), .val (.int z2)] []))
      refine og (fun _ hr => XS.iconst X0.here hx rfl (hb hby dc14_47) (XS.goto X0.here hx rfl (pc0 := 48) (pc' := 52) rfl (hb hby dc14_48) (by decide) (by decide) hr)) ?_
      show oG p e below _ (s₁.setTop (mkF m 52 #[.val (.ref o1), .val (.int z1), .val (.ref o2), .val (.int z2)] [(.int (1 : Int32))]))
      exact own_retN X0 hx hlk Bd.returns (t := .boolean) (by simp) (hb hby dc14_52) (by decide) (by decide) ⟨(congrArg (fun q => some (Value.int q)) (show (1 : Int32) = own_same c0_1 c1_1 c2_1 z1 c0_2 c1_2 c2_2 z2 from Eq.symm (by unfold own_same; rw [if_pos c1, if_pos c2]))), N0, e0⟩
    refine og (fun _ hr => XS.icmpNo X0.here hx rfl (hb hby dc14_7) rfl (flt c2).1 hr) ?_
    show oG p e below _ (s₁.setTop (mkF m 10 #[.val (.ref o1), .val (.int z1), .val (.ref o2), .val (.int z2)] []))
    refine og (fun _ hr => XS.aloadN X0.here hx rfl (hb hby dc14_10) rfl rfl (XS.iconst X0.here hx rfl (hb hby dc14_11) (own_caload X0 hx hZ e0 V1 (0 : Int32) (.int c0_1) ⟨by decide, by decide⟩ rfl rfl rfl (hb hby dc14_12) (XS.aloadN X0.here hx rfl (hb hby dc14_13) rfl rfl (XS.iconst X0.here hx rfl (hb hby dc14_14) (own_caload X0 hx hZ e0 V2 (0 : Int32) (.int c0_2) ⟨by decide, by decide⟩ rfl rfl rfl (hb hby dc14_15) hr)))))) ?_
    show oG p e below _ (s₁.setTop (mkF m 16 #[.val (.ref o1), .val (.int z1), .val (.ref o2), .val (.int z2)] [(.int c0_2), (.int c0_1)]))
    rcases Classical.em (c0_1 = c0_2) with c5 | c5
    · skip
      refine og (fun _ hr => XS.icmpNo X0.here hx rfl (hb hby dc14_16) rfl (teq c5).2 hr) ?_
      show oG p e below _ (s₁.setTop (mkF m 19 #[.val (.ref o1), .val (.int z1), .val (.ref o2), .val (.int z2)] []))
      refine og (fun _ hr => XS.iloadN X0.here hx rfl (hb hby dc14_19) rfl (XS.iconst X0.here hx rfl (hb hby dc14_20) hr)) ?_
      show oG p e below _ (s₁.setTop (mkF m 21 #[.val (.ref o1), .val (.int z1), .val (.ref o2), .val (.int z2)] [(.int (2 : Int32)), (.int z1)]))
      rcases Classical.em (z1 < (2 : Int32)) with c6 | c6
      · skip
        refine og (fun _ hr => XS.icmpYes X0.here hx rfl (pc0 := 21) (pc' := 33) rfl (hb hby dc14_21) rfl (tlt c6).1 (by decide) (by decide) hr) ?_
        show oG p e below _ (s₁.setTop (mkF m 33 #[.val (.ref o1), .val (.int z1), .val (.ref o2), .val (.int z2)] []))
        refine og (fun _ hr => XS.iloadN X0.here hx rfl (hb hby dc14_33) rfl (XS.iconst X0.here hx rfl (hb hby dc14_34) hr)) ?_
        show oG p e below _ (s₁.setTop (mkF m 35 #[.val (.ref o1), .val (.int z1), .val (.ref o2), .val (.int z2)] [(.int (3 : Int32)), (.int z1)]))
        have c7 : z1 < (3 : Int32) := by
          have q0 := rng32 z1
          have q1 := rng32 z2
          have p0 := c1
          have p1 := c2
          have p2 := c6
          simp only [true_implies, Int32.lt_iff_toInt_lt, ← Int32.toInt_inj, Int32.reduceToInt, Int64.lt_iff_toInt_lt, ← Int64.toInt_inj, Int64.reduceToInt] at q0 q1 p0 p1 p2 ⊢
          omega
        refine og (fun _ hr => XS.icmpYes X0.here hx rfl (pc0 := 35) (pc' := 47) rfl (hb hby dc14_35) rfl (tlt c7).1 (by decide) (by decide) hr) ?_
        show oG p e below _ (s₁.setTop (mkF m 47 #[.val (.ref o1), .val (.int z1), .val (.ref o2), .val (.int z2)] []))
        refine og (fun _ hr => XS.iconst X0.here hx rfl (hb hby dc14_47) (XS.goto X0.here hx rfl (pc0 := 48) (pc' := 52) rfl (hb hby dc14_48) (by decide) (by decide) hr)) ?_
        show oG p e below _ (s₁.setTop (mkF m 52 #[.val (.ref o1), .val (.int z1), .val (.ref o2), .val (.int z2)] [(.int (1 : Int32))]))
        exact own_retN X0 hx hlk Bd.returns (t := .boolean) (by simp) (hb hby dc14_52) (by decide) (by decide) ⟨(congrArg (fun q => some (Value.int q)) (show (1 : Int32) = own_same c0_1 c1_1 c2_1 z1 c0_2 c1_2 c2_2 z2 from Eq.symm (by unfold own_same; rw [if_pos c1, if_neg c2, if_pos c5, if_pos c6]))), N0, e0⟩
      refine og (fun _ hr => XS.icmpNo X0.here hx rfl (hb hby dc14_21) rfl (flt c6).1 hr) ?_
      show oG p e below _ (s₁.setTop (mkF m 24 #[.val (.ref o1), .val (.int z1), .val (.ref o2), .val (.int z2)] []))
      refine og (fun _ hr => XS.aloadN X0.here hx rfl (hb hby dc14_24) rfl rfl (XS.iconst X0.here hx rfl (hb hby dc14_25) (own_caload X0 hx hZ e0 V1 (1 : Int32) (.int c1_1) ⟨by decide, by decide⟩ rfl rfl rfl (hb hby dc14_26) (XS.aloadN X0.here hx rfl (hb hby dc14_27) rfl rfl (XS.iconst X0.here hx rfl (hb hby dc14_28) (own_caload X0 hx hZ e0 V2 (1 : Int32) (.int c1_2) ⟨by decide, by decide⟩ rfl rfl rfl (hb hby dc14_29) hr)))))) ?_
      show oG p e below _ (s₁.setTop (mkF m 30 #[.val (.ref o1), .val (.int z1), .val (.ref o2), .val (.int z2)] [(.int c1_2), (.int c1_1)]))
      rcases Classical.em (c1_1 = c1_2) with c8 | c8
      · skip
        refine og (fun _ hr => XS.icmpNo X0.here hx rfl (hb hby dc14_30) rfl (teq c8).2 hr) ?_
        show oG p e below _ (s₁.setTop (mkF m 33 #[.val (.ref o1), .val (.int z1), .val (.ref o2), .val (.int z2)] []))
        refine og (fun _ hr => XS.iloadN X0.here hx rfl (hb hby dc14_33) rfl (XS.iconst X0.here hx rfl (hb hby dc14_34) hr)) ?_
        show oG p e below _ (s₁.setTop (mkF m 35 #[.val (.ref o1), .val (.int z1), .val (.ref o2), .val (.int z2)] [(.int (3 : Int32)), (.int z1)]))
        rcases Classical.em (z1 < (3 : Int32)) with c9 | c9
        · skip
          refine og (fun _ hr => XS.icmpYes X0.here hx rfl (pc0 := 35) (pc' := 47) rfl (hb hby dc14_35) rfl (tlt c9).1 (by decide) (by decide) hr) ?_
          show oG p e below _ (s₁.setTop (mkF m 47 #[.val (.ref o1), .val (.int z1), .val (.ref o2), .val (.int z2)] []))
          refine og (fun _ hr => XS.iconst X0.here hx rfl (hb hby dc14_47) (XS.goto X0.here hx rfl (pc0 := 48) (pc' := 52) rfl (hb hby dc14_48) (by decide) (by decide) hr)) ?_
          show oG p e below _ (s₁.setTop (mkF m 52 #[.val (.ref o1), .val (.int z1), .val (.ref o2), .val (.int z2)] [(.int (1 : Int32))]))
          exact own_retN X0 hx hlk Bd.returns (t := .boolean) (by simp) (hb hby dc14_52) (by decide) (by decide) ⟨(congrArg (fun q => some (Value.int q)) (show (1 : Int32) = own_same c0_1 c1_1 c2_1 z1 c0_2 c1_2 c2_2 z2 from Eq.symm (by unfold own_same; rw [if_pos c1, if_neg c2, if_pos c5, if_neg c6, if_pos c8, if_pos c9]))), N0, e0⟩
        refine og (fun _ hr => XS.icmpNo X0.here hx rfl (hb hby dc14_35) rfl (flt c9).1 hr) ?_
        show oG p e below _ (s₁.setTop (mkF m 38 #[.val (.ref o1), .val (.int z1), .val (.ref o2), .val (.int z2)] []))
        refine og (fun _ hr => XS.aloadN X0.here hx rfl (hb hby dc14_38) rfl rfl (XS.iconst X0.here hx rfl (hb hby dc14_39) (own_caload X0 hx hZ e0 V1 (2 : Int32) (.int c2_1) ⟨by decide, by decide⟩ rfl rfl rfl (hb hby dc14_40) (XS.aloadN X0.here hx rfl (hb hby dc14_41) rfl rfl (XS.iconst X0.here hx rfl (hb hby dc14_42) (own_caload X0 hx hZ e0 V2 (2 : Int32) (.int c2_2) ⟨by decide, by decide⟩ rfl rfl rfl (hb hby dc14_43) hr)))))) ?_
        show oG p e below _ (s₁.setTop (mkF m 44 #[.val (.ref o1), .val (.int z1), .val (.ref o2), .val (.int z2)] [(.int c2_2), (.int c2_1)]))
        rcases Classical.em (c2_1 = c2_2) with c10 | c10
        · skip
          refine og (fun _ hr => XS.icmpNo X0.here hx rfl (hb hby dc14_44) rfl (teq c10).2 hr) ?_
          show oG p e below _ (s₁.setTop (mkF m 47 #[.val (.ref o1), .val (.int z1), .val (.ref o2), .val (.int z2)] []))
          refine og (fun _ hr => XS.iconst X0.here hx rfl (hb hby dc14_47) (XS.goto X0.here hx rfl (pc0 := 48) (pc' := 52) rfl (hb hby dc14_48) (by decide) (by decide) hr)) ?_
          show oG p e below _ (s₁.setTop (mkF m 52 #[.val (.ref o1), .val (.int z1), .val (.ref o2), .val (.int z2)] [(.int (1 : Int32))]))
          exact own_retN X0 hx hlk Bd.returns (t := .boolean) (by simp) (hb hby dc14_52) (by decide) (by decide) ⟨(congrArg (fun q => some (Value.int q)) (show (1 : Int32) = own_same c0_1 c1_1 c2_1 z1 c0_2 c1_2 c2_2 z2 from Eq.symm (by unfold own_same; rw [if_pos c1, if_neg c2, if_pos c5, if_neg c6, if_pos c8, if_neg c9, if_pos c10]))), N0, e0⟩
        refine og (fun _ hr => XS.icmpYes X0.here hx rfl (pc0 := 44) (pc' := 51) rfl (hb hby dc14_44) rfl (feq c10).2 (by decide) (by decide) hr) ?_
        show oG p e below _ (s₁.setTop (mkF m 51 #[.val (.ref o1), .val (.int z1), .val (.ref o2), .val (.int z2)] []))
        refine og (fun _ hr => XS.iconst X0.here hx rfl (hb hby dc14_51) hr) ?_
        show oG p e below _ (s₁.setTop (mkF m 52 #[.val (.ref o1), .val (.int z1), .val (.ref o2), .val (.int z2)] [(.int (0 : Int32))]))
        exact own_retN X0 hx hlk Bd.returns (t := .boolean) (by simp) (hb hby dc14_52) (by decide) (by decide) ⟨(congrArg (fun q => some (Value.int q)) (show (0 : Int32) = own_same c0_1 c1_1 c2_1 z1 c0_2 c1_2 c2_2 z2 from Eq.symm (by unfold own_same; rw [if_pos c1, if_neg c2, if_pos c5, if_neg c6, if_pos c8, if_neg c9, if_neg c10]))), N0, e0⟩
      refine og (fun _ hr => XS.icmpYes X0.here hx rfl (pc0 := 30) (pc' := 51) rfl (hb hby dc14_30) rfl (feq c8).2 (by decide) (by decide) hr) ?_
      show oG p e below _ (s₁.setTop (mkF m 51 #[.val (.ref o1), .val (.int z1), .val (.ref o2), .val (.int z2)] []))
      refine og (fun _ hr => XS.iconst X0.here hx rfl (hb hby dc14_51) hr) ?_
      show oG p e below _ (s₁.setTop (mkF m 52 #[.val (.ref o1), .val (.int z1), .val (.ref o2), .val (.int z2)] [(.int (0 : Int32))]))
      exact own_retN X0 hx hlk Bd.returns (t := .boolean) (by simp) (hb hby dc14_52) (by decide) (by decide) ⟨(congrArg (fun q => some (Value.int q)) (show (0 : Int32) = own_same c0_1 c1_1 c2_1 z1 c0_2 c1_2 c2_2 z2 from Eq.symm (by unfold own_same; rw [if_pos c1, if_neg c2, if_pos c5, if_neg c6, if_neg c8]))), N0, e0⟩
    refine og (fun _ hr => XS.icmpYes X0.here hx rfl (pc0 := 16) (pc' := 51) rfl (hb hby dc14_16) rfl (feq c5).2 (by decide) (by decide) hr) ?_
    show oG p e below _ (s₁.setTop (mkF m 51 #[.val (.ref o1), .val (.int z1), .val (.ref o2), .val (.int z2)] []))
    refine og (fun _ hr => XS.iconst X0.here hx rfl (hb hby dc14_51) hr) ?_
    show oG p e below _ (s₁.setTop (mkF m 52 #[.val (.ref o1), .val (.int z1), .val (.ref o2), .val (.int z2)] [(.int (0 : Int32))]))
    exact own_retN X0 hx hlk Bd.returns (t := .boolean) (by simp) (hb hby dc14_52) (by decide) (by decide) ⟨(congrArg (fun q => some (Value.int q)) (show (0 : Int32) = own_same c0_1 c1_1 c2_1 z1 c0_2 c1_2 c2_2 z2 from Eq.symm (by unfold own_same; rw [if_pos c1, if_neg c2, if_neg c5]))), N0, e0⟩
  refine og (fun _ hr => XS.icmpYes X0.here hx rfl (pc0 := 2) (pc' := 51) rfl (hb hby dc14_2) rfl (feq c1).2 (by decide) (by decide) hr) ?_
  show oG p e below _ (s₁.setTop (mkF m 51 #[.val (.ref o1), .val (.int z1), .val (.ref o2), .val (.int z2)] []))
  refine og (fun _ hr => XS.iconst X0.here hx rfl (hb hby dc14_51) hr) ?_
  show oG p e below _ (s₁.setTop (mkF m 52 #[.val (.ref o1), .val (.int z1), .val (.ref o2), .val (.int z2)] [(.int (0 : Int32))]))
  exact own_retN X0 hx hlk Bd.returns (t := .boolean) (by simp) (hb hby dc14_52) (by decide) (by decide) ⟨(congrArg (fun q => some (Value.int q)) (show (0 : Int32) = own_same c0_1 c1_1 c2_1 z1 c0_2 c1_2 c2_2 z2 from Eq.symm (by unfold own_same; rw [if_neg c1]))), N0, e0⟩
theorem own_by_v (c : Int32) : ((own_by c).toInt - c.toInt) % 256 = 0 ∧ -128 ≤ (own_by c).toInt ∧ (own_by c).toInt < 128 := c_i2b c
theorem own_by_inj (c d : Int32) (h1 : 0 ≤ c.toInt ∧ c.toInt < 256) (h2 : 0 ≤ d.toInt ∧ d.toInt < 256) : (own_by c = own_by d) = (c = d) := by
  refine propext ⟨fun q => ?_, fun q => by rw [q]⟩
  have q1 := own_by_v c; have q2 := own_by_v d
  rw [q] at q1
  apply Int32.toInt_inj.mp
  omega
theorem own_leq_same (c0_1 c1_1 c2_1 z1 c0_2 c1_2 c2_2 z2 : Int32) (g10 : 0 ≤ c0_1.toInt ∧ c0_1.toInt < 256) (g11 : 0 ≤ c1_1.toInt ∧ c1_1.toInt < 256) (g12 : 0 ≤ c2_1.toInt ∧ c2_1.toInt < 256) (g20 : 0 ≤ c0_2.toInt ∧ c0_2.toInt < 256) (g21 : 0 ≤ c1_2.toInt ∧ c1_2.toInt < 256) (g22 : 0 ≤ c2_2.toInt ∧ c2_2.toInt < 256) (hz : z1 = 0 ∨ z1 = 1 ∨ z1 = 2 ∨ z1 = 3) (hw : z2 = 0 ∨ z2 = 1 ∨ z2 = 2 ∨ z2 = 3) : own_leq c0_1 c1_1 c2_1 z1 c0_2 c1_2 c2_2 z2 = own_same c0_1 c1_1 c2_1 z1 c0_2 c1_2 c2_2 z2 := by
  have e0 := own_by_inj c0_1 c0_2 g10 g20; have e1 := own_by_inj c1_1 c1_2 g11 g21; have e2 := own_by_inj c2_1 c2_2 g12 g22
  rcases hz with rfl | rfl | rfl | rfl <;> rcases hw with rfl | rfl | rfl | rfl <;> simp [own_leq, own_same, e0, e1, e2]
theorem own_same_comm (c0_1 c1_1 c2_1 z1 c0_2 c1_2 c2_2 z2 : Int32) : own_same c0_1 c1_1 c2_1 z1 c0_2 c1_2 c2_2 z2 = own_same c0_2 c1_2 c2_2 z2 c0_1 c1_1 c2_1 z1 := by
  by_cases h : z1 = z2
  · subst h; simp only [own_same, eq_comm]
  · simp [own_same, h, Ne.symm h, show ¬ (z2 = z1) from fun q => h q.symm]
theorem own_four {z : Int32} (h1 : ¬ z < 0) (h2 : ¬ 3 < z) : z = 0 ∨ z = 1 ∨ z = 2 ∨ z = 3 := by
  simp only [Int32.lt_iff_toInt_lt, ← Int32.toInt_inj, Int32.reduceToInt] at *; omega
theorem own_rg {z : Int32} (h1 : ¬ z < 0) (h2 : ¬ 255 < z) : 0 ≤ z.toInt ∧ z.toInt < 256 := by
  simp only [Int32.lt_iff_toInt_lt, Int32.reduceToInt] at *; omega
theorem own_same_self (c0_1 c1_1 c2_1 z1 : Int32) (hz : z1 = 0 ∨ z1 = 1 ∨ z1 = 2 ∨ z1 = 3) : own_same c0_1 c1_1 c2_1 z1 c0_1 c1_1 c2_1 z1 = 1 := by rcases hz with rfl | rfl | rfl | rfl <;> simp [own_same]
theorem own_pd9 : parseMethodDescriptor "(JI)[C" = some ⟨[.long, .int], some (.array .char)⟩ := by decide +kernel
theorem own_pd10 : parseMethodDescriptor "([CI)Ljava/lang/String;" = some ⟨[(.array .char), .int], some (.object "java/lang/String")⟩ := by decide +kernel
theorem dc6_0 : decode prog_17_method_1_code 0 = .ok (.aload_n 0, 1) := by decide +kernel
theorem dc6_1 : decode prog_17_method_1_code 1 = .ok (.invokespecial 1, 3) := by decide +kernel
theorem dc7_0 : decode jdk_30_method_1_code 0 = .ok (.aload_n 0, 1) := by decide +kernel
theorem dc7_1 : decode jdk_30_method_1_code 1 = .ok (.invokespecial 1, 3) := by decide +kernel
theorem dc7_4 : decode jdk_30_method_1_code 4 = .ok (.return_, 1) := by decide +kernel
theorem own_pn_java_lang_Record : plainName "java/lang/Record" = true := by first | (simp [plainName, overriddenIn]; done) | decide +kernel
def Q_init_20 (Z : State) (h0 : Heap) (n0 : Nat) (v : Option Value) (h : Heap) (L : List Loc) : Prop := v = none ∧ Fr n0 L ∧ h = h0
set_option maxRecDepth 65536 in
set_option maxHeartbeats 40000000 in
theorem rm_init_20 (l : Launch) (Z : State) (a0 : Array Value) (hw : ∀ d ∈ tables_1, d.before a0 Z = true) (ws : List Jvm.Cond) (o0 : Addr) (h0 : Heap) (n0 : Nat) (Z0 : n0 ≤ h0.size) :
    MetFree l (⟨"java/lang/Record", "<init>", "()V"⟩ : MethodName) (head1 (Jvm.Cond.code (⟨"java/lang/Record", "<init>", "()V"⟩ : MethodName) jdk_30_method_1_code 1 none :: ws) ({ frames := 1, cells := 0, slots := 0, locals := 12 } : Room)) (fun aA U => aA = #[(.ref o0)] ∧ Z.Warmed39 U.vm ∧ U.heap = h0) (fun _ _ _ _ _ => True) (fun _ U o U' => ∃ v L, o = .returned v ∧ Q_init_20 Z h0 n0 v U'.heap L ∧ FrameEnd U o U' L ({ frames := 1, cells := 0, slots := 0, locals := 12 } : Room).cells ({ frames := 1, cells := 0, slots := 0, locals := 12 } : Room).slots) := by
  refine MetFree.of_bodySF (plainFor_of_name own_pn_java_lang_Record) hisR ?_
  intro p e s m args below meth c s₁ Bd hml0 hP hK
  obtain ⟨rfl, hZ, hh⟩ := hP
  have hx := Bd.exec
  have hby := Bd.bytes
  have hlk : meth.locks = false := BodyLoose.notSynchronized Bd
  have hml : c.maxLocals = 1 := hml0
  have hown : s.vm.findClass "java/lang/Record" = some m.cls := findClass_of_methodNamed Bd.named
  have hnm := (name_of_methodNamed Bd.named Bd.method).1
  have X0 : Stand p l e ({ frames := 1, cells := 0, slots := 0, locals := 12 } : Room) s m #[(.ref o0)] below meth c s₁ [] 0 0 := Stand.of_body Bd
  have e0 : s₁.heap = h0 := by rw [← hh, Bd.state]; rfl
  have N0 := Fr.nil n0
  show oG p e below (own_K s (Q_init_20 Z h0 n0) ({ frames := 1, cells := 0, slots := 0, locals := 12 } : Room).cells ({ frames := 1, cells := 0, slots := 0, locals := 12 } : Room).slots) (s₁.setTop (entryFrame m #[(.ref o0)] 1))
  rw [(by first | (simp [entryFrame, mkF, argsToLocals, Value.category]; done) | rfl : entryFrame m #[(.ref o0)] 1 = mkF m 0 #[.val (.ref o0)] [])]
  show oG p e below _ (s₁.setTop (mkF m 0 #[.val (.ref o0)] []))
  refine og (fun _ hr => XS.aloadN X0.here hx rfl (hb hby dc7_0) rfl rfl hr) ?_
  show oG p e below _ (s₁.setTop (mkF m 1 #[.val (.ref o0)] [(.ref o0)]))
  obtain ⟨T1, X1, e1, st1⟩ := initO X0 hx hZ hown (hw _ (own_m 42 rfl)) (hw _ (own_m 26 rfl)) (hw _ (own_m 27 rfl)) e0 (g := (mkF m 1 #[.val (.ref o0)] [(.ref o0)])) rfl (by rw [hml]; rfl) rfl (hb hby dc7_1) (by decide) (W := 0) (by show 2 * 0 + _ ≤ _; exact Nat.le_of_eq rfl) (by decide)
  refine og st1 ?_
  show oG p e below _ (T1.setTop (mkF m 4 #[.val (.ref o0)] []))
  exact own_ret0 X1 hx hlk Bd.returns (hb hby dc7_4) (by decide) (by decide) ⟨rfl, N0, e1⟩
theorem own_pd11 : parseMethodDescriptor "()V" = some ⟨[], none⟩ := by decide +kernel
theorem dc6_4 : decode prog_17_method_1_code 4 = .ok (.aload_n 0, 1) := by decide +kernel
theorem dc6_5 : decode prog_17_method_1_code 5 = .ok (.aload_n 1, 1) := by decide +kernel
theorem dc6_6 : decode prog_17_method_1_code 6 = .ok (.putfield 7, 3) := by decide +kernel
theorem dc6_9 : decode prog_17_method_1_code 9 = .ok (.aload_n 0, 1) := by decide +kernel
theorem dc6_10 : decode prog_17_method_1_code 10 = .ok (.aload_n 2, 1) := by decide +kernel
theorem dc6_11 : decode prog_17_method_1_code 11 = .ok (.putfield 13, 3) := by decide +kernel
theorem dc6_14 : decode prog_17_method_1_code 14 = .ok (.aload_n 0, 1) := by decide +kernel
theorem dc6_15 : decode prog_17_method_1_code 15 = .ok (.aload_n 3, 1) := by decide +kernel
theorem dc6_16 : decode prog_17_method_1_code 16 = .ok (.putfield 16, 3) := by decide +kernel
theorem dc6_19 : decode prog_17_method_1_code 19 = .ok (.return_, 1) := by decide +kernel
theorem own_pn_com_example_ruleweave_ruleweave_CommonPolicySchema_Term : plainName "com/example/ruleweave/ruleweave/CommonPolicySchema$Term" = true := by first | (simp [plainName, overriddenIn]; done) | decide +kernel
def Q_init_21 (Z : State) (o0 : Addr) (h0 : Heap) (n0 : Nat) (v : Option Value) (h : Heap) (L : List Loc) : Prop := (v = none ∧ Fr n0 L ∧ Keep h0 h [o0] ∧ Fld Z h o0 "com/example/ruleweave/ruleweave/CommonPolicySchema$Term" "localName" "Ljava/lang/String;" .null ∧ Fld Z h o0 "com/example/ruleweave/ruleweave/CommonPolicySchema$Term" "namespace" "Ljava/lang/String;" .null ∧ Fld Z h o0 "com/example/ruleweave/ruleweave/CommonPolicySchema$Term" "type" "Lcom/example/ruleweave/ruleweave/CommonPolicySchema$Type;" .null)
set_option maxRecDepth 65536 in
set_option maxHeartbeats 40000000 in
theorem rm_init_21 (l : Launch) (Z : State) (a0 : Array Value) (hw : ∀ d ∈ tables_1, d.before a0 Z = true) (ws : List Jvm.Cond) (o0 : Addr) (h0 : Heap) (n0 : Nat) (Z0 : n0 ≤ h0.size) (P0 : Exa Z h0 o0 "com/example/ruleweave/ruleweave/CommonPolicySchema$Term") (P1 : Fld Z h0 o0 "com/example/ruleweave/ruleweave/CommonPolicySchema$Term" "namespace" "Ljava/lang/String;" .null) (P2 : Fld Z h0 o0 "com/example/ruleweave/ruleweave/CommonPolicySchema$Term" "localName" "Ljava/lang/String;" .null) (P3 : Fld Z h0 o0 "com/example/ruleweave/ruleweave/CommonPolicySchema$Term" "type" "Lcom/example/ruleweave/ruleweave/CommonPolicySchema$Type;" .null) (ge0p : n0 ≤ o0) :
    MetFree l (⟨"com/example/ruleweave/ruleweave/CommonPolicySchema$Term", "<init>", "(Ljava/lang/String;Ljava/lang/String;Lcom/example/ruleweave/ruleweave/CommonPolicySchema$Type;)V"⟩ : MethodName) (head1 (Jvm.Cond.code (⟨"com/example/ruleweave/ruleweave/CommonPolicySchema$Term", "<init>", "(Ljava/lang/String;Ljava/lang/String;Lcom/example/ruleweave/ruleweave/CommonPolicySchema$Type;)V"⟩ : MethodName) prog_17_method_1_code 4 none :: ws) ({ frames := 2, cells := 0, slots := 0, locals := 24 } : Room)) (fun aA U => aA = #[(.ref o0), .null, .null, .null] ∧ Z.Warmed39 U.vm ∧ U.heap = h0) (fun _ _ _ _ _ => True) (fun _ U o U' => ∃ v L, o = .returned v ∧ Q_init_21 Z o0 h0 n0 v U'.heap L ∧ FrameEnd U o U' L ({ frames := 2, cells := 0, slots := 0, locals := 24 } : Room).cells ({ frames := 2, cells := 0, slots := 0, locals := 24 } : Room).slots) := by
  refine MetFree.of_bodySF (plainFor_of_name own_pn_com_example_ruleweave_ruleweave_CommonPolicySchema_Term) hisR ?_
  intro p e s m args below meth c s₁ Bd hml0 hP hK
  obtain ⟨rfl, hZ, hh⟩ := hP
  have hx := Bd.exec
  have hby := Bd.bytes
  have hlk : meth.locks = false := BodyLoose.notSynchronized Bd
  have hml : c.maxLocals = 4 := hml0
  have hown : s.vm.findClass "com/example/ruleweave/ruleweave/CommonPolicySchema$Term" = some m.cls := findClass_of_methodNamed Bd.named
  have hnm := (name_of_methodNamed Bd.named Bd.method).1
  have X0 : Stand p l e ({ frames := 2, cells := 0, slots := 0, locals := 24 } : Room) s m #[(.ref o0), .null, .null, .null] below meth c s₁ [] 0 0 := Stand.of_body Bd
  have e0 : s₁.heap = h0 := by rw [← hh, Bd.state]; rfl
  have N0 := Fr.nil n0
  have K0 : Keep h0 h0 [o0] := Keep.refl _ _
  show oG p e below (own_K s (Q_init_21 Z o0 h0 n0) ({ frames := 2, cells := 0, slots := 0, locals := 24 } : Room).cells ({ frames := 2, cells := 0, slots := 0, locals := 24 } : Room).slots) (s₁.setTop (entryFrame m #[(.ref o0), .null, .null, .null] 4))
  rw [(by first | (simp [entryFrame, mkF, argsToLocals, Value.category]; done) | rfl : entryFrame m #[(.ref o0), .null, .null, .null] 4 = mkF m 0 #[.val (.ref o0), .val .null, .val .null, .val .null] [])]
  show oG p e below _ (s₁.setTop (mkF m 0 #[.val (.ref o0), .val .null, .val .null, .val .null] []))
  refine og (fun _ hr => XS.aloadN X0.here hx rfl (hb hby dc6_0) rfl rfl hr) ?_
  show oG p e below _ (s₁.setTop (mkF m 1 #[.val (.ref o0), .val .null, .val .null, .val .null] [(.ref o0)]))
  refine own_cp X0 hx hZ hown rfl (hw _ (own_m 37 rfl)) (hw _ (own_m 38 rfl)) (hw _ (own_m 40 rfl)) (hw _ (own_m 41 rfl)) (by decide) (rm := { frames := 1, cells := 0, slots := 0, locals := 12 }) (rm_init_20 l Z a0 hw [] o0 h0 n0 Z0 ) (by decide) (W := 0) (by decide) (by decide) (by decide) e0 (by rw [hml]; rfl) (argsL := []) (lenOf own_pd11 rfl) (rest := []) rfl rfl (Nat.le_of_eq rfl) (hb hby dc6_1) ?_
  intro _ T1 L1 X1 hQ1
  obtain ⟨rfl, N1q, e1⟩ := hQ1
  have N1 := Fr.app N0 N1q
  show oG p e below _ (T1.setTop (mkF m 4 #[.val (.ref o0), .val .null, .val .null, .val .null] []))
  refine og (fun _ hr => XS.aloadN X1.here hx rfl (hb hby dc6_4) rfl rfl (XS.aloadN X1.here hx rfl (hb hby dc6_5) rfl rfl hr)) ?_
  show oG p e below _ (T1.setTop (mkF m 6 #[.val (.ref o0), .val .null, .val .null, .val .null] [.null, (.ref o0)]))
  obtain ⟨T2, h2, X2, e2, W2, st2⟩ := putF X1 hx hZ hown (host := "") (Or.inl (hw _ (own_m 43 rfl))) Via.refl e1 P1 P0 (Or.inr ⟨(hw _ (own_m 44 rfl)), rfl, hnm⟩) (hw _ (own_m 32 rfl)) (ty := (.object "java/lang/String")) (by decide) rfl rfl (g := (mkF m 6 #[.val (.ref o0), .val .null, .val .null, .val .null] [.null, (.ref o0)])) rfl rfl (hb hby dc6_6)
  refine og st2 ?_
  have f3 := P1.same W2
  have N4 := Fr.snoc X2 N1 ge0p
  show oG p e below _ (T2.setTop (mkF m 9 #[.val (.ref o0), .val .null, .val .null, .val .null] []))
  refine og (fun _ hr => XS.aloadN X2.here hx rfl (hb hby dc6_9) rfl rfl (XS.aloadN X2.here hx rfl (hb hby dc6_10) rfl rfl hr)) ?_
  show oG p e below _ (T2.setTop (mkF m 11 #[.val (.ref o0), .val .null, .val .null, .val .null] [.null, (.ref o0)]))
  have f5 := (P0.wr W2)
  have f6 := (P2.other W2 (Or.inr (slot_ne (Or.inr (hw _ (own_m 46 rfl))) (Or.inr (hw _ (own_m 44 rfl))) (by decide) (t := (.object "java/lang/String")) (t' := (.object "java/lang/String")) (by decide) (by decide))))
  obtain ⟨T7, h7, X7, e7, W7, st7⟩ := putF X2 hx hZ hown (host := "") (Or.inl (hw _ (own_m 45 rfl))) Via.refl e2 f6 f5 (Or.inr ⟨(hw _ (own_m 46 rfl)), rfl, hnm⟩) (hw _ (own_m 32 rfl)) (ty := (.object "java/lang/String")) (by decide) rfl rfl (g := (mkF m 11 #[.val (.ref o0), .val .null, .val .null, .val .null] [.null, (.ref o0)])) rfl rfl (hb hby dc6_11)
  refine og st7 ?_
  have f8 := f6.same W7
  have N9 := Fr.snoc X7 N4 ge0p
  show oG p e below _ (T7.setTop (mkF m 14 #[.val (.ref o0), .val .null, .val .null, .val .null] []))
  refine og (fun _ hr => XS.aloadN X7.here hx rfl (hb hby dc6_14) rfl rfl (XS.aloadN X7.here hx rfl (hb hby dc6_15) rfl rfl hr)) ?_
  show oG p e below _ (T7.setTop (mkF m 16 #[.val (.ref o0), .val .null, .val .null, .val .null] [.null, (.ref o0)]))
  have f10 := (f5.wr W7)
  have f11 := ((P3.other W2 (Or.inr (slot_ne (Or.inr (hw _ (own_m 48 rfl))) (Or.inr (hw _ (own_m 44 rfl))) (by decide) (t := (.object "com/example/ruleweave/ruleweave/CommonPolicySchema$Type")) (t' := (.object "java/lang/String")) (by decide) (by decide)))).other W7 (Or.inr (slot_ne (Or.inr (hw _ (own_m 48 rfl))) (Or.inr (hw _ (own_m 46 rfl))) (by decide) (t := (.object "com/example/ruleweave/ruleweave/CommonPolicySchema$Type")) (t' := (.object "java/lang/String")) (by decide) (by decide))))
  obtain ⟨T12, h12, X12, e12, W12, st12⟩ := putF X7 hx hZ hown (host := "") (Or.inl (hw _ (own_m 47 rfl))) Via.refl e7 f11 f10 (Or.inr ⟨(hw _ (own_m 48 rfl)), rfl, hnm⟩) (hw _ (own_m 32 rfl)) (ty := (.object "com/example/ruleweave/ruleweave/CommonPolicySchema$Type")) (by decide) rfl rfl (g := (mkF m 16 #[.val (.ref o0), .val .null, .val .null, .val .null] [.null, (.ref o0)])) rfl rfl (hb hby dc6_16)
  refine og st12 ?_
  have f13 := f11.same W12
  have N14 := Fr.snoc X12 N9 ge0p
  show oG p e below _ (T12.setTop (mkF m 19 #[.val (.ref o0), .val .null, .val .null, .val .null] []))
  have f15 := (f8.other W12 (Or.inr (slot_ne (Or.inr (hw _ (own_m 46 rfl))) (Or.inr (hw _ (own_m 48 rfl))) (by decide) (t := (.object "java/lang/String")) (t' := (.object "com/example/ruleweave/ruleweave/CommonPolicySchema$Type")) (by decide) (by decide))))
  have f16 := ((f3.other W7 (Or.inr (slot_ne (Or.inr (hw _ (own_m 44 rfl))) (Or.inr (hw _ (own_m 46 rfl))) (by decide) (t := (.object "java/lang/String")) (t' := (.object "java/lang/String")) (by decide) (by decide)))).other W12 (Or.inr (slot_ne (Or.inr (hw _ (own_m 44 rfl))) (Or.inr (hw _ (own_m 48 rfl))) (by decide) (t := (.object "java/lang/String")) (t' := (.object "com/example/ruleweave/ruleweave/CommonPolicySchema$Type")) (by decide) (by decide))))
  have K17 := (((K0.wr W2 (Or.inl (List.mem_of_getElem? (i := 0) rfl))).wr W7 (Or.inl (List.mem_of_getElem? (i := 0) rfl))).wr W12 (Or.inl (List.mem_of_getElem? (i := 0) rfl)))
  exact own_ret0 X12 hx hlk Bd.returns (hb hby dc6_19) (by decide) (by decide) (by rw [e12]; exact ⟨rfl, N14, K17, f15, f16, f13⟩)
theorem own_pd12 : parseMethodDescriptor "(Ljava/lang/String;Ljava/lang/String;Lcom/example/ruleweave/ruleweave/CommonPolicySchema$Type;)V" = some ⟨[(.object "java/lang/String"), (.object "java/lang/String"), (.object "com/example/ruleweave/ruleweave/CommonPolicySchema$Type")], none⟩ := by decide +kernel
theorem dc8_0 : decode prog_17_method_2_code 0 = .ok (.aload_n 0, 1) := by decide +kernel
theorem dc8_1 : decode prog_17_method_2_code 1 = .ok (.getfield 16, 3) := by decide +kernel
theorem dc8_4 : decode prog_17_method_2_code 4 = .ok (.ifnonnull 25, 3) := by decide +kernel
theorem dc8_7 : decode prog_17_method_2_code 7 = .ok (.aload_n 1, 1) := by decide +kernel
theorem dc8_8 : decode prog_17_method_2_code 8 = .ok (.invokevirtual 20, 3) := by decide +kernel
theorem dc9_0 : decode jdk_42_method_55_code 0 = .ok (.aload_n 0, 1) := by decide +kernel
theorem dc9_1 : decode jdk_42_method_55_code 1 = .ok (.getfield 9, 3) := by decide +kernel
theorem dc9_4 : decode jdk_42_method_55_code 4 = .ok (.arraylength, 1) := by decide +kernel
theorem dc9_5 : decode jdk_42_method_55_code 5 = .ok (.ifCond .ne 7, 3) := by decide +kernel
theorem dc9_8 : decode jdk_42_method_55_code 8 = .ok (.iconst 1, 1) := by decide +kernel
theorem dc9_9 : decode jdk_42_method_55_code 9 = .ok (.goto 4, 3) := by decide +kernel
theorem dc9_13 : decode jdk_42_method_55_code 13 = .ok (.ireturn, 1) := by decide +kernel
def Q_isEmpty_22 (Z : State) (h0 : Heap) (n0 : Nat) (v : Option Value) (h : Heap) (L : List Loc) : Prop := v = some (.int (1 : Int32)) ∧ Fr n0 L ∧ h = h0
set_option maxRecDepth 65536 in
set_option maxHeartbeats 40000000 in
theorem rm_isEmpty_22 (l : Launch) (Z : State) (a0 : Array Value) (hw : ∀ d ∈ tables_1, d.before a0 Z = true) (ws : List Jvm.Cond) (o0 : Addr) (o1 : Addr) (kc0 : ClassId) (h0 : Heap) (n0 : Nat) (Z0 : n0 ≤ h0.size) (P0 : Fld Z h0 o0 "java/lang/String" "value" "[B" (.ref o1)) (P1 : Arv Z h0 o1 kc0 .byte (0 : Int32) [] (.int (0 : Int32))) :
    MetFree l (⟨"java/lang/String", "isEmpty", "()Z"⟩ : MethodName) (head1 (Jvm.Cond.code (⟨"java/lang/String", "isEmpty", "()Z"⟩ : MethodName) jdk_42_method_55_code 1 (some .boolean) :: ws) ({ frames := 0, cells := 0, slots := 0, locals := 0 } : Room)) (fun aA U => aA = #[(.ref o0)] ∧ Z.Warmed39 U.vm ∧ U.heap = h0) (fun _ _ _ _ _ => True) (fun _ U o U' => ∃ v L, o = .returned v ∧ Q_isEmpty_22 Z h0 n0 v U'.heap L ∧ FrameEnd U o U' L ({ frames := 0, cells := 0, slots := 0, locals := 0 } : Room).cells ({ frames := 0, cells := 0, slots := 0, locals := 0 } : Room).slots) := by
  refine MetFree.of_bodySF (plainFor_of_name own_pn_java_lang_String) hisR ?_
  intro p e s m args below meth c s₁ Bd hml0 hP hK
  obtain ⟨rfl, hZ, hh⟩ := hP
  have hx := Bd.exec
  have hby := Bd.bytes
  have hlk : meth.locks = false := BodyLoose.notSynchronized Bd
  have hml : c.maxLocals = 1 := hml0
  have hown : s.vm.findClass "java/lang/String" = some m.cls := findClass_of_methodNamed Bd.named
  have hnm := (name_of_methodNamed Bd.named Bd.method).1
  have X0 : Stand p l e ({ frames := 0, cells := 0, slots := 0, locals := 0 } : Room) s m #[(.ref o0)] below meth c s₁ [] 0 0 := Stand.of_body Bd
  have e0 : s₁.heap = h0 := by rw [← hh, Bd.state]; rfl
  have N0 := Fr.nil n0
  show oG p e below (own_K s (Q_isEmpty_22 Z h0 n0) ({ frames := 0, cells := 0, slots := 0, locals := 0 } : Room).cells ({ frames := 0, cells := 0, slots := 0, locals := 0 } : Room).slots) (s₁.setTop (entryFrame m #[(.ref o0)] 1))
  rw [(by first | (simp [entryFrame, mkF, argsToLocals, Value.category]; done) | rfl : entryFrame m #[(.ref o0)] 1 = mkF m 0 #[.val (.ref o0)] [])]
  show oG p e below _ (s₁.setTop (mkF m 0 #[.val (.ref o0)] []))
  refine og (fun _ hr => XS.aloadN X0.here hx rfl (hb hby dc9_0) rfl rfl hr) ?_
  show oG p e below _ (s₁.setTop (mkF m 1 #[.val (.ref o0)] [(.ref o0)]))
  obtain ⟨T1, X1, e1, st1⟩ := getF X0 hx hZ hown (host := "") (Or.inl (hw _ (own_m 29 rfl))) Via.refl e0 P0 (g := (mkF m 1 #[.val (.ref o0)] [(.ref o0)])) rfl rfl (hb hby dc9_1)
  refine og st1 ?_
  show oG p e below _ (T1.setTop (mkF m 4 #[.val (.ref o0)] [(.ref o1)]))
  refine og (fun _ hr => own_alen X1 hx hZ e1 P1 rfl rfl (hb hby dc9_4) (XS.ifNo X1.here hx rfl (hb hby dc9_5) rfl ((if0 _ _).trans (teq (by decide)).2) (XS.iconst X1.here hx rfl (hb hby dc9_8) (XS.goto X1.here hx rfl (pc0 := 9) (pc' := 13) rfl (hb hby dc9_9) (by decide) (by decide) hr)))) ?_
  show oG p e below _ (T1.setTop (mkF m 13 #[.val (.ref o0)] [(.int (1 : Int32))]))
  exact own_retN X1 hx hlk Bd.returns (t := .boolean) (by simp) (hb hby dc9_13) (by decide) (by decide) ⟨rfl, N0, e1⟩
theorem own_pd13 : parseMethodDescriptor "()Z" = some ⟨[], some .boolean⟩ := by decide +kernel
theorem dc8_11 : decode prog_17_method_2_code 11 = .ok (.ifCond .ne 16, 3) := by decide +kernel
theorem dc8_27 : decode prog_17_method_2_code 27 = .ok (.iconst 0, 1) := by decide +kernel
theorem dc8_28 : decode prog_17_method_2_code 28 = .ok (.ireturn, 1) := by decide +kernel
def Q_admits_23 (Z : State) (h0 : Heap) (n0 : Nat) (v : Option Value) (h : Heap) (L : List Loc) : Prop := v = some (.int (0 : Int32)) ∧ Fr n0 L ∧ h = h0
set_option maxRecDepth 65536 in
set_option maxHeartbeats 40000000 in
theorem rm_admits_23 (l : Launch) (Z : State) (a0 : Array Value) (hw : ∀ d ∈ tables_1, d.before a0 Z = true) (ws : List Jvm.Cond) (o0 : Addr) (o1 : Addr) (o2 : Addr) (o3 : Addr) (kc0 : ClassId) (h0 : Heap) (n0 : Nat) (Z0 : n0 ≤ h0.size) (P0 : Fld Z h0 o0 "com/example/ruleweave/ruleweave/CommonPolicySchema$Term" "type" "Lcom/example/ruleweave/ruleweave/CommonPolicySchema$Type;" .null) (P1 : Fld Z h0 o1 "java/lang/String" "value" "[B" (.ref o3)) (P2 : Arv Z h0 o3 kc0 .byte (0 : Int32) [] (.int (0 : Int32))) (P3 : Exa Z h0 o1 "java/lang/String") :
    MetFree l (⟨"com/example/ruleweave/ruleweave/CommonPolicySchema$Term", "admits", "(Ljava/lang/String;Ljava/lang/String;)Z"⟩ : MethodName) (head1 (Jvm.Cond.code (⟨"com/example/ruleweave/ruleweave/CommonPolicySchema$Term", "admits", "(Ljava/lang/String;Ljava/lang/String;)Z"⟩ : MethodName) prog_17_method_2_code 3 (some .boolean) :: ws) ({ frames := 1, cells := 0, slots := 0, locals := 12 } : Room)) (fun aA U => aA = #[(.ref o0), (.ref o1), (.ref o2)] ∧ Z.Warmed39 U.vm ∧ U.heap = h0) (fun _ _ _ _ _ => True) (fun _ U o U' => ∃ v L, o = .returned v ∧ Q_admits_23 Z h0 n0 v U'.heap L ∧ FrameEnd U o U' L ({ frames := 1, cells := 0, slots := 0, locals := 12 } : Room).cells ({ frames := 1, cells := 0, slots := 0, locals := 12 } : Room).slots) := by
  refine MetFree.of_bodySF (plainFor_of_name own_pn_com_example_ruleweave_ruleweave_CommonPolicySchema_Term) hisR ?_
  intro p e s m args below meth c s₁ Bd hml0 hP hK
  obtain ⟨rfl, hZ, hh⟩ := hP
  have hx := Bd.exec
  have hby := Bd.bytes
  have hlk : meth.locks = false := BodyLoose.notSynchronized Bd
  have hml : c.maxLocals = 3 := hml0
  have hown : s.vm.findClass "com/example/ruleweave/ruleweave/CommonPolicySchema$Term" = some m.cls := findClass_of_methodNamed Bd.named
  have hnm := (name_of_methodNamed Bd.named Bd.method).1
  have X0 : Stand p l e ({ frames := 1, cells := 0, slots := 0, locals := 12 } : Room) s m #[(.ref o0), (.ref o1), (.ref o2)] below meth c s₁ [] 0 0 := Stand.of_body Bd
  have e0 : s₁.heap = h0 := by rw [← hh, Bd.state]; rfl
  have N0 := Fr.nil n0
  show oG p e below (own_K s (Q_admits_23 Z h0 n0) ({ frames := 1, cells := 0, slots := 0, locals := 12 } : Room).cells ({ frames := 1, cells := 0, slots := 0, locals := 12 } : Room).slots) (s₁.setTop (entryFrame m #[(.ref o0), (.ref o1), (.ref o2)] 3))
  rw [(by first | (simp [entryFrame, mkF, argsToLocals, Value.category]; done) | rfl : entryFrame m #[(.ref o0), (.ref o1), (.ref o2)] 3 = mkF m 0 #[.val (.ref o0), .val (.ref o1), .val (.ref o2)] [])]
  show oG p e below _ (s₁.setTop (mkF m 0 #[.val (.ref o0), .val (.ref o1), .val (.ref o2)] []))
  refine og (fun _ hr => XS.aloadN X0.here hx rfl (hb hby dc8_0) rfl rfl hr) ?_
  show oG p e below _ (s₁.setTop (mkF m 1 #[.val (.ref o0), .val (.ref o1), .val (.ref o2)] [(.ref o0)]))
  obtain ⟨T1, X1, e1, st1⟩ := getF X0 hx hZ hown (host := "") (Or.inl (hw _ (own_m 47 rfl))) Via.refl e0 P0 (g := (mkF m 1 #[.val (.ref o0), .val (.ref o1), .val (.ref o2)] [(.ref o0)])) rfl rfl (hb hby dc8_1)
  refine og st1 ?_
  show oG p e below _ (T1.setTop (mkF m 4 #[.val (.ref o0), .val (.ref o1), .val (.ref o2)] [.null]))
  refine og (fun _ hr => XS.ifnonnullNo X1.here hx rfl (hb hby dc8_4) rfl hr) ?_
  show oG p e below _ (T1.setTop (mkF m 7 #[.val (.ref o0), .val (.ref o1), .val (.ref o2)] []))
  refine og (fun _ hr => XS.aloadN X1.here hx rfl (hb hby dc8_7) rfl rfl hr) ?_
  show oG p e below _ (T1.setTop (mkF m 8 #[.val (.ref o0), .val (.ref o1), .val (.ref o2)] [(.ref o1)]))
  refine own_cv X1 hx hZ hown (notFace_of_selects (args := #[]) (mvT hZ (hw _ (own_m 57 rfl)))) (hw _ (own_m 54 rfl)) (hw _ (own_m 55 rfl)) (hw _ (own_m 57 rfl)) (hw _ (own_m 56 rfl)) (hw _ (own_m 7 rfl)) (hw _ (own_m 58 rfl)) (by decide) P3 (rm := { frames := 0, cells := 0, slots := 0, locals := 0 }) (rm_isEmpty_22 l Z a0 hw [] o1 o3 kc0 h0 n0 Z0 P1 P2) (by decide) (W := 0) (by decide) (by decide) (by decide) e1 (by rw [hml]; rfl) (argsL := []) (lenOf own_pd13 rfl) (rest := []) rfl rfl (Nat.le_of_eq rfl) (hb hby dc8_8) ?_
  intro _ T2 L2 X2 hQ2
  obtain ⟨rfl, N2q, e2⟩ := hQ2
  have N2 := Fr.app N0 N2q
  show oG p e below _ (T2.setTop (mkF m 11 #[.val (.ref o0), .val (.ref o1), .val (.ref o2)] [(.int (1 : Int32))]))
  refine og (fun _ hr => XS.ifYes X2.here hx rfl (pc0 := 11) (pc' := 27) rfl (hb hby dc8_11) rfl ((if0 _ _).trans (feq (by decide)).2) (by decide) (by decide) (XS.iconst X2.here hx rfl (hb hby dc8_27) hr)) ?_
  show oG p e below _ (T2.setTop (mkF m 28 #[.val (.ref o0), .val (.ref o1), .val (.ref o2)] [(.int (0 : Int32))]))
  exact own_retN X2 hx hlk Bd.returns (t := .boolean) (by simp) (hb hby dc8_28) (by decide) (by decide) ⟨rfl, N2, e2⟩
theorem own_pd14 : parseMethodDescriptor "(Ljava/lang/String;Ljava/lang/String;)Z" = some ⟨[(.object "java/lang/String"), (.object "java/lang/String")], some .boolean⟩ := by decide +kernel
theorem dc9_12 : decode jdk_42_method_55_code 12 = .ok (.iconst 0, 1) := by decide +kernel
def Q_isEmpty_24 (Z : State) (h0 : Heap) (n0 : Nat) (v : Option Value) (h : Heap) (L : List Loc) : Prop := v = some (.int (0 : Int32)) ∧ Fr n0 L ∧ h = h0
set_option maxRecDepth 65536 in
set_option maxHeartbeats 40000000 in
theorem rm_isEmpty_24 (l : Launch) (Z : State) (a0 : Array Value) (hw : ∀ d ∈ tables_1, d.before a0 Z = true) (ws : List Jvm.Cond) (o0 : Addr) (o1 : Addr) (kc0 : ClassId) (h0 : Heap) (n0 : Nat) (Z0 : n0 ≤ h0.size) (P0 : Fld Z h0 o0 "java/lang/String" "value" "[B" (.ref o1)) (P1 : Arv Z h0 o1 kc0 .byte (36 : Int32) [(.int (117 : Int32)), (.int (114 : Int32)), (.int (110 : Int32)), (.int (58 : Int32)), (.int (105 : Int32)), (.int (101 : Int32)), (.int (116 : Int32)), (.int (102 : Int32)), (.int (58 : Int32)), (.int (112 : Int32)), (.int (97 : Int32)), (.int (114 : Int32)), (.int (97 : Int32)), (.int (109 : Int32)), (.int (115 : Int32)), (.int (58 : Int32)), (.int (120 : Int32)), (.int (109 : Int32)), (.int (108 : Int32)), (.int (58 : Int32)), (.int (110 : Int32)), (.int (115 : Int32)), (.int (58 : Int32)), (.int (99 : Int32)), (.int (111 : Int32)), (.int (109 : Int32)), (.int (109 : Int32)), (.int (111 : Int32)), (.int (110 : Int32)), (.int (45 : Int32)), (.int (112 : Int32)), (.int (111 : Int32)), (.int (108 : Int32)), (.int (105 : Int32)), (.int (99 : Int32)), (.int (121 : Int32))] (.int (0 : Int32))) :
    MetFree l (⟨"java/lang/String", "isEmpty", "()Z"⟩ : MethodName) (head1 (Jvm.Cond.code (⟨"java/lang/String", "isEmpty", "()Z"⟩ : MethodName) jdk_42_method_55_code 1 (some .boolean) :: ws) ({ frames := 0, cells := 0, slots := 0, locals := 0 } : Room)) (fun aA U => aA = #[(.ref o0)] ∧ Z.Warmed39 U.vm ∧ U.heap = h0) (fun _ _ _ _ _ => True) (fun _ U o U' => ∃ v L, o = .returned v ∧ Q_isEmpty_24 Z h0 n0 v U'.heap L ∧ FrameEnd U o U' L ({ frames := 0, cells := 0, slots := 0, locals := 0 } : Room).cells ({ frames := 0, cells := 0, slots := 0, locals := 0 } : Room).slots) := by
  refine MetFree.of_bodySF (plainFor_of_name own_pn_java_lang_String) hisR ?_
  intro p e s m args below meth c s₁ Bd hml0 hP hK
  obtain ⟨rfl, hZ, hh⟩ := hP
  have hx := Bd.exec
  have hby := Bd.bytes
  have hlk : meth.locks = false := BodyLoose.notSynchronized Bd
  have hml : c.maxLocals = 1 := hml0
  have hown : s.vm.findClass "java/lang/String" = some m.cls := findClass_of_methodNamed Bd.named
  have hnm := (name_of_methodNamed Bd.named Bd.method).1
  have X0 : Stand p l e ({ frames := 0, cells := 0, slots := 0, locals := 0 } : Room) s m #[(.ref o0)] below meth c s₁ [] 0 0 := Stand.of_body Bd
  have e0 : s₁.heap = h0 := by rw [← hh, Bd.state]; rfl
  have N0 := Fr.nil n0
  show oG p e below (own_K s (Q_isEmpty_24 Z h0 n0) ({ frames := 0, cells := 0, slots := 0, locals := 0 } : Room).cells ({ frames := 0, cells := 0, slots := 0, locals := 0 } : Room).slots) (s₁.setTop (entryFrame m #[(.ref o0)] 1))
  rw [(by first | (simp [entryFrame, mkF, argsToLocals, Value.category]; done) | rfl : entryFrame m #[(.ref o0)] 1 = mkF m 0 #[.val (.ref o0)] [])]
  show oG p e below _ (s₁.setTop (mkF m 0 #[.val (.ref o0)] []))
  refine og (fun _ hr => XS.aloadN X0.here hx rfl (hb hby dc9_0) rfl rfl hr) ?_
  show oG p e below _ (s₁.setTop (mkF m 1 #[.val (.ref o0)] [(.ref o0)]))
  obtain ⟨T1, X1, e1, st1⟩ := getF X0 hx hZ hown (host := "") (Or.inl (hw _ (own_m 29 rfl))) Via.refl e0 P0 (g := (mkF m 1 #[.val (.ref o0)] [(.ref o0)])) rfl rfl (hb hby dc9_1)
  refine og st1 ?_
  show oG p e below _ (T1.setTop (mkF m 4 #[.val (.ref o0)] [(.ref o1)]))
  refine og (fun _ hr => own_alen X1 hx hZ e1 P1 rfl rfl (hb hby dc9_4) (XS.ifYes X1.here hx rfl (pc0 := 5) (pc' := 12) rfl (hb hby dc9_5) rfl ((if0 _ _).trans (feq (by decide)).2) (by decide) (by decide) (XS.iconst X1.here hx rfl (hb hby dc9_12) hr))) ?_
  show oG p e below _ (T1.setTop (mkF m 13 #[.val (.ref o0)] [(.int (0 : Int32))]))
  exact own_retN X1 hx hlk Bd.returns (t := .boolean) (by simp) (hb hby dc9_13) (by decide) (by decide) ⟨rfl, N0, e1⟩
theorem dc8_14 : decode prog_17_method_2_code 14 = .ok (.aload_n 1, 1) := by decide +kernel
theorem dc8_15 : decode prog_17_method_2_code 15 = .ok (.ldc 28, 2) := by decide +kernel
theorem dc8_17 : decode prog_17_method_2_code 17 = .ok (.invokevirtual 30, 3) := by decide +kernel
theorem dc15_0 : decode jdk_42_method_66_code 0 = .ok (.aload_n 0, 1) := by decide +kernel
theorem dc15_1 : decode jdk_42_method_66_code 1 = .ok (.aload_n 1, 1) := by decide +kernel
theorem dc15_2 : decode jdk_42_method_66_code 2 = .ok (.if_acmp .ne 5, 3) := by decide +kernel
theorem dc15_5 : decode jdk_42_method_66_code 5 = .ok (.iconst 1, 1) := by decide +kernel
theorem dc15_6 : decode jdk_42_method_66_code 6 = .ok (.ireturn, 1) := by decide +kernel
theorem dc15_7 : decode jdk_42_method_66_code 7 = .ok (.aload_n 1, 1) := by decide +kernel
theorem dc15_8 : decode jdk_42_method_66_code 8 = .ok (.instanceof 10, 3) := by decide +kernel
theorem dc15_11 : decode jdk_42_method_66_code 11 = .ok (.ifCond .eq 43, 3) := by decide +kernel
theorem dc15_14 : decode jdk_42_method_66_code 14 = .ok (.aload_n 1, 1) := by decide +kernel
theorem dc15_15 : decode jdk_42_method_66_code 15 = .ok (.checkcast 10, 3) := by decide +kernel
theorem dc15_18 : decode jdk_42_method_66_code 18 = .ok (.astore_n 2, 1) := by decide +kernel
theorem dc15_19 : decode jdk_42_method_66_code 19 = .ok (.getstatic 38, 3) := by decide +kernel
theorem dc15_22 : decode jdk_42_method_66_code 22 = .ok (.ifCond .eq 14, 3) := by decide +kernel
theorem dc15_25 : decode jdk_42_method_66_code 25 = .ok (.aload_n 0, 1) := by decide +kernel
theorem dc15_26 : decode jdk_42_method_66_code 26 = .ok (.getfield 15, 3) := by decide +kernel
theorem dc15_29 : decode jdk_42_method_66_code 29 = .ok (.aload_n 2, 1) := by decide +kernel
theorem dc15_30 : decode jdk_42_method_66_code 30 = .ok (.getfield 15, 3) := by decide +kernel
theorem dc15_33 : decode jdk_42_method_66_code 33 = .ok (.if_icmp .ne 21, 3) := by decide +kernel
theorem dc15_36 : decode jdk_42_method_66_code 36 = .ok (.aload_n 0, 1) := by decide +kernel
theorem dc15_37 : decode jdk_42_method_66_code 37 = .ok (.getfield 9, 3) := by decide +kernel
theorem dc15_40 : decode jdk_42_method_66_code 40 = .ok (.aload_n 2, 1) := by decide +kernel
theorem dc15_41 : decode jdk_42_method_66_code 41 = .ok (.getfield 9, 3) := by decide +kernel
theorem dc15_44 : decode jdk_42_method_66_code 44 = .ok (.invokestatic 541, 3) := by decide +kernel
def Q_equals_25 (Z : State) (h0 : Heap) (n0 : Nat) (v : Option Value) (h : Heap) (L : List Loc) : Prop := v = some (.int (1 : Int32)) ∧ Fr n0 L ∧ h = h0
set_option maxRecDepth 65536 in
set_option maxHeartbeats 40000000 in
theorem rm_equals_25 (l : Launch) (Z : State) (a0 : Array Value) (hw : ∀ d ∈ tables_1, d.before a0 Z = true) (ws : List Jvm.Cond) (o0 : Addr) (o1 : Addr) (kc0 : ClassId) (kc1 : ClassId) (h0 : Heap) (n0 : Nat) (Z0 : n0 ≤ h0.size) (P0 : Arv Z h0 o0 kc0 .byte (36 : Int32) [(.int (117 : Int32)), (.int (114 : Int32)), (.int (110 : Int32)), (.int (58 : Int32)), (.int (105 : Int32)), (.int (101 : Int32)), (.int (116 : Int32)), (.int (102 : Int32)), (.int (58 : Int32)), (.int (112 : Int32)), (.int (97 : Int32)), (.int (114 : Int32)), (.int (97 : Int32)), (.int (109 : Int32)), (.int (115 : Int32)), (.int (58 : Int32)), (.int (120 : Int32)), (.int (109 : Int32)), (.int (108 : Int32)), (.int (58 : Int32)), (.int (110 : Int32)), (.int (115 : Int32)), (.int (58 : Int32)), (.int (99 : Int32)), (.int (111 : Int32)), (.int (109 : Int32)), (.int (109 : Int32)), (.int (111 : Int32)), (.int (110 : Int32)), (.int (45 : Int32)), (.int (112 : Int32)), (.int (111 : Int32)), (.int (108 : Int32)), (.int (105 : Int32)), (.int (99 : Int32)), (.int (121 : Int32))] (.int (0 : Int32))) (P1 : Arv Z h0 o1 kc1 .byte (36 : Int32) [(.int (117 : Int32)), (.int (114 : Int32)), (.int (110 : Int32)), (.int (58 : Int32)), (.int (105 : Int32)), (.int (101 : Int32)), (.int (116 : Int32)), (.int (102 : Int32)), (.int (58 : Int32)), (.int (112 : Int32)), (.int (97 : Int32)), (.int (114 : Int32)), (.int (97 : Int32)), (.int (109 : Int32)), (.int (115 : Int32)), (.int (58 : Int32)), (.int (120 : Int32)), (.int (109 : Int32)), (.int (108 : Int32)), (.int (58 : Int32)), (.int (110 : Int32)), (.int (115 : Int32)), (.int (58 : Int32)), (.int (99 : Int32)), (.int (111 : Int32)), (.int (109 : Int32)), (.int (109 : Int32)), (.int (111 : Int32)), (.int (110 : Int32)), (.int (45 : Int32)), (.int (112 : Int32)), (.int (111 : Int32)), (.int (108 : Int32)), (.int (105 : Int32)), (.int (99 : Int32)), (.int (121 : Int32))] (.int (0 : Int32))) :
    MetFree l (⟨"java/lang/StringLatin1", "equals", "([B[B)Z"⟩ : MethodName) (head1 (Jvm.Cond.code (⟨"java/lang/StringLatin1", "equals", "([B[B)Z"⟩ : MethodName) jdk_43_method_13_code 3 (some .boolean) :: ws) ({ frames := 0, cells := 0, slots := 0, locals := 0 } : Room)) (fun aA U => aA = #[(.ref o0), (.ref o1)] ∧ Z.Warmed39 U.vm ∧ U.heap = h0) (fun _ _ _ _ _ => True) (fun _ U o U' => ∃ v L, o = .returned v ∧ Q_equals_25 Z h0 n0 v U'.heap L ∧ FrameEnd U o U' L ({ frames := 0, cells := 0, slots := 0, locals := 0 } : Room).cells ({ frames := 0, cells := 0, slots := 0, locals := 0 } : Room).slots) := by
  refine MetFree.of_bodySF (plainFor_of_name own_pn_java_lang_StringLatin1) hisR ?_
  intro p e s m args below meth c s₁ Bd hml0 hP hK
  obtain ⟨rfl, hZ, hh⟩ := hP
  have hx := Bd.exec
  have hby := Bd.bytes
  have hlk : meth.locks = false := BodyLoose.notSynchronized Bd
  have hml : c.maxLocals = 3 := hml0
  have hown : s.vm.findClass "java/lang/StringLatin1" = some m.cls := findClass_of_methodNamed Bd.named
  have hnm := (name_of_methodNamed Bd.named Bd.method).1
  have X0 : Stand p l e ({ frames := 0, cells := 0, slots := 0, locals := 0 } : Room) s m #[(.ref o0), (.ref o1)] below meth c s₁ [] 0 0 := Stand.of_body Bd
  have e0 : s₁.heap = h0 := by rw [← hh, Bd.state]; rfl
  have N0 := Fr.nil n0
  show oG p e below (own_K s (Q_equals_25 Z h0 n0) ({ frames := 0, cells := 0, slots := 0, locals := 0 } : Room).cells ({ frames := 0, cells := 0, slots := 0, locals := 0 } : Room).slots) (s₁.setTop (entryFrame m #[(.ref o0), (.ref o1)] 3))
  rw [(by first | (simp [entryFrame, mkF, argsToLocals, Value.category]; done) | rfl : entryFrame m #[(.ref o0), (.ref o1)] 3 = mkF m 0 #[.val (.ref o0), .val (.ref o1), .unset] [])]
  show oG p e below _ (s₁.setTop (mkF m 0 #[.val (.ref o0), .val (.ref o1), .unset] []))
  refine og (fun _ hr => XS.aloadN X0.here hx rfl (hb hby dc16_0) rfl rfl (own_alen X0 hx hZ e0 P0 rfl rfl (hb hby dc16_1) (XS.aloadN X0.here hx rfl (hb hby dc16_2) rfl rfl (own_alen X0 hx hZ e0 P1 rfl rfl (hb hby dc16_3) (XS.icmpNo X0.here hx rfl (hb hby dc16_4) rfl (teq (by decide)).2 (XS.iconst X0.here hx rfl (hb hby dc16_7) (XS.istoreN X0.here hx rfl (hb hby dc16_8) rfl (l' := #[.val (.ref o0), .val (.ref o1), .val (.int (0 : Int32))]) rfl (XS.iloadN X0.here hx rfl (hb hby dc16_9) rfl (XS.aloadN X0.here hx rfl (hb hby dc16_10) rfl rfl (own_alen X0 hx hZ e0 P0 rfl rfl (hb hby dc16_11) (XS.icmpNo X0.here hx rfl (hb hby dc16_12) rfl (tlt (by decide)).2.1 (XS.aloadN X0.here hx rfl (hb hby dc16_15) rfl rfl (XS.iloadN X0.here hx rfl (hb hby dc16_16) rfl (own_baload X0 hx hZ e0 P0 (0 : Int32) (.int (117 : Int32)) ⟨by decide, by decide⟩ rfl rfl rfl (hb hby dc16_17) hr)))))))))))))) ?_
  show oG p e below _ (s₁.setTop (mkF m 18 #[.val (.ref o0), .val (.ref o1), .val (.int (0 : Int32))] [(.int (117 : Int32))]))
  refine og (fun _ hr => XS.aloadN X0.here hx rfl (hb hby dc16_18) rfl rfl (XS.iloadN X0.here hx rfl (hb hby dc16_19) rfl (own_baload X0 hx hZ e0 P1 (0 : Int32) (.int (117 : Int32)) ⟨by decide, by decide⟩ rfl rfl rfl (hb hby dc16_20) (XS.icmpYes X0.here hx rfl (pc0 := 21) (pc' := 26) rfl (hb hby dc16_21) rfl (teq (by decide)).1 (by decide) (by decide) (XS.iinc X0.here hx rfl (hb hby dc16_26) rfl (l' := #[.val (.ref o0), .val (.ref o1), .val (.int (1 : Int32))]) rfl (XS.goto X0.here hx rfl (pc0 := 29) (pc' := 9) rfl (hb hby dc16_29) (by decide) (by decide) (XS.iloadN X0.here hx rfl (hb hby dc16_9) rfl (XS.aloadN X0.here hx rfl (hb hby dc16_10) rfl rfl (own_alen X0 hx hZ e0 P0 rfl rfl (hb hby dc16_11) (XS.icmpNo X0.here hx rfl (hb hby dc16_12) rfl (tlt (by decide)).2.1 (XS.aloadN X0.here hx rfl (hb hby dc16_15) rfl rfl (XS.iloadN X0.here hx rfl (hb hby dc16_16) rfl (own_baload X0 hx hZ e0 P0 (1 : Int32) (.int (114 : Int32)) ⟨by decide, by decide⟩ rfl rfl rfl (hb hby dc16_17) (XS.aloadN X0.here hx rfl (hb hby dc16_18) rfl rfl hr)))))))))))))) ?_
  show oG p e below _ (s₁.setTop (mkF m 19 #[.val (.ref o0), .val (.ref o1), .val (.int (1 : Int32))] [(.ref o1), (.int (114 : Int32))]))
  refine og (fun _ hr => XS.iloadN X0.here hx rfl (hb hby dc16_19) rfl (own_baload X0 hx hZ e0 P1 (1 : Int32) (.int (114 : Int32)) ⟨by decide, by decide⟩ rfl rfl rfl (hb hby dc16_20) (XS.icmpYes X0.here hx rfl (pc0 := 21) (pc' := 26) rfl (hb hby dc16_21) rfl (teq (by decide)).1 (by decide) (by decide) (XS.iinc X0.here hx rfl (hb hby dc16_26) rfl (l' := #[.val (.ref o0), .val (.ref o1), .val (.int (2 : Int32))]) rfl (XS.goto X0.here hx rfl (pc0 := 29) (pc' := 9) rfl (hb hby dc16_29) (by decide) (by decide) (XS.iloadN X0.here hx rfl (hb hby dc16_9) rfl (XS.aloadN X0.here hx rfl (hb hby dc16_10) rfl rfl (own_alen X0 hx hZ e0 P0 rfl rfl (hb hby dc16_11) (XS.icmpNo X0.here hx rfl (hb hby dc16_12) rfl (tlt (by decide)).2.1 (XS.aloadN X0.here hx rfl (hb hby dc16_15) rfl rfl (XS.iloadN X0.here hx rfl (hb hby dc16_16) rfl (own_baload X0 hx hZ e0 P0 (2 : Int32) (.int (110 : Int32)) ⟨by decide, by decide⟩ rfl rfl rfl (hb hby dc16_17) (XS.aloadN X0.here hx rfl (hb hby dc16_18) rfl rfl (XS.iloadN X0.here hx rfl (hb hby dc16_19) rfl hr)))))))))))))) ?_
  show oG p e below _ (s₁.setTop (mkF m 20 #[.val (.ref o0), .val (.ref o1), .val (.int (2 : Int32))] [(.int (2 : Int32)), (.ref o1), (.int (110 : Int32))]))
  refine og (fun _ hr => own_baload X0 hx hZ e0 P1 (2 : Int32) (.int (110 : Int32)) ⟨by decide, by decide⟩ rfl rfl rfl (hb hby dc16_20) (XS.icmpYes X0.here hx rfl (pc0 := 21) (pc' := 26) rfl (hb hby dc16_21) rfl (teq (by decide)).1 (by decide) (by decide) (XS.iinc X0.here hx rfl (hb hby dc16_26) rfl (l' := #[.val (.ref o0), .val (.ref o1), .val (.int (3 : Int32))]) rfl (XS.goto X0.here hx rfl (pc0 := 29) (pc' := 9) rfl (hb hby dc16_29) (by decide) (by decide) (XS.iloadN X0.here hx rfl (hb hby dc16_9) rfl (XS.aloadN X0.here hx rfl (hb hby dc16_10) rfl rfl (own_alen X0 hx hZ e0 P0 rfl rfl (hb hby dc16_11) (XS.icmpNo X0.here hx rfl (hb hby dc16_12) rfl (tlt (by decide)).2.1 (XS.aloadN X0.here hx rfl (hb hby dc16_15) rfl rfl (XS.iloadN X0.here hx rfl (hb hby dc16_16) rfl (own_baload X0 hx hZ e0 P0 (3 : Int32) (.int (58 : Int32)) ⟨by decide, by decide⟩ rfl rfl rfl (hb hby dc16_17) (XS.aloadN X0.here hx rfl (hb hby dc16_18) rfl rfl (XS.iloadN X0.here hx rfl (hb hby dc16_19) rfl (own_baload X0 hx hZ e0 P1 (3 : Int32) (.int (58 : Int32)) ⟨by decide, by decide⟩ rfl rfl rfl (hb hby dc16_20) hr)))))))))))))) ?_
  show oG p e below _ (s₁.setTop (mkF m 21 #[.val (.ref o0), .val (.ref o1), .val (.int (3 : Int32))] [(.int (58 : Int32)), (.int (58 : Int32))]))
  refine og (fun _ hr => XS.icmpYes X0.here hx rfl (pc0 := 21) (pc' := 26) rfl (hb hby dc16_21) rfl (teq (by decide)).1 (by decide) (by decide) (XS.iinc X0.here hx rfl (hb hby dc16_26) rfl (l' := #[.val (.ref o0), .val (.ref o1), .val (.int (4 : Int32))]) rfl (XS.goto X0.here hx rfl (pc0 := 29) (pc' := 9) rfl (hb hby dc16_29) (by decide) (by decide) (XS.iloadN X0.here hx rfl (hb hby dc16_9) rfl (XS.aloadN X0.here hx rfl (hb hby dc16_10) rfl rfl (own_alen X0 hx hZ e0 P0 rfl rfl (hb hby dc16_11) (XS.icmpNo X0.here hx rfl (hb hby dc16_12) rfl (tlt (by decide)).2.1 (XS.aloadN X0.here hx rfl (hb hby dc16_15) rfl rfl (XS.iloadN X0.here hx rfl (hb hby dc16_16) rfl (own_baload X0 hx hZ e0 P0 (4 : Int32) (.int (105 : Int32)) ⟨by decide, by decide⟩ rfl rfl rfl (hb hby dc16_17) (XS.aloadN X0.here hx rfl (hb hby dc16_18) rfl rfl (XS.iloadN X0.here hx rfl (hb hby dc16_19) rfl (own_baload X0 hx hZ e0 P1 (4 : Int32) (.int (105 : Int32)) ⟨by decide, by decide⟩ rfl rfl rfl (hb hby dc16_20) (XS.icmpYes X0.here hx rfl (pc0 := 21) (pc' := 26) rfl (hb hby dc16_21) rfl (teq (by decide)).1 (by decide) (by decide) hr)))))))))))))) ?_
  show oG p e below _ (s₁.setTop (mkF m 26 #[.val (.ref o0), .val (.ref o1), .val (.int (4 : Int32))] []))
  refine og (fun _ hr => XS.iinc X0.here hx rfl (hb hby dc16_26) rfl (l' := #[.val (.ref o0), .val (.ref o1), .val (.int (5 : Int32))]) rfl (XS.goto X0.here hx rfl (pc0 := 29) (pc' := 9) rfl (hb hby dc16_29) (by decide) (by decide) (XS.iloadN X0.here hx rfl (hb hby dc16_9) rfl (XS.aloadN X0.here hx rfl (hb hby dc16_10) rfl rfl (own_alen X0 hx hZ e0 P0 rfl rfl (hb hby dc16_11) (XS.icmpNo X0.here hx rfl (hb hby dc16_12) rfl (tlt (by decide)).2.1 (XS.aloadN X0.here hx rfl (hb hby dc16_15) rfl rfl (XS.iloadN X0.here hx rfl (hb hby dc16_16) rfl (own_baload X0 hx hZ e0 P0 (5 : Int32) (.int (101 : Int32)) ⟨by decide, by decide⟩ rfl rfl rfl (hb hby dc16_17) (XS.aloadN X0.here hx rfl (hb hby dc16_18) rfl rfl (XS.iloadN X0.here hx rfl (hb hby dc16_19) rfl (own_baload X0 hx hZ e0 P1 (5 : Int32) (.int (101 : Int32)) ⟨by decide, by decide⟩ rfl rfl rfl (hb hby dc16_20) (XS.icmpYes X0.here hx rfl (pc0 := 21) (pc' := 26) rfl (hb hby dc16_21) rfl (teq (by decide)).1 (by decide) (by decide) (XS.iinc X0.here hx rfl (hb hby dc16_26) rfl (l' := #[.val (.ref o0), .val (.ref o1), .val (.int (6 : Int32))]) rfl hr)))))))))))))) ?_
  show oG p e below _ (s₁.setTop (mkF m 29 #[.val (.ref o0), .val (.ref o1), .val (.int (6 : Int32))] []))
  refine og (fun _ hr => XS.goto X0.here hx rfl (pc0 := 29) (pc' := 9) rfl (hb hby dc16_29) (by decide) (by decide) (XS.iloadN X0.here hx rfl (hb hby dc16_9) rfl (XS.aloadN X0.here hx rfl (hb hby dc16_10) rfl rfl (own_alen X0 hx hZ e0 P0 rfl rfl (hb hby dc16_11) (XS.icmpNo X0.here hx rfl (hb hby dc16_12) rfl (tlt (by decide)).2.1 (XS.aloadN X0.here hx rfl (hb hby dc16_15) rfl rfl (XS.iloadN X0.here hx rfl (hb hby dc16_16) rfl (own_baload X0 hx hZ e0 P0 (6 : Int32) (.int (116 : Int32)) ⟨by decide, by decide⟩ rfl rfl rfl (hb hby dc16_17) (XS.aloadN X0.here hx rfl (hb hby dc16_18) rfl rfl (XS.iloadN X0.here hx rfl (hb hby dc16_19) rfl (own_baload X0 hx hZ e0 P1 (6 : Int32) (.int (116 : Int32)) ⟨by decide, by decide⟩ rfl rfl rfl (hb hby dc16_20) (XS.icmpYes X0.here hx rfl (pc0 := 21) (pc' := 26) rfl (hb hby dc16_21) rfl (teq (by decide)).1 (by decide) (by decide) (XS.iinc X0.here hx rfl (hb hby dc16_26) rfl (l' := #[.val (.ref o0), .val (.ref o1), .val (.int (7 : Int32))]) rfl (XS.goto X0.here hx rfl (pc0 := 29) (pc' := 9) rfl (hb hby dc16_29) (by decide) (by decide) hr)))))))))))))) ?_
  show oG p e below _ (s₁.setTop (mkF m 9 #[.val (.ref o0), .val (.ref o1), .val (.int (7 : Int32))] []))
  refine og (fun _ hr => XS.iloadN X0.here hx rfl (hb hby dc16_9) rfl (XS.aloadN X0.here hx rfl (hb hby dc16_10) rfl rfl (own_alen X0 hx hZ e0 P0 rfl rfl (hb hby dc16_11) (XS.icmpNo X0.here hx rfl (hb hby dc16_12) rfl (tlt (by decide)).2.1 (XS.aloadN X0.here hx rfl (hb hby dc16_15) rfl rfl (XS.iloadN X0.here hx rfl (hb hby dc16_16) rfl (own_baload X0 hx hZ e0 P0 (7 : Int32) (.int (102 : Int32)) ⟨by decide, by decide⟩ rfl rfl rfl (hb hby dc16_17) (XS.aloadN X0.here hx rfl (hb hby dc16_18) rfl rfl (XS.iloadN X0.here hx rfl (hb hby dc16_19) rfl (own_baload X0 hx hZ e0 P1 (7 : Int32) (.int (102 : Int32)) ⟨by decide, by decide⟩ rfl rfl rfl (hb hby dc16_20) (XS.icmpYes X0.here hx rfl (pc0 := 21) (pc' := 26) rfl (hb hby dc16_21) rfl (teq (by decide)).1 (by decide) (by decide) (XS.iinc X0.here hx rfl (hb hby dc16_26) rfl (l' := #[.val (.ref o0), .val (.ref o1), .val (.int (8 : Int32))]) rfl (XS.goto X0.here hx rfl (pc0 := 29) (pc' := 9) rfl (hb hby dc16_29) (by decide) (by decide) (XS.iloadN X0.here hx rfl (hb hby dc16_9) rfl hr)))))))))))))) ?_
  show oG p e below _ (s₁.setTop (mkF m 10 #[.val (.ref o0), .val (.ref o1), .val (.int (8 : Int32))] [(.int (8 : Int32))]))
  refine og (fun _ hr => XS.aloadN X0.here hx rfl (hb hby dc16_10) rfl rfl (own_alen X0 hx hZ e0 P0 rfl rfl (hb hby dc16_11) (XS.icmpNo X0.here hx rfl (hb hby dc16_12) rfl (tlt (by decide)).2.1 (XS.aloadN X0.here hx rfl (hb hby dc16_15) rfl rfl (XS.iloadN X0.here hx rfl (hb hby dc16_16) rfl (own_baload X0 hx hZ e0 P0 (8 : Int32) (.int (58 : Int32)) ⟨by decide, by decide⟩ rfl rfl rfl (hb hby dc16_17) (XS.aloadN X0.here hx rfl (hb hby dc16_18) rfl rfl (XS.iloadN X0.here hx rfl (hb hby dc16_19) rfl (own_baload X0 hx hZ e0 P1 (8 : Int32) (.int (58 : Int32)) ⟨by decide, by decide⟩ rfl rfl rfl (hb hby dc16_20) (XS.icmpYes X0.here hx rfl (pc0 := 21) (pc' := 26) rfl (hb hby dc16_21) rfl (teq (by decide)).1 (by decide) (by decide) (XS.iinc X0.here hx rfl (hb hby dc16_26) rfl (l' := #[.val (.ref o0), .val (.ref o1), .val (.int (9 : Int32))]) rfl (XS.goto X0.here hx rfl (pc0 := 29) (pc' := 9) rfl (hb hby dc16_29) (by decide) (by decide) (XS.iloadN X0.here hx rfl (hb hby dc16_9) rfl (XS.aloadN X0.here hx rfl (hb hby dc16_10) rfl rfl hr)))))))))))))) ?_
  show oG p e below _ (s₁.setTop (mkF m 11 #[.val (.ref o0), .val (.ref o1), .val (.int (9 : Int32))] [(.ref o0), (.int (9 : Int32))]))
  refine og (fun _ hr => own_alen X0 hx hZ e0 P0 rfl rfl (hb hby dc16_11) (XS.icmpNo X0.here hx rfl (hb hby dc16_12) rfl (tlt (by decide)).2.1 (XS.aloadN X0.here hx rfl (hb hby dc16_15) rfl rfl (XS.iloadN X0.here hx rfl (hb hby dc16_16) rfl (own_baload X0 hx hZ e0 P0 (9 : Int32) (.int (112 : Int32)) ⟨by decide, by decide⟩ rfl rfl rfl (hb hby dc16_17) (XS.aloadN X0.here hx rfl (hb hby dc16_18) rfl rfl (XS.iloadN X0.here hx rfl (hb hby dc16_19) rfl (own_baload X0 hx hZ e0 P1 (9 : Int32) (.int (112 : Int32)) ⟨by decide, by decide⟩ rfl rfl rfl (hb hby dc16_20) (XS.icmpYes X0.here hx rfl (pc0 := 21) (pc' := 26) rfl (hb hby dc16_21) rfl (teq (by decide)).1 (by decide) (by decide) (XS.iinc X0.here hx rfl (hb hby dc16_26) rfl (l' := #[.val (.ref o0), .val (.ref o1), .val (.int (10 : Int32))]) rfl (XS.goto X0.here hx rfl (pc0 := 29) (pc' := 9) rfl (hb hby dc16_29) (by decide) (by decide) (XS.iloadN X0.here hx rfl (hb hby dc16_9) rfl (XS.aloadN X0.here hx rfl (hb hby dc16_10) rfl rfl (own_alen X0 hx hZ e0 P0 rfl rfl (hb hby dc16_11) hr)))))))))))))) ?_
  show oG p e below _ (s₁.setTop (mkF m 12 #[.val (.ref o0), .val (.ref o1), .val (.int (10 : Int32))] [(.int (36 : Int32)), (.int (10 : Int32))]))
  refine og (fun _ hr => XS.icmpNo X0.here hx rfl (hb hby dc16_12) rfl (tlt (by decide)).2.1 (XS.aloadN X0.here hx rfl (hb hby dc16_15) rfl rfl (XS.iloadN X0.here hx rfl (hb hby dc16_16) rfl (own_baload X0 hx hZ e0 P0 (10 : Int32) (.int (97 : Int32)) ⟨by decide, by decide⟩ rfl rfl rfl (hb hby dc16_17) (XS.aloadN X0.here hx rfl (hb hby dc16_18) rfl rfl (XS.iloadN X0.here hx rfl (hb hby dc16_19) rfl (own_baload X0 hx hZ e0 P1 (10 : Int32) (.int (97 : Int32)) ⟨by decide, by decide⟩ rfl rfl rfl (hb hby dc16_20) (XS.icmpYes X0.here hx rfl (pc0 := 21) (pc' := 26) rfl (hb hby dc16_21) rfl (teq (by decide)).1 (by decide) (by decide) (XS.iinc X0.here hx rfl (hb hby dc16_26) rfl (l' := #[.val (.ref o0), .val (.ref o1), .val (.int (11 : Int32))]) rfl (XS.goto X0.here hx rfl (pc0 := 29) (pc' := 9) rfl (hb hby dc16_29) (by decide) (by decide) (XS.iloadN X0.here hx rfl (hb hby dc16_9) rfl (XS.aloadN X0.here hx rfl (hb hby dc16_10) rfl rfl (own_alen X0 hx hZ e0 P0 rfl rfl (hb hby dc16_11) (XS.icmpNo X0.here hx rfl (hb hby dc16_12) rfl (tlt (by decide)).2.1 hr)))))))))))))) ?_
  show oG p e below _ (s₁.setTop (mkF m 15 #[.val (.ref o0), .val (.ref o1), .val (.int (11 : Int32))] []))
  refine og (fun _ hr => XS.aloadN X0.here hx rfl (hb hby dc16_15) rfl rfl (XS.iloadN X0.here hx rfl (hb hby dc16_16) rfl (own_baload X0 hx hZ e0 P0 (11 : Int32) (.int (114 : Int32)) ⟨by decide, by decide⟩ rfl rfl rfl (hb hby dc16_17) (XS.aloadN X0.here hx rfl (hb hby dc16_18) rfl rfl (XS.iloadN X0.here hx rfl (hb hby dc16_19) rfl (own_baload X0 hx hZ e0 P1 (11 : Int32) (.int (114 : Int32)) ⟨by decide, by decide⟩ rfl rfl rfl (hb hby dc16_20) (XS.icmpYes X0.here hx rfl (pc0 := 21) (pc' := 26) rfl (hb hby dc16_21) rfl (teq (by decide)).1 (by decide) (by decide) (XS.iinc X0.here hx rfl (hb hby dc16_26) rfl (l' := #[.val (.ref o0), .val (.ref o1), .val (.int (12 : Int32))]) rfl (XS.goto X0.here hx rfl (pc0 := 29) (pc' := 9) rfl (hb hby dc16_29) (by decide) (by decide) (XS.iloadN X0.here hx rfl (hb hby dc16_9) rfl (XS.aloadN X0.here hx rfl (hb hby dc16_10) rfl rfl (own_alen X0 hx hZ e0 P0 rfl rfl (hb hby dc16_11) (XS.icmpNo X0.here hx rfl (hb hby dc16_12) rfl (tlt (by decide)).2.1 (XS.aloadN X0.here hx rfl (hb hby dc16_15) rfl rfl hr)))))))))))))) ?_
  show oG p e below _ (s₁.setTop (mkF m 16 #[.val (.ref o0), .val (.ref o1), .val (.int (12 : Int32))] [(.ref o0)]))
  refine og (fun _ hr => XS.iloadN X0.here hx rfl (hb hby dc16_16) rfl (own_baload X0 hx hZ e0 P0 (12 : Int32) (.int (97 : Int32)) ⟨by decide, by decide⟩ rfl rfl rfl (hb hby dc16_17) (XS.aloadN X0.here hx rfl (hb hby dc16_18) rfl rfl (XS.iloadN X0.here hx rfl (hb hby dc16_19) rfl (own_baload X0 hx hZ e0 P1 (12 : Int32) (.int (97 : Int32)) ⟨by decide, by decide⟩ rfl rfl rfl (hb hby dc16_20) (XS.icmpYes X0.here hx rfl (pc0 := 21) (pc' := 26) rfl (hb hby dc16_21) rfl (teq (by decide)).1 (by decide) (by decide) (XS.iinc X0.here hx rfl (hb hby dc16_26) rfl (l' := #[.val (.ref o0), .val (.ref o1), .val (.int (13 : Int32))]) rfl (XS.goto X0.here hx rfl (pc0 := 29) (pc' := 9) rfl (hb hby dc16_29) (by decide) (by decide) (XS.iloadN X0.here hx rfl (hb hby dc16_9) rfl (XS.aloadN X0.here hx rfl (hb hby dc16_10) rfl rfl (own_alen X0 hx hZ e0 P0 rfl rfl (hb hby dc16_11) (XS.icmpNo X0.here hx rfl (hb hby dc16_12) rfl (tlt (by decide)).2.1 (XS.aloadN X0.here hx rfl (hb hby dc16_15) rfl rfl (XS.iloadN X0.here hx rfl (hb hby dc16_16) rfl hr)))))))))))))) ?_
  show oG p e below _ (s₁.setTop (mkF m 17 #[.val (.ref o0), .val (.ref o1), .val (.int (13 : Int32))] [(.int (13 : Int32)), (.ref o0)]))
  refine og (fun _ hr => own_baload X0 hx hZ e0 P0 (13 : Int32) (.int (109 : Int32)) ⟨by decide, by decide⟩ rfl rfl rfl (hb hby dc16_17) (XS.aloadN X0.here hx rfl (hb hby dc16_18) rfl rfl (XS.iloadN X0.here hx rfl (hb hby dc16_19) rfl (own_baload X0 hx hZ e0 P1 (13 : Int32) (.int (109 : Int32)) ⟨by decide, by decide⟩ rfl rfl rfl (hb hby dc16_20) (XS.icmpYes X0.here hx rfl (pc0 := 21) (pc' := 26) rfl (hb hby dc16_21) rfl (teq (by decide)).1 (by decide) (by decide) (XS.iinc X0.here hx rfl (hb hby dc16_26) rfl (l' := #[.val (.ref o0), .val (.ref o1), .val (.int (14 : Int32))]) rfl (XS.goto X0.here hx rfl (pc0 := 29) (pc' := 9) rfl (hb hby dc16_29) (by decide) (by decide) (XS.iloadN X0.here hx rfl (hb hby dc16_9) rfl (XS.aloadN X0.here hx rfl (hb hby dc16_10) rfl rfl (own_alen X0 hx hZ e0 P0 rfl rfl (hb hby dc16_11) (XS.icmpNo X0.here hx rfl (hb hby dc16_12) rfl (tlt (by decide)).2.1 (XS.aloadN X0.here hx rfl (hb hby dc16_15) rfl rfl (XS.iloadN X0.here hx rfl (hb hby dc16_16) rfl (own_baload X0 hx hZ e0 P0 (14 : Int32) (.int (115 : Int32)) ⟨by decide, by decide⟩ rfl rfl rfl (hb hby dc16_17) hr)))))))))))))) ?_
  show oG p e below _ (s₁.setTop (mkF m 18 #[.val (.ref o0), .val (.ref o1), .val (.int (14 : Int32))] [(.int (115 : Int32))]))
  refine og (fun _ hr => XS.aloadN X0.here hx rfl (hb hby dc16_18) rfl rfl (XS.iloadN X0.here hx rfl (hb hby dc16_19) rfl (own_baload X0 hx hZ e0 P1 (14 : Int32) (.int (115 : Int32)) ⟨by decide, by decide⟩ rfl rfl rfl (hb hby dc16_20) (XS.icmpYes X0.here hx rfl (pc0 := 21) (pc' := 26) rfl (hb hby dc16_21) rfl (teq (by decide)).1 (by decide) (by decide) (XS.iinc X0.here hx rfl (hb hby dc16_26) rfl (l' := #[.val (.ref o0), .val (.ref o1), .val (.int (15 : Int32))]) rfl (XS.goto X0.here hx rfl (pc0 := 29) (pc' := 9) rfl (hb hby dc16_29) (by decide) (by decide) (XS.iloadN X0.here hx rfl (hb hby dc16_9) rfl (XS.aloadN X0.here hx rfl (hb hby dc16_10) rfl rfl (own_alen X0 hx hZ e0 P0 rfl rfl (hb hby dc16_11) (XS.icmpNo X0.here hx rfl (hb hby dc16_12) rfl (tlt (by decide)).2.1 (XS.aloadN X0.here hx rfl (hb hby dc16_15) rfl rfl (XS.iloadN X0.here hx rfl (hb hby dc16_16) rfl (own_baload X0 hx hZ e0 P0 (15 : Int32) (.int (58 : Int32)) ⟨by decide, by decide⟩ rfl rfl rfl (hb hby dc16_17) (XS.aloadN X0.here hx rfl (hb hby dc16_18) rfl rfl hr)))))))))))))) ?_
  show oG p e below _ (s₁.setTop (mkF m 19 #[.val (.ref o0), .val (.ref o1), .val (.int (15 : Int32))] [(.ref o1), (.int (58 : Int32))]))
  refine og (fun _ hr => XS.iloadN X0.here hx rfl (hb hby dc16_19) rfl (own_baload X0 hx hZ e0 P1 (15 : Int32) (.int (58 : Int32)) ⟨by decide, by decide⟩ rfl rfl rfl (hb hby dc16_20) (XS.icmpYes X0.here hx rfl (pc0 := 21) (pc' := 26) rfl (hb hby dc16_21) rfl (teq (by decide)).1 (by decide) (by decide) (XS.iinc X0.here hx rfl (hb hby dc16_26) rfl (l' := #[.val (.ref o0), .val (.ref o1), .val (.int (16 : Int32))]) rfl (XS.goto X0.here hx rfl (pc0 := 29) (pc' := 9) rfl (hb hby dc16_29) (by decide) (by decide) (XS.iloadN X0.here hx rfl (hb hby dc16_9) rfl (XS.aloadN X0.here hx rfl (hb hby dc16_10) rfl rfl (own_alen X0 hx hZ e0 P0 rfl rfl (hb hby dc16_11) (XS.icmpNo X0.here hx rfl (hb hby dc16_12) rfl (tlt (by decide)).2.1 (XS.aloadN X0.here hx rfl (hb hby dc16_15) rfl rfl (XS.iloadN X0.here hx rfl (hb hby dc16_16) rfl (own_baload X0 hx hZ e0 P0 (16 : Int32) (.int (120 : Int32)) ⟨by decide, by decide⟩ rfl rfl rfl (hb hby dc16_17) (XS.aloadN X0.here hx rfl (hb hby dc16_18) rfl rfl (XS.iloadN X0.here hx rfl (hb hby dc16_19) rfl hr)))))))))))))) ?_
  show oG p e below _ (s₁.setTop (mkF m 20 #[.val (.ref o0), .val (.ref o1), .val (.int (16 : Int32))] [(.int (16 : Int32)), (.ref o1), (.int (120 : Int32))]))
  refine og (fun _ hr => own_baload X0 hx hZ e0 P1 (16 : Int32) (.int (120 : Int32)) ⟨by decide, by decide⟩ rfl rfl rfl (hb hby dc16_20) (XS.icmpYes X0.here hx rfl (pc0 := 21) (pc' := 26) rfl (hb hby dc16_21) rfl (teq (by decide)).1 (by decide) (by decide) (XS.iinc X0.here hx rfl (hb hby dc16_26) rfl (l' := #[.val (.ref o0), .val (.ref o1), .val (.int (17 : Int32))]) rfl (XS.goto X0.here hx rfl (pc0 := 29) (pc' := 9) rfl (hb hby dc16_29) (by decide) (by decide) (XS.iloadN X0.here hx rfl (hb hby dc16_9) rfl (XS.aloadN X0.here hx rfl (hb hby dc16_10) rfl rfl (own_alen X0 hx hZ e0 P0 rfl rfl (hb hby dc16_11) (XS.icmpNo X0.here hx rfl (hb hby dc16_12) rfl (tlt (by decide)).2.1 (XS.aloadN X0.here hx rfl (hb hby dc16_15) rfl rfl (XS.iloadN X0.here hx rfl (hb hby dc16_16) rfl (own_baload X0 hx hZ e0 P0 (17 : Int32) (.int (109 : Int32)) ⟨by decide, by decide⟩ rfl rfl rfl (hb hby dc16_17) (XS.aloadN X0.here hx rfl (hb hby dc16_18) rfl rfl (XS.iloadN X0.here hx rfl (hb hby dc16_19) rfl (own_baload X0 hx hZ e0 P1 (17 : Int32) (.int (109 : Int32)) ⟨by decide, by decide⟩ rfl rfl rfl (hb hby dc16_20) hr)))))))))))))) ?_
  show oG p e below _ (s₁.setTop (mkF m 21 #[.val (.ref o0), .val (.ref o1), .val (.int (17 : Int32))] [(.int (109 : Int32)), (.int (109 : Int32))]))
  refine og (fun _ hr => XS.icmpYes X0.here hx rfl (pc0 := 21) (pc' := 26) rfl (hb hby dc16_21) rfl (teq (by decide)).1 (by decide) (by decide) (XS.iinc X0.here hx rfl (hb hby dc16_26) rfl (l' := #[.val (.ref o0), .val (.ref o1), .val (.int (18 : Int32))]) rfl (XS.goto X0.here hx rfl (pc0 := 29) (pc' := 9) rfl (hb hby dc16_29) (by decide) (by decide) (XS.iloadN X0.here hx rfl (hb hby dc16_9) rfl (XS.aloadN X0.here hx rfl (hb hby dc16_10) rfl rfl (own_alen X0 hx hZ e0 P0 rfl rfl (hb hby dc16_11) (XS.icmpNo X0.here hx rfl (hb hby dc16_12) rfl (tlt (by decide)).2.1 (XS.aloadN X0.here hx rfl (hb hby dc16_15) rfl rfl (XS.iloadN X0.here hx rfl (hb hby dc16_16) rfl (own_baload X0 hx hZ e0 P0 (18 : Int32) (.int (108 : Int32)) ⟨by decide, by decide⟩ rfl rfl rfl (hb hby dc16_17) (XS.aloadN X0.here hx rfl (hb hby dc16_18) rfl rfl (XS.iloadN X0.here hx rfl (hb hby dc16_19) rfl (own_baload X0 hx hZ e0 P1 (18 : Int32) (.int (108 : Int32)) ⟨by decide, by decide⟩ rfl rfl rfl (hb hby dc16_20) (XS.icmpYes X0.here hx rfl (pc0 := 21) (pc' := 26) rfl (hb hby dc16_21) rfl (teq (by decide)).1 (by decide) (by decide) hr)))))))))))))) ?_
  show oG p e below _ (s₁.setTop (mkF m 26 #[.val (.ref o0), .val (.ref o1), .val (.int (18 : Int32))] []))
  refine og (fun _ hr => XS.iinc X0.here hx rfl (hb hby dc16_26) rfl (l' := #[.val (.ref o0), .val (.ref o1), .val (.int (19 : Int32))]) rfl (XS.goto X0.here hx rfl (pc0 := 29) (pc' := 9) rfl (hb hby dc16_29) (by decide) (by decide) (XS.iloadN X0.here hx rfl (hb hby dc16_9) rfl (XS.aloadN X0.here hx rfl (hb hby dc16_10) rfl rfl (own_alen X0 hx hZ e0 P0 rfl rfl (hb hby dc16_11) (XS.icmpNo X0.here hx rfl (hb hby dc16_12) rfl (tlt (by decide)).2.1 (XS.aloadN X0.here hx rfl (hb hby dc16_15) rfl rfl (XS.iloadN X0.here hx rfl (hb hby dc16_16) rfl (own_baload X0 hx hZ e0 P0 (19 : Int32) (.int (58 : Int32)) ⟨by decide, by decide⟩ rfl rfl rfl (hb hby dc16_17) (XS.aloadN X0.here hx rfl (hb hby dc16_18) rfl rfl (XS.iloadN X0.here hx rfl (hb hby dc16_19) rfl (own_baload X0 hx hZ e0 P1 (19 : Int32) (.int (58 : Int32)) ⟨by decide, by decide⟩ rfl rfl rfl (hb hby dc16_20) (XS.icmpYes X0.here hx rfl (pc0 := 21) (pc' := 26) rfl (hb hby dc16_21) rfl (teq (by decide)).1 (by decide) (by decide) (XS.iinc X0.here hx rfl (hb hby dc16_26) rfl (l' := #[.val (.ref o0), .val (.ref o1), .val (.int (20 : Int32))]) rfl hr)))))))))))))) ?_
  show oG p e below _ (s₁.setTop (mkF m 29 #[.val (.ref o0), .val (.ref o1), .val (.int (20 : Int32))] []))
  refine og (fun _ hr => XS.goto X0.here hx rfl (pc0 := 29) (pc' := 9) rfl (hb hby dc16_29) (by decide) (by decide) (XS.iloadN X0.here hx rfl (hb hby dc16_9) rfl (XS.aloadN X0.here hx rfl (hb hby dc16_10) rfl rfl (own_alen X0 hx hZ e0 P0 rfl rfl (hb hby dc16_11) (XS.icmpNo X0.here hx rfl (hb hby dc16_12) rfl (tlt (by decide)).2.1 (XS.aloadN X0.here hx rfl (hb hby dc16_15) rfl rfl (XS.iloadN X0.here hx rfl (hb hby dc16_16) rfl (own_baload X0 hx hZ e0 P0 (20 : Int32) (.int (110 : Int32)) ⟨by decide, by decide⟩ rfl rfl rfl (hb hby dc16_17) (XS.aloadN X0.here hx rfl (hb hby dc16_18) rfl rfl (XS.iloadN X0.here hx rfl (hb hby dc16_19) rfl (own_baload X0 hx hZ e0 P1 (20 : Int32) (.int (110 : Int32)) ⟨by decide, by decide⟩ rfl rfl rfl (hb hby dc16_20) (XS.icmpYes X0.here hx rfl (pc0 := 21) (pc' := 26) rfl (hb hby dc16_21) rfl (teq (by decide)).1 (by decide) (by decide) (XS.iinc X0.here hx rfl (hb hby dc16_26) rfl (l' := #[.val (.ref o0), .val (.ref o1), .val (.int (21 : Int32))]) rfl (XS.goto X0.here hx rfl (pc0 := 29) (pc' := 9) rfl (hb hby dc16_29) (by decide) (by decide) hr)))))))))))))) ?_
  show oG p e below _ (s₁.setTop (mkF m 9 #[.val (.ref o0), .val (.ref o1), .val (.int (21 : Int32))] []))
  refine og (fun _ hr => XS.iloadN X0.here hx rfl (hb hby dc16_9) rfl (XS.aloadN X0.here hx rfl (hb hby dc16_10) rfl rfl (own_alen X0 hx hZ e0 P0 rfl rfl (hb hby dc16_11) (XS.icmpNo X0.here hx rfl (hb hby dc16_12) rfl (tlt (by decide)).2.1 (XS.aloadN X0.here hx rfl (hb hby dc16_15) rfl rfl (XS.iloadN X0.here hx rfl (hb hby dc16_16) rfl (own_baload X0 hx hZ e0 P0 (21 : Int32) (.int (115 : Int32)) ⟨by decide, by decide⟩ rfl rfl rfl (hb hby dc16_17) (XS.aloadN X0.here hx rfl (hb hby dc16_18) rfl rfl (XS.iloadN X0.here hx rfl (hb hby dc16_19) rfl (own_baload X0 hx hZ e0 P1 (21 : Int32) (.int (115 : Int32)) ⟨by decide, by decide⟩ rfl rfl rfl (hb hby dc16_20) (XS.icmpYes X0.here hx rfl (pc0 := 21) (pc' := 26) rfl (hb hby dc16_21) rfl (teq (by decide)).1 (by decide) (by decide) (XS.iinc X0.here hx rfl (hb hby dc16_26) rfl (l' := #[.val (.ref o0), .val (.ref o1), .val (.int (22 : Int32))]) rfl (XS.goto X0.here hx rfl (pc0 := 29) (pc' := 9) rfl (hb hby dc16_29) (by decide) (by decide) (XS.iloadN X0.here hx rfl (hb hby dc16_9) rfl hr)))))))))))))) ?_
  show oG p e below _ (s₁.setTop (mkF m 10 #[.val (.ref o0), .val (.ref o1), .val (.int (22 : Int32))] [(.int (22 : Int32))]))
  refine og (fun _ hr => XS.aloadN X0.here hx rfl (hb hby dc16_10) rfl rfl (own_alen X0 hx hZ e0 P0 rfl rfl (hb hby dc16_11) (XS.icmpNo X0.here hx rfl (hb hby dc16_12) rfl (tlt (by decide)).2.1 (XS.aloadN X0.here hx rfl (hb hby dc16_15) rfl rfl (XS.iloadN X0.here hx rfl (hb hby dc16_16) rfl (own_baload X0 hx hZ e0 P0 (22 : Int32) (.int (58 : Int32)) ⟨by decide, by decide⟩ rfl rfl rfl (hb hby dc16_17) (XS.aloadN X0.here hx rfl (hb hby dc16_18) rfl rfl (XS.iloadN X0.here hx rfl (hb hby dc16_19) rfl (own_baload X0 hx hZ e0 P1 (22 : Int32) (.int (58 : Int32)) ⟨by decide, by decide⟩ rfl rfl rfl (hb hby dc16_20) (XS.icmpYes X0.here hx rfl (pc0 := 21) (pc' := 26) rfl (hb hby dc16_21) rfl (teq (by decide)).1 (by decide) (by decide) (XS.iinc X0.here hx rfl (hb hby dc16_26) rfl (l' := #[.val (.ref o0), .val (.ref o1), .val (.int (23 : Int32))]) rfl (XS.goto X0.here hx rfl (pc0 := 29) (pc' := 9) rfl (hb hby dc16_29) (by decide) (by decide) (XS.iloadN X0.here hx rfl (hb hby dc16_9) rfl (XS.aloadN X0.here hx rfl (hb hby dc16_10) rfl rfl hr)))))))))))))) ?_
  show oG p e below _ (s₁.setTop (mkF m 11 #[.val (.ref o0), .val (.ref o1), .val (.int (23 : Int32))] [(.ref o0), (.int (23 : Int32))]))
  refine og (fun _ hr => own_alen X0 hx hZ e0 P0 rfl rfl (hb hby dc16_11) (XS.icmpNo X0.here hx rfl (hb hby dc16_12) rfl (tlt (by decide)).2.1 (XS.aloadN X0.here hx rfl (hb hby dc16_15) rfl rfl (XS.iloadN X0.here hx rfl (hb hby dc16_16) rfl (own_baload X0 hx hZ e0 P0 (23 : Int32) (.int (99 : Int32)) ⟨by decide, by decide⟩ rfl rfl rfl (hb hby dc16_17) (XS.aloadN X0.here hx rfl (hb hby dc16_18) rfl rfl (XS.iloadN X0.here hx rfl (hb hby dc16_19) rfl (own_baload X0 hx hZ e0 P1 (23 : Int32) (.int (99 : Int32)) ⟨by decide, by decide⟩ rfl rfl rfl (hb hby dc16_20) (XS.icmpYes X0.here hx rfl (pc0 := 21) (pc' := 26) rfl (hb hby dc16_21) rfl (teq (by decide)).1 (by decide) (by decide) (XS.iinc X0.here hx rfl (hb hby dc16_26) rfl (l' := #[.val (.ref o0), .val (.ref o1), .val (.int (24 : Int32))]) rfl (XS.goto X0.here hx rfl (pc0 := 29) (pc' := 9) rfl (hb hby dc16_29) (by decide) (by decide) (XS.iloadN X0.here hx rfl (hb hby dc16_9) rfl (XS.aloadN X0.here hx rfl (hb hby dc16_10) rfl rfl (own_alen X0 hx hZ e0 P0 rfl rfl (hb hby dc16_11) hr)))))))))))))) ?_
  show oG p e below _ (s₁.setTop (mkF m 12 #[.val (.ref o0), .val (.ref o1), .val (.int (24 : Int32))] [(.int (36 : Int32)), (.int (24 : Int32))]))
  refine og (fun _ hr => XS.icmpNo X0.here hx rfl (hb hby dc16_12) rfl (tlt (by decide)).2.1 (XS.aloadN X0.here hx rfl (hb hby dc16_15) rfl rfl (XS.iloadN X0.here hx rfl (hb hby dc16_16) rfl (own_baload X0 hx hZ e0 P0 (24 : Int32) (.int (111 : Int32)) ⟨by decide, by decide⟩ rfl rfl rfl (hb hby dc16_17) (XS.aloadN X0.here hx rfl (hb hby dc16_18) rfl rfl (XS.iloadN X0.here hx rfl (hb hby dc16_19) rfl (own_baload X0 hx hZ e0 P1 (24 : Int32) (.int (111 : Int32)) ⟨by decide, by decide⟩ rfl rfl rfl (hb hby dc16_20) (XS.icmpYes X0.here hx rfl (pc0 := 21) (pc' := 26) rfl (hb hby dc16_21) rfl (teq (by decide)).1 (by decide) (by decide) (XS.iinc X0.here hx rfl (hb hby dc16_26) rfl (l' := #[.val (.ref o0), .val (.ref o1), .val (.int (25 : Int32))]) rfl (XS.goto X0.here hx rfl (pc0 := 29) (pc' := 9) rfl (hb hby dc16_29) (by decide) (by decide) (XS.iloadN X0.here hx rfl (hb hby dc16_9) rfl (XS.aloadN X0.here hx rfl (hb hby dc16_10) rfl rfl (own_alen X0 hx hZ e0 P0 rfl rfl (hb hby dc16_11) (XS.icmpNo X0.here hx rfl (hb hby dc16_12) rfl (tlt (by decide)).2.1 hr)))))))))))))) ?_
  show oG p e below _ (s₁.setTop (mkF m 15 #[.val (.ref o0), .val (.ref o1), .val (.int (25 : Int32))] []))
  refine og (fun _ hr => XS.aloadN X0.here hx rfl (hb hby dc16_15) rfl rfl (XS.iloadN X0.here hx rfl (hb hby dc16_16) rfl (own_baload X0 hx hZ e0 P0 (25 : Int32) (.int (109 : Int32)) ⟨by decide, by decide⟩ rfl rfl rfl (hb hby dc16_17) (XS.aloadN X0.here hx rfl (hb hby dc16_18) rfl rfl (XS.iloadN X0.here hx rfl (hb hby dc16_19) rfl (own_baload X0 hx hZ e0 P1 (25 : Int32) (.int (109 : Int32)) ⟨by decide, by decide⟩ rfl rfl rfl (hb hby dc16_20) (XS.icmpYes X0.here hx rfl (pc0 := 21) (pc' := 26) rfl (hb hby dc16_21) rfl (teq (by decide)).1 (by decide) (by decide) (XS.iinc X0.here hx rfl (hb hby dc16_26) rfl (l' := #[.val (.ref o0), .val (.ref o1), .val (.int (26 : Int32))]) rfl (XS.goto X0.here hx rfl (pc0 := 29) (pc' := 9) rfl (hb hby dc16_29) (by decide) (by decide) (XS.iloadN X0.here hx rfl (hb hby dc16_9) rfl (XS.aloadN X0.here hx rfl (hb hby dc16_10) rfl rfl (own_alen X0 hx hZ e0 P0 rfl rfl (hb hby dc16_11) (XS.icmpNo X0.here hx rfl (hb hby dc16_12) rfl (tlt (by decide)).2.1 (XS.aloadN X0.here hx rfl (hb hby dc16_15) rfl rfl hr)))))))))))))) ?_
  show oG p e below _ (s₁.setTop (mkF m 16 #[.val (.ref o0), .val (.ref o1), .val (.int (26 : Int32))] [(.ref o0)]))
  refine og (fun _ hr => XS.iloadN X0.here hx rfl (hb hby dc16_16) rfl (own_baload X0 hx hZ e0 P0 (26 : Int32) (.int (109 : Int32)) ⟨by decide, by decide⟩ rfl rfl rfl (hb hby dc16_17) (XS.aloadN X0.here hx rfl (hb hby dc16_18) rfl rfl (XS.iloadN X0.here hx rfl (hb hby dc16_19) rfl (own_baload X0 hx hZ e0 P1 (26 : Int32) (.int (109 : Int32)) ⟨by decide, by decide⟩ rfl rfl rfl (hb hby dc16_20) (XS.icmpYes X0.here hx rfl (pc0 := 21) (pc' := 26) rfl (hb hby dc16_21) rfl (teq (by decide)).1 (by decide) (by decide) (XS.iinc X0.here hx rfl (hb hby dc16_26) rfl (l' := #[.val (.ref o0), .val (.ref o1), .val (.int (27 : Int32))]) rfl (XS.goto X0.here hx rfl (pc0 := 29) (pc' := 9) rfl (hb hby dc16_29) (by decide) (by decide) (XS.iloadN X0.here hx rfl (hb hby dc16_9) rfl (XS.aloadN X0.here hx rfl (hb hby dc16_10) rfl rfl (own_alen X0 hx hZ e0 P0 rfl rfl (hb hby dc16_11) (XS.icmpNo X0.here hx rfl (hb hby dc16_12) rfl (tlt (by decide)).2.1 (XS.aloadN X0.here hx rfl (hb hby dc16_15) rfl rfl (XS.iloadN X0.here hx rfl (hb hby dc16_16) rfl hr)))))))))))))) ?_
  show oG p e below _ (s₁.setTop (mkF m 17 #[.val (.ref o0), .val (.ref o1), .val (.int (27 : Int32))] [(.int (27 : Int32)), (.ref o0)]))
  refine og (fun _ hr => own_baload X0 hx hZ e0 P0 (27 : Int32) (.int (111 : Int32)) ⟨by decide, by decide⟩ rfl rfl rfl (hb hby dc16_17) (XS.aloadN X0.here hx rfl (hb hby dc16_18) rfl rfl (XS.iloadN X0.here hx rfl (hb hby dc16_19) rfl (own_baload X0 hx hZ e0 P1 (27 : Int32) (.int (111 : Int32)) ⟨by decide, by decide⟩ rfl rfl rfl (hb hby dc16_20) (XS.icmpYes X0.here hx rfl (pc0 := 21) (pc' := 26) rfl (hb hby dc16_21) rfl (teq (by decide)).1 (by decide) (by decide) (XS.iinc X0.here hx rfl (hb hby dc16_26) rfl (l' := #[.val (.ref o0), .val (.ref o1), .val (.int (28 : Int32))]) rfl (XS.goto X0.here hx rfl (pc0 := 29) (pc' := 9) rfl (hb hby dc16_29) (by decide) (by decide) (XS.iloadN X0.here hx rfl (hb hby dc16_9) rfl (XS.aloadN X0.here hx rfl (hb hby dc16_10) rfl rfl (own_alen X0 hx hZ e0 P0 rfl rfl (hb hby dc16_11) (XS.icmpNo X0.here hx rfl (hb hby dc16_12) rfl (tlt (by decide)).2.1 (XS.aloadN X0.here hx rfl (hb hby dc16_15) rfl rfl (XS.iloadN X0.here hx rfl (hb hby dc16_16) rfl (own_baload X0 hx hZ e0 P0 (28 : Int32) (.int (110 : Int32)) ⟨by decide, by decide⟩ rfl rfl rfl (hb hby dc16_17) hr)))))))))))))) ?_
  show oG p e below _ (s₁.setTop (mkF m 18 #[.val (.ref o0), .val (.ref o1), .val (.int (28 : Int32))] [(.int (110 : Int32))]))
  refine og (fun _ hr => XS.aloadN X0.here hx rfl (hb hby dc16_18) rfl rfl (XS.iloadN X0.here hx rfl (hb hby dc16_19) rfl (own_baload X0 hx hZ e0 P1 (28 : Int32) (.int (110 : Int32)) ⟨by decide, by decide⟩ rfl rfl rfl (hb hby dc16_20) (XS.icmpYes X0.here hx rfl (pc0 := 21) (pc' := 26) rfl (hb hby dc16_21) rfl (teq (by decide)).1 (by decide) (by decide) (XS.iinc X0.here hx rfl (hb hby dc16_26) rfl (l' := #[.val (.ref o0), .val (.ref o1), .val (.int (29 : Int32))]) rfl (XS.goto X0.here hx rfl (pc0 := 29) (pc' := 9) rfl (hb hby dc16_29) (by decide) (by decide) (XS.iloadN X0.here hx rfl (hb hby dc16_9) rfl (XS.aloadN X0.here hx rfl (hb hby dc16_10) rfl rfl (own_alen X0 hx hZ e0 P0 rfl rfl (hb hby dc16_11) (XS.icmpNo X0.here hx rfl (hb hby dc16_12) rfl (tlt (by decide)).2.1 (XS.aloadN X0.here hx rfl (hb hby dc16_15) rfl rfl (XS.iloadN X0.here hx rfl (hb hby dc16_16) rfl (own_baload X0 hx hZ e0 P0 (29 : Int32) (.int (45 : Int32)) ⟨by decide, by decide⟩ rfl rfl rfl (hb hby dc16_17) (XS.aloadN X0.here hx rfl (hb hby dc16_18) rfl rfl hr)))))))))))))) ?_
  show oG p e below _ (s₁.setTop (mkF m 19 #[.val (.ref o0), .val (.ref o1), .val (.int (29 : Int32))] [(.ref o1), (.int (45 : Int32))]))
  refine og (fun _ hr => XS.iloadN X0.here hx rfl (hb hby dc16_19) rfl (own_baload X0 hx hZ e0 P1 (29 : Int32) (.int (45 : Int32)) ⟨by decide, by decide⟩ rfl rfl rfl (hb hby dc16_20) (XS.icmpYes X0.here hx rfl (pc0 := 21) (pc' := 26) rfl (hb hby dc16_21) rfl (teq (by decide)).1 (by decide) (by decide) (XS.iinc X0.here hx rfl (hb hby dc16_26) rfl (l' := #[.val (.ref o0), .val (.ref o1), .val (.int (30 : Int32))]) rfl (XS.goto X0.here hx rfl (pc0 := 29) (pc' := 9) rfl (hb hby dc16_29) (by decide) (by decide) (XS.iloadN X0.here hx rfl (hb hby dc16_9) rfl (XS.aloadN X0.here hx rfl (hb hby dc16_10) rfl rfl (own_alen X0 hx hZ e0 P0 rfl rfl (hb hby dc16_11) (XS.icmpNo X0.here hx rfl (hb hby dc16_12) rfl (tlt (by decide)).2.1 (XS.aloadN X0.here hx rfl (hb hby dc16_15) rfl rfl (XS.iloadN X0.here hx rfl (hb hby dc16_16) rfl (own_baload X0 hx hZ e0 P0 (30 : Int32) (.int (112 : Int32)) ⟨by decide, by decide⟩ rfl rfl rfl (hb hby dc16_17) (XS.aloadN X0.here hx rfl (hb hby dc16_18) rfl rfl (XS.iloadN X0.here hx rfl (hb hby dc16_19) rfl hr)))))))))))))) ?_
  show oG p e below _ (s₁.setTop (mkF m 20 #[.val (.ref o0), .val (.ref o1), .val (.int (30 : Int32))] [(.int (30 : Int32)), (.ref o1), (.int (112 : Int32))]))
  refine og (fun _ hr => own_baload X0 hx hZ e0 P1 (30 : Int32) (.int (112 : Int32)) ⟨by decide, by decide⟩ rfl rfl rfl (hb hby dc16_20) (XS.icmpYes X0.here hx rfl (pc0 := 21) (pc' := 26) rfl (hb hby dc16_21) rfl (teq (by decide)).1 (by decide) (by decide) (XS.iinc X0.here hx rfl (hb hby dc16_26) rfl (l' := #[.val (.ref o0), .val (.ref o1), .val (.int (31 : Int32))]) rfl (XS.goto X0.here hx rfl (pc0 := 29) (pc' := 9) rfl (hb hby dc16_29) (by decide) (by decide) (XS.iloadN X0.here hx rfl (hb hby dc16_9) rfl (XS.aloadN X0.here hx rfl (hb hby dc16_10) rfl rfl (own_alen X0 hx hZ e0 P0 rfl rfl (hb hby dc16_11) (XS.icmpNo X0.here hx rfl (hb hby dc16_12) rfl (tlt (by decide)).2.1 (XS.aloadN X0.here hx rfl (hb hby dc16_15) rfl rfl (XS.iloadN X0.here hx rfl (hb hby dc16_16) rfl (own_baload X0 hx hZ e0 P0 (31 : Int32) (.int (111 : Int32)) ⟨by decide, by decide⟩ rfl rfl rfl (hb hby dc16_17) (XS.aloadN X0.here hx rfl (hb hby dc16_18) rfl rfl (XS.iloadN X0.here hx rfl (hb hby dc16_19) rfl (own_baload X0 hx hZ e0 P1 (31 : Int32) (.int (111 : Int32)) ⟨by decide, by decide⟩ rfl rfl rfl (hb hby dc16_20) hr)))))))))))))) ?_
  show oG p e below _ (s₁.setTop (mkF m 21 #[.val (.ref o0), .val (.ref o1), .val (.int (31 : Int32))] [(.int (111 : Int32)), (.int (111 : Int32))]))
  refine og (fun _ hr => XS.icmpYes X0.here hx rfl (pc0 := 21) (pc' := 26) rfl (hb hby dc16_21) rfl (teq (by decide)).1 (by decide) (by decide) (XS.iinc X0.here hx rfl (hb hby dc16_26) rfl (l' := #[.val (.ref o0), .val (.ref o1), .val (.int (32 : Int32))]) rfl (XS.goto X0.here hx rfl (pc0 := 29) (pc' := 9) rfl (hb hby dc16_29) (by decide) (by decide) (XS.iloadN X0.here hx rfl (hb hby dc16_9) rfl (XS.aloadN X0.here hx rfl (hb hby dc16_10) rfl rfl (own_alen X0 hx hZ e0 P0 rfl rfl (hb hby dc16_11) (XS.icmpNo X0.here hx rfl (hb hby dc16_12) rfl (tlt (by decide)).2.1 (XS.aloadN X0.here hx rfl (hb hby dc16_15) rfl rfl (XS.iloadN X0.here hx rfl (hb hby dc16_16) rfl (own_baload X0 hx hZ e0 P0 (32 : Int32) (.int (108 : Int32)) ⟨by decide, by decide⟩ rfl rfl rfl (hb hby dc16_17) (XS.aloadN X0.here hx rfl (hb hby dc16_18) rfl rfl (XS.iloadN X0.here hx rfl (hb hby dc16_19) rfl (own_baload X0 hx hZ e0 P1 (32 : Int32) (.int (108 : Int32)) ⟨by decide, by decide⟩ rfl rfl rfl (hb hby dc16_20) (XS.icmpYes X0.here hx rfl (pc0 := 21) (pc' := 26) rfl (hb hby dc16_21) rfl (teq (by decide)).1 (by decide) (by decide) hr)))))))))))))) ?_
  show oG p e below _ (s₁.setTop (mkF m 26 #[.val (.ref o0), .val (.ref o1), .val (.int (32 : Int32))] []))
  refine og (fun _ hr => XS.iinc X0.here hx rfl (hb hby dc16_26) rfl (l' := #[.val (.ref o0), .val (.ref o1), .val (.int (33 : Int32))]) rfl (XS.goto X0.here hx rfl (pc0 := 29) (pc' := 9) rfl (hb hby dc16_29) (by decide) (by decide) (XS.iloadN X0.here hx rfl (hb hby dc16_9) rfl (XS.aloadN X0.here hx rfl (hb hby dc16_10) rfl rfl (own_alen X0 hx hZ e0 P0 rfl rfl (hb hby dc16_11) (XS.icmpNo X0.here hx rfl (hb hby dc16_12) rfl (tlt (by decide)).2.1 (XS.aloadN X0.here hx rfl (hb hby dc16_15) rfl rfl (XS.iloadN X0.here hx rfl (hb hby dc16_16) rfl (own_baload X0 hx hZ e0 P0 (33 : Int32) (.int (105 : Int32)) ⟨by decide, by decide⟩ rfl rfl rfl (hb hby dc16_17) (XS.aloadN X0.here hx rfl (hb hby dc16_18) rfl rfl (XS.iloadN X0.here hx rfl (hb hby dc16_19) rfl (own_baload X0 hx hZ e0 P1 (33 : Int32) (.int (105 : Int32)) ⟨by decide, by decide⟩ rfl rfl rfl (hb hby dc16_20) (XS.icmpYes X0.here hx rfl (pc0 := 21) (pc' := 26) rfl (hb hby dc16_21) rfl (teq (by decide)).1 (by decide) (by decide) (XS.iinc X0.here hx rfl (hb hby dc16_26) rfl (l' := #[.val (.ref o0), .val (.ref o1), .val (.int (34 : Int32))]) rfl hr)))))))))))))) ?_
  show oG p e below _ (s₁.setTop (mkF m 29 #[.val (.ref o0), .val (.ref o1), .val (.int (34 : Int32))] []))
  refine og (fun _ hr => XS.goto X0.here hx rfl (pc0 := 29) (pc' := 9) rfl (hb hby dc16_29) (by decide) (by decide) (XS.iloadN X0.here hx rfl (hb hby dc16_9) rfl (XS.aloadN X0.here hx rfl (hb hby dc16_10) rfl rfl (own_alen X0 hx hZ e0 P0 rfl rfl (hb hby dc16_11) (XS.icmpNo X0.here hx rfl (hb hby dc16_12) rfl (tlt (by decide)).2.1 (XS.aloadN X0.here hx rfl (hb hby dc16_15) rfl rfl (XS.iloadN X0.here hx rfl (hb hby dc16_16) rfl (own_baload X0 hx hZ e0 P0 (34 : Int32) (.int (99 : Int32)) ⟨by decide, by decide⟩ rfl rfl rfl (hb hby dc16_17) (XS.aloadN X0.here hx rfl (hb hby dc16_18) rfl rfl (XS.iloadN X0.here hx rfl (hb hby dc16_19) rfl (own_baload X0 hx hZ e0 P1 (34 : Int32) (.int (99 : Int32)) ⟨by decide, by decide⟩ rfl rfl rfl (hb hby dc16_20) (XS.icmpYes X0.here hx rfl (pc0 := 21) (pc' := 26) rfl (hb hby dc16_21) rfl (teq (by decide)).1 (by decide) (by decide) (XS.iinc X0.here hx rfl (hb hby dc16_26) rfl (l' := #[.val (.ref o0), .val (.ref o1), .val (.int (35 : Int32))]) rfl (XS.goto X0.here hx rfl (pc0 := 29) (pc' := 9) rfl (hb hby dc16_29) (by decide) (by decide) hr)))))))))))))) ?_
  show oG p e below _ (s₁.setTop (mkF m 9 #[.val (.ref o0), .val (.ref o1), .val (.int (35 : Int32))] []))
  refine og (fun _ hr => XS.iloadN X0.here hx rfl (hb hby dc16_9) rfl (XS.aloadN X0.here hx rfl (hb hby dc16_10) rfl rfl (own_alen X0 hx hZ e0 P0 rfl rfl (hb hby dc16_11) (XS.icmpNo X0.here hx rfl (hb hby dc16_12) rfl (tlt (by decide)).2.1 (XS.aloadN X0.here hx rfl (hb hby dc16_15) rfl rfl (XS.iloadN X0.here hx rfl (hb hby dc16_16) rfl (own_baload X0 hx hZ e0 P0 (35 : Int32) (.int (121 : Int32)) ⟨by decide, by decide⟩ rfl rfl rfl (hb hby dc16_17) (XS.aloadN X0.here hx rfl (hb hby dc16_18) rfl rfl (XS.iloadN X0.here hx rfl (hb hby dc16_19) rfl (own_baload X0 hx hZ e0 P1 (35 : Int32) (.int (121 : Int32)) ⟨by decide, by decide⟩ rfl rfl rfl (hb hby dc16_20) (XS.icmpYes X0.here hx rfl (pc0 := 21) (pc' := 26) rfl (hb hby dc16_21) rfl (teq (by decide)).1 (by decide) (by decide) (XS.iinc X0.here hx rfl (hb hby dc16_26) rfl (l' := #[.val (.ref o0), .val (.ref o1), .val (.int (36 : Int32))]) rfl (XS.goto X0.here hx rfl (pc0 := 29) (pc' := 9) rfl (hb hby dc16_29) (by decide) (by decide) (XS.iloadN X0.here hx rfl (hb hby dc16_9) rfl hr)))))))))))))) ?_
  show oG p e below _ (s₁.setTop (mkF m 10 #[.val (.ref o0), .val (.ref o1), .val (.int (36 : Int32))] [(.int (36 : Int32))]))
  refine og (fun _ hr => XS.aloadN X0.here hx rfl (hb hby dc16_10) rfl rfl (own_alen X0 hx hZ e0 P0 rfl rfl (hb hby dc16_11) (XS.icmpYes X0.here hx rfl (pc0 := 12) (pc' := 32) rfl (hb hby dc16_12) rfl (flt (by decide)).2.1 (by decide) (by decide) (XS.iconst X0.here hx rfl (hb hby dc16_32) hr)))) ?_
  show oG p e below _ (s₁.setTop (mkF m 33 #[.val (.ref o0), .val (.ref o1), .val (.int (36 : Int32))] [(.int (1 : Int32))]))
  exact own_retN X0 hx hlk Bd.returns (t := .boolean) (by simp) (hb hby dc16_33) (by decide) (by decide) ⟨rfl, N0, e0⟩
theorem own_pd15 : parseMethodDescriptor "([B[B)Z" = some ⟨[(.array .byte), (.array .byte)], some .boolean⟩ := by decide +kernel
theorem dc15_47 : decode jdk_42_method_66_code 47 = .ok (.ifCond .eq 7, 3) := by decide +kernel
theorem dc15_50 : decode jdk_42_method_66_code 50 = .ok (.iconst 1, 1) := by decide +kernel
theorem dc15_51 : decode jdk_42_method_66_code 51 = .ok (.goto 4, 3) := by decide +kernel
theorem dc15_55 : decode jdk_42_method_66_code 55 = .ok (.ireturn, 1) := by decide +kernel
def Q_liteq0 (Z : State) (h0 : Heap) (n0 : Nat) (v : Option Value) (h : Heap) (L : List Loc) : Prop := v = some (.int 1) ∧ Fr n0 L ∧ h = h0
set_option maxRecDepth 65536 in
set_option maxHeartbeats 40000000 in
theorem rm_liteq0 (l : Launch) (Z : State) (a0 : Array Value) (hw : ∀ d ∈ tables_1, d.before a0 Z = true) (ws : List Jvm.Cond) (s1 : Addr) (s2 : Addr) (o1 : Addr) (o2 : Addr) (k1 : ClassId) (k2 : ClassId) (i_COMPACT_STRINGS : Int32) (h0 : Heap) (n0 : Nat) (Z0 : n0 ≤ h0.size) (S_COMPACT_STRINGS : Sta Z h0 "java/lang/String" "COMPACT_STRINGS" "Z" (.int i_COMPACT_STRINGS)) (hs_COMPACT_STRINGS : ¬ (i_COMPACT_STRINGS = (0 : Int32))) (E1 : Exa Z h0 s1 "java/lang/String") (C1 : Fld Z h0 s1 "java/lang/String" "coder" "B" (.int (0 : Int32))) (F1 : Fld Z h0 s1 "java/lang/String" "value" "[B" (.ref o1)) (V1 : Arv Z h0 o1 k1 .byte (36 : Int32) [(.int (117 : Int32)), (.int (114 : Int32)), (.int (110 : Int32)), (.int (58 : Int32)), (.int (105 : Int32)), (.int (101 : Int32)), (.int (116 : Int32)), (.int (102 : Int32)), (.int (58 : Int32)), (.int (112 : Int32)), (.int (97 : Int32)), (.int (114 : Int32)), (.int (97 : Int32)), (.int (109 : Int32)), (.int (115 : Int32)), (.int (58 : Int32)), (.int (120 : Int32)), (.int (109 : Int32)), (.int (108 : Int32)), (.int (58 : Int32)), (.int (110 : Int32)), (.int (115 : Int32)), (.int (58 : Int32)), (.int (99 : Int32)), (.int (111 : Int32)), (.int (109 : Int32)), (.int (109 : Int32)), (.int (111 : Int32)), (.int (110 : Int32)), (.int (45 : Int32)), (.int (112 : Int32)), (.int (111 : Int32)), (.int (108 : Int32)), (.int (105 : Int32)), (.int (99 : Int32)), (.int (121 : Int32))] (.int (0 : Int32))) (E2 : Exa Z h0 s2 "java/lang/String") (C2 : Fld Z h0 s2 "java/lang/String" "coder" "B" (.int (0 : Int32))) (F2 : Fld Z h0 s2 "java/lang/String" "value" "[B" (.ref o2)) (V2 : Arv Z h0 o2 k2 .byte (36 : Int32) [(.int (117 : Int32)), (.int (114 : Int32)), (.int (110 : Int32)), (.int (58 : Int32)), (.int (105 : Int32)), (.int (101 : Int32)), (.int (116 : Int32)), (.int (102 : Int32)), (.int (58 : Int32)), (.int (112 : Int32)), (.int (97 : Int32)), (.int (114 : Int32)), (.int (97 : Int32)), (.int (109 : Int32)), (.int (115 : Int32)), (.int (58 : Int32)), (.int (120 : Int32)), (.int (109 : Int32)), (.int (108 : Int32)), (.int (58 : Int32)), (.int (110 : Int32)), (.int (115 : Int32)), (.int (58 : Int32)), (.int (99 : Int32)), (.int (111 : Int32)), (.int (109 : Int32)), (.int (109 : Int32)), (.int (111 : Int32)), (.int (110 : Int32)), (.int (45 : Int32)), (.int (112 : Int32)), (.int (111 : Int32)), (.int (108 : Int32)), (.int (105 : Int32)), (.int (99 : Int32)), (.int (121 : Int32))] (.int (0 : Int32))) :
    MetFree l (⟨"java/lang/String", "equals", "(Ljava/lang/Object;)Z"⟩ : MethodName) (head1 (Jvm.Cond.code (⟨"java/lang/String", "equals", "(Ljava/lang/Object;)Z"⟩ : MethodName) jdk_42_method_66_code 3 (some .boolean) :: ws) ({ frames := 1, cells := 0, slots := 0, locals := 14 } : Room)) (fun aA U => aA = #[(.ref s1), (.ref s2)] ∧ Z.Warmed39 U.vm ∧ U.heap = h0) (fun _ _ _ _ _ => True) (fun _ U o U' => ∃ v L, o = .returned v ∧ Q_liteq0 Z h0 n0 v U'.heap L ∧ FrameEnd U o U' L ({ frames := 1, cells := 0, slots := 0, locals := 14 } : Room).cells ({ frames := 1, cells := 0, slots := 0, locals := 14 } : Room).slots) := by
  refine MetFree.of_bodySF (plainFor_of_name own_pn_java_lang_String) hisR ?_
  intro p e s m args below meth c s₁ Bd hml0 hP hK
  obtain ⟨rfl, hZ, hh⟩ := hP
  have hx := Bd.exec
  have hby := Bd.bytes
  have hlk : meth.locks = false := BodyLoose.notSynchronized Bd
  have hml : c.maxLocals = 3 := hml0
  have hown : s.vm.findClass "java/lang/String" = some m.cls := findClass_of_methodNamed Bd.named
  have hnm := (name_of_methodNamed Bd.named Bd.method).1
  have X0 : Stand p l e ({ frames := 1, cells := 0, slots := 0, locals := 14 } : Room) s m #[(.ref s1), (.ref s2)] below meth c s₁ [] 0 0 := Stand.of_body Bd
  have e0 : s₁.heap = h0 := by rw [← hh, Bd.state]; rfl
  have N0 := Fr.nil n0
  show oG p e below (own_K s (Q_liteq0 Z h0 n0) ({ frames := 1, cells := 0, slots := 0, locals := 14 } : Room).cells ({ frames := 1, cells := 0, slots := 0, locals := 14 } : Room).slots) (s₁.setTop (entryFrame m #[(.ref s1), (.ref s2)] 3))
  rw [(by first | (simp [entryFrame, mkF, argsToLocals, Value.category]; done) | rfl : entryFrame m #[(.ref s1), (.ref s2)] 3 = mkF m 0 #[.val (.ref s1), .val (.ref s2), .unset] [])]
  show oG p e below _ (s₁.setTop (mkF m 0 #[.val (.ref s1), .val (.ref s2), .unset] []))
  refine og (fun _ hr => XS.aloadN X0.here hx rfl (hb hby dc15_0) rfl rfl (XS.aloadN X0.here hx rfl (hb hby dc15_1) rfl rfl hr)) ?_
  show oG p e below _ (s₁.setTop (mkF m 2 #[.val (.ref s1), .val (.ref s2), .unset] [(.ref s2), (.ref s1)]))
  rcases Classical.em (s1 = s2) with c1 | c1
  · skip
    refine og (fun _ hr => Jvm.RoadKit.acmp X0 hx rfl rfl rfl (pc0 := 2) (pc' := 5) (same := true) rfl (hb hby dc15_2) rfl (decide_eq_true (congrArg Value.ref c1)) (by decide) (by decide) hr) ?_
    show oG p e below _ (s₁.setTop (mkF m 5 #[.val (.ref s1), .val (.ref s2), .unset] []))
    refine og (fun _ hr => XS.iconst X0.here hx rfl (hb hby dc15_5) hr) ?_
    show oG p e below _ (s₁.setTop (mkF m 6 #[.val (.ref s1), .val (.ref s2), .unset] [(.int (1 : Int32))]))
    exact own_retN X0 hx hlk Bd.returns (t := .boolean) (by simp) (hb hby dc15_6) (by decide) (by decide) ⟨rfl, N0, e0⟩
  refine og (fun _ hr => Jvm.RoadKit.acmp X0 hx rfl rfl rfl (pc0 := 2) (pc' := 7) (same := false) rfl (hb hby dc15_2) rfl (decide_eq_false fun q => c1 (Value.ref.inj q)) (by decide) (by decide) hr) ?_
  show oG p e below _ (s₁.setTop (mkF m 7 #[.val (.ref s1), .val (.ref s2), .unset] []))
  refine og (fun _ hr => XS.aloadN X0.here hx rfl (hb hby dc15_7) rfl rfl hr) ?_
  show oG p e below _ (s₁.setTop (mkF m 8 #[.val (.ref s1), .val (.ref s2), .unset] [(.ref s2)]))
  obtain ⟨T2, X2, e2, st2⟩ := instY X0 hx hZ hown (hw _ (own_m 97 rfl)) e0 (Ins.self E2) (g := (mkF m 8 #[.val (.ref s1), .val (.ref s2), .unset] [(.ref s2)])) rfl rfl (hb hby dc15_8)
  refine og st2 ?_
  show oG p e below _ (T2.setTop (mkF m 11 #[.val (.ref s1), .val (.ref s2), .unset] [(.int (1 : Int32))]))
  refine og (fun _ hr => XS.ifNo X2.here hx rfl (hb hby dc15_11) rfl ((if0 _ _).trans (feq (by decide)).1) (XS.aloadN X2.here hx rfl (hb hby dc15_14) rfl rfl hr)) ?_
  show oG p e below _ (T2.setTop (mkF m 15 #[.val (.ref s1), .val (.ref s2), .unset] [(.ref s2)]))
  obtain ⟨T3, X3, e3, st3⟩ := castY X2 hx hZ hown (hw _ (own_m 97 rfl)) e2 (Ins.self E2) (g := (mkF m 15 #[.val (.ref s1), .val (.ref s2), .unset] [(.ref s2)])) rfl rfl (hb hby dc15_15)
  refine og st3 ?_
  show oG p e below _ (T3.setTop (mkF m 18 #[.val (.ref s1), .val (.ref s2), .unset] [(.ref s2)]))
  refine og (fun _ hr => XS.astoreN X3.here hx rfl (hb hby dc15_18) rfl rfl (l' := #[.val (.ref s1), .val (.ref s2), .val (.ref s2)]) rfl hr) ?_
  show oG p e below _ (T3.setTop (mkF m 19 #[.val (.ref s1), .val (.ref s2), .val (.ref s2)] []))
  obtain ⟨T4, X4, e4, st4⟩ := getS2 X3 hx hZ hown (host := "") (Or.inl (hw _ (own_m 59 rfl))) Via.refl e3 S_COMPACT_STRINGS (g := (mkF m 19 #[.val (.ref s1), .val (.ref s2), .val (.ref s2)] [])) rfl (hb hby dc15_19)
  refine og st4 ?_
  show oG p e below _ (T4.setTop (mkF m 22 #[.val (.ref s1), .val (.ref s2), .val (.ref s2)] [(.int i_COMPACT_STRINGS)]))
  refine og (fun _ hr => XS.ifNo X4.here hx rfl (hb hby dc15_22) rfl ((if0 _ _).trans (feq hs_COMPACT_STRINGS).1) hr) ?_
  show oG p e below _ (T4.setTop (mkF m 25 #[.val (.ref s1), .val (.ref s2), .val (.ref s2)] []))
  refine og (fun _ hr => XS.aloadN X4.here hx rfl (hb hby dc15_25) rfl rfl hr) ?_
  show oG p e below _ (T4.setTop (mkF m 26 #[.val (.ref s1), .val (.ref s2), .val (.ref s2)] [(.ref s1)]))
  obtain ⟨T5, X5, e5, st5⟩ := getF X4 hx hZ hown (host := "") (Or.inl (hw _ (own_m 30 rfl))) Via.refl e4 C1 (g := (mkF m 26 #[.val (.ref s1), .val (.ref s2), .val (.ref s2)] [(.ref s1)])) rfl rfl (hb hby dc15_26)
  refine og st5 ?_
  show oG p e below _ (T5.setTop (mkF m 29 #[.val (.ref s1), .val (.ref s2), .val (.ref s2)] [(.int (0 : Int32))]))
  refine og (fun _ hr => XS.aloadN X5.here hx rfl (hb hby dc15_29) rfl rfl hr) ?_
  show oG p e below _ (T5.setTop (mkF m 30 #[.val (.ref s1), .val (.ref s2), .val (.ref s2)] [(.ref s2), (.int (0 : Int32))]))
  obtain ⟨T6, X6, e6, st6⟩ := getF X5 hx hZ hown (host := "") (Or.inl (hw _ (own_m 30 rfl))) Via.refl e5 C2 (g := (mkF m 30 #[.val (.ref s1), .val (.ref s2), .val (.ref s2)] [(.ref s2), (.int (0 : Int32))])) rfl rfl (hb hby dc15_30)
  refine og st6 ?_
  show oG p e below _ (T6.setTop (mkF m 33 #[.val (.ref s1), .val (.ref s2), .val (.ref s2)] [(.int (0 : Int32)), (.int (0 : Int32))]))
  refine og (fun _ hr => XS.icmpNo X6.here hx rfl (hb hby dc15_33) rfl (teq (by decide)).2 (XS.aloadN X6.here hx rfl (hb hby dc15_36) rfl rfl hr)) ?_
  show oG p e below _ (T6.setTop (mkF m 37 #[.val (.ref s1), .val (.ref s2), .val (.ref s2)] [(.ref s1)]))
  obtain ⟨T7, X7, e7, st7⟩ := getF X6 hx hZ hown (host := "") (Or.inl (hw _ (own_m 29 rfl))) Via.refl e6 F1 (g := (mkF m 37 #[.val (.ref s1), .val (.ref s2), .val (.ref s2)] [(.ref s1)])) rfl rfl (hb hby dc15_37)
  refine og st7 ?_
  show oG p e below _ (T7.setTop (mkF m 40 #[.val (.ref s1), .val (.ref s2), .val (.ref s2)] [(.ref o1)]))
  refine og (fun _ hr => XS.aloadN X7.here hx rfl (hb hby dc15_40) rfl rfl hr) ?_
  show oG p e below _ (T7.setTop (mkF m 41 #[.val (.ref s1), .val (.ref s2), .val (.ref s2)] [(.ref s2), (.ref o1)]))
  obtain ⟨T8, X8, e8, st8⟩ := getF X7 hx hZ hown (host := "") (Or.inl (hw _ (own_m 29 rfl))) Via.refl e7 F2 (g := (mkF m 41 #[.val (.ref s1), .val (.ref s2), .val (.ref s2)] [(.ref s2), (.ref o1)])) rfl rfl (hb hby dc15_41)
  refine og st8 ?_
  show oG p e below _ (T8.setTop (mkF m 44 #[.val (.ref s1), .val (.ref s2), .val (.ref s2)] [(.ref o2), (.ref o1)]))
  refine own_cs X8 hx hZ hown (hw _ (own_m 98 rfl)) (hw _ (own_m 99 rfl)) (hw _ (own_m 100 rfl)) (hw _ (own_m 101 rfl)) (by decide) (rm := { frames := 0, cells := 0, slots := 0, locals := 0 }) (rm_equals_25 l Z a0 hw [] o1 o2 k1 k2 h0 n0 Z0 V1 V2) (by decide) (W := 0) (by decide) (by decide) (by decide) e8 (by rw [hml]; rfl) (argsL := [(.ref o1), (.ref o2)]) (lenOf own_pd15 rfl) (rest := []) rfl rfl (Nat.le_of_eq rfl) (hb hby dc15_44) ?_
  intro _ T9 L9 X9 hQ9
  obtain ⟨rfl, N9q, e9⟩ := hQ9
  have N9 := Fr.app N0 N9q
  show oG p e below _ (T9.setTop (mkF m 47 #[.val (.ref s1), .val (.ref s2), .val (.ref s2)] [(.int (1 : Int32))]))
  refine og (fun _ hr => XS.ifNo X9.here hx rfl (hb hby dc15_47) rfl ((if0 _ _).trans (feq (by decide)).1) (XS.iconst X9.here hx rfl (hb hby dc15_50) (XS.goto X9.here hx rfl (pc0 := 51) (pc' := 55) rfl (hb hby dc15_51) (by decide) (by decide) hr))) ?_
  show oG p e below _ (T9.setTop (mkF m 55 #[.val (.ref s1), .val (.ref s2), .val (.ref s2)] [(.int (1 : Int32))]))
  exact own_retN X9 hx hlk Bd.returns (t := .boolean) (by simp) (hb hby dc15_55) (by decide) (by decide) ⟨rfl, N9, e9⟩
theorem own_pd16 : parseMethodDescriptor "(Ljava/lang/Object;)Z" = some ⟨[(.object "java/lang/Object")], some .boolean⟩ := by decide +kernel
theorem dc8_20 : decode prog_17_method_2_code 20 = .ok (.ifCond .ne 7, 3) := by decide +kernel
def Q_admits_26 (Z : State) (h0 : Heap) (n0 : Nat) (v : Option Value) (h : Heap) (L : List Loc) : Prop := (v = some (.int (0 : Int32)) ∧ Fr n0 L ∧ Keep h0 h [])
set_option maxRecDepth 65536 in
set_option maxHeartbeats 40000000 in
theorem rm_admits_26 (l : Launch) (Z : State) (a0 : Array Value) (hw : ∀ d ∈ tables_1, d.before a0 Z = true) (ws : List Jvm.Cond) (o0 : Addr) (o1 : Addr) (o2 : Addr) (o3 : Addr) (kc0 : ClassId) (y0 : Int32) (h0 : Heap) (n0 : Nat) (Z0 : n0 ≤ h0.size) (P0 : Fld Z h0 o0 "com/example/ruleweave/ruleweave/CommonPolicySchema$Term" "type" "Lcom/example/ruleweave/ruleweave/CommonPolicySchema$Type;" .null) (P1 : Fld Z h0 o1 "java/lang/String" "value" "[B" (.ref o3)) (P2 : Arv Z h0 o3 kc0 .byte (36 : Int32) [(.int (117 : Int32)), (.int (114 : Int32)), (.int (110 : Int32)), (.int (58 : Int32)), (.int (105 : Int32)), (.int (101 : Int32)), (.int (116 : Int32)), (.int (102 : Int32)), (.int (58 : Int32)), (.int (112 : Int32)), (.int (97 : Int32)), (.int (114 : Int32)), (.int (97 : Int32)), (.int (109 : Int32)), (.int (115 : Int32)), (.int (58 : Int32)), (.int (120 : Int32)), (.int (109 : Int32)), (.int (108 : Int32)), (.int (58 : Int32)), (.int (110 : Int32)), (.int (115 : Int32)), (.int (58 : Int32)), (.int (99 : Int32)), (.int (111 : Int32)), (.int (109 : Int32)), (.int (109 : Int32)), (.int (111 : Int32)), (.int (110 : Int32)), (.int (45 : Int32)), (.int (112 : Int32)), (.int (111 : Int32)), (.int (108 : Int32)), (.int (105 : Int32)), (.int (99 : Int32)), (.int (121 : Int32))] (.int (0 : Int32))) (P3 : Exa Z h0 o1 "java/lang/String") (P4 : Sta Z h0 "java/lang/String" "COMPACT_STRINGS" "Z" (.int y0)) (P5 : Fld Z h0 o1 "java/lang/String" "coder" "B" (.int (0 : Int32))) (hb0 : ¬ (y0 = (0 : Int32))) :
    MetFree l (⟨"com/example/ruleweave/ruleweave/CommonPolicySchema$Term", "admits", "(Ljava/lang/String;Ljava/lang/String;)Z"⟩ : MethodName) (head1 (Jvm.Cond.code (⟨"com/example/ruleweave/ruleweave/CommonPolicySchema$Term", "admits", "(Ljava/lang/String;Ljava/lang/String;)Z"⟩ : MethodName) prog_17_method_2_code 3 (some .boolean) :: ws) ({ frames := 2, cells := 2, slots := 148, locals := 28 } : Room)) (fun aA U => aA = #[(.ref o0), (.ref o1), (.ref o2)] ∧ Z.Warmed39 U.vm ∧ U.heap = h0 ∧ CHv Z own_EL U.vm h0) (fun _ _ _ _ _ => True) (fun _ U o U' => ∃ v L, o = .returned v ∧ Q_admits_26 Z h0 n0 v U'.heap L ∧ CHr Z own_EL U.vm U.heap U'.vm U'.heap ∧ ReturnedEndW U o U' L ({ frames := 2, cells := 2, slots := 148, locals := 28 } : Room).cells ({ frames := 2, cells := 2, slots := 148, locals := 28 } : Room).slots) := by
  refine MetFree.of_bodySF (plainFor_of_name own_pn_com_example_ruleweave_ruleweave_CommonPolicySchema_Term) hisR ?_
  intro p e s m args below meth c s₁ Bd hml0 hP hK
  obtain ⟨rfl, hZ, hh, hC0⟩ := hP
  have hx := Bd.exec
  have hby := Bd.bytes
  have hlk : meth.locks = false := BodyLoose.notSynchronized Bd
  have hml : c.maxLocals = 3 := hml0
  have hown : s.vm.findClass "com/example/ruleweave/ruleweave/CommonPolicySchema$Term" = some m.cls := findClass_of_methodNamed Bd.named
  have hnm := (name_of_methodNamed Bd.named Bd.method).1
  have X0 : Stand p l e ({ frames := 2, cells := 2, slots := 148, locals := 28 } : Room) (s.setVm s.vm) m #[(.ref o0), (.ref o1), (.ref o2)] below meth c s₁ [] 0 0 := Stand.of_body Bd
  have e0 : s₁.heap = h0 := by rw [← hh, Bd.state]; rfl
  have N0 := Fr.nil n0
  have hS : s.Since s.vm 0 := (State.WarmedH.refl s).since 0
  have hk := Nat.zero_le h0.size
  have hEL : EW Z a0 own_EL := own_ew hw
  have A0 : CHr Z own_EL s.vm h0 s.vm h0 := CHr.refl hC0
  have K0 : Keep h0 h0 [] := Keep.refl _ _
  show oG p e below (own_KW Z own_EL s (Q_admits_26 Z h0 n0) ({ frames := 2, cells := 2, slots := 148, locals := 28 } : Room).cells ({ frames := 2, cells := 2, slots := 148, locals := 28 } : Room).slots) (s₁.setTop (entryFrame m #[(.ref o0), (.ref o1), (.ref o2)] 3))
  rw [(by first | (simp [entryFrame, mkF, argsToLocals, Value.category]; done) | rfl : entryFrame m #[(.ref o0), (.ref o1), (.ref o2)] 3 = mkF m 0 #[.val (.ref o0), .val (.ref o1), .val (.ref o2)] [])]
  show oG p e below _ (s₁.setTop (mkF m 0 #[.val (.ref o0), .val (.ref o1), .val (.ref o2)] []))
  refine og (fun _ hr => XS.aloadN X0.here hx rfl (hb hby dc8_0) rfl rfl hr) ?_
  show oG p e below _ (s₁.setTop (mkF m 1 #[.val (.ref o0), .val (.ref o1), .val (.ref o2)] [(.ref o0)]))
  obtain ⟨T1, X1, e1, st1⟩ := getF X0 hx hZ hown (host := "") (Or.inl (hw _ (own_m 47 rfl))) Via.refl e0 P0 (g := (mkF m 1 #[.val (.ref o0), .val (.ref o1), .val (.ref o2)] [(.ref o0)])) rfl rfl (hb hby dc8_1)
  refine og st1 ?_
  show oG p e below _ (T1.setTop (mkF m 4 #[.val (.ref o0), .val (.ref o1), .val (.ref o2)] [.null]))
  refine og (fun _ hr => XS.ifnonnullNo X1.here hx rfl (hb hby dc8_4) rfl hr) ?_
  show oG p e below _ (T1.setTop (mkF m 7 #[.val (.ref o0), .val (.ref o1), .val (.ref o2)] []))
  refine og (fun _ hr => XS.aloadN X1.here hx rfl (hb hby dc8_7) rfl rfl hr) ?_
  show oG p e below _ (T1.setTop (mkF m 8 #[.val (.ref o0), .val (.ref o1), .val (.ref o2)] [(.ref o1)]))
  refine own_cv X1 hx hZ hown (notFace_of_selects (args := #[]) (mvT hZ (hw _ (own_m 57 rfl)))) (hw _ (own_m 54 rfl)) (hw _ (own_m 55 rfl)) (hw _ (own_m 57 rfl)) (hw _ (own_m 56 rfl)) (hw _ (own_m 7 rfl)) (hw _ (own_m 58 rfl)) (by decide) P3 (rm := { frames := 0, cells := 0, slots := 0, locals := 0 }) (rm_isEmpty_24 l Z a0 hw [] o1 o3 kc0 h0 n0 Z0 P1 P2) (by decide) (W := 0) (by decide) (by decide) (by decide) e1 (by rw [hml]; rfl) (argsL := []) (lenOf own_pd13 rfl) (rest := []) rfl rfl (Nat.le_of_eq rfl) (hb hby dc8_8) ?_
  intro _ T2 L2 X2 hQ2
  obtain ⟨rfl, N2q, e2⟩ := hQ2
  have N2 := Fr.app N0 N2q
  show oG p e below _ (T2.setTop (mkF m 11 #[.val (.ref o0), .val (.ref o1), .val (.ref o2)] [(.int (0 : Int32))]))
  refine og (fun _ hr => XS.ifNo X2.here hx rfl (hb hby dc8_11) rfl ((if0 _ _).trans (teq (by decide)).2) (XS.aloadN X2.here hx rfl (hb hby dc8_14) rfl rfl hr)) ?_
  show oG p e below _ (T2.setTop (mkF m 15 #[.val (.ref o0), .val (.ref o1), .val (.ref o2)] [(.ref o1)]))
  have hZo4 := hZ
  obtain ⟨a3, T3, h3, k13, b3, k3, X3, e3, E3, hS, hk3, hZ, hown, EA3, FC3, FV3, AV3, -, -, Al3, -, ne3, st3⟩ := ldcCH X2 hx hZ hown (hw _ (own_m 115 rfl)) (own_ws hw) e2 hS hk hEL (by simp [own_EL]) A0.1 (vs := [(.int (117 : Int32)), (.int (114 : Int32)), (.int (110 : Int32)), (.int (58 : Int32)), (.int (105 : Int32)), (.int (101 : Int32)), (.int (116 : Int32)), (.int (102 : Int32)), (.int (58 : Int32)), (.int (112 : Int32)), (.int (97 : Int32)), (.int (114 : Int32)), (.int (97 : Int32)), (.int (109 : Int32)), (.int (115 : Int32)), (.int (58 : Int32)), (.int (120 : Int32)), (.int (109 : Int32)), (.int (108 : Int32)), (.int (58 : Int32)), (.int (110 : Int32)), (.int (115 : Int32)), (.int (58 : Int32)), (.int (99 : Int32)), (.int (111 : Int32)), (.int (109 : Int32)), (.int (109 : Int32)), (.int (111 : Int32)), (.int (110 : Int32)), (.int (45 : Int32)), (.int (112 : Int32)), (.int (111 : Int32)), (.int (108 : Int32)), (.int (105 : Int32)), (.int (99 : Int32)), (.int (121 : Int32))]) (z := (36 : Int32)) ⟨by decide, by decide⟩ (by decide) (by decide) (g := (mkF m 15 #[.val (.ref o0), .val (.ref o1), .val (.ref o2)] [(.ref o1)])) rfl (hb hby dc8_15) (n := 144) (by decide) (by decide) (by decide) (by decide)
  refine og st3 ?_
  show oG p e below _ (T3.setTop (mkF m 17 #[.val (.ref o0), .val (.ref o1), .val (.ref o2)] [(.ref a3), (.ref o1)]))
  have f6 := (P4.ext E3)
  have f7 := (P3.ext E3)
  have f8 := (P5.ext E3)
  have f9 := (P1.ext E3)
  have f10 := (P2.ext E3)
  have Z11 := (Nat.le_trans Z0 E3.1)
  refine own_cv X3 hx hZ hown (notFace_of_selects (args := #[]) (mvT hZ (hw _ (own_m 95 rfl)))) (hw _ (own_m 92 rfl)) (hw _ (own_m 93 rfl)) (hw _ (own_m 95 rfl)) (hw _ (own_m 94 rfl)) (hw _ (own_m 7 rfl)) (hw _ (own_m 96 rfl)) (by decide) f7 (rm := { frames := 1, cells := 0, slots := 0, locals := 14 }) (rm_liteq0 l Z a0 hw [] o1 a3 o3 b3 kc0 k3 y0 h3 n0 Z11 f6 hb0 f7 f8 f9 f10 EA3 FC3 FV3 AV3) (by decide) (W := 0) (by decide) (by decide) (by decide) e3 (by rw [hml]; rfl) (argsL := [(.ref a3)]) (lenOf own_pd16 rfl) (rest := []) rfl rfl (Nat.le_of_eq rfl) (hb hby dc8_17) ?_
  intro _ T5 L5 X5 hQ5
  obtain ⟨rfl, N5q, e5⟩ := hQ5
  have N5 := Fr.app N2 N5q
  show oG p e below _ (T5.setTop (mkF m 20 #[.val (.ref o0), .val (.ref o1), .val (.ref o2)] [(.int (1 : Int32))]))
  refine og (fun _ hr => XS.ifYes X5.here hx rfl (pc0 := 20) (pc' := 27) rfl (hb hby dc8_20) rfl ((if0 _ _).trans (feq (by decide)).2) (by decide) (by decide) (XS.iconst X5.here hx rfl (hb hby dc8_27) hr)) ?_
  show oG p e below _ (T5.setTop (mkF m 28 #[.val (.ref o0), .val (.ref o1), .val (.ref o2)] [(.int (0 : Int32))]))
  have K12 := (K0.ext E3)
  have A13 := A0.trans Al3
  exact own_retNW X5 hx hlk Bd.returns hS hk3 hZ hEL hh e5 A13 (t := .boolean) (by simp) (hb hby dc8_28) (by decide) (by decide) (by rw [e5]; exact ⟨rfl, N5, K12⟩)
def Q_isEmpty_27 (Z : State) (h0 : Heap) (n0 : Nat) (v : Option Value) (h : Heap) (L : List Loc) : Prop := v = some (.int (0 : Int32)) ∧ Fr n0 L ∧ h = h0
set_option maxRecDepth 65536 in
set_option maxHeartbeats 40000000 in
theorem rm_isEmpty_27 (l : Launch) (Z : State) (a0 : Array Value) (hw : ∀ d ∈ tables_1, d.before a0 Z = true) (ws : List Jvm.Cond) (o0 : Addr) (o1 : Addr) (y0 : Int32) (y1 : Int32) (y2 : Int32) (y3 : Int32) (kc0 : ClassId) (h0 : Heap) (n0 : Nat) (Z0 : n0 ≤ h0.size) (P0 : Fld Z h0 o0 "java/lang/String" "value" "[B" (.ref o1)) (P1 : Arv Z h0 o1 kc0 .byte y0 (own_sl y1 y2 y3 y0) (.int (0 : Int32))) (hb0 : ¬ (y0 = (0 : Int32))) :
    MetFree l (⟨"java/lang/String", "isEmpty", "()Z"⟩ : MethodName) (head1 (Jvm.Cond.code (⟨"java/lang/String", "isEmpty", "()Z"⟩ : MethodName) jdk_42_method_55_code 1 (some .boolean) :: ws) ({ frames := 0, cells := 0, slots := 0, locals := 0 } : Room)) (fun aA U => aA = #[(.ref o0)] ∧ Z.Warmed39 U.vm ∧ U.heap = h0) (fun _ _ _ _ _ => True) (fun _ U o U' => ∃ v L, o = .returned v ∧ Q_isEmpty_27 Z h0 n0 v U'.heap L ∧ FrameEnd U o U' L ({ frames := 0, cells := 0, slots := 0, locals := 0 } : Room).cells ({ frames := 0, cells := 0, slots := 0, locals := 0 } : Room).slots) := by
  refine MetFree.of_bodySF (plainFor_of_name own_pn_java_lang_String) hisR ?_
  intro p e s m args below meth c s₁ Bd hml0 hP hK
  obtain ⟨rfl, hZ, hh⟩ := hP
  have hx := Bd.exec
  have hby := Bd.bytes
  have hlk : meth.locks = false := BodyLoose.notSynchronized Bd
  have hml : c.maxLocals = 1 := hml0
  have hown : s.vm.findClass "java/lang/String" = some m.cls := findClass_of_methodNamed Bd.named
  have hnm := (name_of_methodNamed Bd.named Bd.method).1
  have X0 : Stand p l e ({ frames := 0, cells := 0, slots := 0, locals := 0 } : Room) s m #[(.ref o0)] below meth c s₁ [] 0 0 := Stand.of_body Bd
  have e0 : s₁.heap = h0 := by rw [← hh, Bd.state]; rfl
  have N0 := Fr.nil n0
  show oG p e below (own_K s (Q_isEmpty_27 Z h0 n0) ({ frames := 0, cells := 0, slots := 0, locals := 0 } : Room).cells ({ frames := 0, cells := 0, slots := 0, locals := 0 } : Room).slots) (s₁.setTop (entryFrame m #[(.ref o0)] 1))
  rw [(by first | (simp [entryFrame, mkF, argsToLocals, Value.category]; done) | rfl : entryFrame m #[(.ref o0)] 1 = mkF m 0 #[.val (.ref o0)] [])]
  show oG p e below _ (s₁.setTop (mkF m 0 #[.val (.ref o0)] []))
  refine og (fun _ hr => XS.aloadN X0.here hx rfl (hb hby dc9_0) rfl rfl hr) ?_
  show oG p e below _ (s₁.setTop (mkF m 1 #[.val (.ref o0)] [(.ref o0)]))
  obtain ⟨T1, X1, e1, st1⟩ := getF X0 hx hZ hown (host := "") (Or.inl (hw _ (own_m 29 rfl))) Via.refl e0 P0 (g := (mkF m 1 #[.val (.ref o0)] [(.ref o0)])) rfl rfl (hb hby dc9_1)
  refine og st1 ?_
  show oG p e below _ (T1.setTop (mkF m 4 #[.val (.ref o0)] [(.ref o1)]))
  refine og (fun _ hr => own_alen X1 hx hZ e1 P1 rfl rfl (hb hby dc9_4) hr) ?_
  show oG p e below _ (T1.setTop (mkF m 5 #[.val (.ref o0)] [(.int y0)]))
  refine og (fun _ hr => XS.ifYes X1.here hx rfl (pc0 := 5) (pc' := 12) rfl (hb hby dc9_5) rfl ((if0 _ _).trans (feq hb0).2) (by decide) (by decide) hr) ?_
  show oG p e below _ (T1.setTop (mkF m 12 #[.val (.ref o0)] []))
  refine og (fun _ hr => XS.iconst X1.here hx rfl (hb hby dc9_12) hr) ?_
  show oG p e below _ (T1.setTop (mkF m 13 #[.val (.ref o0)] [(.int (0 : Int32))]))
  exact own_retN X1 hx hlk Bd.returns (t := .boolean) (by simp) (hb hby dc9_13) (by decide) (by decide) ⟨rfl, N0, e1⟩
def Q_equals_28 (Z : State) (h0 : Heap) (n0 : Nat) (v : Option Value) (h : Heap) (L : List Loc) : Prop := v = some (.int (0 : Int32)) ∧ Fr n0 L ∧ h = h0
set_option maxRecDepth 65536 in
set_option maxHeartbeats 40000000 in
theorem rm_equals_28 (l : Launch) (Z : State) (a0 : Array Value) (hw : ∀ d ∈ tables_1, d.before a0 Z = true) (ws : List Jvm.Cond) (o0 : Addr) (o1 : Addr) (y0 : Int32) (y1 : Int32) (y2 : Int32) (y3 : Int32) (kc0 : ClassId) (kc1 : ClassId) (h0 : Heap) (n0 : Nat) (Z0 : n0 ≤ h0.size) (P0 : Arv Z h0 o0 kc0 .byte y0 (own_sl y1 y2 y3 y0) (.int (0 : Int32))) (P1 : Arv Z h0 o1 kc1 .byte (36 : Int32) [(.int (117 : Int32)), (.int (114 : Int32)), (.int (110 : Int32)), (.int (58 : Int32)), (.int (105 : Int32)), (.int (101 : Int32)), (.int (116 : Int32)), (.int (102 : Int32)), (.int (58 : Int32)), (.int (112 : Int32)), (.int (97 : Int32)), (.int (114 : Int32)), (.int (97 : Int32)), (.int (109 : Int32)), (.int (115 : Int32)), (.int (58 : Int32)), (.int (120 : Int32)), (.int (109 : Int32)), (.int (108 : Int32)), (.int (58 : Int32)), (.int (110 : Int32)), (.int (115 : Int32)), (.int (58 : Int32)), (.int (99 : Int32)), (.int (111 : Int32)), (.int (109 : Int32)), (.int (109 : Int32)), (.int (111 : Int32)), (.int (110 : Int32)), (.int (45 : Int32)), (.int (112 : Int32)), (.int (111 : Int32)), (.int (108 : Int32)), (.int (105 : Int32)), (.int (99 : Int32)), (.int (121 : Int32))] (.int (0 : Int32))) (hb0 : ¬ (y0 = (36 : Int32))) :
    MetFree l (⟨"java/lang/StringLatin1", "equals", "([B[B)Z"⟩ : MethodName) (head1 (Jvm.Cond.code (⟨"java/lang/StringLatin1", "equals", "([B[B)Z"⟩ : MethodName) jdk_43_method_13_code 3 (some .boolean) :: ws) ({ frames := 0, cells := 0, slots := 0, locals := 0 } : Room)) (fun aA U => aA = #[(.ref o0), (.ref o1)] ∧ Z.Warmed39 U.vm ∧ U.heap = h0) (fun _ _ _ _ _ => True) (fun _ U o U' => ∃ v L, o = .returned v ∧ Q_equals_28 Z h0 n0 v U'.heap L ∧ FrameEnd U o U' L ({ frames := 0, cells := 0, slots := 0, locals := 0 } : Room).cells ({ frames := 0, cells := 0, slots := 0, locals := 0 } : Room).slots) := by
  refine MetFree.of_bodySF (plainFor_of_name own_pn_java_lang_StringLatin1) hisR ?_
  intro p e s m args below meth c s₁ Bd hml0 hP hK
  obtain ⟨rfl, hZ, hh⟩ := hP
  have hx := Bd.exec
  have hby := Bd.bytes
  have hlk : meth.locks = false := BodyLoose.notSynchronized Bd
  have hml : c.maxLocals = 3 := hml0
  have hown : s.vm.findClass "java/lang/StringLatin1" = some m.cls := findClass_of_methodNamed Bd.named
  have hnm := (name_of_methodNamed Bd.named Bd.method).1
  have X0 : Stand p l e ({ frames := 0, cells := 0, slots := 0, locals := 0 } : Room) s m #[(.ref o0), (.ref o1)] below meth c s₁ [] 0 0 := Stand.of_body Bd
  have e0 : s₁.heap = h0 := by rw [← hh, Bd.state]; rfl
  have N0 := Fr.nil n0
  show oG p e below (own_K s (Q_equals_28 Z h0 n0) ({ frames := 0, cells := 0, slots := 0, locals := 0 } : Room).cells ({ frames := 0, cells := 0, slots := 0, locals := 0 } : Room).slots) (s₁.setTop (entryFrame m #[(.ref o0), (.ref o1)] 3))
  rw [(by first | (simp [entryFrame, mkF, argsToLocals, Value.category]; done) | rfl : entryFrame m #[(.ref o0), (.ref o1)] 3 = mkF m 0 #[.val (.ref o0), .val (.ref o1), .unset] [])]
  show oG p e below _ (s₁.setTop (mkF m 0 #[.val (.ref o0), .val (.ref o1), .unset] []))
  refine og (fun _ hr => XS.aloadN X0.here hx rfl (hb hby dc16_0) rfl rfl (own_alen X0 hx hZ e0 P0 rfl rfl (hb hby dc16_1) (XS.aloadN X0.here hx rfl (hb hby dc16_2) rfl rfl (own_alen X0 hx hZ e0 P1 rfl rfl (hb hby dc16_3) hr)))) ?_
  show oG p e below _ (s₁.setTop (mkF m 4 #[.val (.ref o0), .val (.ref o1), .unset] [(.int (36 : Int32)), (.int y0)]))
  refine og (fun _ hr => XS.icmpYes X0.here hx rfl (pc0 := 4) (pc' := 34) rfl (hb hby dc16_4) rfl (feq hb0).2 (by decide) (by decide) hr) ?_
  show oG p e below _ (s₁.setTop (mkF m 34 #[.val (.ref o0), .val (.ref o1), .unset] []))
  refine og (fun _ hr => XS.iconst X0.here hx rfl (hb hby dc16_34) hr) ?_
  show oG p e below _ (s₁.setTop (mkF m 35 #[.val (.ref o0), .val (.ref o1), .unset] [(.int (0 : Int32))]))
  exact own_retN X0 hx hlk Bd.returns (t := .boolean) (by simp) (hb hby dc16_35) (by decide) (by decide) ⟨rfl, N0, e0⟩
theorem dc15_54 : decode jdk_42_method_66_code 54 = .ok (.iconst 0, 1) := by decide +kernel
def Q_equals_29 (Z : State) (h0 : Heap) (n0 : Nat) (v : Option Value) (h : Heap) (L : List Loc) : Prop := v = some (.int (0 : Int32)) ∧ Fr n0 L ∧ h = h0
set_option maxRecDepth 65536 in
set_option maxHeartbeats 40000000 in
theorem rm_equals_29 (l : Launch) (Z : State) (a0 : Array Value) (hw : ∀ d ∈ tables_1, d.before a0 Z = true) (ws : List Jvm.Cond) (o0 : Addr) (o1 : Addr) (y0 : Int32) (o2 : Addr) (o3 : Addr) (y1 : Int32) (y2 : Int32) (y3 : Int32) (y4 : Int32) (kc0 : ClassId) (kc1 : ClassId) (h0 : Heap) (n0 : Nat) (Z0 : n0 ≤ h0.size) (P0 : Exa Z h0 o1 "java/lang/String") (P1 : Sta Z h0 "java/lang/String" "COMPACT_STRINGS" "Z" (.int y0)) (P2 : Fld Z h0 o0 "java/lang/String" "coder" "B" (.int (0 : Int32))) (P3 : Fld Z h0 o1 "java/lang/String" "coder" "B" (.int (0 : Int32))) (P4 : Fld Z h0 o0 "java/lang/String" "value" "[B" (.ref o2)) (P5 : Fld Z h0 o1 "java/lang/String" "value" "[B" (.ref o3)) (P6 : Arv Z h0 o2 kc0 .byte y1 (own_sl y2 y3 y4 y1) (.int (0 : Int32))) (P7 : Arv Z h0 o3 kc1 .byte (36 : Int32) [(.int (117 : Int32)), (.int (114 : Int32)), (.int (110 : Int32)), (.int (58 : Int32)), (.int (105 : Int32)), (.int (101 : Int32)), (.int (116 : Int32)), (.int (102 : Int32)), (.int (58 : Int32)), (.int (112 : Int32)), (.int (97 : Int32)), (.int (114 : Int32)), (.int (97 : Int32)), (.int (109 : Int32)), (.int (115 : Int32)), (.int (58 : Int32)), (.int (120 : Int32)), (.int (109 : Int32)), (.int (108 : Int32)), (.int (58 : Int32)), (.int (110 : Int32)), (.int (115 : Int32)), (.int (58 : Int32)), (.int (99 : Int32)), (.int (111 : Int32)), (.int (109 : Int32)), (.int (109 : Int32)), (.int (111 : Int32)), (.int (110 : Int32)), (.int (45 : Int32)), (.int (112 : Int32)), (.int (111 : Int32)), (.int (108 : Int32)), (.int (105 : Int32)), (.int (99 : Int32)), (.int (121 : Int32))] (.int (0 : Int32))) (ne0p : o0 ≠ o1) (hb0 : ¬ (y0 = (0 : Int32))) (hb1 : ¬ (y1 = (36 : Int32))) :
    MetFree l (⟨"java/lang/String", "equals", "(Ljava/lang/Object;)Z"⟩ : MethodName) (head1 (Jvm.Cond.code (⟨"java/lang/String", "equals", "(Ljava/lang/Object;)Z"⟩ : MethodName) jdk_42_method_66_code 3 (some .boolean) :: ws) ({ frames := 1, cells := 0, slots := 0, locals := 14 } : Room)) (fun aA U => aA = #[(.ref o0), (.ref o1)] ∧ Z.Warmed39 U.vm ∧ U.heap = h0) (fun _ _ _ _ _ => True) (fun _ U o U' => ∃ v L, o = .returned v ∧ Q_equals_29 Z h0 n0 v U'.heap L ∧ FrameEnd U o U' L ({ frames := 1, cells := 0, slots := 0, locals := 14 } : Room).cells ({ frames := 1, cells := 0, slots := 0, locals := 14 } : Room).slots) := by
  refine MetFree.of_bodySF (plainFor_of_name own_pn_java_lang_String) hisR ?_
  intro p e s m args below meth c s₁ Bd hml0 hP hK
  obtain ⟨rfl, hZ, hh⟩ := hP
  have hx := Bd.exec
  have hby := Bd.bytes
  have hlk : meth.locks = false := BodyLoose.notSynchronized Bd
  have hml : c.maxLocals = 3 := hml0
  have hown : s.vm.findClass "java/lang/String" = some m.cls := findClass_of_methodNamed Bd.named
  have hnm := (name_of_methodNamed Bd.named Bd.method).1
  have X0 : Stand p l e ({ frames := 1, cells := 0, slots := 0, locals := 14 } : Room) s m #[(.ref o0), (.ref o1)] below meth c s₁ [] 0 0 := Stand.of_body Bd
  have e0 : s₁.heap = h0 := by rw [← hh, Bd.state]; rfl
  have N0 := Fr.nil n0
  show oG p e below (own_K s (Q_equals_29 Z h0 n0) ({ frames := 1, cells := 0, slots := 0, locals := 14 } : Room).cells ({ frames := 1, cells := 0, slots := 0, locals := 14 } : Room).slots) (s₁.setTop (entryFrame m #[(.ref o0), (.ref o1)] 3))
  rw [(by first | (simp [entryFrame, mkF, argsToLocals, Value.category]; done) | rfl : entryFrame m #[(.ref o0), (.ref o1)] 3 = mkF m 0 #[.val (.ref o0), .val (.ref o1), .unset] [])]
  show oG p e below _ (s₁.setTop (mkF m 0 #[.val (.ref o0), .val (.ref o1), .unset] []))
  refine og (fun _ hr => XS.aloadN X0.here hx rfl (hb hby dc15_0) rfl rfl (XS.aloadN X0.here hx rfl (hb hby dc15_1) rfl rfl hr)) ?_
  show oG p e below _ (s₁.setTop (mkF m 2 #[.val (.ref o0), .val (.ref o1), .unset] [(.ref o1), (.ref o0)]))
  refine og (fun _ hr => Jvm.RoadKit.acmp X0 hx rfl rfl rfl (pc0 := 2) (pc' := 7) (same := false) rfl (hb hby dc15_2) rfl (decide_eq_false fun q => ne0p (Value.ref.inj q)) (by decide) (by decide) hr) ?_
  show oG p e below _ (s₁.setTop (mkF m 7 #[.val (.ref o0), .val (.ref o1), .unset] []))
  refine og (fun _ hr => XS.aloadN X0.here hx rfl (hb hby dc15_7) rfl rfl hr) ?_
  show oG p e below _ (s₁.setTop (mkF m 8 #[.val (.ref o0), .val (.ref o1), .unset] [(.ref o1)]))
  obtain ⟨T1, X1, e1, st1⟩ := instY X0 hx hZ hown (hw _ (own_m 97 rfl)) e0 (Ins.self P0) (g := (mkF m 8 #[.val (.ref o0), .val (.ref o1), .unset] [(.ref o1)])) rfl rfl (hb hby dc15_8)
  refine og st1 ?_
  show oG p e below _ (T1.setTop (mkF m 11 #[.val (.ref o0), .val (.ref o1), .unset] [(.int (1 : Int32))]))
  refine og (fun _ hr => XS.ifNo X1.here hx rfl (hb hby dc15_11) rfl ((if0 _ _).trans (feq (by decide)).1) (XS.aloadN X1.here hx rfl (hb hby dc15_14) rfl rfl hr)) ?_
  show oG p e below _ (T1.setTop (mkF m 15 #[.val (.ref o0), .val (.ref o1), .unset] [(.ref o1)]))
  obtain ⟨T2, X2, e2, st2⟩ := castY X1 hx hZ hown (hw _ (own_m 97 rfl)) e1 (Ins.self P0) (g := (mkF m 15 #[.val (.ref o0), .val (.ref o1), .unset] [(.ref o1)])) rfl rfl (hb hby dc15_15)
  refine og st2 ?_
  show oG p e below _ (T2.setTop (mkF m 18 #[.val (.ref o0), .val (.ref o1), .unset] [(.ref o1)]))
  refine og (fun _ hr => XS.astoreN X2.here hx rfl (hb hby dc15_18) rfl rfl (l' := #[.val (.ref o0), .val (.ref o1), .val (.ref o1)]) rfl hr) ?_
  show oG p e below _ (T2.setTop (mkF m 19 #[.val (.ref o0), .val (.ref o1), .val (.ref o1)] []))
  obtain ⟨T3, X3, e3, st3⟩ := getS2 X2 hx hZ hown (host := "") (Or.inl (hw _ (own_m 59 rfl))) Via.refl e2 P1 (g := (mkF m 19 #[.val (.ref o0), .val (.ref o1), .val (.ref o1)] [])) rfl (hb hby dc15_19)
  refine og st3 ?_
  show oG p e below _ (T3.setTop (mkF m 22 #[.val (.ref o0), .val (.ref o1), .val (.ref o1)] [(.int y0)]))
  refine og (fun _ hr => XS.ifNo X3.here hx rfl (hb hby dc15_22) rfl ((if0 _ _).trans (feq hb0).1) hr) ?_
  show oG p e below _ (T3.setTop (mkF m 25 #[.val (.ref o0), .val (.ref o1), .val (.ref o1)] []))
  refine og (fun _ hr => XS.aloadN X3.here hx rfl (hb hby dc15_25) rfl rfl hr) ?_
  show oG p e below _ (T3.setTop (mkF m 26 #[.val (.ref o0), .val (.ref o1), .val (.ref o1)] [(.ref o0)]))
  obtain ⟨T4, X4, e4, st4⟩ := getF X3 hx hZ hown (host := "") (Or.inl (hw _ (own_m 30 rfl))) Via.refl e3 P2 (g := (mkF m 26 #[.val (.ref o0), .val (.ref o1), .val (.ref o1)] [(.ref o0)])) rfl rfl (hb hby dc15_26)
  refine og st4 ?_
  show oG p e below _ (T4.setTop (mkF m 29 #[.val (.ref o0), .val (.ref o1), .val (.ref o1)] [(.int (0 : Int32))]))
  refine og (fun _ hr => XS.aloadN X4.here hx rfl (hb hby dc15_29) rfl rfl hr) ?_
  show oG p e below _ (T4.setTop (mkF m 30 #[.val (.ref o0), .val (.ref o1), .val (.ref o1)] [(.ref o1), (.int (0 : Int32))]))
  obtain ⟨T5, X5, e5, st5⟩ := getF X4 hx hZ hown (host := "") (Or.inl (hw _ (own_m 30 rfl))) Via.refl e4 P3 (g := (mkF m 30 #[.val (.ref o0), .val (.ref o1), .val (.ref o1)] [(.ref o1), (.int (0 : Int32))])) rfl rfl (hb hby dc15_30)
  refine og st5 ?_
  show oG p e below _ (T5.setTop (mkF m 33 #[.val (.ref o0), .val (.ref o1), .val (.ref o1)] [(.int (0 : Int32)), (.int (0 : Int32))]))
  refine og (fun _ hr => XS.icmpNo X5.here hx rfl (hb hby dc15_33) rfl (teq (by decide)).2 (XS.aloadN X5.here hx rfl (hb hby dc15_36) rfl rfl hr)) ?_
  show oG p e below _ (T5.setTop (mkF m 37 #[.val (.ref o0), .val (.ref o1), .val (.ref o1)] [(.ref o0)]))
  obtain ⟨T6, X6, e6, st6⟩ := getF X5 hx hZ hown (host := "") (Or.inl (hw _ (own_m 29 rfl))) Via.refl e5 P4 (g := (mkF m 37 #[.val (.ref o0), .val (.ref o1), .val (.ref o1)] [(.ref o0)])) rfl rfl (hb hby dc15_37)
  refine og st6 ?_
  show oG p e below _ (T6.setTop (mkF m 40 #[.val (.ref o0), .val (.ref o1), .val (.ref o1)] [(.ref o2)]))
  refine og (fun _ hr => XS.aloadN X6.here hx rfl (hb hby dc15_40) rfl rfl hr) ?_
  show oG p e below _ (T6.setTop (mkF m 41 #[.val (.ref o0), .val (.ref o1), .val (.ref o1)] [(.ref o1), (.ref o2)]))
  obtain ⟨T7, X7, e7, st7⟩ := getF X6 hx hZ hown (host := "") (Or.inl (hw _ (own_m 29 rfl))) Via.refl e6 P5 (g := (mkF m 41 #[.val (.ref o0), .val (.ref o1), .val (.ref o1)] [(.ref o1), (.ref o2)])) rfl rfl (hb hby dc15_41)
  refine og st7 ?_
  show oG p e below _ (T7.setTop (mkF m 44 #[.val (.ref o0), .val (.ref o1), .val (.ref o1)] [(.ref o3), (.ref o2)]))
  refine own_cs X7 hx hZ hown (hw _ (own_m 98 rfl)) (hw _ (own_m 99 rfl)) (hw _ (own_m 100 rfl)) (hw _ (own_m 101 rfl)) (by decide) (rm := { frames := 0, cells := 0, slots := 0, locals := 0 }) (rm_equals_28 l Z a0 hw [] o2 o3 y1 y2 y3 y4 kc0 kc1 h0 n0 Z0 P6 P7 hb1) (by decide) (W := 0) (by decide) (by decide) (by decide) e7 (by rw [hml]; rfl) (argsL := [(.ref o2), (.ref o3)]) (lenOf own_pd15 rfl) (rest := []) rfl rfl (Nat.le_of_eq rfl) (hb hby dc15_44) ?_
  intro _ T8 L8 X8 hQ8
  obtain ⟨rfl, N8q, e8⟩ := hQ8
  have N8 := Fr.app N0 N8q
  show oG p e below _ (T8.setTop (mkF m 47 #[.val (.ref o0), .val (.ref o1), .val (.ref o1)] [(.int (0 : Int32))]))
  refine og (fun _ hr => XS.ifYes X8.here hx rfl (pc0 := 47) (pc' := 54) rfl (hb hby dc15_47) rfl ((if0 _ _).trans (teq (by decide)).1) (by decide) (by decide) (XS.iconst X8.here hx rfl (hb hby dc15_54) hr)) ?_
  show oG p e below _ (T8.setTop (mkF m 55 #[.val (.ref o0), .val (.ref o1), .val (.ref o1)] [(.int (0 : Int32))]))
  exact own_retN X8 hx hlk Bd.returns (t := .boolean) (by simp) (hb hby dc15_55) (by decide) (by decide) ⟨rfl, N8, e8⟩
theorem dc8_23 : decode prog_17_method_2_code 23 = .ok (.iconst 1, 1) := by decide +kernel
theorem dc8_24 : decode prog_17_method_2_code 24 = .ok (.goto 4, 3) := by decide +kernel
def Q_admits_30 (Z : State) (h0 : Heap) (n0 : Nat) (v : Option Value) (h : Heap) (L : List Loc) : Prop := (v = some (.int (1 : Int32)) ∧ Fr n0 L ∧ Keep h0 h [])
set_option maxRecDepth 65536 in
set_option maxHeartbeats 40000000 in
theorem rm_admits_30 (l : Launch) (Z : State) (a0 : Array Value) (hw : ∀ d ∈ tables_1, d.before a0 Z = true) (ws : List Jvm.Cond) (o0 : Addr) (o1 : Addr) (o2 : Addr) (o3 : Addr) (y0 : Int32) (y1 : Int32) (y2 : Int32) (y3 : Int32) (kc0 : ClassId) (y4 : Int32) (h0 : Heap) (n0 : Nat) (Z0 : n0 ≤ h0.size) (P0 : Fld Z h0 o0 "com/example/ruleweave/ruleweave/CommonPolicySchema$Term" "type" "Lcom/example/ruleweave/ruleweave/CommonPolicySchema$Type;" .null) (P1 : Fld Z h0 o1 "java/lang/String" "value" "[B" (.ref o3)) (P2 : Arv Z h0 o3 kc0 .byte y0 (own_sl y1 y2 y3 y0) (.int (0 : Int32))) (P3 : Exa Z h0 o1 "java/lang/String") (P4 : Sta Z h0 "java/lang/String" "COMPACT_STRINGS" "Z" (.int y4)) (P5 : Fld Z h0 o1 "java/lang/String" "coder" "B" (.int (0 : Int32))) (hb0 : ¬ (y0 = (0 : Int32))) (hb1 : ¬ (y0 = (36 : Int32))) (hb2 : ¬ (y4 = (0 : Int32))) :
    MetFree l (⟨"com/example/ruleweave/ruleweave/CommonPolicySchema$Term", "admits", "(Ljava/lang/String;Ljava/lang/String;)Z"⟩ : MethodName) (head1 (Jvm.Cond.code (⟨"com/example/ruleweave/ruleweave/CommonPolicySchema$Term", "admits", "(Ljava/lang/String;Ljava/lang/String;)Z"⟩ : MethodName) prog_17_method_2_code 3 (some .boolean) :: ws) ({ frames := 2, cells := 2, slots := 148, locals := 28 } : Room)) (fun aA U => aA = #[(.ref o0), (.ref o1), (.ref o2)] ∧ Z.Warmed39 U.vm ∧ U.heap = h0 ∧ CHv Z own_EL U.vm h0) (fun _ _ _ _ _ => True) (fun _ U o U' => ∃ v L, o = .returned v ∧ Q_admits_30 Z h0 n0 v U'.heap L ∧ CHr Z own_EL U.vm U.heap U'.vm U'.heap ∧ ReturnedEndW U o U' L ({ frames := 2, cells := 2, slots := 148, locals := 28 } : Room).cells ({ frames := 2, cells := 2, slots := 148, locals := 28 } : Room).slots) := by
  refine MetFree.of_bodySF (plainFor_of_name own_pn_com_example_ruleweave_ruleweave_CommonPolicySchema_Term) hisR ?_
  intro p e s m args below meth c s₁ Bd hml0 hP hK
  obtain ⟨rfl, hZ, hh, hC0⟩ := hP
  have hx := Bd.exec
  have hby := Bd.bytes
  have hlk : meth.locks = false := BodyLoose.notSynchronized Bd
  have hml : c.maxLocals = 3 := hml0
  have hown : s.vm.findClass "com/example/ruleweave/ruleweave/CommonPolicySchema$Term" = some m.cls := findClass_of_methodNamed Bd.named
  have hnm := (name_of_methodNamed Bd.named Bd.method).1
  have X0 : Stand p l e ({ frames := 2, cells := 2, slots := 148, locals := 28 } : Room) (s.setVm s.vm) m #[(.ref o0), (.ref o1), (.ref o2)] below meth c s₁ [] 0 0 := Stand.of_body Bd
  have e0 : s₁.heap = h0 := by rw [← hh, Bd.state]; rfl
  have N0 := Fr.nil n0
  have hS : s.Since s.vm 0 := (State.WarmedH.refl s).since 0
  have hk := Nat.zero_le h0.size
  have hEL : EW Z a0 own_EL := own_ew hw
  have A0 : CHr Z own_EL s.vm h0 s.vm h0 := CHr.refl hC0
  have K0 : Keep h0 h0 [] := Keep.refl _ _
  show oG p e below (own_KW Z own_EL s (Q_admits_30 Z h0 n0) ({ frames := 2, cells := 2, slots := 148, locals := 28 } : Room).cells ({ frames := 2, cells := 2, slots := 148, locals := 28 } : Room).slots) (s₁.setTop (entryFrame m #[(.ref o0), (.ref o1), (.ref o2)] 3))
  rw [(by first | (simp [entryFrame, mkF, argsToLocals, Value.category]; done) | rfl : entryFrame m #[(.ref o0), (.ref o1), (.ref o2)] 3 = mkF m 0 #[.val (.ref o0), .val (.ref o1), .val (.ref o2)] [])]
  show oG p e below _ (s₁.setTop (mkF m 0 #[.val (.ref o0), .val (.ref o1), .val (.ref o2)] []))
  refine og (fun _ hr => XS.aloadN X0.here hx rfl (hb hby dc8_0) rfl rfl hr) ?_
  show oG p e below _ (s₁.setTop (mkF m 1 #[.val (.ref o0), .val (.ref o1), .val (.ref o2)] [(.ref o0)]))
  obtain ⟨T1, X1, e1, st1⟩ := getF X0 hx hZ hown (host := "") (Or.inl (hw _ (own_m 47 rfl))) Via.refl e0 P0 (g := (mkF m 1 #[.val (.ref o0), .val (.ref o1), .val (.ref o2)] [(.ref o0)])) rfl rfl (hb hby dc8_1)
  refine og st1 ?_
  show oG p e below _ (T1.setTop (mkF m 4 #[.val (.ref o0), .val (.ref o1), .val (.ref o2)] [.null]))
  refine og (fun _ hr => XS.ifnonnullNo X1.here hx rfl (hb hby dc8_4) rfl hr) ?_
  show oG p e below _ (T1.setTop (mkF m 7 #[.val (.ref o0), .val (.ref o1), .val (.ref o2)] []))
  refine og (fun _ hr => XS.aloadN X1.here hx rfl (hb hby dc8_7) rfl rfl hr) ?_
  show oG p e below _ (T1.setTop (mkF m 8 #[.val (.ref o0), .val (.ref o1), .val (.ref o2)] [(.ref o1)]))
  refine own_cv X1 hx hZ hown (notFace_of_selects (args := #[]) (mvT hZ (hw _ (own_m 57 rfl)))) (hw _ (own_m 54 rfl)) (hw _ (own_m 55 rfl)) (hw _ (own_m 57 rfl)) (hw _ (own_m 56 rfl)) (hw _ (own_m 7 rfl)) (hw _ (own_m 58 rfl)) (by decide) P3 (rm := { frames := 0, cells := 0, slots := 0, locals := 0 }) (rm_isEmpty_27 l Z a0 hw [] o1 o3 y0 y1 y2 y3 kc0 h0 n0 Z0 P1 P2 hb0) (by decide) (W := 0) (by decide) (by decide) (by decide) e1 (by rw [hml]; rfl) (argsL := []) (lenOf own_pd13 rfl) (rest := []) rfl rfl (Nat.le_of_eq rfl) (hb hby dc8_8) ?_
  intro _ T2 L2 X2 hQ2
  obtain ⟨rfl, N2q, e2⟩ := hQ2
  have N2 := Fr.app N0 N2q
  show oG p e below _ (T2.setTop (mkF m 11 #[.val (.ref o0), .val (.ref o1), .val (.ref o2)] [(.int (0 : Int32))]))
  refine og (fun _ hr => XS.ifNo X2.here hx rfl (hb hby dc8_11) rfl ((if0 _ _).trans (teq (by decide)).2) (XS.aloadN X2.here hx rfl (hb hby dc8_14) rfl rfl hr)) ?_
  show oG p e below _ (T2.setTop (mkF m 15 #[.val (.ref o0), .val (.ref o1), .val (.ref o2)] [(.ref o1)]))
  have hZo4 := hZ
  obtain ⟨a3, T3, h3, k13, b3, k3, X3, e3, E3, hS, hk3, hZ, hown, EA3, FC3, FV3, AV3, -, -, Al3, -, ne3, st3⟩ := ldcCH X2 hx hZ hown (hw _ (own_m 115 rfl)) (own_ws hw) e2 hS hk hEL (by simp [own_EL]) A0.1 (vs := [(.int (117 : Int32)), (.int (114 : Int32)), (.int (110 : Int32)), (.int (58 : Int32)), (.int (105 : Int32)), (.int (101 : Int32)), (.int (116 : Int32)), (.int (102 : Int32)), (.int (58 : Int32)), (.int (112 : Int32)), (.int (97 : Int32)), (.int (114 : Int32)), (.int (97 : Int32)), (.int (109 : Int32)), (.int (115 : Int32)), (.int (58 : Int32)), (.int (120 : Int32)), (.int (109 : Int32)), (.int (108 : Int32)), (.int (58 : Int32)), (.int (110 : Int32)), (.int (115 : Int32)), (.int (58 : Int32)), (.int (99 : Int32)), (.int (111 : Int32)), (.int (109 : Int32)), (.int (109 : Int32)), (.int (111 : Int32)), (.int (110 : Int32)), (.int (45 : Int32)), (.int (112 : Int32)), (.int (111 : Int32)), (.int (108 : Int32)), (.int (105 : Int32)), (.int (99 : Int32)), (.int (121 : Int32))]) (z := (36 : Int32)) ⟨by decide, by decide⟩ (by decide) (by decide) (g := (mkF m 15 #[.val (.ref o0), .val (.ref o1), .val (.ref o2)] [(.ref o1)])) rfl (hb hby dc8_15) (n := 144) (by decide) (by decide) (by decide) (by decide)
  refine og st3 ?_
  show oG p e below _ (T3.setTop (mkF m 17 #[.val (.ref o0), .val (.ref o1), .val (.ref o2)] [(.ref a3), (.ref o1)]))
  have f6 := (P1.ext E3)
  have f7 := (P2.ext E3)
  have ne5 : o1 ≠ a3 := Fld.ne f6 FV3 (fun q => own_arv_ne f7 AV3 hb1 (Value.ref.inj q))
  have f9 := (P4.ext E3)
  have f10 := (P5.ext E3)
  have Z11 := (Nat.le_trans Z0 E3.1)
  have f12 := (P3.ext E3)
  refine own_cv X3 hx hZ hown (notFace_of_selects (args := #[]) (mvT hZ (hw _ (own_m 95 rfl)))) (hw _ (own_m 92 rfl)) (hw _ (own_m 93 rfl)) (hw _ (own_m 95 rfl)) (hw _ (own_m 94 rfl)) (hw _ (own_m 7 rfl)) (hw _ (own_m 96 rfl)) (by decide) f12 (rm := { frames := 1, cells := 0, slots := 0, locals := 14 }) (rm_equals_29 l Z a0 hw [] o1 a3 y4 o3 b3 y0 y1 y2 y3 kc0 k3 h3 n0 Z11 EA3 f9 f10 FC3 f6 FV3 f7 AV3 ne5 hb2 hb1) (by decide) (W := 0) (by decide) (by decide) (by decide) e3 (by rw [hml]; rfl) (argsL := [(.ref a3)]) (lenOf own_pd16 rfl) (rest := []) rfl rfl (Nat.le_of_eq rfl) (hb hby dc8_17) ?_
  intro _ T8 L8 X8 hQ8
  obtain ⟨rfl, N8q, e8⟩ := hQ8
  have N8 := Fr.app N2 N8q
  show oG p e below _ (T8.setTop (mkF m 20 #[.val (.ref o0), .val (.ref o1), .val (.ref o2)] [(.int (0 : Int32))]))
  refine og (fun _ hr => XS.ifNo X8.here hx rfl (hb hby dc8_20) rfl ((if0 _ _).trans (teq (by decide)).2) (XS.iconst X8.here hx rfl (hb hby dc8_23) (XS.goto X8.here hx rfl (pc0 := 24) (pc' := 28) rfl (hb hby dc8_24) (by decide) (by decide) hr))) ?_
  show oG p e below _ (T8.setTop (mkF m 28 #[.val (.ref o0), .val (.ref o1), .val (.ref o2)] [(.int (1 : Int32))]))
  have K13 := (K0.ext E3)
  have A14 := A0.trans Al3
  exact own_retNW X8 hx hlk Bd.returns hS hk3 hZ hEL hh e8 A14 (t := .boolean) (by simp) (hb hby dc8_28) (by decide) (by decide) (by rw [e8]; exact ⟨rfl, N8, K13⟩)
theorem dc13_0 : decode prog_18_method_1_code 0 = .ok (.aload_n 0, 1) := by decide +kernel
theorem dc13_1 : decode prog_18_method_1_code 1 = .ok (.invokespecial 1, 3) := by decide +kernel
theorem dc13_4 : decode prog_18_method_1_code 4 = .ok (.aload_n 0, 1) := by decide +kernel
theorem dc13_5 : decode prog_18_method_1_code 5 = .ok (.aload_n 1, 1) := by decide +kernel
theorem dc13_6 : decode prog_18_method_1_code 6 = .ok (.putfield 7, 3) := by decide +kernel
theorem dc13_9 : decode prog_18_method_1_code 9 = .ok (.aload_n 0, 1) := by decide +kernel
theorem dc13_10 : decode prog_18_method_1_code 10 = .ok (.aload_n 2, 1) := by decide +kernel
theorem dc13_11 : decode prog_18_method_1_code 11 = .ok (.putfield 13, 3) := by decide +kernel
theorem dc13_14 : decode prog_18_method_1_code 14 = .ok (.aload_n 0, 1) := by decide +kernel
theorem dc13_15 : decode prog_18_method_1_code 15 = .ok (.aload_n 3, 1) := by decide +kernel
theorem dc13_16 : decode prog_18_method_1_code 16 = .ok (.putfield 16, 3) := by decide +kernel
theorem dc13_19 : decode prog_18_method_1_code 19 = .ok (.aload_n 0, 1) := by decide +kernel
theorem dc13_20 : decode prog_18_method_1_code 20 = .ok (.aload 4, 2) := by decide +kernel
theorem dc13_22 : decode prog_18_method_1_code 22 = .ok (.putfield 20, 3) := by decide +kernel
theorem dc13_25 : decode prog_18_method_1_code 25 = .ok (.aload_n 0, 1) := by decide +kernel
theorem dc13_26 : decode prog_18_method_1_code 26 = .ok (.aload 5, 2) := by decide +kernel
theorem dc13_28 : decode prog_18_method_1_code 28 = .ok (.putfield 24, 3) := by decide +kernel
theorem dc13_31 : decode prog_18_method_1_code 31 = .ok (.aload_n 0, 1) := by decide +kernel
theorem dc13_32 : decode prog_18_method_1_code 32 = .ok (.aload 6, 2) := by decide +kernel
theorem dc13_34 : decode prog_18_method_1_code 34 = .ok (.putfield 28, 3) := by decide +kernel
theorem dc13_37 : decode prog_18_method_1_code 37 = .ok (.return_, 1) := by decide +kernel
theorem own_pn_com_example_ruleweave_ruleweave_CommonPolicySchema_Type : plainName "com/example/ruleweave/ruleweave/CommonPolicySchema$Type" = true := by first | (simp [plainName, overriddenIn]; done) | decide +kernel
def Q_init_31 (Z : State) (o0 : Addr) (h0 : Heap) (n0 : Nat) (v : Option Value) (h : Heap) (L : List Loc) : Prop := (v = none ∧ Fr n0 L ∧ Keep h0 h [o0] ∧ Fld Z h o0 "com/example/ruleweave/ruleweave/CommonPolicySchema$Type" "attributes" "Ljava/util/List;" .null ∧ Fld Z h o0 "com/example/ruleweave/ruleweave/CommonPolicySchema$Type" "content" "Lcom/example/ruleweave/ruleweave/CommonPolicySchema$Content;" .null ∧ Fld Z h o0 "com/example/ruleweave/ruleweave/CommonPolicySchema$Type" "datatype" "Lcom/example/ruleweave/ruleweave/CommonPolicySchema$Datatype;" .null ∧ Fld Z h o0 "com/example/ruleweave/ruleweave/CommonPolicySchema$Type" "model" "Lcom/example/ruleweave/ruleweave/CommonPolicySchema$Model;" .null ∧ Fld Z h o0 "com/example/ruleweave/ruleweave/CommonPolicySchema$Type" "name" "Ljava/lang/String;" .null ∧ Fld Z h o0 "com/example/ruleweave/ruleweave/CommonPolicySchema$Type" "namespace" "Ljava/lang/String;" .null)
set_option maxRecDepth 65536 in
set_option maxHeartbeats 40000000 in
theorem rm_init_31 (l : Launch) (Z : State) (a0 : Array Value) (hw : ∀ d ∈ tables_1, d.before a0 Z = true) (ws : List Jvm.Cond) (o0 : Addr) (h0 : Heap) (n0 : Nat) (Z0 : n0 ≤ h0.size) (P0 : Exa Z h0 o0 "com/example/ruleweave/ruleweave/CommonPolicySchema$Type") (P1 : Fld Z h0 o0 "com/example/ruleweave/ruleweave/CommonPolicySchema$Type" "namespace" "Ljava/lang/String;" .null) (P2 : Fld Z h0 o0 "com/example/ruleweave/ruleweave/CommonPolicySchema$Type" "name" "Ljava/lang/String;" .null) (P3 : Fld Z h0 o0 "com/example/ruleweave/ruleweave/CommonPolicySchema$Type" "attributes" "Ljava/util/List;" .null) (P4 : Fld Z h0 o0 "com/example/ruleweave/ruleweave/CommonPolicySchema$Type" "content" "Lcom/example/ruleweave/ruleweave/CommonPolicySchema$Content;" .null) (P5 : Fld Z h0 o0 "com/example/ruleweave/ruleweave/CommonPolicySchema$Type" "datatype" "Lcom/example/ruleweave/ruleweave/CommonPolicySchema$Datatype;" .null) (P6 : Fld Z h0 o0 "com/example/ruleweave/ruleweave/CommonPolicySchema$Type" "model" "Lcom/example/ruleweave/ruleweave/CommonPolicySchema$Model;" .null) (ge0p : n0 ≤ o0) :
    MetFree l (⟨"com/example/ruleweave/ruleweave/CommonPolicySchema$Type", "<init>", "(Ljava/lang/String;Ljava/lang/String;Ljava/util/List;Lcom/example/ruleweave/ruleweave/CommonPolicySchema$Content;Lcom/example/ruleweave/ruleweave/CommonPolicySchema$Datatype;Lcom/example/ruleweave/ruleweave/CommonPolicySchema$Model;)V"⟩ : MethodName) (head1 (Jvm.Cond.code (⟨"com/example/ruleweave/ruleweave/CommonPolicySchema$Type", "<init>", "(Ljava/lang/String;Ljava/lang/String;Ljava/util/List;Lcom/example/ruleweave/ruleweave/CommonPolicySchema$Content;Lcom/example/ruleweave/ruleweave/CommonPolicySchema$Datatype;Lcom/example/ruleweave/ruleweave/CommonPolicySchema$Model;)V"⟩ : MethodName) prog_18_method_1_code 7 none :: ws) ({ frames := 2, cells := 0, slots := 0, locals := 24 } : Room)) (fun aA U => aA = #[(.ref o0), .null, .null, .null, .null, .null, .null] ∧ Z.Warmed39 U.vm ∧ U.heap = h0) (fun _ _ _ _ _ => True) (fun _ U o U' => ∃ v L, o = .returned v ∧ Q_init_31 Z o0 h0 n0 v U'.heap L ∧ FrameEnd U o U' L ({ frames := 2, cells := 0, slots := 0, locals := 24 } : Room).cells ({ frames := 2, cells := 0, slots := 0, locals := 24 } : Room).slots) := by
  refine MetFree.of_bodySF (plainFor_of_name own_pn_com_example_ruleweave_ruleweave_CommonPolicySchema_Type) hisR ?_
  intro p e s m args below meth c s₁ Bd hml0 hP hK
  obtain ⟨rfl, hZ, hh⟩ := hP
  have hx := Bd.exec
  have hby := Bd.bytes
  have hlk : meth.locks = false := BodyLoose.notSynchronized Bd
  have hml : c.maxLocals = 7 := hml0
  have hown : s.vm.findClass "com/example/ruleweave/ruleweave/CommonPolicySchema$Type" = some m.cls := findClass_of_methodNamed Bd.named
  have hnm := (name_of_methodNamed Bd.named Bd.method).1
  have X0 : Stand p l e ({ frames := 2, cells := 0, slots := 0, locals := 24 } : Room) s m #[(.ref o0), .null, .null, .null, .null, .null, .null] below meth c s₁ [] 0 0 := Stand.of_body Bd
  have e0 : s₁.heap = h0 := by rw [← hh, Bd.state]; rfl
  have N0 := Fr.nil n0
  have K0 : Keep h0 h0 [o0] := Keep.refl _ _
  show oG p e below (own_K s (Q_init_31 Z o0 h0 n0) ({ frames := 2, cells := 0, slots := 0, locals := 24 } : Room).cells ({ frames := 2, cells := 0, slots := 0, locals := 24 } : Room).slots) (s₁.setTop (entryFrame m #[(.ref o0), .null, .null, .null, .null, .null, .null] 7))
  rw [(by first | (simp [entryFrame, mkF, argsToLocals, Value.category]; done) | rfl : entryFrame m #[(.ref o0), .null, .null, .null, .null, .null, .null] 7 = mkF m 0 #[.val (.ref o0), .val .null, .val .null, .val .null, .val .null, .val .null, .val .null] [])]
  show oG p e below _ (s₁.setTop (mkF m 0 #[.val (.ref o0), .val .null, .val .null, .val .null, .val .null, .val .null, .val .null] []))
  refine og (fun _ hr => XS.aloadN X0.here hx rfl (hb hby dc13_0) rfl rfl hr) ?_
  show oG p e below _ (s₁.setTop (mkF m 1 #[.val (.ref o0), .val .null, .val .null, .val .null, .val .null, .val .null, .val .null] [(.ref o0)]))
  refine own_cp X0 hx hZ hown rfl (hw _ (own_m 76 rfl)) (hw _ (own_m 38 rfl)) (hw _ (own_m 40 rfl)) (hw _ (own_m 41 rfl)) (by decide) (rm := { frames := 1, cells := 0, slots := 0, locals := 12 }) (rm_init_20 l Z a0 hw [] o0 h0 n0 Z0 ) (by decide) (W := 0) (by decide) (by decide) (by decide) e0 (by rw [hml]; rfl) (argsL := []) (lenOf own_pd11 rfl) (rest := []) rfl rfl (Nat.le_of_eq rfl) (hb hby dc13_1) ?_
  intro _ T1 L1 X1 hQ1
  obtain ⟨rfl, N1q, e1⟩ := hQ1
  have N1 := Fr.app N0 N1q
  show oG p e below _ (T1.setTop (mkF m 4 #[.val (.ref o0), .val .null, .val .null, .val .null, .val .null, .val .null, .val .null] []))
  refine og (fun _ hr => XS.aloadN X1.here hx rfl (hb hby dc13_4) rfl rfl (XS.aloadN X1.here hx rfl (hb hby dc13_5) rfl rfl hr)) ?_
  show oG p e below _ (T1.setTop (mkF m 6 #[.val (.ref o0), .val .null, .val .null, .val .null, .val .null, .val .null, .val .null] [.null, (.ref o0)]))
  obtain ⟨T2, h2, X2, e2, W2, st2⟩ := putF X1 hx hZ hown (host := "") (Or.inl (hw _ (own_m 77 rfl))) Via.refl e1 P1 P0 (Or.inr ⟨(hw _ (own_m 78 rfl)), rfl, hnm⟩) (hw _ (own_m 71 rfl)) (ty := (.object "java/lang/String")) (by decide) rfl rfl (g := (mkF m 6 #[.val (.ref o0), .val .null, .val .null, .val .null, .val .null, .val .null, .val .null] [.null, (.ref o0)])) rfl rfl (hb hby dc13_6)
  refine og st2 ?_
  have f3 := P1.same W2
  have N4 := Fr.snoc X2 N1 ge0p
  show oG p e below _ (T2.setTop (mkF m 9 #[.val (.ref o0), .val .null, .val .null, .val .null, .val .null, .val .null, .val .null] []))
  refine og (fun _ hr => XS.aloadN X2.here hx rfl (hb hby dc13_9) rfl rfl (XS.aloadN X2.here hx rfl (hb hby dc13_10) rfl rfl hr)) ?_
  show oG p e below _ (T2.setTop (mkF m 11 #[.val (.ref o0), .val .null, .val .null, .val .null, .val .null, .val .null, .val .null] [.null, (.ref o0)]))
  have f5 := (P0.wr W2)
  have f6 := (P2.other W2 (Or.inr (slot_ne (Or.inr (hw _ (own_m 80 rfl))) (Or.inr (hw _ (own_m 78 rfl))) (by decide) (t := (.object "java/lang/String")) (t' := (.object "java/lang/String")) (by decide) (by decide))))
  obtain ⟨T7, h7, X7, e7, W7, st7⟩ := putF X2 hx hZ hown (host := "") (Or.inl (hw _ (own_m 79 rfl))) Via.refl e2 f6 f5 (Or.inr ⟨(hw _ (own_m 80 rfl)), rfl, hnm⟩) (hw _ (own_m 71 rfl)) (ty := (.object "java/lang/String")) (by decide) rfl rfl (g := (mkF m 11 #[.val (.ref o0), .val .null, .val .null, .val .null, .val .null, .val .null, .val .null] [.null, (.ref o0)])) rfl rfl (hb hby dc13_11)
  refine og st7 ?_
  have f8 := f6.same W7
  have N9 := Fr.snoc X7 N4 ge0p
  show oG p e below _ (T7.setTop (mkF m 14 #[.val (.ref o0), .val .null, .val .null, .val .null, .val .null, .val .null, .val .null] []))
  refine og (fun _ hr => XS.aloadN X7.here hx rfl (hb hby dc13_14) rfl rfl (XS.aloadN X7.here hx rfl (hb hby dc13_15) rfl rfl hr)) ?_
  show oG p e below _ (T7.setTop (mkF m 16 #[.val (.ref o0), .val .null, .val .null, .val .null, .val .null, .val .null, .val .null] [.null, (.ref o0)]))
  have f10 := (f5.wr W7)
  have f11 := ((P3.other W2 (Or.inr (slot_ne (Or.inr (hw _ (own_m 82 rfl))) (Or.inr (hw _ (own_m 78 rfl))) (by decide) (t := (.object "java/util/List")) (t' := (.object "java/lang/String")) (by decide) (by decide)))).other W7 (Or.inr (slot_ne (Or.inr (hw _ (own_m 82 rfl))) (Or.inr (hw _ (own_m 80 rfl))) (by decide) (t := (.object "java/util/List")) (t' := (.object "java/lang/String")) (by decide) (by decide))))
  obtain ⟨T12, h12, X12, e12, W12, st12⟩ := putF X7 hx hZ hown (host := "") (Or.inl (hw _ (own_m 81 rfl))) Via.refl e7 f11 f10 (Or.inr ⟨(hw _ (own_m 82 rfl)), rfl, hnm⟩) (hw _ (own_m 71 rfl)) (ty := (.object "java/util/List")) (by decide) rfl rfl (g := (mkF m 16 #[.val (.ref o0), .val .null, .val .null, .val .null, .val .null, .val .null, .val .null] [.null, (.ref o0)])) rfl rfl (hb hby dc13_16)
  refine og st12 ?_
  have f13 := f11.same W12
  have N14 := Fr.snoc X12 N9 ge0p
  show oG p e below _ (T12.setTop (mkF m 19 #[.val (.ref o0), .val .null, .val .null, .val .null, .val .null, .val .null, .val .null] []))
  refine og (fun _ hr => XS.aloadN X12.here hx rfl (hb hby dc13_19) rfl rfl (XS.aload X12.here hx rfl (hb hby dc13_20) rfl rfl hr)) ?_
  show oG p e below _ (T12.setTop (mkF m 22 #[.val (.ref o0), .val .null, .val .null, .val .null, .val .null, .val .null, .val .null] [.null, (.ref o0)]))
  have f15 := (f10.wr W12)
  have f16 := (((P4.other W2 (Or.inr (slot_ne (Or.inr (hw _ (own_m 84 rfl))) (Or.inr (hw _ (own_m 78 rfl))) (by decide) (t := (.object "com/example/ruleweave/ruleweave/CommonPolicySchema$Content")) (t' := (.object "java/lang/String")) (by decide) (by decide)))).other W7 (Or.inr (slot_ne (Or.inr (hw _ (own_m 84 rfl))) (Or.inr (hw _ (own_m 80 rfl))) (by decide) (t := (.object "com/example/ruleweave/ruleweave/CommonPolicySchema$Content")) (t' := (.object "java/lang/String")) (by decide) (by decide)))).other W12 (Or.inr (slot_ne (Or.inr (hw _ (own_m 84 rfl))) (Or.inr (hw _ (own_m 82 rfl))) (by decide) (t := (.object "com/example/ruleweave/ruleweave/CommonPolicySchema$Content")) (t' := (.object "java/util/List")) (by decide) (by decide))))
  obtain ⟨T17, h17, X17, e17, W17, st17⟩ := putF X12 hx hZ hown (host := "") (Or.inl (hw _ (own_m 83 rfl))) Via.refl e12 f16 f15 (Or.inr ⟨(hw _ (own_m 84 rfl)), rfl, hnm⟩) (hw _ (own_m 71 rfl)) (ty := (.object "com/example/ruleweave/ruleweave/CommonPolicySchema$Content")) (by decide) rfl rfl (g := (mkF m 22 #[.val (.ref o0), .val .null, .val .null, .val .null, .val .null, .val .null, .val .null] [.null, (.ref o0)])) rfl rfl (hb hby dc13_22)
  refine og st17 ?_
  have f18 := f16.same W17
  have N19 := Fr.snoc X17 N14 ge0p
  show oG p e below _ (T17.setTop (mkF m 25 #[.val (.ref o0), .val .null, .val .null, .val .null, .val .null, .val .null, .val .null] []))
  refine og (fun _ hr => XS.aloadN X17.here hx rfl (hb hby dc13_25) rfl rfl (XS.aload X17.here hx rfl (hb hby dc13_26) rfl rfl hr)) ?_
  show oG p e below _ (T17.setTop (mkF m 28 #[.val (.ref o0), .val .null, .val .null, .val .null, .val .null, .val .null, .val .null] [.null, (.ref o0)]))
  have f20 := (f15.wr W17)
  have f21 := ((((P5.other W2 (Or.inr (slot_ne (Or.inr (hw _ (own_m 86 rfl))) (Or.inr (hw _ (own_m 78 rfl))) (by decide) (t := (.object "com/example/ruleweave/ruleweave/CommonPolicySchema$Datatype")) (t' := (.object "java/lang/String")) (by decide) (by decide)))).other W7 (Or.inr (slot_ne (Or.inr (hw _ (own_m 86 rfl))) (Or.inr (hw _ (own_m 80 rfl))) (by decide) (t := (.object "com/example/ruleweave/ruleweave/CommonPolicySchema$Datatype")) (t' := (.object "java/lang/String")) (by decide) (by decide)))).other W12 (Or.inr (slot_ne (Or.inr (hw _ (own_m 86 rfl))) (Or.inr (hw _ (own_m 82 rfl))) (by decide) (t := (.object "com/example/ruleweave/ruleweave/CommonPolicySchema$Datatype")) (t' := (.object "java/util/List")) (by decide) (by decide)))).other W17 (Or.inr (slot_ne (Or.inr (hw _ (own_m 86 rfl))) (Or.inr (hw _ (own_m 84 rfl))) (by decide) (t := (.object "com/example/ruleweave/ruleweave/CommonPolicySchema$Datatype")) (t' := (.object "com/example/ruleweave/ruleweave/CommonPolicySchema$Content")) (by decide) (by decide))))
  obtain ⟨T22, h22, X22, e22, W22, st22⟩ := putF X17 hx hZ hown (host := "") (Or.inl (hw _ (own_m 85 rfl))) Via.refl e17 f21 f20 (Or.inr ⟨(hw _ (own_m 86 rfl)), rfl, hnm⟩) (hw _ (own_m 71 rfl)) (ty := (.object "com/example/ruleweave/ruleweave/CommonPolicySchema$Datatype")) (by decide) rfl rfl (g := (mkF m 28 #[.val (.ref o0), .val .null, .val .null, .val .null, .val .null, .val .null, .val .null] [.null, (.ref o0)])) rfl rfl (hb hby dc13_28)
  refine og st22 ?_
  have f23 := f21.same W22
  have N24 := Fr.snoc X22 N19 ge0p
  show oG p e below _ (T22.setTop (mkF m 31 #[.val (.ref o0), .val .null, .val .null, .val .null, .val .null, .val .null, .val .null] []))
  refine og (fun _ hr => XS.aloadN X22.here hx rfl (hb hby dc13_31) rfl rfl (XS.aload X22.here hx rfl (hb hby dc13_32) rfl rfl hr)) ?_
  show oG p e below _ (T22.setTop (mkF m 34 #[.val (.ref o0), .val .null, .val .null, .val .null, .val .null, .val .null, .val .null] [.null, (.ref o0)]))
  have f25 := (f20.wr W22)
  have f26 := (((((P6.other W2 (Or.inr (slot_ne (Or.inr (hw _ (own_m 88 rfl))) (Or.inr (hw _ (own_m 78 rfl))) (by decide) (t := (.object "com/example/ruleweave/ruleweave/CommonPolicySchema$Model")) (t' := (.object "java/lang/String")) (by decide) (by decide)))).other W7 (Or.inr (slot_ne (Or.inr (hw _ (own_m 88 rfl))) (Or.inr (hw _ (own_m 80 rfl))) (by decide) (t := (.object "com/example/ruleweave/ruleweave/CommonPolicySchema$Model")) (t' := (.object "java/lang/String")) (by decide) (by decide)))).other W12 (Or.inr (slot_ne (Or.inr (hw _ (own_m 88 rfl))) (Or.inr (hw _ (own_m 82 rfl))) (by decide) (t := (.object "com/example/ruleweave/ruleweave/CommonPolicySchema$Model")) (t' := (.object "java/util/List")) (by decide) (by decide)))).other W17 (Or.inr (slot_ne (Or.inr (hw _ (own_m 88 rfl))) (Or.inr (hw _ (own_m 84 rfl))) (by decide) (t := (.object "com/example/ruleweave/ruleweave/CommonPolicySchema$Model")) (t' := (.object "com/example/ruleweave/ruleweave/CommonPolicySchema$Content")) (by decide) (by decide)))).other W22 (Or.inr (slot_ne (Or.inr (hw _ (own_m 88 rfl))) (Or.inr (hw _ (own_m 86 rfl))) (by decide) (t := (.object "com/example/ruleweave/ruleweave/CommonPolicySchema$Model")) (t' := (.object "com/example/ruleweave/ruleweave/CommonPolicySchema$Datatype")) (by decide) (by decide))))
  obtain ⟨T27, h27, X27, e27, W27, st27⟩ := putF X22 hx hZ hown (host := "") (Or.inl (hw _ (own_m 87 rfl))) Via.refl e22 f26 f25 (Or.inr ⟨(hw _ (own_m 88 rfl)), rfl, hnm⟩) (hw _ (own_m 71 rfl)) (ty := (.object "com/example/ruleweave/ruleweave/CommonPolicySchema$Model")) (by decide) rfl rfl (g := (mkF m 34 #[.val (.ref o0), .val .null, .val .null, .val .null, .val .null, .val .null, .val .null] [.null, (.ref o0)])) rfl rfl (hb hby dc13_34)
  refine og st27 ?_
  have f28 := f26.same W27
  have N29 := Fr.snoc X27 N24 ge0p
  show oG p e below _ (T27.setTop (mkF m 37 #[.val (.ref o0), .val .null, .val .null, .val .null, .val .null, .val .null, .val .null] []))
  have f30 := (((f13.other W17 (Or.inr (slot_ne (Or.inr (hw _ (own_m 82 rfl))) (Or.inr (hw _ (own_m 84 rfl))) (by decide) (t := (.object "java/util/List")) (t' := (.object "com/example/ruleweave/ruleweave/CommonPolicySchema$Content")) (by decide) (by decide)))).other W22 (Or.inr (slot_ne (Or.inr (hw _ (own_m 82 rfl))) (Or.inr (hw _ (own_m 86 rfl))) (by decide) (t := (.object "java/util/List")) (t' := (.object "com/example/ruleweave/ruleweave/CommonPolicySchema$Datatype")) (by decide) (by decide)))).other W27 (Or.inr (slot_ne (Or.inr (hw _ (own_m 82 rfl))) (Or.inr (hw _ (own_m 88 rfl))) (by decide) (t := (.object "java/util/List")) (t' := (.object "com/example/ruleweave/ruleweave/CommonPolicySchema$Model")) (by decide) (by decide))))
  have f31 := ((f18.other W22 (Or.inr (slot_ne (Or.inr (hw _ (own_m 84 rfl))) (Or.inr (hw _ (own_m 86 rfl))) (by decide) (t := (.object "com/example/ruleweave/ruleweave/CommonPolicySchema$Content")) (t' := (.object "com/example/ruleweave/ruleweave/CommonPolicySchema$Datatype")) (by decide) (by decide)))).other W27 (Or.inr (slot_ne (Or.inr (hw _ (own_m 84 rfl))) (Or.inr (hw _ (own_m 88 rfl))) (by decide) (t := (.object "com/example/ruleweave/ruleweave/CommonPolicySchema$Content")) (t' := (.object "com/example/ruleweave/ruleweave/CommonPolicySchema$Model")) (by decide) (by decide))))
  have f32 := (f23.other W27 (Or.inr (slot_ne (Or.inr (hw _ (own_m 86 rfl))) (Or.inr (hw _ (own_m 88 rfl))) (by decide) (t := (.object "com/example/ruleweave/ruleweave/CommonPolicySchema$Datatype")) (t' := (.object "com/example/ruleweave/ruleweave/CommonPolicySchema$Model")) (by decide) (by decide))))
  have f33 := ((((f8.other W12 (Or.inr (slot_ne (Or.inr (hw _ (own_m 80 rfl))) (Or.inr (hw _ (own_m 82 rfl))) (by decide) (t := (.object "java/lang/String")) (t' := (.object "java/util/List")) (by decide) (by decide)))).other W17 (Or.inr (slot_ne (Or.inr (hw _ (own_m 80 rfl))) (Or.inr (hw _ (own_m 84 rfl))) (by decide) (t := (.object "java/lang/String")) (t' := (.object "com/example/ruleweave/ruleweave/CommonPolicySchema$Content")) (by decide) (by decide)))).other W22 (Or.inr (slot_ne (Or.inr (hw _ (own_m 80 rfl))) (Or.inr (hw _ (own_m 86 rfl))) (by decide) (t := (.object "java/lang/String")) (t' := (.object "com/example/ruleweave/ruleweave/CommonPolicySchema$Datatype")) (by decide) (by decide)))).other W27 (Or.inr (slot_ne (Or.inr (hw _ (own_m 80 rfl))) (Or.inr (hw _ (own_m 88 rfl))) (by decide) (t := (.object "java/lang/String")) (t' := (.object "com/example/ruleweave/ruleweave/CommonPolicySchema$Model")) (by decide) (by decide))))
  have f34 := (((((f3.other W7 (Or.inr (slot_ne (Or.inr (hw _ (own_m 78 rfl))) (Or.inr (hw _ (own_m 80 rfl))) (by decide) (t := (.object "java/lang/String")) (t' := (.object "java/lang/String")) (by decide) (by decide)))).other W12 (Or.inr (slot_ne (Or.inr (hw _ (own_m 78 rfl))) (Or.inr (hw _ (own_m 82 rfl))) (by decide) (t := (.object "java/lang/String")) (t' := (.object "java/util/List")) (by decide) (by decide)))).other W17 (Or.inr (slot_ne (Or.inr (hw _ (own_m 78 rfl))) (Or.inr (hw _ (own_m 84 rfl))) (by decide) (t := (.object "java/lang/String")) (t' := (.object "com/example/ruleweave/ruleweave/CommonPolicySchema$Content")) (by decide) (by decide)))).other W22 (Or.inr (slot_ne (Or.inr (hw _ (own_m 78 rfl))) (Or.inr (hw _ (own_m 86 rfl))) (by decide) (t := (.object "java/lang/String")) (t' := (.object "com/example/ruleweave/ruleweave/CommonPolicySchema$Datatype")) (by decide) (by decide)))).other W27 (Or.inr (slot_ne (Or.inr (hw _ (own_m 78 rfl))) (Or.inr (hw _ (own_m 88 rfl))) (by decide) (t := (.object "java/lang/String")) (t' := (.object "com/example/ruleweave/ruleweave/CommonPolicySchema$Model")) (by decide) (by decide))))
  have K35 := ((((((K0.wr W2 (Or.inl (List.mem_of_getElem? (i := 0) rfl))).wr W7 (Or.inl (List.mem_of_getElem? (i := 0) rfl))).wr W12 (Or.inl (List.mem_of_getElem? (i := 0) rfl))).wr W17 (Or.inl (List.mem_of_getElem? (i := 0) rfl))).wr W22 (Or.inl (List.mem_of_getElem? (i := 0) rfl))).wr W27 (Or.inl (List.mem_of_getElem? (i := 0) rfl)))
  exact own_ret0 X27 hx hlk Bd.returns (hb hby dc13_37) (by decide) (by decide) (by rw [e27]; exact ⟨rfl, N29, K35, f30, f31, f32, f28, f33, f34⟩)
theorem own_pd17 : parseMethodDescriptor "(Ljava/lang/String;Ljava/lang/String;Ljava/util/List;Lcom/example/ruleweave/ruleweave/CommonPolicySchema$Content;Lcom/example/ruleweave/ruleweave/CommonPolicySchema$Datatype;Lcom/example/ruleweave/ruleweave/CommonPolicySchema$Model;)V" = some ⟨[(.object "java/lang/String"), (.object "java/lang/String"), (.object "java/util/List"), (.object "com/example/ruleweave/ruleweave/CommonPolicySchema$Content"), (.object "com/example/ruleweave/ruleweave/CommonPolicySchema$Datatype"), (.object "com/example/ruleweave/ruleweave/CommonPolicySchema$Model")], none⟩ := by decide +kernel
def Q_init_32 (Z : State) (o0 : Addr) (o1 : Addr) (o2 : Addr) (o3 : Addr) (h0 : Heap) (n0 : Nat) (v : Option Value) (h : Heap) (L : List Loc) : Prop := (v = none ∧ Fr n0 L ∧ Keep h0 h [o0] ∧ Fld Z h o0 "com/example/ruleweave/ruleweave/CommonPolicySchema$Term" "localName" "Ljava/lang/String;" (.ref o2) ∧ Fld Z h o0 "com/example/ruleweave/ruleweave/CommonPolicySchema$Term" "namespace" "Ljava/lang/String;" (.ref o1) ∧ Fld Z h o0 "com/example/ruleweave/ruleweave/CommonPolicySchema$Term" "type" "Lcom/example/ruleweave/ruleweave/CommonPolicySchema$Type;" (.ref o3))
set_option maxRecDepth 65536 in
set_option maxHeartbeats 40000000 in
theorem rm_init_32 (l : Launch) (Z : State) (a0 : Array Value) (hw : ∀ d ∈ tables_1, d.before a0 Z = true) (ws : List Jvm.Cond) (o0 : Addr) (o1 : Addr) (o2 : Addr) (o3 : Addr) (h0 : Heap) (n0 : Nat) (Z0 : n0 ≤ h0.size) (P0 : Exa Z h0 o0 "com/example/ruleweave/ruleweave/CommonPolicySchema$Term") (P1 : Fld Z h0 o0 "com/example/ruleweave/ruleweave/CommonPolicySchema$Term" "namespace" "Ljava/lang/String;" .null) (P2 : Fld Z h0 o0 "com/example/ruleweave/ruleweave/CommonPolicySchema$Term" "localName" "Ljava/lang/String;" .null) (P3 : Fld Z h0 o0 "com/example/ruleweave/ruleweave/CommonPolicySchema$Term" "type" "Lcom/example/ruleweave/ruleweave/CommonPolicySchema$Type;" .null) (ge0p : n0 ≤ o0) :
    MetFree l (⟨"com/example/ruleweave/ruleweave/CommonPolicySchema$Term", "<init>", "(Ljava/lang/String;Ljava/lang/String;Lcom/example/ruleweave/ruleweave/CommonPolicySchema$Type;)V"⟩ : MethodName) (head1 (Jvm.Cond.code (⟨"com/example/ruleweave/ruleweave/CommonPolicySchema$Term", "<init>", "(Ljava/lang/String;Ljava/lang/String;Lcom/example/ruleweave/ruleweave/CommonPolicySchema$Type;)V"⟩ : MethodName) prog_17_method_1_code 4 none :: ws) ({ frames := 2, cells := 0, slots := 0, locals := 24 } : Room)) (fun aA U => aA = #[(.ref o0), (.ref o1), (.ref o2), (.ref o3)] ∧ Z.Warmed39 U.vm ∧ U.heap = h0) (fun _ _ _ _ _ => True) (fun _ U o U' => ∃ v L, o = .returned v ∧ Q_init_32 Z o0 o1 o2 o3 h0 n0 v U'.heap L ∧ FrameEnd U o U' L ({ frames := 2, cells := 0, slots := 0, locals := 24 } : Room).cells ({ frames := 2, cells := 0, slots := 0, locals := 24 } : Room).slots) := by
  refine MetFree.of_bodySF (plainFor_of_name own_pn_com_example_ruleweave_ruleweave_CommonPolicySchema_Term) hisR ?_
  intro p e s m args below meth c s₁ Bd hml0 hP hK
  obtain ⟨rfl, hZ, hh⟩ := hP
  have hx := Bd.exec
  have hby := Bd.bytes
  have hlk : meth.locks = false := BodyLoose.notSynchronized Bd
  have hml : c.maxLocals = 4 := hml0
  have hown : s.vm.findClass "com/example/ruleweave/ruleweave/CommonPolicySchema$Term" = some m.cls := findClass_of_methodNamed Bd.named
  have hnm := (name_of_methodNamed Bd.named Bd.method).1
  have X0 : Stand p l e ({ frames := 2, cells := 0, slots := 0, locals := 24 } : Room) s m #[(.ref o0), (.ref o1), (.ref o2), (.ref o3)] below meth c s₁ [] 0 0 := Stand.of_body Bd
  have e0 : s₁.heap = h0 := by rw [← hh, Bd.state]; rfl
  have N0 := Fr.nil n0
  have K0 : Keep h0 h0 [o0] := Keep.refl _ _
  show oG p e below (own_K s (Q_init_32 Z o0 o1 o2 o3 h0 n0) ({ frames := 2, cells := 0, slots := 0, locals := 24 } : Room).cells ({ frames := 2, cells := 0, slots := 0, locals := 24 } : Room).slots) (s₁.setTop (entryFrame m #[(.ref o0), (.ref o1), (.ref o2), (.ref o3)] 4))
  rw [(by first | (simp [entryFrame, mkF, argsToLocals, Value.category]; done) | rfl : entryFrame m #[(.ref o0), (.ref o1), (.ref o2), (.ref o3)] 4 = mkF m 0 #[.val (.ref o0), .val (.ref o1), .val (.ref o2), .val (.ref o3)] [])]
  show oG p e below _ (s₁.setTop (mkF m 0 #[.val (.ref o0), .val (.ref o1), .val (.ref o2), .val (.ref o3)] []))
  refine og (fun _ hr => XS.aloadN X0.here hx rfl (hb hby dc6_0) rfl rfl hr) ?_
  show oG p e below _ (s₁.setTop (mkF m 1 #[.val (.ref o0), .val (.ref o1), .val (.ref o2), .val (.ref o3)] [(.ref o0)]))
  refine own_cp X0 hx hZ hown rfl (hw _ (own_m 37 rfl)) (hw _ (own_m 38 rfl)) (hw _ (own_m 40 rfl)) (hw _ (own_m 41 rfl)) (by decide) (rm := { frames := 1, cells := 0, slots := 0, locals := 12 }) (rm_init_20 l Z a0 hw [] o0 h0 n0 Z0 ) (by decide) (W := 0) (by decide) (by decide) (by decide) e0 (by rw [hml]; rfl) (argsL := []) (lenOf own_pd11 rfl) (rest := []) rfl rfl (Nat.le_of_eq rfl) (hb hby dc6_1) ?_
  intro _ T1 L1 X1 hQ1
  obtain ⟨rfl, N1q, e1⟩ := hQ1
  have N1 := Fr.app N0 N1q
  show oG p e below _ (T1.setTop (mkF m 4 #[.val (.ref o0), .val (.ref o1), .val (.ref o2), .val (.ref o3)] []))
  refine og (fun _ hr => XS.aloadN X1.here hx rfl (hb hby dc6_4) rfl rfl (XS.aloadN X1.here hx rfl (hb hby dc6_5) rfl rfl hr)) ?_
  show oG p e below _ (T1.setTop (mkF m 6 #[.val (.ref o0), .val (.ref o1), .val (.ref o2), .val (.ref o3)] [(.ref o1), (.ref o0)]))
  obtain ⟨T2, h2, X2, e2, W2, st2⟩ := putF X1 hx hZ hown (host := "") (Or.inl (hw _ (own_m 43 rfl))) Via.refl e1 P1 P0 (Or.inr ⟨(hw _ (own_m 44 rfl)), rfl, hnm⟩) (hw _ (own_m 32 rfl)) (ty := (.object "java/lang/String")) (by decide) rfl rfl (g := (mkF m 6 #[.val (.ref o0), .val (.ref o1), .val (.ref o2), .val (.ref o3)] [(.ref o1), (.ref o0)])) rfl rfl (hb hby dc6_6)
  refine og st2 ?_
  have f3 := P1.same W2
  have N4 := Fr.snoc X2 N1 ge0p
  show oG p e below _ (T2.setTop (mkF m 9 #[.val (.ref o0), .val (.ref o1), .val (.ref o2), .val (.ref o3)] []))
  refine og (fun _ hr => XS.aloadN X2.here hx rfl (hb hby dc6_9) rfl rfl (XS.aloadN X2.here hx rfl (hb hby dc6_10) rfl rfl hr)) ?_
  show oG p e below _ (T2.setTop (mkF m 11 #[.val (.ref o0), .val (.ref o1), .val (.ref o2), .val (.ref o3)] [(.ref o2), (.ref o0)]))
  have f5 := (P0.wr W2)
  have f6 := (P2.other W2 (Or.inr (slot_ne (Or.inr (hw _ (own_m 46 rfl))) (Or.inr (hw _ (own_m 44 rfl))) (by decide) (t := (.object "java/lang/String")) (t' := (.object "java/lang/String")) (by decide) (by decide))))
  obtain ⟨T7, h7, X7, e7, W7, st7⟩ := putF X2 hx hZ hown (host := "") (Or.inl (hw _ (own_m 45 rfl))) Via.refl e2 f6 f5 (Or.inr ⟨(hw _ (own_m 46 rfl)), rfl, hnm⟩) (hw _ (own_m 32 rfl)) (ty := (.object "java/lang/String")) (by decide) rfl rfl (g := (mkF m 11 #[.val (.ref o0), .val (.ref o1), .val (.ref o2), .val (.ref o3)] [(.ref o2), (.ref o0)])) rfl rfl (hb hby dc6_11)
  refine og st7 ?_
  have f8 := f6.same W7
  have N9 := Fr.snoc X7 N4 ge0p
  show oG p e below _ (T7.setTop (mkF m 14 #[.val (.ref o0), .val (.ref o1), .val (.ref o2), .val (.ref o3)] []))
  refine og (fun _ hr => XS.aloadN X7.here hx rfl (hb hby dc6_14) rfl rfl (XS.aloadN X7.here hx rfl (hb hby dc6_15) rfl rfl hr)) ?_
  show oG p e below _ (T7.setTop (mkF m 16 #[.val (.ref o0), .val (.ref o1), .val (.ref o2), .val (.ref o3)] [(.ref o3), (.ref o0)]))
  have f10 := (f5.wr W7)
  have f11 := ((P3.other W2 (Or.inr (slot_ne (Or.inr (hw _ (own_m 48 rfl))) (Or.inr (hw _ (own_m 44 rfl))) (by decide) (t := (.object "com/example/ruleweave/ruleweave/CommonPolicySchema$Type")) (t' := (.object "java/lang/String")) (by decide) (by decide)))).other W7 (Or.inr (slot_ne (Or.inr (hw _ (own_m 48 rfl))) (Or.inr (hw _ (own_m 46 rfl))) (by decide) (t := (.object "com/example/ruleweave/ruleweave/CommonPolicySchema$Type")) (t' := (.object "java/lang/String")) (by decide) (by decide))))
  obtain ⟨T12, h12, X12, e12, W12, st12⟩ := putF X7 hx hZ hown (host := "") (Or.inl (hw _ (own_m 47 rfl))) Via.refl e7 f11 f10 (Or.inr ⟨(hw _ (own_m 48 rfl)), rfl, hnm⟩) (hw _ (own_m 32 rfl)) (ty := (.object "com/example/ruleweave/ruleweave/CommonPolicySchema$Type")) (by decide) rfl rfl (g := (mkF m 16 #[.val (.ref o0), .val (.ref o1), .val (.ref o2), .val (.ref o3)] [(.ref o3), (.ref o0)])) rfl rfl (hb hby dc6_16)
  refine og st12 ?_
  have f13 := f11.same W12
  have N14 := Fr.snoc X12 N9 ge0p
  show oG p e below _ (T12.setTop (mkF m 19 #[.val (.ref o0), .val (.ref o1), .val (.ref o2), .val (.ref o3)] []))
  have f15 := (f8.other W12 (Or.inr (slot_ne (Or.inr (hw _ (own_m 46 rfl))) (Or.inr (hw _ (own_m 48 rfl))) (by decide) (t := (.object "java/lang/String")) (t' := (.object "com/example/ruleweave/ruleweave/CommonPolicySchema$Type")) (by decide) (by decide))))
  have f16 := ((f3.other W7 (Or.inr (slot_ne (Or.inr (hw _ (own_m 44 rfl))) (Or.inr (hw _ (own_m 46 rfl))) (by decide) (t := (.object "java/lang/String")) (t' := (.object "java/lang/String")) (by decide) (by decide)))).other W12 (Or.inr (slot_ne (Or.inr (hw _ (own_m 44 rfl))) (Or.inr (hw _ (own_m 48 rfl))) (by decide) (t := (.object "java/lang/String")) (t' := (.object "com/example/ruleweave/ruleweave/CommonPolicySchema$Type")) (by decide) (by decide))))
  have K17 := (((K0.wr W2 (Or.inl (List.mem_of_getElem? (i := 0) rfl))).wr W7 (Or.inl (List.mem_of_getElem? (i := 0) rfl))).wr W12 (Or.inl (List.mem_of_getElem? (i := 0) rfl)))
  exact own_ret0 X12 hx hlk Bd.returns (hb hby dc6_19) (by decide) (by decide) (by rw [e12]; exact ⟨rfl, N14, K17, f15, f16, f13⟩)
theorem own_pd18 : parseMethodDescriptor "([CI[CI)Z" = some ⟨[(.array .char), .int, (.array .char), .int], some .boolean⟩ := by decide +kernel
theorem dc8_29 : decode prog_17_method_2_code 29 = .ok (.aload_n 1, 1) := by decide +kernel
theorem dc8_30 : decode prog_17_method_2_code 30 = .ok (.aload_n 0, 1) := by decide +kernel
theorem dc8_31 : decode prog_17_method_2_code 31 = .ok (.getfield 7, 3) := by decide +kernel
theorem dc8_34 : decode prog_17_method_2_code 34 = .ok (.invokevirtual 30, 3) := by decide +kernel
def Q_equals_33 (Z : State) (h0 : Heap) (n0 : Nat) (v : Option Value) (h : Heap) (L : List Loc) : Prop := v = some (.int (0 : Int32)) ∧ Fr n0 L ∧ h = h0
set_option maxRecDepth 65536 in
set_option maxHeartbeats 40000000 in
theorem rm_equals_33 (l : Launch) (Z : State) (a0 : Array Value) (hw : ∀ d ∈ tables_1, d.before a0 Z = true) (ws : List Jvm.Cond) (o0 : Addr) (o1 : Addr) (y0 : Int32) (o2 : Addr) (o3 : Addr) (y1 : Int32) (y2 : Int32) (y3 : Int32) (y4 : Int32) (kc0 : ClassId) (y5 : Int32) (y6 : Int32) (y7 : Int32) (y8 : Int32) (kc1 : ClassId) (h0 : Heap) (n0 : Nat) (Z0 : n0 ≤ h0.size) (P0 : Exa Z h0 o1 "java/lang/String") (P1 : Sta Z h0 "java/lang/String" "COMPACT_STRINGS" "Z" (.int y0)) (P2 : Fld Z h0 o0 "java/lang/String" "coder" "B" (.int (0 : Int32))) (P3 : Fld Z h0 o1 "java/lang/String" "coder" "B" (.int (0 : Int32))) (P4 : Fld Z h0 o0 "java/lang/String" "value" "[B" (.ref o2)) (P5 : Fld Z h0 o1 "java/lang/String" "value" "[B" (.ref o3)) (P6 : Arv Z h0 o2 kc0 .byte y1 (own_sl y2 y3 y4 y1) (.int (0 : Int32))) (P7 : Arv Z h0 o3 kc1 .byte y5 (own_sl y6 y7 y8 y5) (.int (0 : Int32))) (ne0p : o0 ≠ o1) (hb0 : ¬ (y0 = (0 : Int32))) (hb1 : ¬ (y1 < (0 : Int32))) (hb2 : ¬ ((3 : Int32) < y1)) (hb3 : ¬ (y5 < (0 : Int32))) (hb4 : ¬ ((3 : Int32) < y5)) (hb5 : (own_leq y2 y3 y4 y1 y6 y7 y8 y5) = (0 : Int32)) :
    MetFree l (⟨"java/lang/String", "equals", "(Ljava/lang/Object;)Z"⟩ : MethodName) (head1 (Jvm.Cond.code (⟨"java/lang/String", "equals", "(Ljava/lang/Object;)Z"⟩ : MethodName) jdk_42_method_66_code 3 (some .boolean) :: ws) ({ frames := 1, cells := 0, slots := 0, locals := 14 } : Room)) (fun aA U => aA = #[(.ref o0), (.ref o1)] ∧ Z.Warmed39 U.vm ∧ U.heap = h0) (fun _ _ _ _ _ => True) (fun _ U o U' => ∃ v L, o = .returned v ∧ Q_equals_33 Z h0 n0 v U'.heap L ∧ FrameEnd U o U' L ({ frames := 1, cells := 0, slots := 0, locals := 14 } : Room).cells ({ frames := 1, cells := 0, slots := 0, locals := 14 } : Room).slots) := by
  refine MetFree.of_bodySF (plainFor_of_name own_pn_java_lang_String) hisR ?_
  intro p e s m args below meth c s₁ Bd hml0 hP hK
  obtain ⟨rfl, hZ, hh⟩ := hP
  have hx := Bd.exec
  have hby := Bd.bytes
  have hlk : meth.locks = false := BodyLoose.notSynchronized Bd
  have hml : c.maxLocals = 3 := hml0
  have hown : s.vm.findClass "java/lang/String" = some m.cls := findClass_of_methodNamed Bd.named
  have hnm := (name_of_methodNamed Bd.named Bd.method).1
  have X0 : Stand p l e ({ frames := 1, cells := 0, slots := 0, locals := 14 } : Room) s m #[(.ref o0), (.ref o1)] below meth c s₁ [] 0 0 := Stand.of_body Bd
  have e0 : s₁.heap = h0 := by rw [← hh, Bd.state]; rfl
  have N0 := Fr.nil n0
  show oG p e below (own_K s (Q_equals_33 Z h0 n0) ({ frames := 1, cells := 0, slots := 0, locals := 14 } : Room).cells ({ frames := 1, cells := 0, slots := 0, locals := 14 } : Room).slots) (s₁.setTop (entryFrame m #[(.ref o0), (.ref o1)] 3))
  rw [(by first | (simp [entryFrame, mkF, argsToLocals, Value.category]; done) | rfl : entryFrame m #[(.ref o0), (.ref o1)] 3 = mkF m 0 #[.val (.ref o0), .val (.ref o1), .unset] [])]
  show oG p e below _ (s₁.setTop (mkF m 0 #[.val (.ref o0), .val (.ref o1), .unset] []))
  refine og (fun _ hr => XS.aloadN X0.here hx rfl (hb hby dc15_0) rfl rfl (XS.aloadN X0.here hx rfl (hb hby dc15_1) rfl rfl hr)) ?_
  show oG p e below _ (s₁.setTop (mkF m 2 #[.val (.ref o0), .val (.ref o1), .unset] [(.ref o1), (.ref o0)]))
  refine og (fun _ hr => Jvm.RoadKit.acmp X0 hx rfl rfl rfl (pc0 := 2) (pc' := 7) (same := false) rfl (hb hby dc15_2) rfl (decide_eq_false fun q => ne0p (Value.ref.inj q)) (by decide) (by decide) hr) ?_
  show oG p e below _ (s₁.setTop (mkF m 7 #[.val (.ref o0), .val (.ref o1), .unset] []))
  refine og (fun _ hr => XS.aloadN X0.here hx rfl (hb hby dc15_7) rfl rfl hr) ?_
  show oG p e below _ (s₁.setTop (mkF m 8 #[.val (.ref o0), .val (.ref o1), .unset] [(.ref o1)]))
  obtain ⟨T1, X1, e1, st1⟩ := instY X0 hx hZ hown (hw _ (own_m 97 rfl)) e0 (Ins.self P0) (g := (mkF m 8 #[.val (.ref o0), .val (.ref o1), .unset] [(.ref o1)])) rfl rfl (hb hby dc15_8)
  refine og st1 ?_
  show oG p e below _ (T1.setTop (mkF m 11 #[.val (.ref o0), .val (.ref o1), .unset] [(.int (1 : Int32))]))
  refine og (fun _ hr => XS.ifNo X1.here hx rfl (hb hby dc15_11) rfl ((if0 _ _).trans (feq (by decide)).1) (XS.aloadN X1.here hx rfl (hb hby dc15_14) rfl rfl hr)) ?_
  show oG p e below _ (T1.setTop (mkF m 15 #[.val (.ref o0), .val (.ref o1), .unset] [(.ref o1)]))
  obtain ⟨T2, X2, e2, st2⟩ := castY X1 hx hZ hown (hw _ (own_m 97 rfl)) e1 (Ins.self P0) (g := (mkF m 15 #[.val (.ref o0), .val (.ref o1), .unset] [(.ref o1)])) rfl rfl (hb hby dc15_15)
  refine og st2 ?_
  show oG p e below _ (T2.setTop (mkF m 18 #[.val (.ref o0), .val (.ref o1), .unset] [(.ref o1)]))
  refine og (fun _ hr => XS.astoreN X2.here hx rfl (hb hby dc15_18) rfl rfl (l' := #[.val (.ref o0), .val (.ref o1), .val (.ref o1)]) rfl hr) ?_
  show oG p e below _ (T2.setTop (mkF m 19 #[.val (.ref o0), .val (.ref o1), .val (.ref o1)] []))
  obtain ⟨T3, X3, e3, st3⟩ := getS2 X2 hx hZ hown (host := "") (Or.inl (hw _ (own_m 59 rfl))) Via.refl e2 P1 (g := (mkF m 19 #[.val (.ref o0), .val (.ref o1), .val (.ref o1)] [])) rfl (hb hby dc15_19)
  refine og st3 ?_
  show oG p e below _ (T3.setTop (mkF m 22 #[.val (.ref o0), .val (.ref o1), .val (.ref o1)] [(.int y0)]))
  refine og (fun _ hr => XS.ifNo X3.here hx rfl (hb hby dc15_22) rfl ((if0 _ _).trans (feq hb0).1) hr) ?_
  show oG p e below _ (T3.setTop (mkF m 25 #[.val (.ref o0), .val (.ref o1), .val (.ref o1)] []))
  refine og (fun _ hr => XS.aloadN X3.here hx rfl (hb hby dc15_25) rfl rfl hr) ?_
  show oG p e below _ (T3.setTop (mkF m 26 #[.val (.ref o0), .val (.ref o1), .val (.ref o1)] [(.ref o0)]))
  obtain ⟨T4, X4, e4, st4⟩ := getF X3 hx hZ hown (host := "") (Or.inl (hw _ (own_m 30 rfl))) Via.refl e3 P2 (g := (mkF m 26 #[.val (.ref o0), .val (.ref o1), .val (.ref o1)] [(.ref o0)])) rfl rfl (hb hby dc15_26)
  refine og st4 ?_
  show oG p e below _ (T4.setTop (mkF m 29 #[.val (.ref o0), .val (.ref o1), .val (.ref o1)] [(.int (0 : Int32))]))
  refine og (fun _ hr => XS.aloadN X4.here hx rfl (hb hby dc15_29) rfl rfl hr) ?_
  show oG p e below _ (T4.setTop (mkF m 30 #[.val (.ref o0), .val (.ref o1), .val (.ref o1)] [(.ref o1), (.int (0 : Int32))]))
  obtain ⟨T5, X5, e5, st5⟩ := getF X4 hx hZ hown (host := "") (Or.inl (hw _ (own_m 30 rfl))) Via.refl e4 P3 (g := (mkF m 30 #[.val (.ref o0), .val (.ref o1), .val (.ref o1)] [(.ref o1), (.int (0 : Int32))])) rfl rfl (hb hby dc15_30)
  refine og st5 ?_
  show oG p e below _ (T5.setTop (mkF m 33 #[.val (.ref o0), .val (.ref o1), .val (.ref o1)] [(.int (0 : Int32)), (.int (0 : Int32))]))
  refine og (fun _ hr => XS.icmpNo X5.here hx rfl (hb hby dc15_33) rfl (teq (by decide)).2 (XS.aloadN X5.here hx rfl (hb hby dc15_36) rfl rfl hr)) ?_
  show oG p e below _ (T5.setTop (mkF m 37 #[.val (.ref o0), .val (.ref o1), .val (.ref o1)] [(.ref o0)]))
  obtain ⟨T6, X6, e6, st6⟩ := getF X5 hx hZ hown (host := "") (Or.inl (hw _ (own_m 29 rfl))) Via.refl e5 P4 (g := (mkF m 37 #[.val (.ref o0), .val (.ref o1), .val (.ref o1)] [(.ref o0)])) rfl rfl (hb hby dc15_37)
  refine og st6 ?_
  show oG p e below _ (T6.setTop (mkF m 40 #[.val (.ref o0), .val (.ref o1), .val (.ref o1)] [(.ref o2)]))
  refine og (fun _ hr => XS.aloadN X6.here hx rfl (hb hby dc15_40) rfl rfl hr) ?_
  show oG p e below _ (T6.setTop (mkF m 41 #[.val (.ref o0), .val (.ref o1), .val (.ref o1)] [(.ref o1), (.ref o2)]))
  obtain ⟨T7, X7, e7, st7⟩ := getF X6 hx hZ hown (host := "") (Or.inl (hw _ (own_m 29 rfl))) Via.refl e6 P5 (g := (mkF m 41 #[.val (.ref o0), .val (.ref o1), .val (.ref o1)] [(.ref o1), (.ref o2)])) rfl rfl (hb hby dc15_41)
  refine og st7 ?_
  show oG p e below _ (T7.setTop (mkF m 44 #[.val (.ref o0), .val (.ref o1), .val (.ref o1)] [(.ref o3), (.ref o2)]))
  refine own_cs X7 hx hZ hown (hw _ (own_m 98 rfl)) (hw _ (own_m 99 rfl)) (hw _ (own_m 100 rfl)) (hw _ (own_m 101 rfl)) (by decide) (rm := { frames := 0, cells := 0, slots := 0, locals := 0 }) (rm_leq l Z a0 hw [] o2 o3 kc0 kc1 y2 y3 y4 y1 y6 y7 y8 y5 h0 n0 Z0 P6 P7 hb1 hb2 hb3 hb4) (by decide) (W := 0) (by decide) (by decide) (by decide) e7 (by rw [hml]; rfl) (argsL := [(.ref o2), (.ref o3)]) (lenOf own_pd15 rfl) (rest := []) rfl rfl (Nat.le_of_eq rfl) (hb hby dc15_44) ?_
  intro _ T8 L8 X8 hQ8
  obtain ⟨rfl, N8q, e8⟩ := hQ8
  have N8 := Fr.app N0 N8q
  show oG p e below _ (T8.setTop (mkF m 47 #[.val (.ref o0), .val (.ref o1), .val (.ref o1)] [(.int (own_leq y2 y3 y4 y1 y6 y7 y8 y5))]))
  refine og (fun _ hr => XS.ifYes X8.here hx rfl (pc0 := 47) (pc' := 54) rfl (hb hby dc15_47) rfl ((if0 _ _).trans (teq hb5).1) (by decide) (by decide) hr) ?_
  show oG p e below _ (T8.setTop (mkF m 54 #[.val (.ref o0), .val (.ref o1), .val (.ref o1)] []))
  refine og (fun _ hr => XS.iconst X8.here hx rfl (hb hby dc15_54) hr) ?_
  show oG p e below _ (T8.setTop (mkF m 55 #[.val (.ref o0), .val (.ref o1), .val (.ref o1)] [(.int (0 : Int32))]))
  exact own_retN X8 hx hlk Bd.returns (t := .boolean) (by simp) (hb hby dc15_55) (by decide) (by decide) ⟨rfl, N8, e8⟩
theorem dc8_37 : decode prog_17_method_2_code 37 = .ok (.ifCond .eq 18, 3) := by decide +kernel
theorem dc8_55 : decode prog_17_method_2_code 55 = .ok (.iconst 0, 1) := by decide +kernel
theorem dc8_56 : decode prog_17_method_2_code 56 = .ok (.ireturn, 1) := by decide +kernel
def Q_admits_34 (Z : State) (h0 : Heap) (n0 : Nat) (v : Option Value) (h : Heap) (L : List Loc) : Prop := v = some (.int (0 : Int32)) ∧ Fr n0 L ∧ h = h0
set_option maxRecDepth 65536 in
set_option maxHeartbeats 40000000 in
theorem rm_admits_34 (l : Launch) (Z : State) (a0 : Array Value) (hw : ∀ d ∈ tables_1, d.before a0 Z = true) (ws : List Jvm.Cond) (o0 : Addr) (o1 : Addr) (o2 : Addr) (o3 : Addr) (o4 : Addr) (y0 : Int32) (o5 : Addr) (o6 : Addr) (y1 : Int32) (y2 : Int32) (y3 : Int32) (y4 : Int32) (kc0 : ClassId) (y5 : Int32) (y6 : Int32) (y7 : Int32) (y8 : Int32) (kc1 : ClassId) (h0 : Heap) (n0 : Nat) (Z0 : n0 ≤ h0.size) (P0 : Fld Z h0 o0 "com/example/ruleweave/ruleweave/CommonPolicySchema$Term" "type" "Lcom/example/ruleweave/ruleweave/CommonPolicySchema$Type;" (.ref o3)) (P1 : Fld Z h0 o0 "com/example/ruleweave/ruleweave/CommonPolicySchema$Term" "namespace" "Ljava/lang/String;" (.ref o4)) (P2 : Exa Z h0 o4 "java/lang/String") (P3 : Sta Z h0 "java/lang/String" "COMPACT_STRINGS" "Z" (.int y0)) (P4 : Fld Z h0 o1 "java/lang/String" "coder" "B" (.int (0 : Int32))) (P5 : Fld Z h0 o4 "java/lang/String" "coder" "B" (.int (0 : Int32))) (P6 : Fld Z h0 o1 "java/lang/String" "value" "[B" (.ref o5)) (P7 : Fld Z h0 o4 "java/lang/String" "value" "[B" (.ref o6)) (P8 : Arv Z h0 o5 kc0 .byte y1 (own_sl y2 y3 y4 y1) (.int (0 : Int32))) (P9 : Arv Z h0 o6 kc1 .byte y5 (own_sl y6 y7 y8 y5) (.int (0 : Int32))) (P10 : Exa Z h0 o1 "java/lang/String") (ne0p : o1 ≠ o4) (hb0 : ¬ (y0 = (0 : Int32))) (hb1 : ¬ (y1 < (0 : Int32))) (hb2 : ¬ ((3 : Int32) < y1)) (hb3 : ¬ (y5 < (0 : Int32))) (hb4 : ¬ ((3 : Int32) < y5)) (hb5 : (own_leq y2 y3 y4 y1 y6 y7 y8 y5) = (0 : Int32)) :
    MetFree l (⟨"com/example/ruleweave/ruleweave/CommonPolicySchema$Term", "admits", "(Ljava/lang/String;Ljava/lang/String;)Z"⟩ : MethodName) (head1 (Jvm.Cond.code (⟨"com/example/ruleweave/ruleweave/CommonPolicySchema$Term", "admits", "(Ljava/lang/String;Ljava/lang/String;)Z"⟩ : MethodName) prog_17_method_2_code 3 (some .boolean) :: ws) ({ frames := 2, cells := 0, slots := 0, locals := 28 } : Room)) (fun aA U => aA = #[(.ref o0), (.ref o1), (.ref o2)] ∧ Z.Warmed39 U.vm ∧ U.heap = h0) (fun _ _ _ _ _ => True) (fun _ U o U' => ∃ v L, o = .returned v ∧ Q_admits_34 Z h0 n0 v U'.heap L ∧ FrameEnd U o U' L ({ frames := 2, cells := 0, slots := 0, locals := 28 } : Room).cells ({ frames := 2, cells := 0, slots := 0, locals := 28 } : Room).slots) := by
  refine MetFree.of_bodySF (plainFor_of_name own_pn_com_example_ruleweave_ruleweave_CommonPolicySchema_Term) hisR ?_
  intro p e s m args below meth c s₁ Bd hml0 hP hK
  obtain ⟨rfl, hZ, hh⟩ := hP
  have hx := Bd.exec
  have hby := Bd.bytes
  have hlk : meth.locks = false := BodyLoose.notSynchronized Bd
  have hml : c.maxLocals = 3 := hml0
  have hown : s.vm.findClass "com/example/ruleweave/ruleweave/CommonPolicySchema$Term" = some m.cls := findClass_of_methodNamed Bd.named
  have hnm := (name_of_methodNamed Bd.named Bd.method).1
  have X0 : Stand p l e ({ frames := 2, cells := 0, slots := 0, locals := 28 } : Room) s m #[(.ref o0), (.ref o1), (.ref o2)] below meth c s₁ [] 0 0 := Stand.of_body Bd
  have e0 : s₁.heap = h0 := by rw [← hh, Bd.state]; rfl
  have N0 := Fr.nil n0
  show oG p e below (own_K s (Q_admits_34 Z h0 n0) ({ frames := 2, cells := 0, slots := 0, locals := 28 } : Room).cells ({ frames := 2, cells := 0, slots := 0, locals := 28 } : Room).slots) (s₁.setTop (entryFrame m #[(.ref o0), (.ref o1), (.ref o2)] 3))
  rw [(by first | (simp [entryFrame, mkF, argsToLocals, Value.category]; done) | rfl : entryFrame m #[(.ref o0), (.ref o1), (.ref o2)] 3 = mkF m 0 #[.val (.ref o0), .val (.ref o1), .val (.ref o2)] [])]
  show oG p e below _ (s₁.setTop (mkF m 0 #[.val (.ref o0), .val (.ref o1), .val (.ref o2)] []))
  refine og (fun _ hr => XS.aloadN X0.here hx rfl (hb hby dc8_0) rfl rfl hr) ?_
  show oG p e below _ (s₁.setTop (mkF m 1 #[.val (.ref o0), .val (.ref o1), .val (.ref o2)] [(.ref o0)]))
  obtain ⟨T1, X1, e1, st1⟩ := getF X0 hx hZ hown (host := "") (Or.inl (hw _ (own_m 47 rfl))) Via.refl e0 P0 (g := (mkF m 1 #[.val (.ref o0), .val (.ref o1), .val (.ref o2)] [(.ref o0)])) rfl rfl (hb hby dc8_1)
  refine og st1 ?_
  show oG p e below _ (T1.setTop (mkF m 4 #[.val (.ref o0), .val (.ref o1), .val (.ref o2)] [(.ref o3)]))
  refine og (fun _ hr => XS.ifnonnullYes X1.here hx rfl (pc0 := 4) (pc' := 29) rfl (hb hby dc8_4) rfl (by decide) (by decide) hr) ?_
  show oG p e below _ (T1.setTop (mkF m 29 #[.val (.ref o0), .val (.ref o1), .val (.ref o2)] []))
  refine og (fun _ hr => XS.aloadN X1.here hx rfl (hb hby dc8_29) rfl rfl (XS.aloadN X1.here hx rfl (hb hby dc8_30) rfl rfl hr)) ?_
  show oG p e below _ (T1.setTop (mkF m 31 #[.val (.ref o0), .val (.ref o1), .val (.ref o2)] [(.ref o0), (.ref o1)]))
  obtain ⟨T2, X2, e2, st2⟩ := getF X1 hx hZ hown (host := "") (Or.inl (hw _ (own_m 43 rfl))) Via.refl e1 P1 (g := (mkF m 31 #[.val (.ref o0), .val (.ref o1), .val (.ref o2)] [(.ref o0), (.ref o1)])) rfl rfl (hb hby dc8_31)
  refine og st2 ?_
  show oG p e below _ (T2.setTop (mkF m 34 #[.val (.ref o0), .val (.ref o1), .val (.ref o2)] [(.ref o4), (.ref o1)]))
  refine own_cv X2 hx hZ hown (notFace_of_selects (args := #[]) (mvT hZ (hw _ (own_m 95 rfl)))) (hw _ (own_m 92 rfl)) (hw _ (own_m 93 rfl)) (hw _ (own_m 95 rfl)) (hw _ (own_m 94 rfl)) (hw _ (own_m 7 rfl)) (hw _ (own_m 96 rfl)) (by decide) P10 (rm := { frames := 1, cells := 0, slots := 0, locals := 14 }) (rm_equals_33 l Z a0 hw [] o1 o4 y0 o5 o6 y1 y2 y3 y4 kc0 y5 y6 y7 y8 kc1 h0 n0 Z0 P2 P3 P4 P5 P6 P7 P8 P9 ne0p hb0 hb1 hb2 hb3 hb4 hb5) (by decide) (W := 0) (by decide) (by decide) (by decide) e2 (by rw [hml]; rfl) (argsL := [(.ref o4)]) (lenOf own_pd16 rfl) (rest := []) rfl rfl (Nat.le_of_eq rfl) (hb hby dc8_34) ?_
  intro _ T3 L3 X3 hQ3
  obtain ⟨rfl, N3q, e3⟩ := hQ3
  have N3 := Fr.app N0 N3q
  show oG p e below _ (T3.setTop (mkF m 37 #[.val (.ref o0), .val (.ref o1), .val (.ref o2)] [(.int (0 : Int32))]))
  refine og (fun _ hr => XS.ifYes X3.here hx rfl (pc0 := 37) (pc' := 55) rfl (hb hby dc8_37) rfl ((if0 _ _).trans (teq (by decide)).1) (by decide) (by decide) (XS.iconst X3.here hx rfl (hb hby dc8_55) hr)) ?_
  show oG p e below _ (T3.setTop (mkF m 56 #[.val (.ref o0), .val (.ref o1), .val (.ref o2)] [(.int (0 : Int32))]))
  exact own_retN X3 hx hlk Bd.returns (t := .boolean) (by simp) (hb hby dc8_56) (by decide) (by decide) ⟨rfl, N3, e3⟩
def Q_equals_35 (Z : State) (h0 : Heap) (n0 : Nat) (v : Option Value) (h : Heap) (L : List Loc) : Prop := v = some (.int (1 : Int32)) ∧ Fr n0 L ∧ h = h0
set_option maxRecDepth 65536 in
set_option maxHeartbeats 40000000 in
theorem rm_equals_35 (l : Launch) (Z : State) (a0 : Array Value) (hw : ∀ d ∈ tables_1, d.before a0 Z = true) (ws : List Jvm.Cond) (o0 : Addr) (o1 : Addr) (y0 : Int32) (o2 : Addr) (o3 : Addr) (y1 : Int32) (y2 : Int32) (y3 : Int32) (y4 : Int32) (kc0 : ClassId) (y5 : Int32) (y6 : Int32) (y7 : Int32) (y8 : Int32) (kc1 : ClassId) (h0 : Heap) (n0 : Nat) (Z0 : n0 ≤ h0.size) (P0 : Exa Z h0 o1 "java/lang/String") (P1 : Sta Z h0 "java/lang/String" "COMPACT_STRINGS" "Z" (.int y0)) (P2 : Fld Z h0 o0 "java/lang/String" "coder" "B" (.int (0 : Int32))) (P3 : Fld Z h0 o1 "java/lang/String" "coder" "B" (.int (0 : Int32))) (P4 : Fld Z h0 o0 "java/lang/String" "value" "[B" (.ref o2)) (P5 : Fld Z h0 o1 "java/lang/String" "value" "[B" (.ref o3)) (P6 : Arv Z h0 o2 kc0 .byte y1 (own_sl y2 y3 y4 y1) (.int (0 : Int32))) (P7 : Arv Z h0 o3 kc1 .byte y5 (own_sl y6 y7 y8 y5) (.int (0 : Int32))) (ne0p : o0 ≠ o1) (hb0 : ¬ (y0 = (0 : Int32))) (hb1 : ¬ (y1 < (0 : Int32))) (hb2 : ¬ ((3 : Int32) < y1)) (hb3 : ¬ (y5 < (0 : Int32))) (hb4 : ¬ ((3 : Int32) < y5)) (hb5 : ¬ ((own_leq y2 y3 y4 y1 y6 y7 y8 y5) = (0 : Int32))) :
    MetFree l (⟨"java/lang/String", "equals", "(Ljava/lang/Object;)Z"⟩ : MethodName) (head1 (Jvm.Cond.code (⟨"java/lang/String", "equals", "(Ljava/lang/Object;)Z"⟩ : MethodName) jdk_42_method_66_code 3 (some .boolean) :: ws) ({ frames := 1, cells := 0, slots := 0, locals := 14 } : Room)) (fun aA U => aA = #[(.ref o0), (.ref o1)] ∧ Z.Warmed39 U.vm ∧ U.heap = h0) (fun _ _ _ _ _ => True) (fun _ U o U' => ∃ v L, o = .returned v ∧ Q_equals_35 Z h0 n0 v U'.heap L ∧ FrameEnd U o U' L ({ frames := 1, cells := 0, slots := 0, locals := 14 } : Room).cells ({ frames := 1, cells := 0, slots := 0, locals := 14 } : Room).slots) := by
  refine MetFree.of_bodySF (plainFor_of_name own_pn_java_lang_String) hisR ?_
  intro p e s m args below meth c s₁ Bd hml0 hP hK
  obtain ⟨rfl, hZ, hh⟩ := hP
  have hx := Bd.exec
  have hby := Bd.bytes
  have hlk : meth.locks = false := BodyLoose.notSynchronized Bd
  have hml : c.maxLocals = 3 := hml0
  have hown : s.vm.findClass "java/lang/String" = some m.cls := findClass_of_methodNamed Bd.named
  have hnm := (name_of_methodNamed Bd.named Bd.method).1
  have X0 : Stand p l e ({ frames := 1, cells := 0, slots := 0, locals := 14 } : Room) s m #[(.ref o0), (.ref o1)] below meth c s₁ [] 0 0 := Stand.of_body Bd
  have e0 : s₁.heap = h0 := by rw [← hh, Bd.state]; rfl
  have N0 := Fr.nil n0
  show oG p e below (own_K s (Q_equals_35 Z h0 n0) ({ frames := 1, cells := 0, slots := 0, locals := 14 } : Room).cells ({ frames := 1, cells := 0, slots := 0, locals := 14 } : Room).slots) (s₁.setTop (entryFrame m #[(.ref o0), (.ref o1)] 3))
  rw [(by first | (simp [entryFrame, mkF, argsToLocals, Value.category]; done) | rfl : entryFrame m #[(.ref o0), (.ref o1)] 3 = mkF m 0 #[.val (.ref o0), .val (.ref o1), .unset] [])]
  show oG p e below _ (s₁.setTop (mkF m 0 #[.val (.ref o0), .val (.ref o1), .unset] []))
  refine og (fun _ hr => XS.aloadN X0.here hx rfl (hb hby dc15_0) rfl rfl (XS.aloadN X0.here hx rfl (hb hby dc15_1) rfl rfl hr)) ?_
  show oG p e below _ (s₁.setTop (mkF m 2 #[.val (.ref o0), .val (.ref o1), .unset] [(.ref o1), (.ref o0)]))
  refine og (fun _ hr => Jvm.RoadKit.acmp X0 hx rfl rfl rfl (pc0 := 2) (pc' := 7) (same := false) rfl (hb hby dc15_2) rfl (decide_eq_false fun q => ne0p (Value.ref.inj q)) (by decide) (by decide) hr) ?_
  show oG p e below _ (s₁.setTop (mkF m 7 #[.val (.ref o0), .val (.ref o1), .unset] []))
  refine og (fun _ hr => XS.aloadN X0.here hx rfl (hb hby dc15_7) rfl rfl hr) ?_
  show oG p e below _ (s₁.setTop (mkF m 8 #[.val (.ref o0), .val (.ref o1), .unset] [(.ref o1)]))
  obtain ⟨T1, X1, e1, st1⟩ := instY X0 hx hZ hown (hw _ (own_m 97 rfl)) e0 (Ins.self P0) (g := (mkF m 8 #[.val (.ref o0), .val (.ref o1), .unset] [(.ref o1)])) rfl rfl (hb hby dc15_8)
  refine og st1 ?_
  show oG p e below _ (T1.setTop (mkF m 11 #[.val (.ref o0), .val (.ref o1), .unset] [(.int (1 : Int32))]))
  refine og (fun _ hr => XS.ifNo X1.here hx rfl (hb hby dc15_11) rfl ((if0 _ _).trans (feq (by decide)).1) (XS.aloadN X1.here hx rfl (hb hby dc15_14) rfl rfl hr)) ?_
  show oG p e below _ (T1.setTop (mkF m 15 #[.val (.ref o0), .val (.ref o1), .unset] [(.ref o1)]))
  obtain ⟨T2, X2, e2, st2⟩ := castY X1 hx hZ hown (hw _ (own_m 97 rfl)) e1 (Ins.self P0) (g := (mkF m 15 #[.val (.ref o0), .val (.ref o1), .unset] [(.ref o1)])) rfl rfl (hb hby dc15_15)
  refine og st2 ?_
  show oG p e below _ (T2.setTop (mkF m 18 #[.val (.ref o0), .val (.ref o1), .unset] [(.ref o1)]))
  refine og (fun _ hr => XS.astoreN X2.here hx rfl (hb hby dc15_18) rfl rfl (l' := #[.val (.ref o0), .val (.ref o1), .val (.ref o1)]) rfl hr) ?_
  show oG p e below _ (T2.setTop (mkF m 19 #[.val (.ref o0), .val (.ref o1), .val (.ref o1)] []))
  obtain ⟨T3, X3, e3, st3⟩ := getS2 X2 hx hZ hown (host := "") (Or.inl (hw _ (own_m 59 rfl))) Via.refl e2 P1 (g := (mkF m 19 #[.val (.ref o0), .val (.ref o1), .val (.ref o1)] [])) rfl (hb hby dc15_19)
  refine og st3 ?_
  show oG p e below _ (T3.setTop (mkF m 22 #[.val (.ref o0), .val (.ref o1), .val (.ref o1)] [(.int y0)]))
  refine og (fun _ hr => XS.ifNo X3.here hx rfl (hb hby dc15_22) rfl ((if0 _ _).trans (feq hb0).1) hr) ?_
  show oG p e below _ (T3.setTop (mkF m 25 #[.val (.ref o0), .val (.ref o1), .val (.ref o1)] []))
  refine og (fun _ hr => XS.aloadN X3.here hx rfl (hb hby dc15_25) rfl rfl hr) ?_
  show oG p e below _ (T3.setTop (mkF m 26 #[.val (.ref o0), .val (.ref o1), .val (.ref o1)] [(.ref o0)]))
  obtain ⟨T4, X4, e4, st4⟩ := getF X3 hx hZ hown (host := "") (Or.inl (hw _ (own_m 30 rfl))) Via.refl e3 P2 (g := (mkF m 26 #[.val (.ref o0), .val (.ref o1), .val (.ref o1)] [(.ref o0)])) rfl rfl (hb hby dc15_26)
  refine og st4 ?_
  show oG p e below _ (T4.setTop (mkF m 29 #[.val (.ref o0), .val (.ref o1), .val (.ref o1)] [(.int (0 : Int32))]))
  refine og (fun _ hr => XS.aloadN X4.here hx rfl (hb hby dc15_29) rfl rfl hr) ?_
  show oG p e below _ (T4.setTop (mkF m 30 #[.val (.ref o0), .val (.ref o1), .val (.ref o1)] [(.ref o1), (.int (0 : Int32))]))
  obtain ⟨T5, X5, e5, st5⟩ := getF X4 hx hZ hown (host := "") (Or.inl (hw _ (own_m 30 rfl))) Via.refl e4 P3 (g := (mkF m 30 #[.val (.ref o0), .val (.ref o1), .val (.ref o1)] [(.ref o1), (.int (0 : Int32))])) rfl rfl (hb hby dc15_30)
  refine og st5 ?_
  show oG p e below _ (T5.setTop (mkF m 33 #[.val (.ref o0), .val (.ref o1), .val (.ref o1)] [(.int (0 : Int32)), (.int (0 : Int32))]))
  refine og (fun _ hr => XS.icmpNo X5.here hx rfl (hb hby dc15_33) rfl (teq (by decide)).2 (XS.aloadN X5.here hx rfl (hb hby dc15_36) rfl rfl hr)) ?_
  show oG p e below _ (T5.setTop (mkF m 37 #[.val (.ref o0), .val (.ref o1), .val (.ref o1)] [(.ref o0)]))
  obtain ⟨T6, X6, e6, st6⟩ := getF X5 hx hZ hown (host := "") (Or.inl (hw _ (own_m 29 rfl))) Via.refl e5 P4 (g := (mkF m 37 #[.val (.ref o0), .val (.ref o1), .val (.ref o1)] [(.ref o0)])) rfl rfl (hb hby dc15_37)
  refine og st6 ?_
  show oG p e below _ (T6.setTop (mkF m 40 #[.val (.ref o0), .val (.ref o1), .val (.ref o1)] [(.ref o2)]))
  refine og (fun _ hr => XS.aloadN X6.here hx rfl (hb hby dc15_40) rfl rfl hr) ?_
  show oG p e below _ (T6.setTop (mkF m 41 #[.val (.ref o0), .val (.ref o1), .val (.ref o1)] [(.ref o1), (.ref o2)]))
  obtain ⟨T7, X7, e7, st7⟩ := getF X6 hx hZ hown (host := "") (Or.inl (hw _ (own_m 29 rfl))) Via.refl e6 P5 (g := (mkF m 41 #[.val (.ref o0), .val (.ref o1), .val (.ref o1)] [(.ref o1), (.ref o2)])) rfl rfl (hb hby dc15_41)
  refine og st7 ?_
  show oG p e below _ (T7.setTop (mkF m 44 #[.val (.ref o0), .val (.ref o1), .val (.ref o1)] [(.ref o3), (.ref o2)]))
  refine own_cs X7 hx hZ hown (hw _ (own_m 98 rfl)) (hw _ (own_m 99 rfl)) (hw _ (own_m 100 rfl)) (hw _ (own_m 101 rfl)) (by decide) (rm := { frames := 0, cells := 0, slots := 0, locals := 0 }) (rm_leq l Z a0 hw [] o2 o3 kc0 kc1 y2 y3 y4 y1 y6 y7 y8 y5 h0 n0 Z0 P6 P7 hb1 hb2 hb3 hb4) (by decide) (W := 0) (by decide) (by decide) (by decide) e7 (by rw [hml]; rfl) (argsL := [(.ref o2), (.ref o3)]) (lenOf own_pd15 rfl) (rest := []) rfl rfl (Nat.le_of_eq rfl) (hb hby dc15_44) ?_
  intro _ T8 L8 X8 hQ8
  obtain ⟨rfl, N8q, e8⟩ := hQ8
  have N8 := Fr.app N0 N8q
  show oG p e below _ (T8.setTop (mkF m 47 #[.val (.ref o0), .val (.ref o1), .val (.ref o1)] [(.int (own_leq y2 y3 y4 y1 y6 y7 y8 y5))]))
  refine og (fun _ hr => XS.ifNo X8.here hx rfl (hb hby dc15_47) rfl ((if0 _ _).trans (feq hb5).1) hr) ?_
  show oG p e below _ (T8.setTop (mkF m 50 #[.val (.ref o0), .val (.ref o1), .val (.ref o1)] []))
  refine og (fun _ hr => XS.iconst X8.here hx rfl (hb hby dc15_50) (XS.goto X8.here hx rfl (pc0 := 51) (pc' := 55) rfl (hb hby dc15_51) (by decide) (by decide) hr)) ?_
  show oG p e below _ (T8.setTop (mkF m 55 #[.val (.ref o0), .val (.ref o1), .val (.ref o1)] [(.int (1 : Int32))]))
  exact own_retN X8 hx hlk Bd.returns (t := .boolean) (by simp) (hb hby dc15_55) (by decide) (by decide) ⟨rfl, N8, e8⟩
theorem dc8_40 : decode prog_17_method_2_code 40 = .ok (.aload_n 2, 1) := by decide +kernel
theorem dc8_41 : decode prog_17_method_2_code 41 = .ok (.aload_n 0, 1) := by decide +kernel
theorem dc8_42 : decode prog_17_method_2_code 42 = .ok (.getfield 13, 3) := by decide +kernel
theorem dc8_45 : decode prog_17_method_2_code 45 = .ok (.invokevirtual 30, 3) := by decide +kernel
theorem dc8_48 : decode prog_17_method_2_code 48 = .ok (.ifCond .eq 7, 3) := by decide +kernel
def Q_admits_36 (Z : State) (h0 : Heap) (n0 : Nat) (v : Option Value) (h : Heap) (L : List Loc) : Prop := v = some (.int (0 : Int32)) ∧ Fr n0 L ∧ h = h0
set_option maxRecDepth 65536 in
set_option maxHeartbeats 40000000 in
theorem rm_admits_36 (l : Launch) (Z : State) (a0 : Array Value) (hw : ∀ d ∈ tables_1, d.before a0 Z = true) (ws : List Jvm.Cond) (o0 : Addr) (o1 : Addr) (o2 : Addr) (o3 : Addr) (o4 : Addr) (y0 : Int32) (o5 : Addr) (o6 : Addr) (y1 : Int32) (y2 : Int32) (y3 : Int32) (y4 : Int32) (kc0 : ClassId) (y5 : Int32) (y6 : Int32) (y7 : Int32) (y8 : Int32) (kc1 : ClassId) (o7 : Addr) (o8 : Addr) (o9 : Addr) (y9 : Int32) (y10 : Int32) (y11 : Int32) (y12 : Int32) (kc2 : ClassId) (y13 : Int32) (y14 : Int32) (y15 : Int32) (y16 : Int32) (kc3 : ClassId) (h0 : Heap) (n0 : Nat) (Z0 : n0 ≤ h0.size) (P0 : Fld Z h0 o0 "com/example/ruleweave/ruleweave/CommonPolicySchema$Term" "type" "Lcom/example/ruleweave/ruleweave/CommonPolicySchema$Type;" (.ref o3)) (P1 : Fld Z h0 o0 "com/example/ruleweave/ruleweave/CommonPolicySchema$Term" "namespace" "Ljava/lang/String;" (.ref o4)) (P2 : Exa Z h0 o4 "java/lang/String") (P3 : Sta Z h0 "java/lang/String" "COMPACT_STRINGS" "Z" (.int y0)) (P4 : Fld Z h0 o1 "java/lang/String" "coder" "B" (.int (0 : Int32))) (P5 : Fld Z h0 o4 "java/lang/String" "coder" "B" (.int (0 : Int32))) (P6 : Fld Z h0 o1 "java/lang/String" "value" "[B" (.ref o5)) (P7 : Fld Z h0 o4 "java/lang/String" "value" "[B" (.ref o6)) (P8 : Arv Z h0 o5 kc0 .byte y1 (own_sl y2 y3 y4 y1) (.int (0 : Int32))) (P9 : Arv Z h0 o6 kc1 .byte y5 (own_sl y6 y7 y8 y5) (.int (0 : Int32))) (P10 : Exa Z h0 o1 "java/lang/String") (P11 : Fld Z h0 o0 "com/example/ruleweave/ruleweave/CommonPolicySchema$Term" "localName" "Ljava/lang/String;" (.ref o7)) (P12 : Exa Z h0 o7 "java/lang/String") (P13 : Fld Z h0 o2 "java/lang/String" "coder" "B" (.int (0 : Int32))) (P14 : Fld Z h0 o7 "java/lang/String" "coder" "B" (.int (0 : Int32))) (P15 : Fld Z h0 o2 "java/lang/String" "value" "[B" (.ref o8)) (P16 : Fld Z h0 o7 "java/lang/String" "value" "[B" (.ref o9)) (P17 : Arv Z h0 o8 kc2 .byte y9 (own_sl y10 y11 y12 y9) (.int (0 : Int32))) (P18 : Arv Z h0 o9 kc3 .byte y13 (own_sl y14 y15 y16 y13) (.int (0 : Int32))) (P19 : Exa Z h0 o2 "java/lang/String") (ne0p : o1 ≠ o4) (ne1p : o2 ≠ o7) (hb0 : ¬ (y0 = (0 : Int32))) (hb1 : ¬ (y1 < (0 : Int32))) (hb2 : ¬ ((3 : Int32) < y1)) (hb3 : ¬ (y5 < (0 : Int32))) (hb4 : ¬ ((3 : Int32) < y5)) (hb5 : ¬ ((own_leq y2 y3 y4 y1 y6 y7 y8 y5) = (0 : Int32))) (hb6 : ¬ (y9 < (0 : Int32))) (hb7 : ¬ ((3 : Int32) < y9)) (hb8 : ¬ (y13 < (0 : Int32))) (hb9 : ¬ ((3 : Int32) < y13)) (hb10 : (own_leq y10 y11 y12 y9 y14 y15 y16 y13) = (0 : Int32)) :
    MetFree l (⟨"com/example/ruleweave/ruleweave/CommonPolicySchema$Term", "admits", "(Ljava/lang/String;Ljava/lang/String;)Z"⟩ : MethodName) (head1 (Jvm.Cond.code (⟨"com/example/ruleweave/ruleweave/CommonPolicySchema$Term", "admits", "(Ljava/lang/String;Ljava/lang/String;)Z"⟩ : MethodName) prog_17_method_2_code 3 (some .boolean) :: ws) ({ frames := 2, cells := 0, slots := 0, locals := 28 } : Room)) (fun aA U => aA = #[(.ref o0), (.ref o1), (.ref o2)] ∧ Z.Warmed39 U.vm ∧ U.heap = h0) (fun _ _ _ _ _ => True) (fun _ U o U' => ∃ v L, o = .returned v ∧ Q_admits_36 Z h0 n0 v U'.heap L ∧ FrameEnd U o U' L ({ frames := 2, cells := 0, slots := 0, locals := 28 } : Room).cells ({ frames := 2, cells := 0, slots := 0, locals := 28 } : Room).slots) := by
  refine MetFree.of_bodySF (plainFor_of_name own_pn_com_example_ruleweave_ruleweave_CommonPolicySchema_Term) hisR ?_
  intro p e s m args below meth c s₁ Bd hml0 hP hK
  obtain ⟨rfl, hZ, hh⟩ := hP
  have hx := Bd.exec
  have hby := Bd.bytes
  have hlk : meth.locks = false := BodyLoose.notSynchronized Bd
  have hml : c.maxLocals = 3 := hml0
  have hown : s.vm.findClass "com/example/ruleweave/ruleweave/CommonPolicySchema$Term" = some m.cls := findClass_of_methodNamed Bd.named
  have hnm := (name_of_methodNamed Bd.named Bd.method).1
  have X0 : Stand p l e ({ frames := 2, cells := 0, slots := 0, locals := 28 } : Room) s m #[(.ref o0), (.ref o1), (.ref o2)] below meth c s₁ [] 0 0 := Stand.of_body Bd
  have e0 : s₁.heap = h0 := by rw [← hh, Bd.state]; rfl
  have N0 := Fr.nil n0
  show oG p e below (own_K s (Q_admits_36 Z h0 n0) ({ frames := 2, cells := 0, slots := 0, locals := 28 } : Room).cells ({ frames := 2, cells := 0, slots := 0, locals := 28 } : Room).slots) (s₁.setTop (entryFrame m #[(.ref o0), (.ref o1), (.ref o2)] 3))
  rw [(by first | (simp [entryFrame, mkF, argsToLocals, Value.category]; done) | rfl : entryFrame m #[(.ref o0), (.ref o1), (.ref o2)] 3 = mkF m 0 #[.val (.ref o0), .val (.ref o1), .val (.ref o2)] [])]
  show oG p e below _ (s₁.setTop (mkF m 0 #[.val (.ref o0), .val (.ref o1), .val (.ref o2)] []))
  refine og (fun _ hr => XS.aloadN X0.here hx rfl (hb hby dc8_0) rfl rfl hr) ?_
  show oG p e below _ (s₁.setTop (mkF m 1 #[.val (.ref o0), .val (.ref o1), .val (.ref o2)] [(.ref o0)]))
  obtain ⟨T1, X1, e1, st1⟩ := getF X0 hx hZ hown (host := "") (Or.inl (hw _ (own_m 47 rfl))) Via.refl e0 P0 (g := (mkF m 1 #[.val (.ref o0), .val (.ref o1), .val (.ref o2)] [(.ref o0)])) rfl rfl (hb hby dc8_1)
  refine og st1 ?_
  show oG p e below _ (T1.setTop (mkF m 4 #[.val (.ref o0), .val (.ref o1), .val (.ref o2)] [(.ref o3)]))
  refine og (fun _ hr => XS.ifnonnullYes X1.here hx rfl (pc0 := 4) (pc' := 29) rfl (hb hby dc8_4) rfl (by decide) (by decide) hr) ?_
  show oG p e below _ (T1.setTop (mkF m 29 #[.val (.ref o0), .val (.ref o1), .val (.ref o2)] []))
  refine og (fun _ hr => XS.aloadN X1.here hx rfl (hb hby dc8_29) rfl rfl (XS.aloadN X1.here hx rfl (hb hby dc8_30) rfl rfl hr)) ?_
  show oG p e below _ (T1.setTop (mkF m 31 #[.val (.ref o0), .val (.ref o1), .val (.ref o2)] [(.ref o0), (.ref o1)]))
  obtain ⟨T2, X2, e2, st2⟩ := getF X1 hx hZ hown (host := "") (Or.inl (hw _ (own_m 43 rfl))) Via.refl e1 P1 (g := (mkF m 31 #[.val (.ref o0), .val (.ref o1), .val (.ref o2)] [(.ref o0), (.ref o1)])) rfl rfl (hb hby dc8_31)
  refine og st2 ?_
  show oG p e below _ (T2.setTop (mkF m 34 #[.val (.ref o0), .val (.ref o1), .val (.ref o2)] [(.ref o4), (.ref o1)]))
  refine own_cv X2 hx hZ hown (notFace_of_selects (args := #[]) (mvT hZ (hw _ (own_m 95 rfl)))) (hw _ (own_m 92 rfl)) (hw _ (own_m 93 rfl)) (hw _ (own_m 95 rfl)) (hw _ (own_m 94 rfl)) (hw _ (own_m 7 rfl)) (hw _ (own_m 96 rfl)) (by decide) P10 (rm := { frames := 1, cells := 0, slots := 0, locals := 14 }) (rm_equals_35 l Z a0 hw [] o1 o4 y0 o5 o6 y1 y2 y3 y4 kc0 y5 y6 y7 y8 kc1 h0 n0 Z0 P2 P3 P4 P5 P6 P7 P8 P9 ne0p hb0 hb1 hb2 hb3 hb4 hb5) (by decide) (W := 0) (by decide) (by decide) (by decide) e2 (by rw [hml]; rfl) (argsL := [(.ref o4)]) (lenOf own_pd16 rfl) (rest := []) rfl rfl (Nat.le_of_eq rfl) (hb hby dc8_34) ?_
  intro _ T3 L3 X3 hQ3
  obtain ⟨rfl, N3q, e3⟩ := hQ3
  have N3 := Fr.app N0 N3q
  show oG p e below _ (T3.setTop (mkF m 37 #[.val (.ref o0), .val (.ref o1), .val (.ref o2)] [(.int (1 : Int32))]))
  refine og (fun _ hr => XS.ifNo X3.here hx rfl (hb hby dc8_37) rfl ((if0 _ _).trans (feq (by decide)).1) (XS.aloadN X3.here hx rfl (hb hby dc8_40) rfl rfl (XS.aloadN X3.here hx rfl (hb hby dc8_41) rfl rfl hr))) ?_
  show oG p e below _ (T3.setTop (mkF m 42 #[.val (.ref o0), .val (.ref o1), .val (.ref o2)] [(.ref o0), (.ref o2)]))
  obtain ⟨T4, X4, e4, st4⟩ := getF X3 hx hZ hown (host := "") (Or.inl (hw _ (own_m 45 rfl))) Via.refl e3 P11 (g := (mkF m 42 #[.val (.ref o0), .val (.ref o1), .val (.ref o2)] [(.ref o0), (.ref o2)])) rfl rfl (hb hby dc8_42)
  refine og st4 ?_
  show oG p e below _ (T4.setTop (mkF m 45 #[.val (.ref o0), .val (.ref o1), .val (.ref o2)] [(.ref o7), (.ref o2)]))
  refine own_cv X4 hx hZ hown (notFace_of_selects (args := #[]) (mvT hZ (hw _ (own_m 95 rfl)))) (hw _ (own_m 92 rfl)) (hw _ (own_m 93 rfl)) (hw _ (own_m 95 rfl)) (hw _ (own_m 94 rfl)) (hw _ (own_m 7 rfl)) (hw _ (own_m 96 rfl)) (by decide) P19 (rm := { frames := 1, cells := 0, slots := 0, locals := 14 }) (rm_equals_33 l Z a0 hw [] o2 o7 y0 o8 o9 y9 y10 y11 y12 kc2 y13 y14 y15 y16 kc3 h0 n0 Z0 P12 P3 P13 P14 P15 P16 P17 P18 ne1p hb0 hb6 hb7 hb8 hb9 hb10) (by decide) (W := 0) (by decide) (by decide) (by decide) e4 (by rw [hml]; rfl) (argsL := [(.ref o7)]) (lenOf own_pd16 rfl) (rest := []) rfl rfl (Nat.le_of_eq rfl) (hb hby dc8_45) ?_
  intro _ T5 L5 X5 hQ5
  obtain ⟨rfl, N5q, e5⟩ := hQ5
  have N5 := Fr.app N3 N5q
  show oG p e below _ (T5.setTop (mkF m 48 #[.val (.ref o0), .val (.ref o1), .val (.ref o2)] [(.int (0 : Int32))]))
  refine og (fun _ hr => XS.ifYes X5.here hx rfl (pc0 := 48) (pc' := 55) rfl (hb hby dc8_48) rfl ((if0 _ _).trans (teq (by decide)).1) (by decide) (by decide) (XS.iconst X5.here hx rfl (hb hby dc8_55) hr)) ?_
  show oG p e below _ (T5.setTop (mkF m 56 #[.val (.ref o0), .val (.ref o1), .val (.ref o2)] [(.int (0 : Int32))]))
  exact own_retN X5 hx hlk Bd.returns (t := .boolean) (by simp) (hb hby dc8_56) (by decide) (by decide) ⟨rfl, N5, e5⟩
theorem dc8_51 : decode prog_17_method_2_code 51 = .ok (.iconst 1, 1) := by decide +kernel
theorem dc8_52 : decode prog_17_method_2_code 52 = .ok (.goto 4, 3) := by decide +kernel
def Q_admits_37 (Z : State) (h0 : Heap) (n0 : Nat) (v : Option Value) (h : Heap) (L : List Loc) : Prop := v = some (.int (1 : Int32)) ∧ Fr n0 L ∧ h = h0
set_option maxRecDepth 65536 in
set_option maxHeartbeats 40000000 in
theorem rm_admits_37 (l : Launch) (Z : State) (a0 : Array Value) (hw : ∀ d ∈ tables_1, d.before a0 Z = true) (ws : List Jvm.Cond) (o0 : Addr) (o1 : Addr) (o2 : Addr) (o3 : Addr) (o4 : Addr) (y0 : Int32) (o5 : Addr) (o6 : Addr) (y1 : Int32) (y2 : Int32) (y3 : Int32) (y4 : Int32) (kc0 : ClassId) (y5 : Int32) (y6 : Int32) (y7 : Int32) (y8 : Int32) (kc1 : ClassId) (o7 : Addr) (o8 : Addr) (o9 : Addr) (y9 : Int32) (y10 : Int32) (y11 : Int32) (y12 : Int32) (kc2 : ClassId) (y13 : Int32) (y14 : Int32) (y15 : Int32) (y16 : Int32) (kc3 : ClassId) (h0 : Heap) (n0 : Nat) (Z0 : n0 ≤ h0.size) (P0 : Fld Z h0 o0 "com/example/ruleweave/ruleweave/CommonPolicySchema$Term" "type" "Lcom/example/ruleweave/ruleweave/CommonPolicySchema$Type;" (.ref o3)) (P1 : Fld Z h0 o0 "com/example/ruleweave/ruleweave/CommonPolicySchema$Term" "namespace" "Ljava/lang/String;" (.ref o4)) (P2 : Exa Z h0 o4 "java/lang/String") (P3 : Sta Z h0 "java/lang/String" "COMPACT_STRINGS" "Z" (.int y0)) (P4 : Fld Z h0 o1 "java/lang/String" "coder" "B" (.int (0 : Int32))) (P5 : Fld Z h0 o4 "java/lang/String" "coder" "B" (.int (0 : Int32))) (P6 : Fld Z h0 o1 "java/lang/String" "value" "[B" (.ref o5)) (P7 : Fld Z h0 o4 "java/lang/String" "value" "[B" (.ref o6)) (P8 : Arv Z h0 o5 kc0 .byte y1 (own_sl y2 y3 y4 y1) (.int (0 : Int32))) (P9 : Arv Z h0 o6 kc1 .byte y5 (own_sl y6 y7 y8 y5) (.int (0 : Int32))) (P10 : Exa Z h0 o1 "java/lang/String") (P11 : Fld Z h0 o0 "com/example/ruleweave/ruleweave/CommonPolicySchema$Term" "localName" "Ljava/lang/String;" (.ref o7)) (P12 : Exa Z h0 o7 "java/lang/String") (P13 : Fld Z h0 o2 "java/lang/String" "coder" "B" (.int (0 : Int32))) (P14 : Fld Z h0 o7 "java/lang/String" "coder" "B" (.int (0 : Int32))) (P15 : Fld Z h0 o2 "java/lang/String" "value" "[B" (.ref o8)) (P16 : Fld Z h0 o7 "java/lang/String" "value" "[B" (.ref o9)) (P17 : Arv Z h0 o8 kc2 .byte y9 (own_sl y10 y11 y12 y9) (.int (0 : Int32))) (P18 : Arv Z h0 o9 kc3 .byte y13 (own_sl y14 y15 y16 y13) (.int (0 : Int32))) (P19 : Exa Z h0 o2 "java/lang/String") (ne0p : o1 ≠ o4) (ne1p : o2 ≠ o7) (hb0 : ¬ (y0 = (0 : Int32))) (hb1 : ¬ (y1 < (0 : Int32))) (hb2 : ¬ ((3 : Int32) < y1)) (hb3 : ¬ (y5 < (0 : Int32))) (hb4 : ¬ ((3 : Int32) < y5)) (hb5 : ¬ ((own_leq y2 y3 y4 y1 y6 y7 y8 y5) = (0 : Int32))) (hb6 : ¬ (y9 < (0 : Int32))) (hb7 : ¬ ((3 : Int32) < y9)) (hb8 : ¬ (y13 < (0 : Int32))) (hb9 : ¬ ((3 : Int32) < y13)) (hb10 : ¬ ((own_leq y10 y11 y12 y9 y14 y15 y16 y13) = (0 : Int32))) :
    MetFree l (⟨"com/example/ruleweave/ruleweave/CommonPolicySchema$Term", "admits", "(Ljava/lang/String;Ljava/lang/String;)Z"⟩ : MethodName) (head1 (Jvm.Cond.code (⟨"com/example/ruleweave/ruleweave/CommonPolicySchema$Term", "admits", "(Ljava/lang/String;Ljava/lang/String;)Z"⟩ : MethodName) prog_17_method_2_code 3 (some .boolean) :: ws) ({ frames := 2, cells := 0, slots := 0, locals := 28 } : Room)) (fun aA U => aA = #[(.ref o0), (.ref o1), (.ref o2)] ∧ Z.Warmed39 U.vm ∧ U.heap = h0) (fun _ _ _ _ _ => True) (fun _ U o U' => ∃ v L, o = .returned v ∧ Q_admits_37 Z h0 n0 v U'.heap L ∧ FrameEnd U o U' L ({ frames := 2, cells := 0, slots := 0, locals := 28 } : Room).cells ({ frames := 2, cells := 0, slots := 0, locals := 28 } : Room).slots) := by
  refine MetFree.of_bodySF (plainFor_of_name own_pn_com_example_ruleweave_ruleweave_CommonPolicySchema_Term) hisR ?_
  intro p e s m args below meth c s₁ Bd hml0 hP hK
  obtain ⟨rfl, hZ, hh⟩ := hP
  have hx := Bd.exec
  have hby := Bd.bytes
  have hlk : meth.locks = false := BodyLoose.notSynchronized Bd
  have hml : c.maxLocals = 3 := hml0
  have hown : s.vm.findClass "com/example/ruleweave/ruleweave/CommonPolicySchema$Term" = some m.cls := findClass_of_methodNamed Bd.named
  have hnm := (name_of_methodNamed Bd.named Bd.method).1
  have X0 : Stand p l e ({ frames := 2, cells := 0, slots := 0, locals := 28 } : Room) s m #[(.ref o0), (.ref o1), (.ref o2)] below meth c s₁ [] 0 0 := Stand.of_body Bd
  have e0 : s₁.heap = h0 := by rw [← hh, Bd.state]; rfl
  have N0 := Fr.nil n0
  show oG p e below (own_K s (Q_admits_37 Z h0 n0) ({ frames := 2, cells := 0, slots := 0, locals := 28 } : Room).cells ({ frames := 2, cells := 0, slots := 0, locals := 28 } : Room).slots) (s₁.setTop (entryFrame m #[(.ref o0), (.ref o1), (.ref o2)] 3))
  rw [(by first | (simp [entryFrame, mkF, argsToLocals, Value.category]; done) | rfl : entryFrame m #[(.ref o0), (.ref o1), (.ref o2)] 3 = mkF m 0 #[.val (.ref o0), .val (.ref o1), .val (.ref o2)] [])]
  show oG p e below _ (s₁.setTop (mkF m 0 #[.val (.ref o0), .val (.ref o1), .val (.ref o2)] []))
  refine og (fun _ hr => XS.aloadN X0.here hx rfl (hb hby dc8_0) rfl rfl hr) ?_
  show oG p e below _ (s₁.setTop (mkF m 1 #[.val (.ref o0), .val (.ref o1), .val (.ref o2)] [(.ref o0)]))
  obtain ⟨T1, X1, e1, st1⟩ := getF X0 hx hZ hown (host := "") (Or.inl (hw _ (own_m 47 rfl))) Via.refl e0 P0 (g := (mkF m 1 #[.val (.ref o0), .val (.ref o1), .val (.ref o2)] [(.ref o0)])) rfl rfl (hb hby dc8_1)
  refine og st1 ?_
  show oG p e below _ (T1.setTop (mkF m 4 #[.val (.ref o0), .val (.ref o1), .val (.ref o2)] [(.ref o3)]))
  refine og (fun _ hr => XS.ifnonnullYes X1.here hx rfl (pc0 := 4) (pc' := 29) rfl (hb hby dc8_4) rfl (by decide) (by decide) hr) ?_
  show oG p e below _ (T1.setTop (mkF m 29 #[.val (.ref o0), .val (.ref o1), .val (.ref o2)] []))
  refine og (fun _ hr => XS.aloadN X1.here hx rfl (hb hby dc8_29) rfl rfl (XS.aloadN X1.here hx rfl (hb hby dc8_30) rfl rfl hr)) ?_
  show oG p e below _ (T1.setTop (mkF m 31 #[.val (.ref o0), .val (.ref o1), .val (.ref o2)] [(.ref o0), (.ref o1)]))
  obtain ⟨T2, X2, e2, st2⟩ := getF X1 hx hZ hown (host := "") (Or.inl (hw _ (own_m 43 rfl))) Via.refl e1 P1 (g := (mkF m 31 #[.val (.ref o0), .val (.ref o1), .val (.ref o2)] [(.ref o0), (.ref o1)])) rfl rfl (hb hby dc8_31)
  refine og st2 ?_
  show oG p e below _ (T2.setTop (mkF m 34 #[.val (.ref o0), .val (.ref o1), .val (.ref o2)] [(.ref o4), (.ref o1)]))
  refine own_cv X2 hx hZ hown (notFace_of_selects (args := #[]) (mvT hZ (hw _ (own_m 95 rfl)))) (hw _ (own_m 92 rfl)) (hw _ (own_m 93 rfl)) (hw _ (own_m 95 rfl)) (hw _ (own_m 94 rfl)) (hw _ (own_m 7 rfl)) (hw _ (own_m 96 rfl)) (by decide) P10 (rm := { frames := 1, cells := 0, slots := 0, locals := 14 }) (rm_equals_35 l Z a0 hw [] o1 o4 y0 o5 o6 y1 y2 y3 y4 kc0 y5 y6 y7 y8 kc1 h0 n0 Z0 P2 P3 P4 P5 P6 P7 P8 P9 ne0p hb0 hb1 hb2 hb3 hb4 hb5) (by decide) (W := 0) (by decide) (by decide) (by decide) e2 (by rw [hml]; rfl) (argsL := [(.ref o4)]) (lenOf own_pd16 rfl) (rest := []) rfl rfl (Nat.le_of_eq rfl) (hb hby dc8_34) ?_
  intro _ T3 L3 X3 hQ3
  obtain ⟨rfl, N3q, e3⟩ := hQ3
  have N3 := Fr.app N0 N3q
  show oG p e below _ (T3.setTop (mkF m 37 #[.val (.ref o0), .val (.ref o1), .val (.ref o2)] [(.int (1 : Int32))]))
  refine og (fun _ hr => XS.ifNo X3.here hx rfl (hb hby dc8_37) rfl ((if0 _ _).trans (feq (by decide)).1) (XS.aloadN X3.here hx rfl (hb hby dc8_40) rfl rfl (XS.aloadN X3.here hx rfl (hb hby dc8_41) rfl rfl hr))) ?_
  show oG p e below _ (T3.setTop (mkF m 42 #[.val (.ref o0), .val (.ref o1), .val (.ref o2)] [(.ref o0), (.ref o2)]))
  obtain ⟨T4, X4, e4, st4⟩ := getF X3 hx hZ hown (host := "") (Or.inl (hw _ (own_m 45 rfl))) Via.refl e3 P11 (g := (mkF m 42 #[.val (.ref o0), .val (.ref o1), .val (.ref o2)] [(.ref o0), (.ref o2)])) rfl rfl (hb hby dc8_42)
  refine og st4 ?_
  show oG p e below _ (T4.setTop (mkF m 45 #[.val (.ref o0), .val (.ref o1), .val (.ref o2)] [(.ref o7), (.ref o2)]))
  refine own_cv X4 hx hZ hown (notFace_of_selects (args := #[]) (mvT hZ (hw _ (own_m 95 rfl)))) (hw _ (own_m 92 rfl)) (hw _ (own_m 93 rfl)) (hw _ (own_m 95 rfl)) (hw _ (own_m 94 rfl)) (hw _ (own_m 7 rfl)) (hw _ (own_m 96 rfl)) (by decide) P19 (rm := { frames := 1, cells := 0, slots := 0, locals := 14 }) (rm_equals_35 l Z a0 hw [] o2 o7 y0 o8 o9 y9 y10 y11 y12 kc2 y13 y14 y15 y16 kc3 h0 n0 Z0 P12 P3 P13 P14 P15 P16 P17 P18 ne1p hb0 hb6 hb7 hb8 hb9 hb10) (by decide) (W := 0) (by decide) (by decide) (by decide) e4 (by rw [hml]; rfl) (argsL := [(.ref o7)]) (lenOf own_pd16 rfl) (rest := []) rfl rfl (Nat.le_of_eq rfl) (hb hby dc8_45) ?_
  intro _ T5 L5 X5 hQ5
  obtain ⟨rfl, N5q, e5⟩ := hQ5
  have N5 := Fr.app N3 N5q
  show oG p e below _ (T5.setTop (mkF m 48 #[.val (.ref o0), .val (.ref o1), .val (.ref o2)] [(.int (1 : Int32))]))
  refine og (fun _ hr => XS.ifNo X5.here hx rfl (hb hby dc8_48) rfl ((if0 _ _).trans (feq (by decide)).1) (XS.iconst X5.here hx rfl (hb hby dc8_51) (XS.goto X5.here hx rfl (pc0 := 52) (pc' := 56) rfl (hb hby dc8_52) (by decide) (by decide) hr))) ?_
  show oG p e below _ (T5.setTop (mkF m 56 #[.val (.ref o0), .val (.ref o1), .val (.ref o2)] [(.int (1 : Int32))]))
  exact own_retN X5 hx hlk Bd.returns (t := .boolean) (by simp) (hb hby dc8_56) (by decide) (by decide) ⟨rfl, N5, e5⟩
def Q_equals_38 (Z : State) (h0 : Heap) (n0 : Nat) (v : Option Value) (h : Heap) (L : List Loc) : Prop := v = some (.int (1 : Int32)) ∧ Fr n0 L ∧ h = h0
set_option maxRecDepth 65536 in
set_option maxHeartbeats 40000000 in
theorem rm_equals_38 (l : Launch) (Z : State) (a0 : Array Value) (hw : ∀ d ∈ tables_1, d.before a0 Z = true) (ws : List Jvm.Cond) (o0 : Addr) (o1 : Addr) (y0 : Int32) (o2 : Addr) (o3 : Addr) (y1 : Int32) (y2 : Int32) (y3 : Int32) (y4 : Int32) (kc0 : ClassId) (kc1 : ClassId) (h0 : Heap) (n0 : Nat) (Z0 : n0 ≤ h0.size) (P0 : Exa Z h0 o1 "java/lang/String") (P1 : Sta Z h0 "java/lang/String" "COMPACT_STRINGS" "Z" (.int y0)) (P2 : Fld Z h0 o0 "java/lang/String" "coder" "B" (.int (0 : Int32))) (P3 : Fld Z h0 o1 "java/lang/String" "coder" "B" (.int (0 : Int32))) (P4 : Fld Z h0 o0 "java/lang/String" "value" "[B" (.ref o2)) (P5 : Fld Z h0 o1 "java/lang/String" "value" "[B" (.ref o3)) (P6 : Arv Z h0 o2 kc0 .byte y1 (own_sl y2 y3 y4 y1) (.int (0 : Int32))) (P7 : Arv Z h0 o3 kc1 .byte y1 (own_sl y2 y3 y4 y1) (.int (0 : Int32))) (ne0p : o0 ≠ o1) (hb0 : ¬ (y0 = (0 : Int32))) (hb1 : ¬ (y1 < (0 : Int32))) (hb2 : ¬ ((3 : Int32) < y1)) (hb3 : ¬ ((own_leq y2 y3 y4 y1 y2 y3 y4 y1) = (0 : Int32))) :
    MetFree l (⟨"java/lang/String", "equals", "(Ljava/lang/Object;)Z"⟩ : MethodName) (head1 (Jvm.Cond.code (⟨"java/lang/String", "equals", "(Ljava/lang/Object;)Z"⟩ : MethodName) jdk_42_method_66_code 3 (some .boolean) :: ws) ({ frames := 1, cells := 0, slots := 0, locals := 14 } : Room)) (fun aA U => aA = #[(.ref o0), (.ref o1)] ∧ Z.Warmed39 U.vm ∧ U.heap = h0) (fun _ _ _ _ _ => True) (fun _ U o U' => ∃ v L, o = .returned v ∧ Q_equals_38 Z h0 n0 v U'.heap L ∧ FrameEnd U o U' L ({ frames := 1, cells := 0, slots := 0, locals := 14 } : Room).cells ({ frames := 1, cells := 0, slots := 0, locals := 14 } : Room).slots) := by
  refine MetFree.of_bodySF (plainFor_of_name own_pn_java_lang_String) hisR ?_
  intro p e s m args below meth c s₁ Bd hml0 hP hK
  obtain ⟨rfl, hZ, hh⟩ := hP
  have hx := Bd.exec
  have hby := Bd.bytes
  have hlk : meth.locks = false := BodyLoose.notSynchronized Bd
  have hml : c.maxLocals = 3 := hml0
  have hown : s.vm.findClass "java/lang/String" = some m.cls := findClass_of_methodNamed Bd.named
  have hnm := (name_of_methodNamed Bd.named Bd.method).1
  have X0 : Stand p l e ({ frames := 1, cells := 0, slots := 0, locals := 14 } : Room) s m #[(.ref o0), (.ref o1)] below meth c s₁ [] 0 0 := Stand.of_body Bd
  have e0 : s₁.heap = h0 := by rw [← hh, Bd.state]; rfl
  have N0 := Fr.nil n0
  show oG p e below (own_K s (Q_equals_38 Z h0 n0) ({ frames := 1, cells := 0, slots := 0, locals := 14 } : Room).cells ({ frames := 1, cells := 0, slots := 0, locals := 14 } : Room).slots) (s₁.setTop (entryFrame m #[(.ref o0), (.ref o1)] 3))
  rw [(by first | (simp [entryFrame, mkF, argsToLocals, Value.category]; done) | rfl : entryFrame m #[(.ref o0), (.ref o1)] 3 = mkF m 0 #[.val (.ref o0), .val (.ref o1), .unset] [])]
  show oG p e below _ (s₁.setTop (mkF m 0 #[.val (.ref o0), .val (.ref o1), .unset] []))
  refine og (fun _ hr => XS.aloadN X0.here hx rfl (hb hby dc15_0) rfl rfl (XS.aloadN X0.here hx rfl (hb hby dc15_1) rfl rfl hr)) ?_
  show oG p e below _ (s₁.setTop (mkF m 2 #[.val (.ref o0), .val (.ref o1), .unset] [(.ref o1), (.ref o0)]))
  refine og (fun _ hr => Jvm.RoadKit.acmp X0 hx rfl rfl rfl (pc0 := 2) (pc' := 7) (same := false) rfl (hb hby dc15_2) rfl (decide_eq_false fun q => ne0p (Value.ref.inj q)) (by decide) (by decide) hr) ?_
  show oG p e below _ (s₁.setTop (mkF m 7 #[.val (.ref o0), .val (.ref o1), .unset] []))
  refine og (fun _ hr => XS.aloadN X0.here hx rfl (hb hby dc15_7) rfl rfl hr) ?_
  show oG p e below _ (s₁.setTop (mkF m 8 #[.val (.ref o0), .val (.ref o1), .unset] [(.ref o1)]))
  obtain ⟨T1, X1, e1, st1⟩ := instY X0 hx hZ hown (hw _ (own_m 97 rfl)) e0 (Ins.self P0) (g := (mkF m 8 #[.val (.ref o0), .val (.ref o1), .unset] [(.ref o1)])) rfl rfl (hb hby dc15_8)
  refine og st1 ?_
  show oG p e below _ (T1.setTop (mkF m 11 #[.val (.ref o0), .val (.ref o1), .unset] [(.int (1 : Int32))]))
  refine og (fun _ hr => XS.ifNo X1.here hx rfl (hb hby dc15_11) rfl ((if0 _ _).trans (feq (by decide)).1) (XS.aloadN X1.here hx rfl (hb hby dc15_14) rfl rfl hr)) ?_
  show oG p e below _ (T1.setTop (mkF m 15 #[.val (.ref o0), .val (.ref o1), .unset] [(.ref o1)]))
  obtain ⟨T2, X2, e2, st2⟩ := castY X1 hx hZ hown (hw _ (own_m 97 rfl)) e1 (Ins.self P0) (g := (mkF m 15 #[.val (.ref o0), .val (.ref o1), .unset] [(.ref o1)])) rfl rfl (hb hby dc15_15)
  refine og st2 ?_
  show oG p e below _ (T2.setTop (mkF m 18 #[.val (.ref o0), .val (.ref o1), .unset] [(.ref o1)]))
  refine og (fun _ hr => XS.astoreN X2.here hx rfl (hb hby dc15_18) rfl rfl (l' := #[.val (.ref o0), .val (.ref o1), .val (.ref o1)]) rfl hr) ?_
  show oG p e below _ (T2.setTop (mkF m 19 #[.val (.ref o0), .val (.ref o1), .val (.ref o1)] []))
  obtain ⟨T3, X3, e3, st3⟩ := getS2 X2 hx hZ hown (host := "") (Or.inl (hw _ (own_m 59 rfl))) Via.refl e2 P1 (g := (mkF m 19 #[.val (.ref o0), .val (.ref o1), .val (.ref o1)] [])) rfl (hb hby dc15_19)
  refine og st3 ?_
  show oG p e below _ (T3.setTop (mkF m 22 #[.val (.ref o0), .val (.ref o1), .val (.ref o1)] [(.int y0)]))
  refine og (fun _ hr => XS.ifNo X3.here hx rfl (hb hby dc15_22) rfl ((if0 _ _).trans (feq hb0).1) hr) ?_
  show oG p e below _ (T3.setTop (mkF m 25 #[.val (.ref o0), .val (.ref o1), .val (.ref o1)] []))
  refine og (fun _ hr => XS.aloadN X3.here hx rfl (hb hby dc15_25) rfl rfl hr) ?_
  show oG p e below _ (T3.setTop (mkF m 26 #[.val (.ref o0), .val (.ref o1), .val (.ref o1)] [(.ref o0)]))
  obtain ⟨T4, X4, e4, st4⟩ := getF X3 hx hZ hown (host := "") (Or.inl (hw _ (own_m 30 rfl))) Via.refl e3 P2 (g := (mkF m 26 #[.val (.ref o0), .val (.ref o1), .val (.ref o1)] [(.ref o0)])) rfl rfl (hb hby dc15_26)
  refine og st4 ?_
  show oG p e below _ (T4.setTop (mkF m 29 #[.val (.ref o0), .val (.ref o1), .val (.ref o1)] [(.int (0 : Int32))]))
  refine og (fun _ hr => XS.aloadN X4.here hx rfl (hb hby dc15_29) rfl rfl hr) ?_
  show oG p e below _ (T4.setTop (mkF m 30 #[.val (.ref o0), .val (.ref o1), .val (.ref o1)] [(.ref o1), (.int (0 : Int32))]))
  obtain ⟨T5, X5, e5, st5⟩ := getF X4 hx hZ hown (host := "") (Or.inl (hw _ (own_m 30 rfl))) Via.refl e4 P3 (g := (mkF m 30 #[.val (.ref o0), .val (.ref o1), .val (.ref o1)] [(.ref o1), (.int (0 : Int32))])) rfl rfl (hb hby dc15_30)
  refine og st5 ?_
  show oG p e below _ (T5.setTop (mkF m 33 #[.val (.ref o0), .val (.ref o1), .val (.ref o1)] [(.int (0 : Int32)), (.int (0 : Int32))]))
  refine og (fun _ hr => XS.icmpNo X5.here hx rfl (hb hby dc15_33) rfl (teq (by decide)).2 (XS.aloadN X5.here hx rfl (hb hby dc15_36) rfl rfl hr)) ?_
  show oG p e below _ (T5.setTop (mkF m 37 #[.val (.ref o0), .val (.ref o1), .val (.ref o1)] [(.ref o0)]))
  obtain ⟨T6, X6, e6, st6⟩ := getF X5 hx hZ hown (host := "") (Or.inl (hw _ (own_m 29 rfl))) Via.refl e5 P4 (g := (mkF m 37 #[.val (.ref o0), .val (.ref o1), .val (.ref o1)] [(.ref o0)])) rfl rfl (hb hby dc15_37)
  refine og st6 ?_
  show oG p e below _ (T6.setTop (mkF m 40 #[.val (.ref o0), .val (.ref o1), .val (.ref o1)] [(.ref o2)]))
  refine og (fun _ hr => XS.aloadN X6.here hx rfl (hb hby dc15_40) rfl rfl hr) ?_
  show oG p e below _ (T6.setTop (mkF m 41 #[.val (.ref o0), .val (.ref o1), .val (.ref o1)] [(.ref o1), (.ref o2)]))
  obtain ⟨T7, X7, e7, st7⟩ := getF X6 hx hZ hown (host := "") (Or.inl (hw _ (own_m 29 rfl))) Via.refl e6 P5 (g := (mkF m 41 #[.val (.ref o0), .val (.ref o1), .val (.ref o1)] [(.ref o1), (.ref o2)])) rfl rfl (hb hby dc15_41)
  refine og st7 ?_
  show oG p e below _ (T7.setTop (mkF m 44 #[.val (.ref o0), .val (.ref o1), .val (.ref o1)] [(.ref o3), (.ref o2)]))
  refine own_cs X7 hx hZ hown (hw _ (own_m 98 rfl)) (hw _ (own_m 99 rfl)) (hw _ (own_m 100 rfl)) (hw _ (own_m 101 rfl)) (by decide) (rm := { frames := 0, cells := 0, slots := 0, locals := 0 }) (rm_leq l Z a0 hw [] o2 o3 kc0 kc1 y2 y3 y4 y1 y2 y3 y4 y1 h0 n0 Z0 P6 P7 hb1 hb2 hb1 hb2) (by decide) (W := 0) (by decide) (by decide) (by decide) e7 (by rw [hml]; rfl) (argsL := [(.ref o2), (.ref o3)]) (lenOf own_pd15 rfl) (rest := []) rfl rfl (Nat.le_of_eq rfl) (hb hby dc15_44) ?_
  intro _ T8 L8 X8 hQ8
  obtain ⟨rfl, N8q, e8⟩ := hQ8
  have N8 := Fr.app N0 N8q
  show oG p e below _ (T8.setTop (mkF m 47 #[.val (.ref o0), .val (.ref o1), .val (.ref o1)] [(.int (own_leq y2 y3 y4 y1 y2 y3 y4 y1))]))
  refine og (fun _ hr => XS.ifNo X8.here hx rfl (hb hby dc15_47) rfl ((if0 _ _).trans (feq hb3).1) hr) ?_
  show oG p e below _ (T8.setTop (mkF m 50 #[.val (.ref o0), .val (.ref o1), .val (.ref o1)] []))
  refine og (fun _ hr => XS.iconst X8.here hx rfl (hb hby dc15_50) (XS.goto X8.here hx rfl (pc0 := 51) (pc' := 55) rfl (hb hby dc15_51) (by decide) (by decide) hr)) ?_
  show oG p e below _ (T8.setTop (mkF m 55 #[.val (.ref o0), .val (.ref o1), .val (.ref o1)] [(.int (1 : Int32))]))
  exact own_retN X8 hx hlk Bd.returns (t := .boolean) (by simp) (hb hby dc15_55) (by decide) (by decide) ⟨rfl, N8, e8⟩
def Q_admits_39 (Z : State) (h0 : Heap) (n0 : Nat) (v : Option Value) (h : Heap) (L : List Loc) : Prop := v = some (.int (1 : Int32)) ∧ Fr n0 L ∧ h = h0
set_option maxRecDepth 65536 in
set_option maxHeartbeats 40000000 in
theorem rm_admits_39 (l : Launch) (Z : State) (a0 : Array Value) (hw : ∀ d ∈ tables_1, d.before a0 Z = true) (ws : List Jvm.Cond) (o0 : Addr) (o1 : Addr) (o2 : Addr) (o3 : Addr) (o4 : Addr) (y0 : Int32) (o5 : Addr) (o6 : Addr) (y1 : Int32) (y2 : Int32) (y3 : Int32) (y4 : Int32) (kc0 : ClassId) (y5 : Int32) (y6 : Int32) (y7 : Int32) (y8 : Int32) (kc1 : ClassId) (o7 : Addr) (o8 : Addr) (o9 : Addr) (y9 : Int32) (y10 : Int32) (y11 : Int32) (y12 : Int32) (kc2 : ClassId) (kc3 : ClassId) (h0 : Heap) (n0 : Nat) (Z0 : n0 ≤ h0.size) (P0 : Fld Z h0 o0 "com/example/ruleweave/ruleweave/CommonPolicySchema$Term" "type" "Lcom/example/ruleweave/ruleweave/CommonPolicySchema$Type;" (.ref o3)) (P1 : Fld Z h0 o0 "com/example/ruleweave/ruleweave/CommonPolicySchema$Term" "namespace" "Ljava/lang/String;" (.ref o4)) (P2 : Exa Z h0 o4 "java/lang/String") (P3 : Sta Z h0 "java/lang/String" "COMPACT_STRINGS" "Z" (.int y0)) (P4 : Fld Z h0 o1 "java/lang/String" "coder" "B" (.int (0 : Int32))) (P5 : Fld Z h0 o4 "java/lang/String" "coder" "B" (.int (0 : Int32))) (P6 : Fld Z h0 o1 "java/lang/String" "value" "[B" (.ref o5)) (P7 : Fld Z h0 o4 "java/lang/String" "value" "[B" (.ref o6)) (P8 : Arv Z h0 o5 kc0 .byte y1 (own_sl y2 y3 y4 y1) (.int (0 : Int32))) (P9 : Arv Z h0 o6 kc1 .byte y5 (own_sl y6 y7 y8 y5) (.int (0 : Int32))) (P10 : Exa Z h0 o1 "java/lang/String") (P11 : Fld Z h0 o0 "com/example/ruleweave/ruleweave/CommonPolicySchema$Term" "localName" "Ljava/lang/String;" (.ref o7)) (P12 : Exa Z h0 o7 "java/lang/String") (P13 : Fld Z h0 o2 "java/lang/String" "coder" "B" (.int (0 : Int32))) (P14 : Fld Z h0 o7 "java/lang/String" "coder" "B" (.int (0 : Int32))) (P15 : Fld Z h0 o2 "java/lang/String" "value" "[B" (.ref o8)) (P16 : Fld Z h0 o7 "java/lang/String" "value" "[B" (.ref o9)) (P17 : Arv Z h0 o8 kc2 .byte y9 (own_sl y10 y11 y12 y9) (.int (0 : Int32))) (P18 : Arv Z h0 o9 kc3 .byte y9 (own_sl y10 y11 y12 y9) (.int (0 : Int32))) (P19 : Exa Z h0 o2 "java/lang/String") (ne0p : o1 ≠ o4) (ne1p : o2 ≠ o7) (hb0 : ¬ (y0 = (0 : Int32))) (hb1 : ¬ (y1 < (0 : Int32))) (hb2 : ¬ ((3 : Int32) < y1)) (hb3 : ¬ (y5 < (0 : Int32))) (hb4 : ¬ ((3 : Int32) < y5)) (hb5 : ¬ ((own_leq y2 y3 y4 y1 y6 y7 y8 y5) = (0 : Int32))) (hb6 : ¬ (y9 < (0 : Int32))) (hb7 : ¬ ((3 : Int32) < y9)) (hb8 : ¬ ((own_leq y10 y11 y12 y9 y10 y11 y12 y9) = (0 : Int32))) :
    MetFree l (⟨"com/example/ruleweave/ruleweave/CommonPolicySchema$Term", "admits", "(Ljava/lang/String;Ljava/lang/String;)Z"⟩ : MethodName) (head1 (Jvm.Cond.code (⟨"com/example/ruleweave/ruleweave/CommonPolicySchema$Term", "admits", "(Ljava/lang/String;Ljava/lang/String;)Z"⟩ : MethodName) prog_17_method_2_code 3 (some .boolean) :: ws) ({ frames := 2, cells := 0, slots := 0, locals := 28 } : Room)) (fun aA U => aA = #[(.ref o0), (.ref o1), (.ref o2)] ∧ Z.Warmed39 U.vm ∧ U.heap = h0) (fun _ _ _ _ _ => True) (fun _ U o U' => ∃ v L, o = .returned v ∧ Q_admits_39 Z h0 n0 v U'.heap L ∧ FrameEnd U o U' L ({ frames := 2, cells := 0, slots := 0, locals := 28 } : Room).cells ({ frames := 2, cells := 0, slots := 0, locals := 28 } : Room).slots) := by
  refine MetFree.of_bodySF (plainFor_of_name own_pn_com_example_ruleweave_ruleweave_CommonPolicySchema_Term) hisR ?_
  intro p e s m args below meth c s₁ Bd hml0 hP hK
  obtain ⟨rfl, hZ, hh⟩ := hP
  have hx := Bd.exec
  have hby := Bd.bytes
  have hlk : meth.locks = false := BodyLoose.notSynchronized Bd
  have hml : c.maxLocals = 3 := hml0
  have hown : s.vm.findClass "com/example/ruleweave/ruleweave/CommonPolicySchema$Term" = some m.cls := findClass_of_methodNamed Bd.named
  have hnm := (name_of_methodNamed Bd.named Bd.method).1
  have X0 : Stand p l e ({ frames := 2, cells := 0, slots := 0, locals := 28 } : Room) s m #[(.ref o0), (.ref o1), (.ref o2)] below meth c s₁ [] 0 0 := Stand.of_body Bd
  have e0 : s₁.heap = h0 := by rw [← hh, Bd.state]; rfl
  have N0 := Fr.nil n0
  show oG p e below (own_K s (Q_admits_39 Z h0 n0) ({ frames := 2, cells := 0, slots := 0, locals := 28 } : Room).cells ({ frames := 2, cells := 0, slots := 0, locals := 28 } : Room).slots) (s₁.setTop (entryFrame m #[(.ref o0), (.ref o1), (.ref o2)] 3))
  rw [(by first | (simp [entryFrame, mkF, argsToLocals, Value.category]; done) | rfl : entryFrame m #[(.ref o0), (.ref o1), (.ref o2)] 3 = mkF m 0 #[.val (.ref o0), .val (.ref o1), .val (.ref o2)] [])]
  show oG p e below _ (s₁.setTop (mkF m 0 #[.val (.ref o0), .val (.ref o1), .val (.ref o2)] []))
  refine og (fun _ hr => XS.aloadN X0.here hx rfl (hb hby dc8_0) rfl rfl hr) ?_
  show oG p e below _ (s₁.setTop (mkF m 1 #[.val (.ref o0), .val (.ref o1), .val (.ref o2)] [(.ref o0)]))
  obtain ⟨T1, X1, e1, st1⟩ := getF X0 hx hZ hown (host := "") (Or.inl (hw _ (own_m 47 rfl))) Via.refl e0 P0 (g := (mkF m 1 #[.val (.ref o0), .val (.ref o1), .val (.ref o2)] [(.ref o0)])) rfl rfl (hb hby dc8_1)
  refine og st1 ?_
  show oG p e below _ (T1.setTop (mkF m 4 #[.val (.ref o0), .val (.ref o1), .val (.ref o2)] [(.ref o3)]))
  refine og (fun _ hr => XS.ifnonnullYes X1.here hx rfl (pc0 := 4) (pc' := 29) rfl (hb hby dc8_4) rfl (by decide) (by decide) hr) ?_
  show oG p e below _ (T1.setTop (mkF m 29 #[.val (.ref o0), .val (.ref o1), .val (.ref o2)] []))
  refine og (fun _ hr => XS.aloadN X1.here hx rfl (hb hby dc8_29) rfl rfl (XS.aloadN X1.here hx rfl (hb hby dc8_30) rfl rfl hr)) ?_
  show oG p e below _ (T1.setTop (mkF m 31 #[.val (.ref o0), .val (.ref o1), .val (.ref o2)] [(.ref o0), (.ref o1)]))
  obtain ⟨T2, X2, e2, st2⟩ := getF X1 hx hZ hown (host := "") (Or.inl (hw _ (own_m 43 rfl))) Via.refl e1 P1 (g := (mkF m 31 #[.val (.ref o0), .val (.ref o1), .val (.ref o2)] [(.ref o0), (.ref o1)])) rfl rfl (hb hby dc8_31)
  refine og st2 ?_
  show oG p e below _ (T2.setTop (mkF m 34 #[.val (.ref o0), .val (.ref o1), .val (.ref o2)] [(.ref o4), (.ref o1)]))
  refine own_cv X2 hx hZ hown (notFace_of_selects (args := #[]) (mvT hZ (hw _ (own_m 95 rfl)))) (hw _ (own_m 92 rfl)) (hw _ (own_m 93 rfl)) (hw _ (own_m 95 rfl)) (hw _ (own_m 94 rfl)) (hw _ (own_m 7 rfl)) (hw _ (own_m 96 rfl)) (by decide) P10 (rm := { frames := 1, cells := 0, slots := 0, locals := 14 }) (rm_equals_35 l Z a0 hw [] o1 o4 y0 o5 o6 y1 y2 y3 y4 kc0 y5 y6 y7 y8 kc1 h0 n0 Z0 P2 P3 P4 P5 P6 P7 P8 P9 ne0p hb0 hb1 hb2 hb3 hb4 hb5) (by decide) (W := 0) (by decide) (by decide) (by decide) e2 (by rw [hml]; rfl) (argsL := [(.ref o4)]) (lenOf own_pd16 rfl) (rest := []) rfl rfl (Nat.le_of_eq rfl) (hb hby dc8_34) ?_
  intro _ T3 L3 X3 hQ3
  obtain ⟨rfl, N3q, e3⟩ := hQ3
  have N3 := Fr.app N0 N3q
  show oG p e below _ (T3.setTop (mkF m 37 #[.val (.ref o0), .val (.ref o1), .val (.ref o2)] [(.int (1 : Int32))]))
  refine og (fun _ hr => XS.ifNo X3.here hx rfl (hb hby dc8_37) rfl ((if0 _ _).trans (feq (by decide)).1) (XS.aloadN X3.here hx rfl (hb hby dc8_40) rfl rfl (XS.aloadN X3.here hx rfl (hb hby dc8_41) rfl rfl hr))) ?_
  show oG p e below _ (T3.setTop (mkF m 42 #[.val (.ref o0), .val (.ref o1), .val (.ref o2)] [(.ref o0), (.ref o2)]))
  obtain ⟨T4, X4, e4, st4⟩ := getF X3 hx hZ hown (host := "") (Or.inl (hw _ (own_m 45 rfl))) Via.refl e3 P11 (g := (mkF m 42 #[.val (.ref o0), .val (.ref o1), .val (.ref o2)] [(.ref o0), (.ref o2)])) rfl rfl (hb hby dc8_42)
  refine og st4 ?_
  show oG p e below _ (T4.setTop (mkF m 45 #[.val (.ref o0), .val (.ref o1), .val (.ref o2)] [(.ref o7), (.ref o2)]))
  refine own_cv X4 hx hZ hown (notFace_of_selects (args := #[]) (mvT hZ (hw _ (own_m 95 rfl)))) (hw _ (own_m 92 rfl)) (hw _ (own_m 93 rfl)) (hw _ (own_m 95 rfl)) (hw _ (own_m 94 rfl)) (hw _ (own_m 7 rfl)) (hw _ (own_m 96 rfl)) (by decide) P19 (rm := { frames := 1, cells := 0, slots := 0, locals := 14 }) (rm_equals_38 l Z a0 hw [] o2 o7 y0 o8 o9 y9 y10 y11 y12 kc2 kc3 h0 n0 Z0 P12 P3 P13 P14 P15 P16 P17 P18 ne1p hb0 hb6 hb7 hb8) (by decide) (W := 0) (by decide) (by decide) (by decide) e4 (by rw [hml]; rfl) (argsL := [(.ref o7)]) (lenOf own_pd16 rfl) (rest := []) rfl rfl (Nat.le_of_eq rfl) (hb hby dc8_45) ?_
  intro _ T5 L5 X5 hQ5
  obtain ⟨rfl, N5q, e5⟩ := hQ5
  have N5 := Fr.app N3 N5q
  show oG p e below _ (T5.setTop (mkF m 48 #[.val (.ref o0), .val (.ref o1), .val (.ref o2)] [(.int (1 : Int32))]))
  refine og (fun _ hr => XS.ifNo X5.here hx rfl (hb hby dc8_48) rfl ((if0 _ _).trans (feq (by decide)).1) (XS.iconst X5.here hx rfl (hb hby dc8_51) (XS.goto X5.here hx rfl (pc0 := 52) (pc' := 56) rfl (hb hby dc8_52) (by decide) (by decide) hr))) ?_
  show oG p e below _ (T5.setTop (mkF m 56 #[.val (.ref o0), .val (.ref o1), .val (.ref o2)] [(.int (1 : Int32))]))
  exact own_retN X5 hx hlk Bd.returns (t := .boolean) (by simp) (hb hby dc8_56) (by decide) (by decide) ⟨rfl, N5, e5⟩
def Q_admits_40 (Z : State) (h0 : Heap) (n0 : Nat) (v : Option Value) (h : Heap) (L : List Loc) : Prop := v = some (.int (0 : Int32)) ∧ Fr n0 L ∧ h = h0
set_option maxRecDepth 65536 in
set_option maxHeartbeats 40000000 in
theorem rm_admits_40 (l : Launch) (Z : State) (a0 : Array Value) (hw : ∀ d ∈ tables_1, d.before a0 Z = true) (ws : List Jvm.Cond) (o0 : Addr) (o1 : Addr) (o2 : Addr) (o3 : Addr) (o4 : Addr) (y0 : Int32) (o5 : Addr) (o6 : Addr) (y1 : Int32) (y2 : Int32) (y3 : Int32) (y4 : Int32) (kc0 : ClassId) (kc1 : ClassId) (o7 : Addr) (o8 : Addr) (o9 : Addr) (y5 : Int32) (y6 : Int32) (y7 : Int32) (y8 : Int32) (kc2 : ClassId) (y9 : Int32) (y10 : Int32) (y11 : Int32) (y12 : Int32) (kc3 : ClassId) (h0 : Heap) (n0 : Nat) (Z0 : n0 ≤ h0.size) (P0 : Fld Z h0 o0 "com/example/ruleweave/ruleweave/CommonPolicySchema$Term" "type" "Lcom/example/ruleweave/ruleweave/CommonPolicySchema$Type;" (.ref o3)) (P1 : Fld Z h0 o0 "com/example/ruleweave/ruleweave/CommonPolicySchema$Term" "namespace" "Ljava/lang/String;" (.ref o4)) (P2 : Exa Z h0 o4 "java/lang/String") (P3 : Sta Z h0 "java/lang/String" "COMPACT_STRINGS" "Z" (.int y0)) (P4 : Fld Z h0 o1 "java/lang/String" "coder" "B" (.int (0 : Int32))) (P5 : Fld Z h0 o4 "java/lang/String" "coder" "B" (.int (0 : Int32))) (P6 : Fld Z h0 o1 "java/lang/String" "value" "[B" (.ref o5)) (P7 : Fld Z h0 o4 "java/lang/String" "value" "[B" (.ref o6)) (P8 : Arv Z h0 o5 kc0 .byte y1 (own_sl y2 y3 y4 y1) (.int (0 : Int32))) (P9 : Arv Z h0 o6 kc1 .byte y1 (own_sl y2 y3 y4 y1) (.int (0 : Int32))) (P10 : Exa Z h0 o1 "java/lang/String") (P11 : Fld Z h0 o0 "com/example/ruleweave/ruleweave/CommonPolicySchema$Term" "localName" "Ljava/lang/String;" (.ref o7)) (P12 : Exa Z h0 o7 "java/lang/String") (P13 : Fld Z h0 o2 "java/lang/String" "coder" "B" (.int (0 : Int32))) (P14 : Fld Z h0 o7 "java/lang/String" "coder" "B" (.int (0 : Int32))) (P15 : Fld Z h0 o2 "java/lang/String" "value" "[B" (.ref o8)) (P16 : Fld Z h0 o7 "java/lang/String" "value" "[B" (.ref o9)) (P17 : Arv Z h0 o8 kc2 .byte y5 (own_sl y6 y7 y8 y5) (.int (0 : Int32))) (P18 : Arv Z h0 o9 kc3 .byte y9 (own_sl y10 y11 y12 y9) (.int (0 : Int32))) (P19 : Exa Z h0 o2 "java/lang/String") (ne0p : o1 ≠ o4) (ne1p : o2 ≠ o7) (hb0 : ¬ (y0 = (0 : Int32))) (hb1 : ¬ (y1 < (0 : Int32))) (hb2 : ¬ ((3 : Int32) < y1)) (hb3 : ¬ ((own_leq y2 y3 y4 y1 y2 y3 y4 y1) = (0 : Int32))) (hb4 : ¬ (y5 < (0 : Int32))) (hb5 : ¬ ((3 : Int32) < y5)) (hb6 : ¬ (y9 < (0 : Int32))) (hb7 : ¬ ((3 : Int32) < y9)) (hb8 : (own_leq y6 y7 y8 y5 y10 y11 y12 y9) = (0 : Int32)) :
    MetFree l (⟨"com/example/ruleweave/ruleweave/CommonPolicySchema$Term", "admits", "(Ljava/lang/String;Ljava/lang/String;)Z"⟩ : MethodName) (head1 (Jvm.Cond.code (⟨"com/example/ruleweave/ruleweave/CommonPolicySchema$Term", "admits", "(Ljava/lang/String;Ljava/lang/String;)Z"⟩ : MethodName) prog_17_method_2_code 3 (some .boolean) :: ws) ({ frames := 2, cells := 0, slots := 0, locals := 28 } : Room)) (fun aA U => aA = #[(.ref o0), (.ref o1), (.ref o2)] ∧ Z.Warmed39 U.vm ∧ U.heap = h0) (fun _ _ _ _ _ => True) (fun _ U o U' => ∃ v L, o = .returned v ∧ Q_admits_40 Z h0 n0 v U'.heap L ∧ FrameEnd U o U' L ({ frames := 2, cells := 0, slots := 0, locals := 28 } : Room).cells ({ frames := 2, cells := 0, slots := 0, locals := 28 } : Room).slots) := by
  refine MetFree.of_bodySF (plainFor_of_name own_pn_com_example_ruleweave_ruleweave_CommonPolicySchema_Term) hisR ?_
  intro p e s m args below meth c s₁ Bd hml0 hP hK
  obtain ⟨rfl, hZ, hh⟩ := hP
  have hx := Bd.exec
  have hby := Bd.bytes
  have hlk : meth.locks = false := BodyLoose.notSynchronized Bd
  have hml : c.maxLocals = 3 := hml0
  have hown : s.vm.findClass "com/example/ruleweave/ruleweave/CommonPolicySchema$Term" = some m.cls := findClass_of_methodNamed Bd.named
  have hnm := (name_of_methodNamed Bd.named Bd.method).1
  have X0 : Stand p l e ({ frames := 2, cells := 0, slots := 0, locals := 28 } : Room) s m #[(.ref o0), (.ref o1), (.ref o2)] below meth c s₁ [] 0 0 := Stand.of_body Bd
  have e0 : s₁.heap = h0 := by rw [← hh, Bd.state]; rfl
  have N0 := Fr.nil n0
  show oG p e below (own_K s (Q_admits_40 Z h0 n0) ({ frames := 2, cells := 0, slots := 0, locals := 28 } : Room).cells ({ frames := 2, cells := 0, slots := 0, locals := 28 } : Room).slots) (s₁.setTop (entryFrame m #[(.ref o0), (.ref o1), (.ref o2)] 3))
  rw [(by first | (simp [entryFrame, mkF, argsToLocals, Value.category]; done) | rfl : entryFrame m #[(.ref o0), (.ref o1), (.ref o2)] 3 = mkF m 0 #[.val (.ref o0), .val (.ref o1), .val (.ref o2)] [])]
  show oG p e below _ (s₁.setTop (mkF m 0 #[.val (.ref o0), .val (.ref o1), .val (.ref o2)] []))
  refine og (fun _ hr => XS.aloadN X0.here hx rfl (hb hby dc8_0) rfl rfl hr) ?_
  show oG p e below _ (s₁.setTop (mkF m 1 #[.val (.ref o0), .val (.ref o1), .val (.ref o2)] [(.ref o0)]))
  obtain ⟨T1, X1, e1, st1⟩ := getF X0 hx hZ hown (host := "") (Or.inl (hw _ (own_m 47 rfl))) Via.refl e0 P0 (g := (mkF m 1 #[.val (.ref o0), .val (.ref o1), .val (.ref o2)] [(.ref o0)])) rfl rfl (hb hby dc8_1)
  refine og st1 ?_
  show oG p e below _ (T1.setTop (mkF m 4 #[.val (.ref o0), .val (.ref o1), .val (.ref o2)] [(.ref o3)]))
  refine og (fun _ hr => XS.ifnonnullYes X1.here hx rfl (pc0 := 4) (pc' := 29) rfl (hb hby dc8_4) rfl (by decide) (by decide) hr) ?_
  show oG p e below _ (T1.setTop (mkF m 29 #[.val (.ref o0), .val (.ref o1), .val (.ref o2)] []))
  refine og (fun _ hr => XS.aloadN X1.here hx rfl (hb hby dc8_29) rfl rfl (XS.aloadN X1.here hx rfl (hb hby dc8_30) rfl rfl hr)) ?_
  show oG p e below _ (T1.setTop (mkF m 31 #[.val (.ref o0), .val (.ref o1), .val (.ref o2)] [(.ref o0), (.ref o1)]))
  obtain ⟨T2, X2, e2, st2⟩ := getF X1 hx hZ hown (host := "") (Or.inl (hw _ (own_m 43 rfl))) Via.refl e1 P1 (g := (mkF m 31 #[.val (.ref o0), .val (.ref o1), .val (.ref o2)] [(.ref o0), (.ref o1)])) rfl rfl (hb hby dc8_31)
  refine og st2 ?_
  show oG p e below _ (T2.setTop (mkF m 34 #[.val (.ref o0), .val (.ref o1), .val (.ref o2)] [(.ref o4), (.ref o1)]))
  refine own_cv X2 hx hZ hown (notFace_of_selects (args := #[]) (mvT hZ (hw _ (own_m 95 rfl)))) (hw _ (own_m 92 rfl)) (hw _ (own_m 93 rfl)) (hw _ (own_m 95 rfl)) (hw _ (own_m 94 rfl)) (hw _ (own_m 7 rfl)) (hw _ (own_m 96 rfl)) (by decide) P10 (rm := { frames := 1, cells := 0, slots := 0, locals := 14 }) (rm_equals_38 l Z a0 hw [] o1 o4 y0 o5 o6 y1 y2 y3 y4 kc0 kc1 h0 n0 Z0 P2 P3 P4 P5 P6 P7 P8 P9 ne0p hb0 hb1 hb2 hb3) (by decide) (W := 0) (by decide) (by decide) (by decide) e2 (by rw [hml]; rfl) (argsL := [(.ref o4)]) (lenOf own_pd16 rfl) (rest := []) rfl rfl (Nat.le_of_eq rfl) (hb hby dc8_34) ?_
  intro _ T3 L3 X3 hQ3
  obtain ⟨rfl, N3q, e3⟩ := hQ3
  have N3 := Fr.app N0 N3q
  show oG p e below _ (T3.setTop (mkF m 37 #[.val (.ref o0), .val (.ref o1), .val (.ref o2)] [(.int (1 : Int32))]))
  refine og (fun _ hr => XS.ifNo X3.here hx rfl (hb hby dc8_37) rfl ((if0 _ _).trans (feq (by decide)).1) (XS.aloadN X3.here hx rfl (hb hby dc8_40) rfl rfl (XS.aloadN X3.here hx rfl (hb hby dc8_41) rfl rfl hr))) ?_
  show oG p e below _ (T3.setTop (mkF m 42 #[.val (.ref o0), .val (.ref o1), .val (.ref o2)] [(.ref o0), (.ref o2)]))
  obtain ⟨T4, X4, e4, st4⟩ := getF X3 hx hZ hown (host := "") (Or.inl (hw _ (own_m 45 rfl))) Via.refl e3 P11 (g := (mkF m 42 #[.val (.ref o0), .val (.ref o1), .val (.ref o2)] [(.ref o0), (.ref o2)])) rfl rfl (hb hby dc8_42)
  refine og st4 ?_
  show oG p e below _ (T4.setTop (mkF m 45 #[.val (.ref o0), .val (.ref o1), .val (.ref o2)] [(.ref o7), (.ref o2)]))
  refine own_cv X4 hx hZ hown (notFace_of_selects (args := #[]) (mvT hZ (hw _ (own_m 95 rfl)))) (hw _ (own_m 92 rfl)) (hw _ (own_m 93 rfl)) (hw _ (own_m 95 rfl)) (hw _ (own_m 94 rfl)) (hw _ (own_m 7 rfl)) (hw _ (own_m 96 rfl)) (by decide) P19 (rm := { frames := 1, cells := 0, slots := 0, locals := 14 }) (rm_equals_33 l Z a0 hw [] o2 o7 y0 o8 o9 y5 y6 y7 y8 kc2 y9 y10 y11 y12 kc3 h0 n0 Z0 P12 P3 P13 P14 P15 P16 P17 P18 ne1p hb0 hb4 hb5 hb6 hb7 hb8) (by decide) (W := 0) (by decide) (by decide) (by decide) e4 (by rw [hml]; rfl) (argsL := [(.ref o7)]) (lenOf own_pd16 rfl) (rest := []) rfl rfl (Nat.le_of_eq rfl) (hb hby dc8_45) ?_
  intro _ T5 L5 X5 hQ5
  obtain ⟨rfl, N5q, e5⟩ := hQ5
  have N5 := Fr.app N3 N5q
  show oG p e below _ (T5.setTop (mkF m 48 #[.val (.ref o0), .val (.ref o1), .val (.ref o2)] [(.int (0 : Int32))]))
  refine og (fun _ hr => XS.ifYes X5.here hx rfl (pc0 := 48) (pc' := 55) rfl (hb hby dc8_48) rfl ((if0 _ _).trans (teq (by decide)).1) (by decide) (by decide) (XS.iconst X5.here hx rfl (hb hby dc8_55) hr)) ?_
  show oG p e below _ (T5.setTop (mkF m 56 #[.val (.ref o0), .val (.ref o1), .val (.ref o2)] [(.int (0 : Int32))]))
  exact own_retN X5 hx hlk Bd.returns (t := .boolean) (by simp) (hb hby dc8_56) (by decide) (by decide) ⟨rfl, N5, e5⟩
def Q_admits_41 (Z : State) (h0 : Heap) (n0 : Nat) (v : Option Value) (h : Heap) (L : List Loc) : Prop := v = some (.int (1 : Int32)) ∧ Fr n0 L ∧ h = h0
set_option maxRecDepth 65536 in
set_option maxHeartbeats 40000000 in
theorem rm_admits_41 (l : Launch) (Z : State) (a0 : Array Value) (hw : ∀ d ∈ tables_1, d.before a0 Z = true) (ws : List Jvm.Cond) (o0 : Addr) (o1 : Addr) (o2 : Addr) (o3 : Addr) (o4 : Addr) (y0 : Int32) (o5 : Addr) (o6 : Addr) (y1 : Int32) (y2 : Int32) (y3 : Int32) (y4 : Int32) (kc0 : ClassId) (kc1 : ClassId) (o7 : Addr) (o8 : Addr) (o9 : Addr) (y5 : Int32) (y6 : Int32) (y7 : Int32) (y8 : Int32) (kc2 : ClassId) (y9 : Int32) (y10 : Int32) (y11 : Int32) (y12 : Int32) (kc3 : ClassId) (h0 : Heap) (n0 : Nat) (Z0 : n0 ≤ h0.size) (P0 : Fld Z h0 o0 "com/example/ruleweave/ruleweave/CommonPolicySchema$Term" "type" "Lcom/example/ruleweave/ruleweave/CommonPolicySchema$Type;" (.ref o3)) (P1 : Fld Z h0 o0 "com/example/ruleweave/ruleweave/CommonPolicySchema$Term" "namespace" "Ljava/lang/String;" (.ref o4)) (P2 : Exa Z h0 o4 "java/lang/String") (P3 : Sta Z h0 "java/lang/String" "COMPACT_STRINGS" "Z" (.int y0)) (P4 : Fld Z h0 o1 "java/lang/String" "coder" "B" (.int (0 : Int32))) (P5 : Fld Z h0 o4 "java/lang/String" "coder" "B" (.int (0 : Int32))) (P6 : Fld Z h0 o1 "java/lang/String" "value" "[B" (.ref o5)) (P7 : Fld Z h0 o4 "java/lang/String" "value" "[B" (.ref o6)) (P8 : Arv Z h0 o5 kc0 .byte y1 (own_sl y2 y3 y4 y1) (.int (0 : Int32))) (P9 : Arv Z h0 o6 kc1 .byte y1 (own_sl y2 y3 y4 y1) (.int (0 : Int32))) (P10 : Exa Z h0 o1 "java/lang/String") (P11 : Fld Z h0 o0 "com/example/ruleweave/ruleweave/CommonPolicySchema$Term" "localName" "Ljava/lang/String;" (.ref o7)) (P12 : Exa Z h0 o7 "java/lang/String") (P13 : Fld Z h0 o2 "java/lang/String" "coder" "B" (.int (0 : Int32))) (P14 : Fld Z h0 o7 "java/lang/String" "coder" "B" (.int (0 : Int32))) (P15 : Fld Z h0 o2 "java/lang/String" "value" "[B" (.ref o8)) (P16 : Fld Z h0 o7 "java/lang/String" "value" "[B" (.ref o9)) (P17 : Arv Z h0 o8 kc2 .byte y5 (own_sl y6 y7 y8 y5) (.int (0 : Int32))) (P18 : Arv Z h0 o9 kc3 .byte y9 (own_sl y10 y11 y12 y9) (.int (0 : Int32))) (P19 : Exa Z h0 o2 "java/lang/String") (ne0p : o1 ≠ o4) (ne1p : o2 ≠ o7) (hb0 : ¬ (y0 = (0 : Int32))) (hb1 : ¬ (y1 < (0 : Int32))) (hb2 : ¬ ((3 : Int32) < y1)) (hb3 : ¬ ((own_leq y2 y3 y4 y1 y2 y3 y4 y1) = (0 : Int32))) (hb4 : ¬ (y5 < (0 : Int32))) (hb5 : ¬ ((3 : Int32) < y5)) (hb6 : ¬ (y9 < (0 : Int32))) (hb7 : ¬ ((3 : Int32) < y9)) (hb8 : ¬ ((own_leq y6 y7 y8 y5 y10 y11 y12 y9) = (0 : Int32))) :
    MetFree l (⟨"com/example/ruleweave/ruleweave/CommonPolicySchema$Term", "admits", "(Ljava/lang/String;Ljava/lang/String;)Z"⟩ : MethodName) (head1 (Jvm.Cond.code (⟨"com/example/ruleweave/ruleweave/CommonPolicySchema$Term", "admits", "(Ljava/lang/String;Ljava/lang/String;)Z"⟩ : MethodName) prog_17_method_2_code 3 (some .boolean) :: ws) ({ frames := 2, cells := 0, slots := 0, locals := 28 } : Room)) (fun aA U => aA = #[(.ref o0), (.ref o1), (.ref o2)] ∧ Z.Warmed39 U.vm ∧ U.heap = h0) (fun _ _ _ _ _ => True) (fun _ U o U' => ∃ v L, o = .returned v ∧ Q_admits_41 Z h0 n0 v U'.heap L ∧ FrameEnd U o U' L ({ frames := 2, cells := 0, slots := 0, locals := 28 } : Room).cells ({ frames := 2, cells := 0, slots := 0, locals := 28 } : Room).slots) := by
  refine MetFree.of_bodySF (plainFor_of_name own_pn_com_example_ruleweave_ruleweave_CommonPolicySchema_Term) hisR ?_
  intro p e s m args below meth c s₁ Bd hml0 hP hK
  obtain ⟨rfl, hZ, hh⟩ := hP
  have hx := Bd.exec
  have hby := Bd.bytes
  have hlk : meth.locks = false := BodyLoose.notSynchronized Bd
  have hml : c.maxLocals = 3 := hml0
  have hown : s.vm.findClass "com/example/ruleweave/ruleweave/CommonPolicySchema$Term" = some m.cls := findClass_of_methodNamed Bd.named
  have hnm := (name_of_methodNamed Bd.named Bd.method).1
  have X0 : Stand p l e ({ frames := 2, cells := 0, slots := 0, locals := 28 } : Room) s m #[(.ref o0), (.ref o1), (.ref o2)] below meth c s₁ [] 0 0 := Stand.of_body Bd
  have e0 : s₁.heap = h0 := by rw [← hh, Bd.state]; rfl
  have N0 := Fr.nil n0
  show oG p e below (own_K s (Q_admits_41 Z h0 n0) ({ frames := 2, cells := 0, slots := 0, locals := 28 } : Room).cells ({ frames := 2, cells := 0, slots := 0, locals := 28 } : Room).slots) (s₁.setTop (entryFrame m #[(.ref o0), (.ref o1), (.ref o2)] 3))
  rw [(by first | (simp [entryFrame, mkF, argsToLocals, Value.category]; done) | rfl : entryFrame m #[(.ref o0), (.ref o1), (.ref o2)] 3 = mkF m 0 #[.val (.ref o0), .val (.ref o1), .val (.ref o2)] [])]
  show oG p e below _ (s₁.setTop (mkF m 0 #[.val (.ref o0), .val (.ref o1), .val (.ref o2)] []))
  refine og (fun _ hr => XS.aloadN X0.here hx rfl (hb hby dc8_0) rfl rfl hr) ?_
  show oG p e below _ (s₁.setTop (mkF m 1 #[.val (.ref o0), .val (.ref o1), .val (.ref o2)] [(.ref o0)]))
  obtain ⟨T1, X1, e1, st1⟩ := getF X0 hx hZ hown (host := "") (Or.inl (hw _ (own_m 47 rfl))) Via.refl e0 P0 (g := (mkF m 1 #[.val (.ref o0), .val (.ref o1), .val (.ref o2)] [(.ref o0)])) rfl rfl (hb hby dc8_1)
  refine og st1 ?_
  show oG p e below _ (T1.setTop (mkF m 4 #[.val (.ref o0), .val (.ref o1), .val (.ref o2)] [(.ref o3)]))
  refine og (fun _ hr => XS.ifnonnullYes X1.here hx rfl (pc0 := 4) (pc' := 29) rfl (hb hby dc8_4) rfl (by decide) (by decide) hr) ?_
  show oG p e below _ (T1.setTop (mkF m 29 #[.val (.ref o0), .val (.ref o1), .val (.ref o2)] []))
  refine og (fun _ hr => XS.aloadN X1.here hx rfl (hb hby dc8_29) rfl rfl (XS.aloadN X1.here hx rfl (hb hby dc8_30) rfl rfl hr)) ?_
  show oG p e below _ (T1.setTop (mkF m 31 #[.val (.ref o0), .val (.ref o1), .val (.ref o2)] [(.ref o0), (.ref o1)]))
  obtain ⟨T2, X2, e2, st2⟩ := getF X1 hx hZ hown (host := "") (Or.inl (hw _ (own_m 43 rfl))) Via.refl e1 P1 (g := (mkF m 31 #[.val (.ref o0), .val (.ref o1), .val (.ref o2)] [(.ref o0), (.ref o1)])) rfl rfl (hb hby dc8_31)
  refine og st2 ?_
  show oG p e below _ (T2.setTop (mkF m 34 #[.val (.ref o0), .val (.ref o1), .val (.ref o2)] [(.ref o4), (.ref o1)]))
  refine own_cv X2 hx hZ hown (notFace_of_selects (args := #[]) (mvT hZ (hw _ (own_m 95 rfl)))) (hw _ (own_m 92 rfl)) (hw _ (own_m 93 rfl)) (hw _ (own_m 95 rfl)) (hw _ (own_m 94 rfl)) (hw _ (own_m 7 rfl)) (hw _ (own_m 96 rfl)) (by decide) P10 (rm := { frames := 1, cells := 0, slots := 0, locals := 14 }) (rm_equals_38 l Z a0 hw [] o1 o4 y0 o5 o6 y1 y2 y3 y4 kc0 kc1 h0 n0 Z0 P2 P3 P4 P5 P6 P7 P8 P9 ne0p hb0 hb1 hb2 hb3) (by decide) (W := 0) (by decide) (by decide) (by decide) e2 (by rw [hml]; rfl) (argsL := [(.ref o4)]) (lenOf own_pd16 rfl) (rest := []) rfl rfl (Nat.le_of_eq rfl) (hb hby dc8_34) ?_
  intro _ T3 L3 X3 hQ3
  obtain ⟨rfl, N3q, e3⟩ := hQ3
  have N3 := Fr.app N0 N3q
  show oG p e below _ (T3.setTop (mkF m 37 #[.val (.ref o0), .val (.ref o1), .val (.ref o2)] [(.int (1 : Int32))]))
  refine og (fun _ hr => XS.ifNo X3.here hx rfl (hb hby dc8_37) rfl ((if0 _ _).trans (feq (by decide)).1) (XS.aloadN X3.here hx rfl (hb hby dc8_40) rfl rfl (XS.aloadN X3.here hx rfl (hb hby dc8_41) rfl rfl hr))) ?_
  show oG p e below _ (T3.setTop (mkF m 42 #[.val (.ref o0), .val (.ref o1), .val (.ref o2)] [(.ref o0), (.ref o2)]))
  obtain ⟨T4, X4, e4, st4⟩ := getF X3 hx hZ hown (host := "") (Or.inl (hw _ (own_m 45 rfl))) Via.refl e3 P11 (g := (mkF m 42 #[.val (.ref o0), .val (.ref o1), .val (.ref o2)] [(.ref o0), (.ref o2)])) rfl rfl (hb hby dc8_42)
  refine og st4 ?_
  show oG p e below _ (T4.setTop (mkF m 45 #[.val (.ref o0), .val (.ref o1), .val (.ref o2)] [(.ref o7), (.ref o2)]))
  refine own_cv X4 hx hZ hown (notFace_of_selects (args := #[]) (mvT hZ (hw _ (own_m 95 rfl)))) (hw _ (own_m 92 rfl)) (hw _ (own_m 93 rfl)) (hw _ (own_m 95 rfl)) (hw _ (own_m 94 rfl)) (hw _ (own_m 7 rfl)) (hw _ (own_m 96 rfl)) (by decide) P19 (rm := { frames := 1, cells := 0, slots := 0, locals := 14 }) (rm_equals_35 l Z a0 hw [] o2 o7 y0 o8 o9 y5 y6 y7 y8 kc2 y9 y10 y11 y12 kc3 h0 n0 Z0 P12 P3 P13 P14 P15 P16 P17 P18 ne1p hb0 hb4 hb5 hb6 hb7 hb8) (by decide) (W := 0) (by decide) (by decide) (by decide) e4 (by rw [hml]; rfl) (argsL := [(.ref o7)]) (lenOf own_pd16 rfl) (rest := []) rfl rfl (Nat.le_of_eq rfl) (hb hby dc8_45) ?_
  intro _ T5 L5 X5 hQ5
  obtain ⟨rfl, N5q, e5⟩ := hQ5
  have N5 := Fr.app N3 N5q
  show oG p e below _ (T5.setTop (mkF m 48 #[.val (.ref o0), .val (.ref o1), .val (.ref o2)] [(.int (1 : Int32))]))
  refine og (fun _ hr => XS.ifNo X5.here hx rfl (hb hby dc8_48) rfl ((if0 _ _).trans (feq (by decide)).1) (XS.iconst X5.here hx rfl (hb hby dc8_51) (XS.goto X5.here hx rfl (pc0 := 52) (pc' := 56) rfl (hb hby dc8_52) (by decide) (by decide) hr))) ?_
  show oG p e below _ (T5.setTop (mkF m 56 #[.val (.ref o0), .val (.ref o1), .val (.ref o2)] [(.int (1 : Int32))]))
  exact own_retN X5 hx hlk Bd.returns (t := .boolean) (by simp) (hb hby dc8_56) (by decide) (by decide) ⟨rfl, N5, e5⟩
def Q_admits_42 (Z : State) (h0 : Heap) (n0 : Nat) (v : Option Value) (h : Heap) (L : List Loc) : Prop := v = some (.int (1 : Int32)) ∧ Fr n0 L ∧ h = h0
set_option maxRecDepth 65536 in
set_option maxHeartbeats 40000000 in
theorem rm_admits_42 (l : Launch) (Z : State) (a0 : Array Value) (hw : ∀ d ∈ tables_1, d.before a0 Z = true) (ws : List Jvm.Cond) (o0 : Addr) (o1 : Addr) (o2 : Addr) (o3 : Addr) (o4 : Addr) (y0 : Int32) (o5 : Addr) (o6 : Addr) (y1 : Int32) (y2 : Int32) (y3 : Int32) (y4 : Int32) (kc0 : ClassId) (kc1 : ClassId) (o7 : Addr) (o8 : Addr) (o9 : Addr) (y5 : Int32) (y6 : Int32) (y7 : Int32) (y8 : Int32) (kc2 : ClassId) (kc3 : ClassId) (h0 : Heap) (n0 : Nat) (Z0 : n0 ≤ h0.size) (P0 : Fld Z h0 o0 "com/example/ruleweave/ruleweave/CommonPolicySchema$Term" "type" "Lcom/example/ruleweave/ruleweave/CommonPolicySchema$Type;" (.ref o3)) (P1 : Fld Z h0 o0 "com/example/ruleweave/ruleweave/CommonPolicySchema$Term" "namespace" "Ljava/lang/String;" (.ref o4)) (P2 : Exa Z h0 o4 "java/lang/String") (P3 : Sta Z h0 "java/lang/String" "COMPACT_STRINGS" "Z" (.int y0)) (P4 : Fld Z h0 o1 "java/lang/String" "coder" "B" (.int (0 : Int32))) (P5 : Fld Z h0 o4 "java/lang/String" "coder" "B" (.int (0 : Int32))) (P6 : Fld Z h0 o1 "java/lang/String" "value" "[B" (.ref o5)) (P7 : Fld Z h0 o4 "java/lang/String" "value" "[B" (.ref o6)) (P8 : Arv Z h0 o5 kc0 .byte y1 (own_sl y2 y3 y4 y1) (.int (0 : Int32))) (P9 : Arv Z h0 o6 kc1 .byte y1 (own_sl y2 y3 y4 y1) (.int (0 : Int32))) (P10 : Exa Z h0 o1 "java/lang/String") (P11 : Fld Z h0 o0 "com/example/ruleweave/ruleweave/CommonPolicySchema$Term" "localName" "Ljava/lang/String;" (.ref o7)) (P12 : Exa Z h0 o7 "java/lang/String") (P13 : Fld Z h0 o2 "java/lang/String" "coder" "B" (.int (0 : Int32))) (P14 : Fld Z h0 o7 "java/lang/String" "coder" "B" (.int (0 : Int32))) (P15 : Fld Z h0 o2 "java/lang/String" "value" "[B" (.ref o8)) (P16 : Fld Z h0 o7 "java/lang/String" "value" "[B" (.ref o9)) (P17 : Arv Z h0 o8 kc2 .byte y5 (own_sl y6 y7 y8 y5) (.int (0 : Int32))) (P18 : Arv Z h0 o9 kc3 .byte y5 (own_sl y6 y7 y8 y5) (.int (0 : Int32))) (P19 : Exa Z h0 o2 "java/lang/String") (ne0p : o1 ≠ o4) (ne1p : o2 ≠ o7) (hb0 : ¬ (y0 = (0 : Int32))) (hb1 : ¬ (y1 < (0 : Int32))) (hb2 : ¬ ((3 : Int32) < y1)) (hb3 : ¬ ((own_leq y2 y3 y4 y1 y2 y3 y4 y1) = (0 : Int32))) (hb4 : ¬ (y5 < (0 : Int32))) (hb5 : ¬ ((3 : Int32) < y5)) (hb6 : ¬ ((own_leq y6 y7 y8 y5 y6 y7 y8 y5) = (0 : Int32))) :
    MetFree l (⟨"com/example/ruleweave/ruleweave/CommonPolicySchema$Term", "admits", "(Ljava/lang/String;Ljava/lang/String;)Z"⟩ : MethodName) (head1 (Jvm.Cond.code (⟨"com/example/ruleweave/ruleweave/CommonPolicySchema$Term", "admits", "(Ljava/lang/String;Ljava/lang/String;)Z"⟩ : MethodName) prog_17_method_2_code 3 (some .boolean) :: ws) ({ frames := 2, cells := 0, slots := 0, locals := 28 } : Room)) (fun aA U => aA = #[(.ref o0), (.ref o1), (.ref o2)] ∧ Z.Warmed39 U.vm ∧ U.heap = h0) (fun _ _ _ _ _ => True) (fun _ U o U' => ∃ v L, o = .returned v ∧ Q_admits_42 Z h0 n0 v U'.heap L ∧ FrameEnd U o U' L ({ frames := 2, cells := 0, slots := 0, locals := 28 } : Room).cells ({ frames := 2, cells := 0, slots := 0, locals := 28 } : Room).slots) := by
  refine MetFree.of_bodySF (plainFor_of_name own_pn_com_example_ruleweave_ruleweave_CommonPolicySchema_Term) hisR ?_
  intro p e s m args below meth c s₁ Bd hml0 hP hK
  obtain ⟨rfl, hZ, hh⟩ := hP
  have hx := Bd.exec
  have hby := Bd.bytes
  have hlk : meth.locks = false := BodyLoose.notSynchronized Bd
  have hml : c.maxLocals = 3 := hml0
  have hown : s.vm.findClass "com/example/ruleweave/ruleweave/CommonPolicySchema$Term" = some m.cls := findClass_of_methodNamed Bd.named
  have hnm := (name_of_methodNamed Bd.named Bd.method).1
  have X0 : Stand p l e ({ frames := 2, cells := 0, slots := 0, locals := 28 } : Room) s m #[(.ref o0), (.ref o1), (.ref o2)] below meth c s₁ [] 0 0 := Stand.of_body Bd
  have e0 : s₁.heap = h0 := by rw [← hh, Bd.state]; rfl
  have N0 := Fr.nil n0
  show oG p e below (own_K s (Q_admits_42 Z h0 n0) ({ frames := 2, cells := 0, slots := 0, locals := 28 } : Room).cells ({ frames := 2, cells := 0, slots := 0, locals := 28 } : Room).slots) (s₁.setTop (entryFrame m #[(.ref o0), (.ref o1), (.ref o2)] 3))
  rw [(by first | (simp [entryFrame, mkF, argsToLocals, Value.category]; done) | rfl : entryFrame m #[(.ref o0), (.ref o1), (.ref o2)] 3 = mkF m 0 #[.val (.ref o0), .val (.ref o1), .val (.ref o2)] [])]
  show oG p e below _ (s₁.setTop (mkF m 0 #[.val (.ref o0), .val (.ref o1), .val (.ref o2)] []))
  refine og (fun _ hr => XS.aloadN X0.here hx rfl (hb hby dc8_0) rfl rfl hr) ?_
  show oG p e below _ (s₁.setTop (mkF m 1 #[.val (.ref o0), .val (.ref o1), .val (.ref o2)] [(.ref o0)]))
  obtain ⟨T1, X1, e1, st1⟩ := getF X0 hx hZ hown (host := "") (Or.inl (hw _ (own_m 47 rfl))) Via.refl e0 P0 (g := (mkF m 1 #[.val (.ref o0), .val (.ref o1), .val (.ref o2)] [(.ref o0)])) rfl rfl (hb hby dc8_1)
  refine og st1 ?_
  show oG p e below _ (T1.setTop (mkF m 4 #[.val (.ref o0), .val (.ref o1), .val (.ref o2)] [(.ref o3)]))
  refine og (fun _ hr => XS.ifnonnullYes X1.here hx rfl (pc0 := 4) (pc' := 29) rfl (hb hby dc8_4) rfl (by decide) (by decide) hr) ?_
  show oG p e below _ (T1.setTop (mkF m 29 #[.val (.ref o0), .val (.ref o1), .val (.ref o2)] []))
  refine og (fun _ hr => XS.aloadN X1.here hx rfl (hb hby dc8_29) rfl rfl (XS.aloadN X1.here hx rfl (hb hby dc8_30) rfl rfl hr)) ?_
  show oG p e below _ (T1.setTop (mkF m 31 #[.val (.ref o0), .val (.ref o1), .val (.ref o2)] [(.ref o0), (.ref o1)]))
  obtain ⟨T2, X2, e2, st2⟩ := getF X1 hx hZ hown (host := "") (Or.inl (hw _ (own_m 43 rfl))) Via.refl e1 P1 (g := (mkF m 31 #[.val (.ref o0), .val (.ref o1), .val (.ref o2)] [(.ref o0), (.ref o1)])) rfl rfl (hb hby dc8_31)
  refine og st2 ?_
  show oG p e below _ (T2.setTop (mkF m 34 #[.val (.ref o0), .val (.ref o1), .val (.ref o2)] [(.ref o4), (.ref o1)]))
  refine own_cv X2 hx hZ hown (notFace_of_selects (args := #[]) (mvT hZ (hw _ (own_m 95 rfl)))) (hw _ (own_m 92 rfl)) (hw _ (own_m 93 rfl)) (hw _ (own_m 95 rfl)) (hw _ (own_m 94 rfl)) (hw _ (own_m 7 rfl)) (hw _ (own_m 96 rfl)) (by decide) P10 (rm := { frames := 1, cells := 0, slots := 0, locals := 14 }) (rm_equals_38 l Z a0 hw [] o1 o4 y0 o5 o6 y1 y2 y3 y4 kc0 kc1 h0 n0 Z0 P2 P3 P4 P5 P6 P7 P8 P9 ne0p hb0 hb1 hb2 hb3) (by decide) (W := 0) (by decide) (by decide) (by decide) e2 (by rw [hml]; rfl) (argsL := [(.ref o4)]) (lenOf own_pd16 rfl) (rest := []) rfl rfl (Nat.le_of_eq rfl) (hb hby dc8_34) ?_
  intro _ T3 L3 X3 hQ3
  obtain ⟨rfl, N3q, e3⟩ := hQ3
  have N3 := Fr.app N0 N3q
  show oG p e below _ (T3.setTop (mkF m 37 #[.val (.ref o0), .val (.ref o1), .val (.ref o2)] [(.int (1 : Int32))]))
  refine og (fun _ hr => XS.ifNo X3.here hx rfl (hb hby dc8_37) rfl ((if0 _ _).trans (feq (by decide)).1) (XS.aloadN X3.here hx rfl (hb hby dc8_40) rfl rfl (XS.aloadN X3.here hx rfl (hb hby dc8_41) rfl rfl hr))) ?_
  show oG p e below _ (T3.setTop (mkF m 42 #[.val (.ref o0), .val (.ref o1), .val (.ref o2)] [(.ref o0), (.ref o2)]))
  obtain ⟨T4, X4, e4, st4⟩ := getF X3 hx hZ hown (host := "") (Or.inl (hw _ (own_m 45 rfl))) Via.refl e3 P11 (g := (mkF m 42 #[.val (.ref o0), .val (.ref o1), .val (.ref o2)] [(.ref o0), (.ref o2)])) rfl rfl (hb hby dc8_42)
  refine og st4 ?_
  show oG p e below _ (T4.setTop (mkF m 45 #[.val (.ref o0), .val (.ref o1), .val (.ref o2)] [(.ref o7), (.ref o2)]))
  refine own_cv X4 hx hZ hown (notFace_of_selects (args := #[]) (mvT hZ (hw _ (own_m 95 rfl)))) (hw _ (own_m 92 rfl)) (hw _ (own_m 93 rfl)) (hw _ (own_m 95 rfl)) (hw _ (own_m 94 rfl)) (hw _ (own_m 7 rfl)) (hw _ (own_m 96 rfl)) (by decide) P19 (rm := { frames := 1, cells := 0, slots := 0, locals := 14 }) (rm_equals_38 l Z a0 hw [] o2 o7 y0 o8 o9 y5 y6 y7 y8 kc2 kc3 h0 n0 Z0 P12 P3 P13 P14 P15 P16 P17 P18 ne1p hb0 hb4 hb5 hb6) (by decide) (W := 0) (by decide) (by decide) (by decide) e4 (by rw [hml]; rfl) (argsL := [(.ref o7)]) (lenOf own_pd16 rfl) (rest := []) rfl rfl (Nat.le_of_eq rfl) (hb hby dc8_45) ?_
  intro _ T5 L5 X5 hQ5
  obtain ⟨rfl, N5q, e5⟩ := hQ5
  have N5 := Fr.app N3 N5q
  show oG p e below _ (T5.setTop (mkF m 48 #[.val (.ref o0), .val (.ref o1), .val (.ref o2)] [(.int (1 : Int32))]))
  refine og (fun _ hr => XS.ifNo X5.here hx rfl (hb hby dc8_48) rfl ((if0 _ _).trans (feq (by decide)).1) (XS.iconst X5.here hx rfl (hb hby dc8_51) (XS.goto X5.here hx rfl (pc0 := 52) (pc' := 56) rfl (hb hby dc8_52) (by decide) (by decide) hr))) ?_
  show oG p e below _ (T5.setTop (mkF m 56 #[.val (.ref o0), .val (.ref o1), .val (.ref o2)] [(.int (1 : Int32))]))
  exact own_retN X5 hx hlk Bd.returns (t := .boolean) (by simp) (hb hby dc8_56) (by decide) (by decide) ⟨rfl, N5, e5⟩
def Q_law (Z : State) (h0 : Heap) (n0 : Nat) (v : Option Value) (h : Heap) (L : List Loc) : Prop := v = some (.int 1) ∧ Fr n0 L
set_option maxRecDepth 65536 in
set_option maxHeartbeats 40000000 in
theorem rm_law (l : Launch) (Z : State) (a0 : Array Value) (hw : ∀ d ∈ tables_1, d.before a0 Z = true) (ws : List Jvm.Cond) (x0 : Int64) (x1 : Int64) (x2 : Int32) (i_COMPACT_STRINGS : Int32) (v_SIOOBE_FORMATTER : Value) (h0 : Heap) (n0 : Nat) (Z0 : n0 ≤ h0.size) (S_COMPACT_STRINGS : Sta Z h0 "java/lang/String" "COMPACT_STRINGS" "Z" (.int i_COMPACT_STRINGS)) (S_SIOOBE_FORMATTER : Sta Z h0 "jdk/internal/util/Preconditions" "SIOOBE_FORMATTER" "Ljava/util/function/BiFunction;" v_SIOOBE_FORMATTER) (hs_COMPACT_STRINGS : ¬ (i_COMPACT_STRINGS = (0 : Int32))) (hv_SIOOBE_FORMATTER : v_SIOOBE_FORMATTER.isRef = true) :
    MetFree l x (head1 (Jvm.Cond.code x code maxLocals ret :: ws) room_1) (fun aA U => aA = #[(.long x0), (.long x1), (.int x2)] ∧ Z.Warmed39 U.vm ∧ U.heap = h0 ∧ CHv Z own_EL U.vm h0) (fun _ _ _ _ _ => True) (fun _ U o U' => ∃ v L, o = .returned v ∧ Q_law Z h0 n0 v U'.heap L ∧ CHr Z own_EL U.vm U.heap U'.vm U'.heap ∧ ReturnedEndW U o U' L room_1.cells room_1.slots) := by
  refine MetFree.of_bodySF (plainFor_of_name own_pn_com_example_ruleweave_ruleweave_CommonPolicySchemaTermAdmitsPinLaw) hisR ?_
  intro p e s m args below meth c s₁ Bd hml0 hP hK
  obtain ⟨rfl, hZ, hh, hC0⟩ := hP
  have hx := Bd.exec
  have hby := Bd.bytes
  have hlk : meth.locks = false := BodyLoose.notSynchronized Bd
  have hml : c.maxLocals = 21 := hml0
  have hown : s.vm.findClass "com/example/ruleweave/ruleweave/CommonPolicySchemaTermAdmitsPinLaw" = some m.cls := findClass_of_methodNamed Bd.named
  have hnm := (name_of_methodNamed Bd.named Bd.method).1
  have X0 : Stand p l e room_1 (s.setVm s.vm) m #[(.long x0), (.long x1), (.int x2)] below meth c s₁ [] 0 0 := Stand.of_body Bd
  have e0 : s₁.heap = h0 := by rw [← hh, Bd.state]; rfl
  have N0 := Fr.nil n0
  have hS : s.Since s.vm 0 := (State.WarmedH.refl s).since 0
  have hk := Nat.zero_le h0.size
  have hEL : EW Z a0 own_EL := own_ew hw
  have A0 : CHr Z own_EL s.vm h0 s.vm h0 := CHr.refl hC0
  show oG p e below (own_KW Z own_EL s (Q_law Z h0 n0) room_1.cells room_1.slots) (s₁.setTop (entryFrame m #[(.long x0), (.long x1), (.int x2)] maxLocals))
  rw [(by first | (simp [entryFrame, mkF, argsToLocals, Value.category, maxLocals]; done) | rfl : entryFrame m #[(.long x0), (.long x1), (.int x2)] maxLocals = mkF m 0 #[.val (.long x0), .second, .val (.long x1), .second, .val (.int x2), .unset, .unset, .unset, .unset, .unset, .unset, .unset, .unset, .unset, .unset, .unset, .unset, .unset, .unset, .unset, .unset] [])]
  show oG p e below _ (s₁.setTop (mkF m 0 #[.val (.long x0), .second, .val (.long x1), .second, .val (.int x2), .unset, .unset, .unset, .unset, .unset, .unset, .unset, .unset, .unset, .unset, .unset, .unset, .unset, .unset, .unset, .unset] []))
  refine og (fun _ hr => XS.iload X0.here hx rfl (hb hby at_0) rfl (XS.iconst X0.here hx rfl (hb hby at_2) (XS.iand X0.here hx rfl (hb hby at_3) rfl hr))) ?_
  show oG p e below _ (s₁.setTop (mkF m 4 #[.val (.long x0), .second, .val (.long x1), .second, .val (.int x2), .unset, .unset, .unset, .unset, .unset, .unset, .unset, .unset, .unset, .unset, .unset, .unset, .unset, .unset, .unset, .unset] [(.int (x2 &&& (1 : Int32)))]))
  rcases Classical.em ((x2 &&& (1 : Int32)) = (0 : Int32)) with c1 | c1
  · skip
    refine og (fun _ hr => XS.ifYes X0.here hx rfl (pc0 := 4) (pc' := 11) rfl (hb hby at_4) rfl ((if0 _ _).trans (teq c1).1) (by decide) (by decide) hr) ?_
    show oG p e below _ (s₁.setTop (mkF m 11 #[.val (.long x0), .second, .val (.long x1), .second, .val (.int x2), .unset, .unset, .unset, .unset, .unset, .unset, .unset, .unset, .unset, .unset, .unset, .unset, .unset, .unset, .unset, .unset] []))
    refine og (fun _ hr => XS.iconst X0.here hx rfl (hb hby at_11) (XS.istore X0.here hx rfl (hb hby at_12) rfl (l' := #[.val (.long x0), .second, .val (.long x1), .second, .val (.int x2), .val (.int (0 : Int32)), .unset, .unset, .unset, .unset, .unset, .unset, .unset, .unset, .unset, .unset, .unset, .unset, .unset, .unset, .unset]) rfl (XS.lloadN X0.here hx rfl (hb hby at_14) rfl (XS.iconst X0.here hx rfl (hb hby at_15) hr)))) ?_
    show oG p e below _ (s₁.setTop (mkF m 16 #[.val (.long x0), .second, .val (.long x1), .second, .val (.int x2), .val (.int (0 : Int32)), .unset, .unset, .unset, .unset, .unset, .unset, .unset, .unset, .unset, .unset, .unset, .unset, .unset, .unset, .unset] [(.int (0 : Int32)), (.long x0)]))
    refine own_cs X0 hx hZ hown (hw _ (own_m 0 rfl)) (hw _ (own_m 1 rfl)) (hw _ (own_m 2 rfl)) (hw _ (own_m 3 rfl)) (by decide) (rm := { frames := 0, cells := 1, slots := 3, locals := 0 }) (rm_chars l Z a0 hw [] x0 (0 : Int32) (8 : Int32) (16 : Int32) h0 n0 Z0 (by decide) (by decide)) (by decide) (W := 0) (by decide) (by decide) (by decide) e0 (by rw [hml]; rfl) (argsL := [(.long x0), (.int (0 : Int32))]) (lenOf own_pd9 rfl) (rest := []) rfl rfl (Nat.le_of_eq rfl) (hb hby at_16) ?_
    intro _ T2 L2 X2 hQ2
    obtain ⟨b2_0, kb2_0, rfl, N2q, K2, ge2_0, sz2_0, f2_0, f2_1⟩ := hQ2
    have N2 := Fr.app N0 N2q
    show oG p e below _ (T2.setTop (mkF m 19 #[.val (.long x0), .second, .val (.long x1), .second, .val (.int x2), .val (.int (0 : Int32)), .unset, .unset, .unset, .unset, .unset, .unset, .unset, .unset, .unset, .unset, .unset, .unset, .unset, .unset, .unset] [(.ref b2_0)]))
    refine og (fun _ hr => XS.astore X2.here hx rfl (hb hby at_19) rfl rfl (l' := #[.val (.long x0), .second, .val (.long x1), .second, .val (.int x2), .val (.int (0 : Int32)), .val (.ref b2_0), .unset, .unset, .unset, .unset, .unset, .unset, .unset, .unset, .unset, .unset, .unset, .unset, .unset, .unset]) rfl (XS.lloadN X2.here hx rfl (hb hby at_21) rfl (XS.bipush X2.here hx rfl (hb hby at_22) hr))) ?_
    show oG p e below _ (T2.setTop (mkF m 24 #[.val (.long x0), .second, .val (.long x1), .second, .val (.int x2), .val (.int (0 : Int32)), .val (.ref b2_0), .unset, .unset, .unset, .unset, .unset, .unset, .unset, .unset, .unset, .unset, .unset, .unset, .unset, .unset] [(.int (24 : Int32)), (.long x0)]))
    have Z4 := (Nat.le_trans Z0 K2.1)
    refine own_cs X2 hx hZ hown (hw _ (own_m 0 rfl)) (hw _ (own_m 1 rfl)) (hw _ (own_m 2 rfl)) (hw _ (own_m 3 rfl)) (by decide) (rm := { frames := 0, cells := 1, slots := 3, locals := 0 }) (rm_chars l Z a0 hw [] x0 (24 : Int32) (32 : Int32) (40 : Int32) T2.heap n0 Z4 (by decide) (by decide)) (by decide) (W := 0) (by decide) (by decide) (by decide) rfl (by rw [hml]; rfl) (argsL := [(.long x0), (.int (24 : Int32))]) (lenOf own_pd9 rfl) (rest := []) rfl rfl (Nat.le_of_eq rfl) (hb hby at_24) ?_
    intro _ T3 L3 X3 hQ3
    obtain ⟨b3_0, kb3_0, rfl, N3q, K3, ge3_0, sz3_0, f3_0, f3_1⟩ := hQ3
    have N3 := Fr.app N2 N3q
    show oG p e below _ (T3.setTop (mkF m 27 #[.val (.long x0), .second, .val (.long x1), .second, .val (.int x2), .val (.int (0 : Int32)), .val (.ref b2_0), .unset, .unset, .unset, .unset, .unset, .unset, .unset, .unset, .unset, .unset, .unset, .unset, .unset, .unset] [(.ref b3_0)]))
    refine og (fun _ hr => XS.astore X3.here hx rfl (hb hby at_27) rfl rfl (l' := #[.val (.long x0), .second, .val (.long x1), .second, .val (.int x2), .val (.int (0 : Int32)), .val (.ref b2_0), .val (.ref b3_0), .unset, .unset, .unset, .unset, .unset, .unset, .unset, .unset, .unset, .unset, .unset, .unset, .unset]) rfl (XS.lloadN X3.here hx rfl (hb hby at_29) rfl (XS.iconst X3.here hx rfl (hb hby at_30) hr))) ?_
    show oG p e below _ (T3.setTop (mkF m 31 #[.val (.long x0), .second, .val (.long x1), .second, .val (.int x2), .val (.int (0 : Int32)), .val (.ref b2_0), .val (.ref b3_0), .unset, .unset, .unset, .unset, .unset, .unset, .unset, .unset, .unset, .unset, .unset, .unset, .unset] [(.int (0 : Int32)), (.long x1)]))
    have Z6 := (Nat.le_trans Z4 K3.1)
    refine own_cs X3 hx hZ hown (hw _ (own_m 0 rfl)) (hw _ (own_m 1 rfl)) (hw _ (own_m 2 rfl)) (hw _ (own_m 3 rfl)) (by decide) (rm := { frames := 0, cells := 1, slots := 3, locals := 0 }) (rm_chars l Z a0 hw [] x1 (0 : Int32) (8 : Int32) (16 : Int32) T3.heap n0 Z6 (by decide) (by decide)) (by decide) (W := 0) (by decide) (by decide) (by decide) rfl (by rw [hml]; rfl) (argsL := [(.long x1), (.int (0 : Int32))]) (lenOf own_pd9 rfl) (rest := []) rfl rfl (Nat.le_of_eq rfl) (hb hby at_31) ?_
    intro _ T5 L5 X5 hQ5
    obtain ⟨b5_0, kb5_0, rfl, N5q, K5, ge5_0, sz5_0, f5_0, f5_1⟩ := hQ5
    have N5 := Fr.app N3 N5q
    show oG p e below _ (T5.setTop (mkF m 34 #[.val (.long x0), .second, .val (.long x1), .second, .val (.int x2), .val (.int (0 : Int32)), .val (.ref b2_0), .val (.ref b3_0), .unset, .unset, .unset, .unset, .unset, .unset, .unset, .unset, .unset, .unset, .unset, .unset, .unset] [(.ref b5_0)]))
    refine og (fun _ hr => XS.astore X5.here hx rfl (hb hby at_34) rfl rfl (l' := #[.val (.long x0), .second, .val (.long x1), .second, .val (.int x2), .val (.int (0 : Int32)), .val (.ref b2_0), .val (.ref b3_0), .val (.ref b5_0), .unset, .unset, .unset, .unset, .unset, .unset, .unset, .unset, .unset, .unset, .unset, .unset]) rfl (XS.lloadN X5.here hx rfl (hb hby at_36) rfl (XS.bipush X5.here hx rfl (hb hby at_37) hr))) ?_
    show oG p e below _ (T5.setTop (mkF m 39 #[.val (.long x0), .second, .val (.long x1), .second, .val (.int x2), .val (.int (0 : Int32)), .val (.ref b2_0), .val (.ref b3_0), .val (.ref b5_0), .unset, .unset, .unset, .unset, .unset, .unset, .unset, .unset, .unset, .unset, .unset, .unset] [(.int (24 : Int32)), (.long x1)]))
    have Z8 := (Nat.le_trans Z6 K5.1)
    refine own_cs X5 hx hZ hown (hw _ (own_m 0 rfl)) (hw _ (own_m 1 rfl)) (hw _ (own_m 2 rfl)) (hw _ (own_m 3 rfl)) (by decide) (rm := { frames := 0, cells := 1, slots := 3, locals := 0 }) (rm_chars l Z a0 hw [] x1 (24 : Int32) (32 : Int32) (40 : Int32) T5.heap n0 Z8 (by decide) (by decide)) (by decide) (W := 0) (by decide) (by decide) (by decide) rfl (by rw [hml]; rfl) (argsL := [(.long x1), (.int (24 : Int32))]) (lenOf own_pd9 rfl) (rest := []) rfl rfl (Nat.le_of_eq rfl) (hb hby at_39) ?_
    intro _ T7 L7 X7 hQ7
    obtain ⟨b7_0, kb7_0, rfl, N7q, K7, ge7_0, sz7_0, f7_0, f7_1⟩ := hQ7
    have N7 := Fr.app N5 N7q
    show oG p e below _ (T7.setTop (mkF m 42 #[.val (.long x0), .second, .val (.long x1), .second, .val (.int x2), .val (.int (0 : Int32)), .val (.ref b2_0), .val (.ref b3_0), .val (.ref b5_0), .unset, .unset, .unset, .unset, .unset, .unset, .unset, .unset, .unset, .unset, .unset, .unset] [(.ref b7_0)]))
    refine og (fun _ hr => XS.astore X7.here hx rfl (hb hby at_42) rfl rfl (l' := #[.val (.long x0), .second, .val (.long x1), .second, .val (.int x2), .val (.int (0 : Int32)), .val (.ref b2_0), .val (.ref b3_0), .val (.ref b5_0), .val (.ref b7_0), .unset, .unset, .unset, .unset, .unset, .unset, .unset, .unset, .unset, .unset, .unset]) rfl (XS.iload X7.here hx rfl (hb hby at_44) rfl (XS.iconst X7.here hx rfl (hb hby at_46) (XS.iushr X7.here hx rfl (hb hby at_47) rfl (XS.iconst X7.here hx rfl (hb hby at_48) (XS.iand X7.here hx rfl (hb hby at_49) rfl (XS.istore X7.here hx rfl (hb hby at_50) rfl (l' := #[.val (.long x0), .second, .val (.long x1), .second, .val (.int x2), .val (.int (0 : Int32)), .val (.ref b2_0), .val (.ref b3_0), .val (.ref b5_0), .val (.ref b7_0), .val (.int (((x2.toUInt32 >>> ((1 : Int32) &&& 31).toUInt32).toInt32) &&& (3 : Int32))), .unset, .unset, .unset, .unset, .unset, .unset, .unset, .unset, .unset, .unset]) rfl (XS.iload X7.here hx rfl (hb hby at_52) rfl (XS.iconst X7.here hx rfl (hb hby at_54) (XS.iushr X7.here hx rfl (hb hby at_55) rfl (XS.iconst X7.here hx rfl (hb hby at_56) (XS.iand X7.here hx rfl (hb hby at_57) rfl (XS.istore X7.here hx rfl (hb hby at_58) rfl (l' := #[.val (.long x0), .second, .val (.long x1), .second, .val (.int x2), .val (.int (0 : Int32)), .val (.ref b2_0), .val (.ref b3_0), .val (.ref b5_0), .val (.ref b7_0), .val (.int (((x2.toUInt32 >>> ((1 : Int32) &&& 31).toUInt32).toInt32) &&& (3 : Int32))), .val (.int (((x2.toUInt32 >>> ((3 : Int32) &&& 31).toUInt32).toInt32) &&& (3 : Int32))), .unset, .unset, .unset, .unset, .unset, .unset, .unset, .unset, .unset]) rfl (XS.iload X7.here hx rfl (hb hby at_60) rfl hr)))))))))))))) ?_
    show oG p e below _ (T7.setTop (mkF m 62 #[.val (.long x0), .second, .val (.long x1), .second, .val (.int x2), .val (.int (0 : Int32)), .val (.ref b2_0), .val (.ref b3_0), .val (.ref b5_0), .val (.ref b7_0), .val (.int (((x2.toUInt32 >>> ((1 : Int32) &&& 31).toUInt32).toInt32) &&& (3 : Int32))), .val (.int (((x2.toUInt32 >>> ((3 : Int32) &&& 31).toUInt32).toInt32) &&& (3 : Int32))), .unset, .unset, .unset, .unset, .unset, .unset, .unset, .unset, .unset] [(.int x2)]))
    refine og (fun _ hr => XS.iconst X7.here hx rfl (hb hby at_62) (XS.iushr X7.here hx rfl (hb hby at_63) rfl (XS.iconst X7.here hx rfl (hb hby at_64) (XS.iand X7.here hx rfl (hb hby at_65) rfl (XS.istore X7.here hx rfl (hb hby at_66) rfl (l' := #[.val (.long x0), .second, .val (.long x1), .second, .val (.int x2), .val (.int (0 : Int32)), .val (.ref b2_0), .val (.ref b3_0), .val (.ref b5_0), .val (.ref b7_0), .val (.int (((x2.toUInt32 >>> ((1 : Int32) &&& 31).toUInt32).toInt32) &&& (3 : Int32))), .val (.int (((x2.toUInt32 >>> ((3 : Int32) &&& 31).toUInt32).toInt32) &&& (3 : Int32))), .val (.int (((x2.toUInt32 >>> ((5 : Int32) &&& 31).toUInt32).toInt32) &&& (3 : Int32))), .unset, .unset, .unset, .unset, .unset, .unset, .unset, .unset]) rfl (XS.iload X7.here hx rfl (hb hby at_68) rfl (XS.bipush X7.here hx rfl (hb hby at_70) (XS.iushr X7.here hx rfl (hb hby at_72) rfl (XS.iconst X7.here hx rfl (hb hby at_73) (XS.iand X7.here hx rfl (hb hby at_74) rfl (XS.istore X7.here hx rfl (hb hby at_75) rfl (l' := #[.val (.long x0), .second, .val (.long x1), .second, .val (.int x2), .val (.int (0 : Int32)), .val (.ref b2_0), .val (.ref b3_0), .val (.ref b5_0), .val (.ref b7_0), .val (.int (((x2.toUInt32 >>> ((1 : Int32) &&& 31).toUInt32).toInt32) &&& (3 : Int32))), .val (.int (((x2.toUInt32 >>> ((3 : Int32) &&& 31).toUInt32).toInt32) &&& (3 : Int32))), .val (.int (((x2.toUInt32 >>> ((5 : Int32) &&& 31).toUInt32).toInt32) &&& (3 : Int32))), .val (.int (((x2.toUInt32 >>> ((7 : Int32) &&& 31).toUInt32).toInt32) &&& (3 : Int32))), .unset, .unset, .unset, .unset, .unset, .unset, .unset]) rfl hr))))))))))) ?_
    show oG p e below _ (T7.setTop (mkF m 77 #[.val (.long x0), .second, .val (.long x1), .second, .val (.int x2), .val (.int (0 : Int32)), .val (.ref b2_0), .val (.ref b3_0), .val (.ref b5_0), .val (.ref b7_0), .val (.int (((x2.toUInt32 >>> ((1 : Int32) &&& 31).toUInt32).toInt32) &&& (3 : Int32))), .val (.int (((x2.toUInt32 >>> ((3 : Int32) &&& 31).toUInt32).toInt32) &&& (3 : Int32))), .val (.int (((x2.toUInt32 >>> ((5 : Int32) &&& 31).toUInt32).toInt32) &&& (3 : Int32))), .val (.int (((x2.toUInt32 >>> ((7 : Int32) &&& 31).toUInt32).toInt32) &&& (3 : Int32))), .unset, .unset, .unset, .unset, .unset, .unset, .unset] []))
    generalize htn_ : (((x2.toUInt32 >>> ((1 : Int32) &&& 31).toUInt32).toInt32) &&& (3 : Int32)) = tn_
    generalize htl_ : (((x2.toUInt32 >>> ((3 : Int32) &&& 31).toUInt32).toInt32) &&& (3 : Int32)) = tl_
    generalize han_ : (((x2.toUInt32 >>> ((5 : Int32) &&& 31).toUInt32).toInt32) &&& (3 : Int32)) = an_
    generalize hal_ : (((x2.toUInt32 >>> ((7 : Int32) &&& 31).toUInt32).toInt32) &&& (3 : Int32)) = al_
    refine og (fun _ hr => XS.iload X7.here hx rfl (hb hby at_77) rfl (XS.ifYes X7.here hx rfl (pc0 := 79) (pc' := 239) rfl (hb hby at_79) rfl ((if0 _ _).trans (teq (by decide)).1) (by decide) (by decide) (XS.iload X7.here hx rfl (hb hby at_239) rfl (XS.iconst X7.here hx rfl (hb hby at_241) (XS.iushr X7.here hx rfl (hb hby at_242) rfl (XS.iconst X7.here hx rfl (hb hby at_243) (XS.iand X7.here hx rfl (hb hby at_244) rfl (XS.istore X7.here hx rfl (hb hby at_245) rfl (l' := #[.val (.long x0), .second, .val (.long x1), .second, .val (.int x2), .val (.int (0 : Int32)), .val (.ref b2_0), .val (.ref b3_0), .val (.ref b5_0), .val (.ref b7_0), .val (.int tn_), .val (.int tl_), .val (.int an_), .val (.int al_), .val (.int (((x2.toUInt32 >>> ((1 : Int32) &&& 31).toUInt32).toInt32) &&& (3 : Int32))), .unset, .unset, .unset, .unset, .unset, .unset]) rfl (XS.iload X7.here hx rfl (hb hby at_247) rfl hr))))))))) ?_
    show oG p e below _ (T7.setTop (mkF m 249 #[.val (.long x0), .second, .val (.long x1), .second, .val (.int x2), .val (.int (0 : Int32)), .val (.ref b2_0), .val (.ref b3_0), .val (.ref b5_0), .val (.ref b7_0), .val (.int tn_), .val (.int tl_), .val (.int an_), .val (.int al_), .val (.int (((x2.toUInt32 >>> ((1 : Int32) &&& 31).toUInt32).toInt32) &&& (3 : Int32))), .unset, .unset, .unset, .unset, .unset, .unset] [(.int (((x2.toUInt32 >>> ((1 : Int32) &&& 31).toUInt32).toInt32) &&& (3 : Int32)))]))
    rcases Classical.em ((((x2.toUInt32 >>> ((1 : Int32) &&& 31).toUInt32).toInt32) &&& (3 : Int32)) = (0 : Int32)) with c9 | c9
    · skip
      refine og (fun _ hr => XS.ifNo X7.here hx rfl (hb hby at_249) rfl ((if0 _ _).trans (teq c9).2) hr) ?_
      show oG p e below _ (T7.setTop (mkF m 252 #[.val (.long x0), .second, .val (.long x1), .second, .val (.int x2), .val (.int (0 : Int32)), .val (.ref b2_0), .val (.ref b3_0), .val (.ref b5_0), .val (.ref b7_0), .val (.int tn_), .val (.int tl_), .val (.int an_), .val (.int al_), .val (.int (((x2.toUInt32 >>> ((1 : Int32) &&& 31).toUInt32).toInt32) &&& (3 : Int32))), .unset, .unset, .unset, .unset, .unset, .unset] []))
      have A11 := A0.trans (CHr.keep K2 sf0 A0.1)
      have A12 := A11.trans (CHr.keep K3 sf0 A11.1)
      have A13 := A12.trans (CHr.keep K5 sf0 A12.1)
      have A14 := A13.trans (CHr.keep K7 sf0 A13.1)
      have hk15 := (Nat.le_trans (Nat.le_trans (Nat.le_trans (Nat.le_trans hk K2.1) K3.1) K5.1) K7.1)
      have hZo16 := hZ
      obtain ⟨a10, T10, h10, k110, b10, k10, X10, e10, E10, hS, hk10, hZ, hown, EA10, FC10, FV10, AV10, -, -, Al10, -, ne10, st10⟩ := ldcCH X7 hx hZ hown (hw _ (own_m 6 rfl)) (own_ws hw) rfl hS hk15 hEL (by simp [own_EL]) A14.1 (vs := []) (z := (0 : Int32)) ⟨by decide, by decide⟩ (by decide) (by decide) (g := (mkF m 252 #[.val (.long x0), .second, .val (.long x1), .second, .val (.int x2), .val (.int (0 : Int32)), .val (.ref b2_0), .val (.ref b3_0), .val (.ref b5_0), .val (.ref b7_0), .val (.int tn_), .val (.int tl_), .val (.int an_), .val (.int al_), .val (.int (((x2.toUInt32 >>> ((1 : Int32) &&& 31).toUInt32).toInt32) &&& (3 : Int32))), .unset, .unset, .unset, .unset, .unset, .unset] [])) rfl (hb hby at_252) (n := 0) (by decide) (by decide) (by decide) (by decide)
      refine og st10 ?_
      show oG p e below _ (T10.setTop (mkF m 254 #[.val (.long x0), .second, .val (.long x1), .second, .val (.int x2), .val (.int (0 : Int32)), .val (.ref b2_0), .val (.ref b3_0), .val (.ref b5_0), .val (.ref b7_0), .val (.int tn_), .val (.int tl_), .val (.int an_), .val (.int al_), .val (.int (((x2.toUInt32 >>> ((1 : Int32) &&& 31).toUInt32).toInt32) &&& (3 : Int32))), .unset, .unset, .unset, .unset, .unset, .unset] [(.ref a10)]))
      refine og (fun _ hr => XS.astore X10.here hx rfl (hb hby at_254) rfl rfl (l' := #[.val (.long x0), .second, .val (.long x1), .second, .val (.int x2), .val (.int (0 : Int32)), .val (.ref b2_0), .val (.ref b3_0), .val (.ref b5_0), .val (.ref b7_0), .val (.int tn_), .val (.int tl_), .val (.int an_), .val (.int al_), .val (.int (((x2.toUInt32 >>> ((1 : Int32) &&& 31).toUInt32).toInt32) &&& (3 : Int32))), .val (.ref a10), .unset, .unset, .unset, .unset, .unset]) rfl (XS.goto X10.here hx rfl (pc0 := 256) (pc' := 285) rfl (hb hby at_256) (by decide) (by decide) (XS.aload X10.here hx rfl (hb hby at_285) rfl rfl (XS.iload X10.here hx rfl (hb hby at_287) rfl hr)))) ?_
      show oG p e below _ (T10.setTop (mkF m 289 #[.val (.long x0), .second, .val (.long x1), .second, .val (.int x2), .val (.int (0 : Int32)), .val (.ref b2_0), .val (.ref b3_0), .val (.ref b5_0), .val (.ref b7_0), .val (.int tn_), .val (.int tl_), .val (.int an_), .val (.int al_), .val (.int (((x2.toUInt32 >>> ((1 : Int32) &&& 31).toUInt32).toInt32) &&& (3 : Int32))), .val (.ref a10), .unset, .unset, .unset, .unset, .unset] [(.int al_), (.ref b7_0)]))
      have c17 : ¬ (al_ < (0 : Int32)) := by
        have q0 := rng32 x2
        have q1 := c_mask x2 (1 : Int32) 1 (by decide) (by decide)
        have q2 := c_iushr x2 (1 : Int32) 1 (by decide) (by decide)
        have q3 := c_mask ((x2.toUInt32 >>> ((1 : Int32) &&& 31).toUInt32).toInt32) (3 : Int32) 2 (by decide) (by decide)
        have q4 := c_iushr x2 (7 : Int32) 7 (by decide) (by decide)
        have q5 := c_mask ((x2.toUInt32 >>> ((7 : Int32) &&& 31).toUInt32).toInt32) (3 : Int32) 2 (by decide) (by decide)
        have q6 := congrArg Int32.toInt hal_
        have p0 := c1
        have p1 := c9
        simp only [true_implies, Int32.lt_iff_toInt_lt, ← Int32.toInt_inj, Int32.reduceToInt, Int64.lt_iff_toInt_lt, ← Int64.toInt_inj, Int64.reduceToInt] at q0 q1 q2 q3 q4 q5 q6 p0 p1 ⊢
        omega
      have c18 : ¬ ((3 : Int32) < al_) := by
        have q0 := rng32 x2
        have q1 := c_mask x2 (1 : Int32) 1 (by decide) (by decide)
        have q2 := c_iushr x2 (1 : Int32) 1 (by decide) (by decide)
        have q3 := c_mask ((x2.toUInt32 >>> ((1 : Int32) &&& 31).toUInt32).toInt32) (3 : Int32) 2 (by decide) (by decide)
        have q4 := c_iushr x2 (7 : Int32) 7 (by decide) (by decide)
        have q5 := c_mask ((x2.toUInt32 >>> ((7 : Int32) &&& 31).toUInt32).toInt32) (3 : Int32) 2 (by decide) (by decide)
        have q6 := congrArg Int32.toInt hal_
        have p0 := c1
        have p1 := c9
        have p2 := c17
        simp only [true_implies, Int32.lt_iff_toInt_lt, ← Int32.toInt_inj, Int32.reduceToInt, Int64.lt_iff_toInt_lt, ← Int64.toInt_inj, Int64.reduceToInt] at q0 q1 q2 q3 q4 q5 q6 p0 p1 p2 ⊢
        omega
      have c19 : ¬ ((own_ch x1 (24 : Int32)) < (0 : Int32)) := by
        have q0 := rng64 x1
        have q1 := own_ch_v x1 (24 : Int32)
        simp only [true_implies, Int32.lt_iff_toInt_lt, ← Int32.toInt_inj, Int32.reduceToInt, Int64.lt_iff_toInt_lt, ← Int64.toInt_inj, Int64.reduceToInt] at q0 q1 ⊢
        omega
      have c20 : ¬ ((255 : Int32) < (own_ch x1 (24 : Int32))) := by
        have q0 := rng64 x1
        have q1 := own_ch_v x1 (24 : Int32)
        have p0 := c19
        simp only [true_implies, Int32.lt_iff_toInt_lt, ← Int32.toInt_inj, Int32.reduceToInt, Int64.lt_iff_toInt_lt, ← Int64.toInt_inj, Int64.reduceToInt] at q0 q1 p0 ⊢
        omega
      have c21 : ¬ ((own_ch x1 (32 : Int32)) < (0 : Int32)) := by
        have q0 := rng64 x1
        have q1 := own_ch_v x1 (24 : Int32)
        have q2 := own_ch_v x1 (32 : Int32)
        have p0 := c19
        have p1 := c20
        simp only [true_implies, Int32.lt_iff_toInt_lt, ← Int32.toInt_inj, Int32.reduceToInt, Int64.lt_iff_toInt_lt, ← Int64.toInt_inj, Int64.reduceToInt] at q0 q1 q2 p0 p1 ⊢
        omega
      have c22 : ¬ ((255 : Int32) < (own_ch x1 (32 : Int32))) := by
        have q0 := rng64 x1
        have q1 := own_ch_v x1 (24 : Int32)
        have q2 := own_ch_v x1 (32 : Int32)
        have p0 := c19
        have p1 := c20
        have p2 := c21
        simp only [true_implies, Int32.lt_iff_toInt_lt, ← Int32.toInt_inj, Int32.reduceToInt, Int64.lt_iff_toInt_lt, ← Int64.toInt_inj, Int64.reduceToInt] at q0 q1 q2 p0 p1 p2 ⊢
        omega
      have c23 : ¬ ((own_ch x1 (40 : Int32)) < (0 : Int32)) := by
        have q0 := rng64 x1
        have q1 := own_ch_v x1 (24 : Int32)
        have q2 := own_ch_v x1 (32 : Int32)
        have q3 := own_ch_v x1 (40 : Int32)
        have p0 := c19
        have p1 := c20
        have p2 := c21
        have p3 := c22
        simp only [true_implies, Int32.lt_iff_toInt_lt, ← Int32.toInt_inj, Int32.reduceToInt, Int64.lt_iff_toInt_lt, ← Int64.toInt_inj, Int64.reduceToInt] at q0 q1 q2 q3 p0 p1 p2 p3 ⊢
        omega
      have c24 : ¬ ((255 : Int32) < (own_ch x1 (40 : Int32))) := by
        have q0 := rng64 x1
        have q1 := own_ch_v x1 (24 : Int32)
        have q2 := own_ch_v x1 (32 : Int32)
        have q3 := own_ch_v x1 (40 : Int32)
        have p0 := c19
        have p1 := c20
        have p2 := c21
        have p3 := c22
        have p4 := c23
        simp only [true_implies, Int32.lt_iff_toInt_lt, ← Int32.toInt_inj, Int32.reduceToInt, Int64.lt_iff_toInt_lt, ← Int64.toInt_inj, Int64.reduceToInt] at q0 q1 q2 q3 p0 p1 p2 p3 p4 ⊢
        omega
      have f26 := ((own_sta_keep (own_sta_keep (own_sta_keep (own_sta_keep S_COMPACT_STRINGS K2 all0) K3 all0) K5 all0) K7 all0).ext E10)
      have f27 := (f7_1.ext E10)
      have Z28 := (Nat.le_trans (Nat.le_trans Z8 K7.1) E10.1)
      have hZo29 := hZ
      have A30 := A14.trans Al10
      refine own_csW X10 hx hZ hown (hw _ (own_m 14 rfl)) (hw _ (own_m 15 rfl)) (hw _ (own_m 2 rfl)) (hw _ (own_m 16 rfl)) (by decide) (rm := { frames := 4, cells := 6, slots := 12, locals := 66 }) (rm_str l Z a0 hw [] b7_0 kb7_0 al_ (own_ch x1 (24 : Int32)) (own_ch x1 (32 : Int32)) (own_ch x1 (40 : Int32)) i_COMPACT_STRINGS h10 n0 Z28 f26 hs_COMPACT_STRINGS f27 c17 c18 c19 c20 c21 c22 c23 c24) (by decide) (W := 0) (by decide) (by decide) (by decide) e10 hEL A30.1 hS hk10 (by rw [hml]; rfl) (argsL := [(.ref b7_0), (.int al_)]) (lenOf own_pd10 rfl) (rest := []) rfl rfl (Nat.le_of_eq rfl) (hb hby at_289) ?_
      intro _ T25 L25 X25 hQ25 Ac25 hS hZ hown
      obtain ⟨b25_0, b25_1, kb25_0, rfl, N25q, K25, ge25_0, sz25_0, f25_0, f25_1, f25_2, f25_3⟩ := hQ25
      have N25 := Fr.app N7 N25q
      show oG p e below _ (T25.setTop (mkF m 292 #[.val (.long x0), .second, .val (.long x1), .second, .val (.int x2), .val (.int (0 : Int32)), .val (.ref b2_0), .val (.ref b3_0), .val (.ref b5_0), .val (.ref b7_0), .val (.int tn_), .val (.int tl_), .val (.int an_), .val (.int al_), .val (.int (((x2.toUInt32 >>> ((1 : Int32) &&& 31).toUInt32).toInt32) &&& (3 : Int32))), .val (.ref a10), .unset, .unset, .unset, .unset, .unset] [(.ref b25_0)]))
      refine og (fun _ hr => XS.astore X25.here hx rfl (hb hby at_292) rfl rfl (l' := #[.val (.long x0), .second, .val (.long x1), .second, .val (.int x2), .val (.int (0 : Int32)), .val (.ref b2_0), .val (.ref b3_0), .val (.ref b5_0), .val (.ref b7_0), .val (.int tn_), .val (.int tl_), .val (.int an_), .val (.int al_), .val (.int (((x2.toUInt32 >>> ((1 : Int32) &&& 31).toUInt32).toInt32) &&& (3 : Int32))), .val (.ref a10), .val (.ref b25_0), .unset, .unset, .unset, .unset]) rfl hr) ?_
      show oG p e below _ (T25.setTop (mkF m 294 #[.val (.long x0), .second, .val (.long x1), .second, .val (.int x2), .val (.int (0 : Int32)), .val (.ref b2_0), .val (.ref b3_0), .val (.ref b5_0), .val (.ref b7_0), .val (.int tn_), .val (.int tl_), .val (.int an_), .val (.int al_), .val (.int (((x2.toUInt32 >>> ((1 : Int32) &&& 31).toUInt32).toInt32) &&& (3 : Int32))), .val (.ref a10), .val (.ref b25_0), .unset, .unset, .unset, .unset] []))
      obtain ⟨T31, h31, X31, e31, E31, A31, D31, -, st31⟩ := newO X25 hx hZ hown (hw _ (own_m 31 rfl)) (hw _ (own_m 32 rfl)) (hw _ (own_m 33 rfl)) rfl (g := (mkF m 294 #[.val (.long x0), .second, .val (.long x1), .second, .val (.int x2), .val (.int (0 : Int32)), .val (.ref b2_0), .val (.ref b3_0), .val (.ref b5_0), .val (.ref b7_0), .val (.int tn_), .val (.int tl_), .val (.int an_), .val (.int al_), .val (.int (((x2.toUInt32 >>> ((1 : Int32) &&& 31).toUInt32).toInt32) &&& (3 : Int32))), .val (.ref a10), .val (.ref b25_0), .unset, .unset, .unset, .unset] [])) rfl (hb hby at_294) (by decide) (by decide)
      obtain ⟨b31, g31⟩ : ∃ z, z = T25.heap.size := ⟨_, rfl⟩
      rw [← g31] at A31 D31 st31
      have Z32 := (Nat.le_trans Z28 K25.1)
      have ge33 : n0 ≤ b31 := Nat.le_trans Z32 (Nat.le_of_eq g31.symm)
      refine og st31 ?_
      have f34 : Fld Z h31 b31 "com/example/ruleweave/ruleweave/CommonPolicySchema$Term" "namespace" "Ljava/lang/String;" .null := D31 (Or.inr (hw _ (own_m 44 rfl))) (ty := (.object "java/lang/String")) (by decide)
      have f35 : Fld Z h31 b31 "com/example/ruleweave/ruleweave/CommonPolicySchema$Term" "localName" "Ljava/lang/String;" .null := D31 (Or.inr (hw _ (own_m 46 rfl))) (ty := (.object "java/lang/String")) (by decide)
      have f36 : Fld Z h31 b31 "com/example/ruleweave/ruleweave/CommonPolicySchema$Term" "type" "Lcom/example/ruleweave/ruleweave/CommonPolicySchema$Type;" .null := D31 (Or.inr (hw _ (own_m 48 rfl))) (ty := (.object "com/example/ruleweave/ruleweave/CommonPolicySchema$Type")) (by decide)
      show oG p e below _ (T31.setTop (mkF m 297 #[.val (.long x0), .second, .val (.long x1), .second, .val (.int x2), .val (.int (0 : Int32)), .val (.ref b2_0), .val (.ref b3_0), .val (.ref b5_0), .val (.ref b7_0), .val (.int tn_), .val (.int tl_), .val (.int an_), .val (.int al_), .val (.int (((x2.toUInt32 >>> ((1 : Int32) &&& 31).toUInt32).toInt32) &&& (3 : Int32))), .val (.ref a10), .val (.ref b25_0), .unset, .unset, .unset, .unset] [(.ref b31)]))
      refine og (fun _ hr => XS.dup X31.here hx rfl (hb hby at_297) rfl rfl (XS.aconstNull X31.here hx rfl (hb hby at_298) (XS.aconstNull X31.here hx rfl (hb hby at_299) (XS.aconstNull X31.here hx rfl (hb hby at_300) hr)))) ?_
      show oG p e below _ (T31.setTop (mkF m 301 #[.val (.long x0), .second, .val (.long x1), .second, .val (.int x2), .val (.int (0 : Int32)), .val (.ref b2_0), .val (.ref b3_0), .val (.ref b5_0), .val (.ref b7_0), .val (.int tn_), .val (.int tl_), .val (.int an_), .val (.int al_), .val (.int (((x2.toUInt32 >>> ((1 : Int32) &&& 31).toUInt32).toInt32) &&& (3 : Int32))), .val (.ref a10), .val (.ref b25_0), .unset, .unset, .unset, .unset] [.null, .null, .null, (.ref b31), (.ref b31)]))
      have Z38 := (Nat.le_trans Z32 E31.1)
      refine own_cp X31 hx hZ hown rfl (hw _ (own_m 34 rfl)) (hw _ (own_m 35 rfl)) (hw _ (own_m 33 rfl)) (hw _ (own_m 36 rfl)) (by decide) (rm := { frames := 2, cells := 0, slots := 0, locals := 24 }) (rm_init_21 l Z a0 hw [] b31 h31 n0 Z38 A31 f34 f35 f36 ge33) (by decide) (W := 1) (by decide) (by decide) (by decide) e31 (by rw [hml]; rfl) (argsL := [.null, .null, .null]) (lenOf own_pd12 rfl) (rest := [(.ref b31)]) rfl rfl (Nat.le_of_eq rfl) (hb hby at_301) ?_
      intro _ T37 L37 X37 hQ37
      obtain ⟨rfl, N37q, K37, f37_0, f37_1, f37_2⟩ := hQ37
      have N37 := Fr.app N25 N37q
      show oG p e below _ (T37.setTop (mkF m 304 #[.val (.long x0), .second, .val (.long x1), .second, .val (.int x2), .val (.int (0 : Int32)), .val (.ref b2_0), .val (.ref b3_0), .val (.ref b5_0), .val (.ref b7_0), .val (.int tn_), .val (.int tl_), .val (.int an_), .val (.int al_), .val (.int (((x2.toUInt32 >>> ((1 : Int32) &&& 31).toUInt32).toInt32) &&& (3 : Int32))), .val (.ref a10), .val (.ref b25_0), .unset, .unset, .unset, .unset] [(.ref b31)]))
      refine og (fun _ hr => XS.astore X37.here hx rfl (hb hby at_304) rfl rfl (l' := #[.val (.long x0), .second, .val (.long x1), .second, .val (.int x2), .val (.int (0 : Int32)), .val (.ref b2_0), .val (.ref b3_0), .val (.ref b5_0), .val (.ref b7_0), .val (.int tn_), .val (.int tl_), .val (.int an_), .val (.int al_), .val (.int (((x2.toUInt32 >>> ((1 : Int32) &&& 31).toUInt32).toInt32) &&& (3 : Int32))), .val (.ref a10), .val (.ref b25_0), .val (.ref b31), .unset, .unset, .unset]) rfl (XS.iload X37.here hx rfl (hb hby at_306) rfl (XS.iconst X37.here hx rfl (hb hby at_308) hr))) ?_
      show oG p e below _ (T37.setTop (mkF m 309 #[.val (.long x0), .second, .val (.long x1), .second, .val (.int x2), .val (.int (0 : Int32)), .val (.ref b2_0), .val (.ref b3_0), .val (.ref b5_0), .val (.ref b7_0), .val (.int tn_), .val (.int tl_), .val (.int an_), .val (.int al_), .val (.int (((x2.toUInt32 >>> ((1 : Int32) &&& 31).toUInt32).toInt32) &&& (3 : Int32))), .val (.ref a10), .val (.ref b25_0), .val (.ref b31), .unset, .unset, .unset] [(.int (2 : Int32)), (.int (((x2.toUInt32 >>> ((1 : Int32) &&& 31).toUInt32).toInt32) &&& (3 : Int32)))]))
      have c39 : (((x2.toUInt32 >>> ((1 : Int32) &&& 31).toUInt32).toInt32) &&& (3 : Int32)) < (2 : Int32) := by
        have q0 := rng32 x2
        have q1 := c_mask x2 (1 : Int32) 1 (by decide) (by decide)
        have q2 := c_iushr x2 (1 : Int32) 1 (by decide) (by decide)
        have q3 := c_mask ((x2.toUInt32 >>> ((1 : Int32) &&& 31).toUInt32).toInt32) (3 : Int32) 2 (by decide) (by decide)
        have q4 := c_iushr x2 (7 : Int32) 7 (by decide) (by decide)
        have q5 := c_mask ((x2.toUInt32 >>> ((7 : Int32) &&& 31).toUInt32).toInt32) (3 : Int32) 2 (by decide) (by decide)
        have q6 := congrArg Int32.toInt hal_
        have p0 := c1
        have p1 := c9
        have p2 := c17
        have p3 := c18
        simp only [true_implies, Int32.lt_iff_toInt_lt, ← Int32.toInt_inj, Int32.reduceToInt, Int64.lt_iff_toInt_lt, ← Int64.toInt_inj, Int64.reduceToInt] at q0 q1 q2 q3 q4 q5 q6 p0 p1 p2 p3 ⊢
        omega
      refine og (fun _ hr => XS.icmpYes X37.here hx rfl (pc0 := 309) (pc' := 316) rfl (hb hby at_309) rfl (tlt c39).1 (by decide) (by decide) hr) ?_
      show oG p e below _ (T37.setTop (mkF m 316 #[.val (.long x0), .second, .val (.long x1), .second, .val (.int x2), .val (.int (0 : Int32)), .val (.ref b2_0), .val (.ref b3_0), .val (.ref b5_0), .val (.ref b7_0), .val (.int tn_), .val (.int tl_), .val (.int an_), .val (.int al_), .val (.int (((x2.toUInt32 >>> ((1 : Int32) &&& 31).toUInt32).toInt32) &&& (3 : Int32))), .val (.ref a10), .val (.ref b25_0), .val (.ref b31), .unset, .unset, .unset] []))
      refine og (fun _ hr => XS.iconst X37.here hx rfl (hb hby at_316) (XS.istore X37.here hx rfl (hb hby at_317) rfl (l' := #[.val (.long x0), .second, .val (.long x1), .second, .val (.int x2), .val (.int (0 : Int32)), .val (.ref b2_0), .val (.ref b3_0), .val (.ref b5_0), .val (.ref b7_0), .val (.int tn_), .val (.int tl_), .val (.int an_), .val (.int al_), .val (.int (((x2.toUInt32 >>> ((1 : Int32) &&& 31).toUInt32).toInt32) &&& (3 : Int32))), .val (.ref a10), .val (.ref b25_0), .val (.ref b31), .val (.int (0 : Int32)), .unset, .unset]) rfl (XS.aload X37.here hx rfl (hb hby at_319) rfl rfl (XS.aload X37.here hx rfl (hb hby at_321) rfl rfl (XS.aload X37.here hx rfl (hb hby at_323) rfl rfl hr))))) ?_
      show oG p e below _ (T37.setTop (mkF m 325 #[.val (.long x0), .second, .val (.long x1), .second, .val (.int x2), .val (.int (0 : Int32)), .val (.ref b2_0), .val (.ref b3_0), .val (.ref b5_0), .val (.ref b7_0), .val (.int tn_), .val (.int tl_), .val (.int an_), .val (.int al_), .val (.int (((x2.toUInt32 >>> ((1 : Int32) &&& 31).toUInt32).toInt32) &&& (3 : Int32))), .val (.ref a10), .val (.ref b25_0), .val (.ref b31), .val (.int (0 : Int32)), .unset, .unset] [(.ref b25_0), (.ref a10), (.ref b31)]))
      have f41 := (((FV10.keep K25 nin0).ext E31).keep K37 (ninS (Nat.ne_of_lt (Nat.lt_of_lt_of_le (EA10.keep K25).lt (Nat.le_of_eq g31.symm))) nin0))
      have f42 := (((AV10.keep K25 nin0).ext E31).keep K37 (ninS (Nat.ne_of_lt (Nat.lt_of_lt_of_le (AV10.keep K25 nin0).lt (Nat.le_of_eq g31.symm))) nin0))
      have f43 := (((EA10.keep K25).ext E31).keep K37)
      have Z44 := (Nat.le_trans Z38 K37.1)
      have f45 := (A31.keep K37)
      refine own_cv X37 hx hZ hown (notFace_of_selects (args := #[]) (mvT hZ (hw _ (own_m 52 rfl)))) (hw _ (own_m 49 rfl)) (hw _ (own_m 50 rfl)) (hw _ (own_m 52 rfl)) (hw _ (own_m 51 rfl)) (hw _ (own_m 33 rfl)) (hw _ (own_m 53 rfl)) (by decide) f45 (rm := { frames := 1, cells := 0, slots := 0, locals := 12 }) (rm_admits_23 l Z a0 hw [] b31 a10 b25_0 b10 k10 T37.heap n0 Z44 f37_2 f41 f42 f43) (by decide) (W := 0) (by decide) (by decide) (by decide) rfl (by rw [hml]; rfl) (argsL := [(.ref a10), (.ref b25_0)]) (lenOf own_pd14 rfl) (rest := []) rfl rfl (Nat.le_of_eq rfl) (hb hby at_325) ?_
      intro _ T40 L40 X40 hQ40
      obtain ⟨rfl, N40q, e40⟩ := hQ40
      have N40 := Fr.app N37 N40q
      show oG p e below _ (T40.setTop (mkF m 328 #[.val (.long x0), .second, .val (.long x1), .second, .val (.int x2), .val (.int (0 : Int32)), .val (.ref b2_0), .val (.ref b3_0), .val (.ref b5_0), .val (.ref b7_0), .val (.int tn_), .val (.int tl_), .val (.int an_), .val (.int al_), .val (.int (((x2.toUInt32 >>> ((1 : Int32) &&& 31).toUInt32).toInt32) &&& (3 : Int32))), .val (.ref a10), .val (.ref b25_0), .val (.ref b31), .val (.int (0 : Int32)), .unset, .unset] [(.int (0 : Int32))]))
      refine og (fun _ hr => XS.iload X40.here hx rfl (hb hby at_328) rfl (XS.icmpNo X40.here hx rfl (hb hby at_330) rfl (teq (by decide)).2 (XS.iconst X40.here hx rfl (hb hby at_333) (XS.goto X40.here hx rfl (pc0 := 334) (pc' := 338) rfl (hb hby at_334) (by decide) (by decide) hr)))) ?_
      show oG p e below _ (T40.setTop (mkF m 338 #[.val (.long x0), .second, .val (.long x1), .second, .val (.int x2), .val (.int (0 : Int32)), .val (.ref b2_0), .val (.ref b3_0), .val (.ref b5_0), .val (.ref b7_0), .val (.int tn_), .val (.int tl_), .val (.int an_), .val (.int al_), .val (.int (((x2.toUInt32 >>> ((1 : Int32) &&& 31).toUInt32).toInt32) &&& (3 : Int32))), .val (.ref a10), .val (.ref b25_0), .val (.ref b31), .val (.int (0 : Int32)), .unset, .unset] [(.int (1 : Int32))]))
      have hk46 := (Nat.le_trans (Nat.le_trans (Nat.le_refl _) E31.1) K37.1)
      have A47 := A30.trans Ac25
      have A48 := A47.trans (CHr.ext E31 A47.1)
      have sf50 := (Safe.ext E31 A47.1 (Safe.new (Nat.le_of_eq g31.symm)))
      have A49 := A48.trans (CHr.keep K37 (sfS sf50 sf0) A48.1)
      exact own_retNW X40 hx hlk Bd.returns hS hk46 hZ hEL hh e40 A49 (t := .boolean) (by simp) (hb hby at_338) (by decide) (by decide) ⟨rfl, N40⟩
    refine og (fun _ hr => XS.ifYes X7.here hx rfl (pc0 := 249) (pc' := 259) rfl (hb hby at_249) rfl ((if0 _ _).trans (feq c9).2) (by decide) (by decide) hr) ?_
    show oG p e below _ (T7.setTop (mkF m 259 #[.val (.long x0), .second, .val (.long x1), .second, .val (.int x2), .val (.int (0 : Int32)), .val (.ref b2_0), .val (.ref b3_0), .val (.ref b5_0), .val (.ref b7_0), .val (.int tn_), .val (.int tl_), .val (.int an_), .val (.int al_), .val (.int (((x2.toUInt32 >>> ((1 : Int32) &&& 31).toUInt32).toInt32) &&& (3 : Int32))), .unset, .unset, .unset, .unset, .unset, .unset] []))
    refine og (fun _ hr => XS.iload X7.here hx rfl (hb hby at_259) rfl (XS.iconst X7.here hx rfl (hb hby at_261) hr)) ?_
    show oG p e below _ (T7.setTop (mkF m 262 #[.val (.long x0), .second, .val (.long x1), .second, .val (.int x2), .val (.int (0 : Int32)), .val (.ref b2_0), .val (.ref b3_0), .val (.ref b5_0), .val (.ref b7_0), .val (.int tn_), .val (.int tl_), .val (.int an_), .val (.int al_), .val (.int (((x2.toUInt32 >>> ((1 : Int32) &&& 31).toUInt32).toInt32) &&& (3 : Int32))), .unset, .unset, .unset, .unset, .unset, .unset] [(.int (1 : Int32)), (.int (((x2.toUInt32 >>> ((1 : Int32) &&& 31).toUInt32).toInt32) &&& (3 : Int32)))]))
    rcases Classical.em ((((x2.toUInt32 >>> ((1 : Int32) &&& 31).toUInt32).toInt32) &&& (3 : Int32)) = (1 : Int32)) with c51 | c51
    · skip
      refine og (fun _ hr => XS.icmpNo X7.here hx rfl (hb hby at_262) rfl (teq c51).2 hr) ?_
      show oG p e below _ (T7.setTop (mkF m 265 #[.val (.long x0), .second, .val (.long x1), .second, .val (.int x2), .val (.int (0 : Int32)), .val (.ref b2_0), .val (.ref b3_0), .val (.ref b5_0), .val (.ref b7_0), .val (.int tn_), .val (.int tl_), .val (.int an_), .val (.int al_), .val (.int (((x2.toUInt32 >>> ((1 : Int32) &&& 31).toUInt32).toInt32) &&& (3 : Int32))), .unset, .unset, .unset, .unset, .unset, .unset] []))
      have A53 := A0.trans (CHr.keep K2 sf0 A0.1)
      have A54 := A53.trans (CHr.keep K3 sf0 A53.1)
      have A55 := A54.trans (CHr.keep K5 sf0 A54.1)
      have A56 := A55.trans (CHr.keep K7 sf0 A55.1)
      have hk57 := (Nat.le_trans (Nat.le_trans (Nat.le_trans (Nat.le_trans hk K2.1) K3.1) K5.1) K7.1)
      have hZo58 := hZ
      obtain ⟨a52, T52, h52, k152, b52, k52, X52, e52, E52, hS, hk52, hZ, hown, EA52, FC52, FV52, AV52, -, -, Al52, -, ne52, st52⟩ := ldcCH X7 hx hZ hown (hw _ (own_m 114 rfl)) (own_ws hw) rfl hS hk57 hEL (by simp [own_EL]) A56.1 (vs := [(.int (117 : Int32)), (.int (114 : Int32)), (.int (110 : Int32)), (.int (58 : Int32)), (.int (105 : Int32)), (.int (101 : Int32)), (.int (116 : Int32)), (.int (102 : Int32)), (.int (58 : Int32)), (.int (112 : Int32)), (.int (97 : Int32)), (.int (114 : Int32)), (.int (97 : Int32)), (.int (109 : Int32)), (.int (115 : Int32)), (.int (58 : Int32)), (.int (120 : Int32)), (.int (109 : Int32)), (.int (108 : Int32)), (.int (58 : Int32)), (.int (110 : Int32)), (.int (115 : Int32)), (.int (58 : Int32)), (.int (99 : Int32)), (.int (111 : Int32)), (.int (109 : Int32)), (.int (109 : Int32)), (.int (111 : Int32)), (.int (110 : Int32)), (.int (45 : Int32)), (.int (112 : Int32)), (.int (111 : Int32)), (.int (108 : Int32)), (.int (105 : Int32)), (.int (99 : Int32)), (.int (121 : Int32))]) (z := (36 : Int32)) ⟨by decide, by decide⟩ (by decide) (by decide) (g := (mkF m 265 #[.val (.long x0), .second, .val (.long x1), .second, .val (.int x2), .val (.int (0 : Int32)), .val (.ref b2_0), .val (.ref b3_0), .val (.ref b5_0), .val (.ref b7_0), .val (.int tn_), .val (.int tl_), .val (.int an_), .val (.int al_), .val (.int (((x2.toUInt32 >>> ((1 : Int32) &&& 31).toUInt32).toInt32) &&& (3 : Int32))), .unset, .unset, .unset, .unset, .unset, .unset] [])) rfl (hb hby at_265) (n := 144) (by decide) (by decide) (by decide) (by decide)
      refine og st52 ?_
      show oG p e below _ (T52.setTop (mkF m 267 #[.val (.long x0), .second, .val (.long x1), .second, .val (.int x2), .val (.int (0 : Int32)), .val (.ref b2_0), .val (.ref b3_0), .val (.ref b5_0), .val (.ref b7_0), .val (.int tn_), .val (.int tl_), .val (.int an_), .val (.int al_), .val (.int (((x2.toUInt32 >>> ((1 : Int32) &&& 31).toUInt32).toInt32) &&& (3 : Int32))), .unset, .unset, .unset, .unset, .unset, .unset] [(.ref a52)]))
      refine og (fun _ hr => XS.astore X52.here hx rfl (hb hby at_267) rfl rfl (l' := #[.val (.long x0), .second, .val (.long x1), .second, .val (.int x2), .val (.int (0 : Int32)), .val (.ref b2_0), .val (.ref b3_0), .val (.ref b5_0), .val (.ref b7_0), .val (.int tn_), .val (.int tl_), .val (.int an_), .val (.int al_), .val (.int (((x2.toUInt32 >>> ((1 : Int32) &&& 31).toUInt32).toInt32) &&& (3 : Int32))), .val (.ref a52), .unset, .unset, .unset, .unset, .unset]) rfl (XS.goto X52.here hx rfl (pc0 := 269) (pc' := 285) rfl (hb hby at_269) (by decide) (by decide) (XS.aload X52.here hx rfl (hb hby at_285) rfl rfl (XS.iload X52.here hx rfl (hb hby at_287) rfl hr)))) ?_
      show oG p e below _ (T52.setTop (mkF m 289 #[.val (.long x0), .second, .val (.long x1), .second, .val (.int x2), .val (.int (0 : Int32)), .val (.ref b2_0), .val (.ref b3_0), .val (.ref b5_0), .val (.ref b7_0), .val (.int tn_), .val (.int tl_), .val (.int an_), .val (.int al_), .val (.int (((x2.toUInt32 >>> ((1 : Int32) &&& 31).toUInt32).toInt32) &&& (3 : Int32))), .val (.ref a52), .unset, .unset, .unset, .unset, .unset] [(.int al_), (.ref b7_0)]))
      have c59 : ¬ (al_ < (0 : Int32)) := by
        have q0 := rng32 x2
        have q1 := c_mask x2 (1 : Int32) 1 (by decide) (by decide)
        have q2 := c_iushr x2 (1 : Int32) 1 (by decide) (by decide)
        have q3 := c_mask ((x2.toUInt32 >>> ((1 : Int32) &&& 31).toUInt32).toInt32) (3 : Int32) 2 (by decide) (by decide)
        have q4 := c_iushr x2 (7 : Int32) 7 (by decide) (by decide)
        have q5 := c_mask ((x2.toUInt32 >>> ((7 : Int32) &&& 31).toUInt32).toInt32) (3 : Int32) 2 (by decide) (by decide)
        have q6 := congrArg Int32.toInt hal_
        have p0 := c1
        have p1 := c9
        have p2 := c51
        simp only [true_implies, Int32.lt_iff_toInt_lt, ← Int32.toInt_inj, Int32.reduceToInt, Int64.lt_iff_toInt_lt, ← Int64.toInt_inj, Int64.reduceToInt] at q0 q1 q2 q3 q4 q5 q6 p0 p1 p2 ⊢
        omega
      have c60 : ¬ ((3 : Int32) < al_) := by
        have q0 := rng32 x2
        have q1 := c_mask x2 (1 : Int32) 1 (by decide) (by decide)
        have q2 := c_iushr x2 (1 : Int32) 1 (by decide) (by decide)
        have q3 := c_mask ((x2.toUInt32 >>> ((1 : Int32) &&& 31).toUInt32).toInt32) (3 : Int32) 2 (by decide) (by decide)
        have q4 := c_iushr x2 (7 : Int32) 7 (by decide) (by decide)
        have q5 := c_mask ((x2.toUInt32 >>> ((7 : Int32) &&& 31).toUInt32).toInt32) (3 : Int32) 2 (by decide) (by decide)
        have q6 := congrArg Int32.toInt hal_
        have p0 := c1
        have p1 := c9
        have p2 := c51
        have p3 := c59
        simp only [true_implies, Int32.lt_iff_toInt_lt, ← Int32.toInt_inj, Int32.reduceToInt, Int64.lt_iff_toInt_lt, ← Int64.toInt_inj, Int64.reduceToInt] at q0 q1 q2 q3 q4 q5 q6 p0 p1 p2 p3 ⊢
        omega
      have c61 : ¬ ((own_ch x1 (24 : Int32)) < (0 : Int32)) := by
        have q0 := rng64 x1
        have q1 := own_ch_v x1 (24 : Int32)
        simp only [true_implies, Int32.lt_iff_toInt_lt, ← Int32.toInt_inj, Int32.reduceToInt, Int64.lt_iff_toInt_lt, ← Int64.toInt_inj, Int64.reduceToInt] at q0 q1 ⊢
        omega
      have c62 : ¬ ((255 : Int32) < (own_ch x1 (24 : Int32))) := by
        have q0 := rng64 x1
        have q1 := own_ch_v x1 (24 : Int32)
        have p0 := c61
        simp only [true_implies, Int32.lt_iff_toInt_lt, ← Int32.toInt_inj, Int32.reduceToInt, Int64.lt_iff_toInt_lt, ← Int64.toInt_inj, Int64.reduceToInt] at q0 q1 p0 ⊢
        omega
      have c63 : ¬ ((own_ch x1 (32 : Int32)) < (0 : Int32)) := by
        have q0 := rng64 x1
        have q1 := own_ch_v x1 (24 : Int32)
        have q2 := own_ch_v x1 (32 : Int32)
        have p0 := c61
        have p1 := c62
        simp only [true_implies, Int32.lt_iff_toInt_lt, ← Int32.toInt_inj, Int32.reduceToInt, Int64.lt_iff_toInt_lt, ← Int64.toInt_inj, Int64.reduceToInt] at q0 q1 q2 p0 p1 ⊢
        omega
      have c64 : ¬ ((255 : Int32) < (own_ch x1 (32 : Int32))) := by
        have q0 := rng64 x1
        have q1 := own_ch_v x1 (24 : Int32)
        have q2 := own_ch_v x1 (32 : Int32)
        have p0 := c61
        have p1 := c62
        have p2 := c63
        simp only [true_implies, Int32.lt_iff_toInt_lt, ← Int32.toInt_inj, Int32.reduceToInt, Int64.lt_iff_toInt_lt, ← Int64.toInt_inj, Int64.reduceToInt] at q0 q1 q2 p0 p1 p2 ⊢
        omega
      have c65 : ¬ ((own_ch x1 (40 : Int32)) < (0 : Int32)) := by
        have q0 := rng64 x1
        have q1 := own_ch_v x1 (24 : Int32)
        have q2 := own_ch_v x1 (32 : Int32)
        have q3 := own_ch_v x1 (40 : Int32)
        have p0 := c61
        have p1 := c62
        have p2 := c63
        have p3 := c64
        simp only [true_implies, Int32.lt_iff_toInt_lt, ← Int32.toInt_inj, Int32.reduceToInt, Int64.lt_iff_toInt_lt, ← Int64.toInt_inj, Int64.reduceToInt] at q0 q1 q2 q3 p0 p1 p2 p3 ⊢
        omega
      have c66 : ¬ ((255 : Int32) < (own_ch x1 (40 : Int32))) := by
        have q0 := rng64 x1
        have q1 := own_ch_v x1 (24 : Int32)
        have q2 := own_ch_v x1 (32 : Int32)
        have q3 := own_ch_v x1 (40 : Int32)
        have p0 := c61
        have p1 := c62
        have p2 := c63
        have p3 := c64
        have p4 := c65
        simp only [true_implies, Int32.lt_iff_toInt_lt, ← Int32.toInt_inj, Int32.reduceToInt, Int64.lt_iff_toInt_lt, ← Int64.toInt_inj, Int64.reduceToInt] at q0 q1 q2 q3 p0 p1 p2 p3 p4 ⊢
        omega
      have f68 := ((own_sta_keep (own_sta_keep (own_sta_keep (own_sta_keep S_COMPACT_STRINGS K2 all0) K3 all0) K5 all0) K7 all0).ext E52)
      have f69 := (f7_1.ext E52)
      have Z70 := (Nat.le_trans (Nat.le_trans Z8 K7.1) E52.1)
      have hZo71 := hZ
      have A72 := A56.trans Al52
      refine own_csW X52 hx hZ hown (hw _ (own_m 14 rfl)) (hw _ (own_m 15 rfl)) (hw _ (own_m 2 rfl)) (hw _ (own_m 16 rfl)) (by decide) (rm := { frames := 4, cells := 6, slots := 12, locals := 66 }) (rm_str l Z a0 hw [] b7_0 kb7_0 al_ (own_ch x1 (24 : Int32)) (own_ch x1 (32 : Int32)) (own_ch x1 (40 : Int32)) i_COMPACT_STRINGS h52 n0 Z70 f68 hs_COMPACT_STRINGS f69 c59 c60 c61 c62 c63 c64 c65 c66) (by decide) (W := 0) (by decide) (by decide) (by decide) e52 hEL A72.1 hS hk52 (by rw [hml]; rfl) (argsL := [(.ref b7_0), (.int al_)]) (lenOf own_pd10 rfl) (rest := []) rfl rfl (Nat.le_of_eq rfl) (hb hby at_289) ?_
      intro _ T67 L67 X67 hQ67 Ac67 hS hZ hown
      obtain ⟨b67_0, b67_1, kb67_0, rfl, N67q, K67, ge67_0, sz67_0, f67_0, f67_1, f67_2, f67_3⟩ := hQ67
      have N67 := Fr.app N7 N67q
      show oG p e below _ (T67.setTop (mkF m 292 #[.val (.long x0), .second, .val (.long x1), .second, .val (.int x2), .val (.int (0 : Int32)), .val (.ref b2_0), .val (.ref b3_0), .val (.ref b5_0), .val (.ref b7_0), .val (.int tn_), .val (.int tl_), .val (.int an_), .val (.int al_), .val (.int (((x2.toUInt32 >>> ((1 : Int32) &&& 31).toUInt32).toInt32) &&& (3 : Int32))), .val (.ref a52), .unset, .unset, .unset, .unset, .unset] [(.ref b67_0)]))
      refine og (fun _ hr => XS.astore X67.here hx rfl (hb hby at_292) rfl rfl (l' := #[.val (.long x0), .second, .val (.long x1), .second, .val (.int x2), .val (.int (0 : Int32)), .val (.ref b2_0), .val (.ref b3_0), .val (.ref b5_0), .val (.ref b7_0), .val (.int tn_), .val (.int tl_), .val (.int an_), .val (.int al_), .val (.int (((x2.toUInt32 >>> ((1 : Int32) &&& 31).toUInt32).toInt32) &&& (3 : Int32))), .val (.ref a52), .val (.ref b67_0), .unset, .unset, .unset, .unset]) rfl hr) ?_
      show oG p e below _ (T67.setTop (mkF m 294 #[.val (.long x0), .second, .val (.long x1), .second, .val (.int x2), .val (.int (0 : Int32)), .val (.ref b2_0), .val (.ref b3_0), .val (.ref b5_0), .val (.ref b7_0), .val (.int tn_), .val (.int tl_), .val (.int an_), .val (.int al_), .val (.int (((x2.toUInt32 >>> ((1 : Int32) &&& 31).toUInt32).toInt32) &&& (3 : Int32))), .val (.ref a52), .val (.ref b67_0), .unset, .unset, .unset, .unset] []))
      obtain ⟨T73, h73, X73, e73, E73, A73, D73, -, st73⟩ := newO X67 hx hZ hown (hw _ (own_m 31 rfl)) (hw _ (own_m 32 rfl)) (hw _ (own_m 33 rfl)) rfl (g := (mkF m 294 #[.val (.long x0), .second, .val (.long x1), .second, .val (.int x2), .val (.int (0 : Int32)), .val (.ref b2_0), .val (.ref b3_0), .val (.ref b5_0), .val (.ref b7_0), .val (.int tn_), .val (.int tl_), .val (.int an_), .val (.int al_), .val (.int (((x2.toUInt32 >>> ((1 : Int32) &&& 31).toUInt32).toInt32) &&& (3 : Int32))), .val (.ref a52), .val (.ref b67_0), .unset, .unset, .unset, .unset] [])) rfl (hb hby at_294) (by decide) (by decide)
      obtain ⟨b73, g73⟩ : ∃ z, z = T67.heap.size := ⟨_, rfl⟩
      rw [← g73] at A73 D73 st73
      have Z74 := (Nat.le_trans Z70 K67.1)
      have ge75 : n0 ≤ b73 := Nat.le_trans Z74 (Nat.le_of_eq g73.symm)
      refine og st73 ?_
      have f76 : Fld Z h73 b73 "com/example/ruleweave/ruleweave/CommonPolicySchema$Term" "namespace" "Ljava/lang/String;" .null := D73 (Or.inr (hw _ (own_m 44 rfl))) (ty := (.object "java/lang/String")) (by decide)
      have f77 : Fld Z h73 b73 "com/example/ruleweave/ruleweave/CommonPolicySchema$Term" "localName" "Ljava/lang/String;" .null := D73 (Or.inr (hw _ (own_m 46 rfl))) (ty := (.object "java/lang/String")) (by decide)
      have f78 : Fld Z h73 b73 "com/example/ruleweave/ruleweave/CommonPolicySchema$Term" "type" "Lcom/example/ruleweave/ruleweave/CommonPolicySchema$Type;" .null := D73 (Or.inr (hw _ (own_m 48 rfl))) (ty := (.object "com/example/ruleweave/ruleweave/CommonPolicySchema$Type")) (by decide)
      show oG p e below _ (T73.setTop (mkF m 297 #[.val (.long x0), .second, .val (.long x1), .second, .val (.int x2), .val (.int (0 : Int32)), .val (.ref b2_0), .val (.ref b3_0), .val (.ref b5_0), .val (.ref b7_0), .val (.int tn_), .val (.int tl_), .val (.int an_), .val (.int al_), .val (.int (((x2.toUInt32 >>> ((1 : Int32) &&& 31).toUInt32).toInt32) &&& (3 : Int32))), .val (.ref a52), .val (.ref b67_0), .unset, .unset, .unset, .unset] [(.ref b73)]))
      refine og (fun _ hr => XS.dup X73.here hx rfl (hb hby at_297) rfl rfl (XS.aconstNull X73.here hx rfl (hb hby at_298) (XS.aconstNull X73.here hx rfl (hb hby at_299) (XS.aconstNull X73.here hx rfl (hb hby at_300) hr)))) ?_
      show oG p e below _ (T73.setTop (mkF m 301 #[.val (.long x0), .second, .val (.long x1), .second, .val (.int x2), .val (.int (0 : Int32)), .val (.ref b2_0), .val (.ref b3_0), .val (.ref b5_0), .val (.ref b7_0), .val (.int tn_), .val (.int tl_), .val (.int an_), .val (.int al_), .val (.int (((x2.toUInt32 >>> ((1 : Int32) &&& 31).toUInt32).toInt32) &&& (3 : Int32))), .val (.ref a52), .val (.ref b67_0), .unset, .unset, .unset, .unset] [.null, .null, .null, (.ref b73), (.ref b73)]))
      have Z80 := (Nat.le_trans Z74 E73.1)
      refine own_cp X73 hx hZ hown rfl (hw _ (own_m 34 rfl)) (hw _ (own_m 35 rfl)) (hw _ (own_m 33 rfl)) (hw _ (own_m 36 rfl)) (by decide) (rm := { frames := 2, cells := 0, slots := 0, locals := 24 }) (rm_init_21 l Z a0 hw [] b73 h73 n0 Z80 A73 f76 f77 f78 ge75) (by decide) (W := 1) (by decide) (by decide) (by decide) e73 (by rw [hml]; rfl) (argsL := [.null, .null, .null]) (lenOf own_pd12 rfl) (rest := [(.ref b73)]) rfl rfl (Nat.le_of_eq rfl) (hb hby at_301) ?_
      intro _ T79 L79 X79 hQ79
      obtain ⟨rfl, N79q, K79, f79_0, f79_1, f79_2⟩ := hQ79
      have N79 := Fr.app N67 N79q
      show oG p e below _ (T79.setTop (mkF m 304 #[.val (.long x0), .second, .val (.long x1), .second, .val (.int x2), .val (.int (0 : Int32)), .val (.ref b2_0), .val (.ref b3_0), .val (.ref b5_0), .val (.ref b7_0), .val (.int tn_), .val (.int tl_), .val (.int an_), .val (.int al_), .val (.int (((x2.toUInt32 >>> ((1 : Int32) &&& 31).toUInt32).toInt32) &&& (3 : Int32))), .val (.ref a52), .val (.ref b67_0), .unset, .unset, .unset, .unset] [(.ref b73)]))
      refine og (fun _ hr => XS.astore X79.here hx rfl (hb hby at_304) rfl rfl (l' := #[.val (.long x0), .second, .val (.long x1), .second, .val (.int x2), .val (.int (0 : Int32)), .val (.ref b2_0), .val (.ref b3_0), .val (.ref b5_0), .val (.ref b7_0), .val (.int tn_), .val (.int tl_), .val (.int an_), .val (.int al_), .val (.int (((x2.toUInt32 >>> ((1 : Int32) &&& 31).toUInt32).toInt32) &&& (3 : Int32))), .val (.ref a52), .val (.ref b67_0), .val (.ref b73), .unset, .unset, .unset]) rfl (XS.iload X79.here hx rfl (hb hby at_306) rfl (XS.iconst X79.here hx rfl (hb hby at_308) hr))) ?_
      show oG p e below _ (T79.setTop (mkF m 309 #[.val (.long x0), .second, .val (.long x1), .second, .val (.int x2), .val (.int (0 : Int32)), .val (.ref b2_0), .val (.ref b3_0), .val (.ref b5_0), .val (.ref b7_0), .val (.int tn_), .val (.int tl_), .val (.int an_), .val (.int al_), .val (.int (((x2.toUInt32 >>> ((1 : Int32) &&& 31).toUInt32).toInt32) &&& (3 : Int32))), .val (.ref a52), .val (.ref b67_0), .val (.ref b73), .unset, .unset, .unset] [(.int (2 : Int32)), (.int (((x2.toUInt32 >>> ((1 : Int32) &&& 31).toUInt32).toInt32) &&& (3 : Int32)))]))
      have c81 : (((x2.toUInt32 >>> ((1 : Int32) &&& 31).toUInt32).toInt32) &&& (3 : Int32)) < (2 : Int32) := by
        have q0 := rng32 x2
        have q1 := c_mask x2 (1 : Int32) 1 (by decide) (by decide)
        have q2 := c_iushr x2 (1 : Int32) 1 (by decide) (by decide)
        have q3 := c_mask ((x2.toUInt32 >>> ((1 : Int32) &&& 31).toUInt32).toInt32) (3 : Int32) 2 (by decide) (by decide)
        have q4 := c_iushr x2 (7 : Int32) 7 (by decide) (by decide)
        have q5 := c_mask ((x2.toUInt32 >>> ((7 : Int32) &&& 31).toUInt32).toInt32) (3 : Int32) 2 (by decide) (by decide)
        have q6 := congrArg Int32.toInt hal_
        have p0 := c1
        have p1 := c9
        have p2 := c51
        have p3 := c59
        have p4 := c60
        simp only [true_implies, Int32.lt_iff_toInt_lt, ← Int32.toInt_inj, Int32.reduceToInt, Int64.lt_iff_toInt_lt, ← Int64.toInt_inj, Int64.reduceToInt] at q0 q1 q2 q3 q4 q5 q6 p0 p1 p2 p3 p4 ⊢
        omega
      refine og (fun _ hr => XS.icmpYes X79.here hx rfl (pc0 := 309) (pc' := 316) rfl (hb hby at_309) rfl (tlt c81).1 (by decide) (by decide) hr) ?_
      show oG p e below _ (T79.setTop (mkF m 316 #[.val (.long x0), .second, .val (.long x1), .second, .val (.int x2), .val (.int (0 : Int32)), .val (.ref b2_0), .val (.ref b3_0), .val (.ref b5_0), .val (.ref b7_0), .val (.int tn_), .val (.int tl_), .val (.int an_), .val (.int al_), .val (.int (((x2.toUInt32 >>> ((1 : Int32) &&& 31).toUInt32).toInt32) &&& (3 : Int32))), .val (.ref a52), .val (.ref b67_0), .val (.ref b73), .unset, .unset, .unset] []))
      refine og (fun _ hr => XS.iconst X79.here hx rfl (hb hby at_316) (XS.istore X79.here hx rfl (hb hby at_317) rfl (l' := #[.val (.long x0), .second, .val (.long x1), .second, .val (.int x2), .val (.int (0 : Int32)), .val (.ref b2_0), .val (.ref b3_0), .val (.ref b5_0), .val (.ref b7_0), .val (.int tn_), .val (.int tl_), .val (.int an_), .val (.int al_), .val (.int (((x2.toUInt32 >>> ((1 : Int32) &&& 31).toUInt32).toInt32) &&& (3 : Int32))), .val (.ref a52), .val (.ref b67_0), .val (.ref b73), .val (.int (0 : Int32)), .unset, .unset]) rfl (XS.aload X79.here hx rfl (hb hby at_319) rfl rfl (XS.aload X79.here hx rfl (hb hby at_321) rfl rfl (XS.aload X79.here hx rfl (hb hby at_323) rfl rfl hr))))) ?_
      show oG p e below _ (T79.setTop (mkF m 325 #[.val (.long x0), .second, .val (.long x1), .second, .val (.int x2), .val (.int (0 : Int32)), .val (.ref b2_0), .val (.ref b3_0), .val (.ref b5_0), .val (.ref b7_0), .val (.int tn_), .val (.int tl_), .val (.int an_), .val (.int al_), .val (.int (((x2.toUInt32 >>> ((1 : Int32) &&& 31).toUInt32).toInt32) &&& (3 : Int32))), .val (.ref a52), .val (.ref b67_0), .val (.ref b73), .val (.int (0 : Int32)), .unset, .unset] [(.ref b67_0), (.ref a52), (.ref b73)]))
      have f83 := (((FV52.keep K67 nin0).ext E73).keep K79 (ninS (Nat.ne_of_lt (Nat.lt_of_lt_of_le (EA52.keep K67).lt (Nat.le_of_eq g73.symm))) nin0))
      have f84 := (((AV52.keep K67 nin0).ext E73).keep K79 (ninS (Nat.ne_of_lt (Nat.lt_of_lt_of_le (AV52.keep K67 nin0).lt (Nat.le_of_eq g73.symm))) nin0))
      have f85 := (((EA52.keep K67).ext E73).keep K79)
      have f86 := (own_sta_keep ((own_sta_keep f68 K67 all0).ext E73) K79 (allS (own_ns_exa A73) all0))
      have f87 := (((FC52.keep K67 nin0).ext E73).keep K79 (ninS (Nat.ne_of_lt (Nat.lt_of_lt_of_le (EA52.keep K67).lt (Nat.le_of_eq g73.symm))) nin0))
      have Z88 := (Nat.le_trans Z80 K79.1)
      have hZo89 := hZ
      have f90 := (A73.keep K79)
      have A91 := A72.trans Ac67
      have A92 := A91.trans (CHr.ext E73 A91.1)
      have sf94 := (Safe.ext E73 A91.1 (Safe.new (Nat.le_of_eq g73.symm)))
      have A93 := A92.trans (CHr.keep K79 (sfS sf94 sf0) A92.1)
      have hk95 := (Nat.le_trans (Nat.le_trans (Nat.le_refl _) E73.1) K79.1)
      refine own_cvW X79 hx hZ hown (notFace_of_selects (args := #[]) (mvT (s := s.setVm _) hZ (hw _ (own_m 52 rfl)))) (hw _ (own_m 49 rfl)) (hw _ (own_m 50 rfl)) (hw _ (own_m 52 rfl)) (hw _ (own_m 51 rfl)) (hw _ (own_m 33 rfl)) (hw _ (own_m 53 rfl)) (by decide) f90 (rm := { frames := 2, cells := 2, slots := 148, locals := 28 }) (rm_admits_26 l Z a0 hw [] b73 a52 b67_0 b52 k52 i_COMPACT_STRINGS T79.heap n0 Z88 f79_2 f83 f84 f85 f86 f87 hs_COMPACT_STRINGS) (by decide) (W := 0) (by decide) (by decide) (by decide) rfl hEL A93.1 hS hk95 (by rw [hml]; rfl) (argsL := [(.ref a52), (.ref b67_0)]) (lenOf own_pd14 rfl) (rest := []) rfl rfl (Nat.le_of_eq rfl) (hb hby at_325) ?_
      intro _ T82 L82 X82 hQ82 Ac82 hS hZ hown
      obtain ⟨rfl, N82q, K82⟩ := hQ82
      have N82 := Fr.app N79 N82q
      show oG p e below _ (T82.setTop (mkF m 328 #[.val (.long x0), .second, .val (.long x1), .second, .val (.int x2), .val (.int (0 : Int32)), .val (.ref b2_0), .val (.ref b3_0), .val (.ref b5_0), .val (.ref b7_0), .val (.int tn_), .val (.int tl_), .val (.int an_), .val (.int al_), .val (.int (((x2.toUInt32 >>> ((1 : Int32) &&& 31).toUInt32).toInt32) &&& (3 : Int32))), .val (.ref a52), .val (.ref b67_0), .val (.ref b73), .val (.int (0 : Int32)), .unset, .unset] [(.int (0 : Int32))]))
      refine og (fun _ hr => XS.iload X82.here hx rfl (hb hby at_328) rfl (XS.icmpNo X82.here hx rfl (hb hby at_330) rfl (teq (by decide)).2 (XS.iconst X82.here hx rfl (hb hby at_333) (XS.goto X82.here hx rfl (pc0 := 334) (pc' := 338) rfl (hb hby at_334) (by decide) (by decide) hr)))) ?_
      show oG p e below _ (T82.setTop (mkF m 338 #[.val (.long x0), .second, .val (.long x1), .second, .val (.int x2), .val (.int (0 : Int32)), .val (.ref b2_0), .val (.ref b3_0), .val (.ref b5_0), .val (.ref b7_0), .val (.int tn_), .val (.int tl_), .val (.int an_), .val (.int al_), .val (.int (((x2.toUInt32 >>> ((1 : Int32) &&& 31).toUInt32).toInt32) &&& (3 : Int32))), .val (.ref a52), .val (.ref b67_0), .val (.ref b73), .val (.int (0 : Int32)), .unset, .unset] [(.int (1 : Int32))]))
      have A96 := A93.trans Ac82
      exact own_retNW X82 hx hlk Bd.returns hS (Nat.le_refl _) hZ hEL hh rfl A96 (t := .boolean) (by simp) (hb hby at_338) (by decide) (by decide) ⟨rfl, N82⟩
    refine og (fun _ hr => XS.icmpYes X7.here hx rfl (pc0 := 262) (pc' := 272) rfl (hb hby at_262) rfl (feq c51).2 (by decide) (by decide) hr) ?_
    show oG p e below _ (T7.setTop (mkF m 272 #[.val (.long x0), .second, .val (.long x1), .second, .val (.int x2), .val (.int (0 : Int32)), .val (.ref b2_0), .val (.ref b3_0), .val (.ref b5_0), .val (.ref b7_0), .val (.int tn_), .val (.int tl_), .val (.int an_), .val (.int al_), .val (.int (((x2.toUInt32 >>> ((1 : Int32) &&& 31).toUInt32).toInt32) &&& (3 : Int32))), .unset, .unset, .unset, .unset, .unset, .unset] []))
    refine og (fun _ hr => XS.aload X7.here hx rfl (hb hby at_272) rfl rfl (XS.iconst X7.here hx rfl (hb hby at_274) (XS.iload X7.here hx rfl (hb hby at_275) rfl (XS.iconst X7.here hx rfl (hb hby at_277) hr)))) ?_
    show oG p e below _ (T7.setTop (mkF m 278 #[.val (.long x0), .second, .val (.long x1), .second, .val (.int x2), .val (.int (0 : Int32)), .val (.ref b2_0), .val (.ref b3_0), .val (.ref b5_0), .val (.ref b7_0), .val (.int tn_), .val (.int tl_), .val (.int an_), .val (.int al_), .val (.int (((x2.toUInt32 >>> ((1 : Int32) &&& 31).toUInt32).toInt32) &&& (3 : Int32))), .unset, .unset, .unset, .unset, .unset, .unset] [(.int (3 : Int32)), (.int an_), (.int (1 : Int32)), (.ref b5_0)]))
    have nz97 : (3 : Int32) ≠ (0 : Int32) := by decide
    refine og (fun _ hr => iremM X7 hx rfl (hb hby at_278) rfl nz97 hr) ?_
    show oG p e below _ (T7.setTop (mkF m 279 #[.val (.long x0), .second, .val (.long x1), .second, .val (.int x2), .val (.int (0 : Int32)), .val (.ref b2_0), .val (.ref b3_0), .val (.ref b5_0), .val (.ref b7_0), .val (.int tn_), .val (.int tl_), .val (.int an_), .val (.int al_), .val (.int (((x2.toUInt32 >>> ((1 : Int32) &&& 31).toUInt32).toInt32) &&& (3 : Int32))), .unset, .unset, .unset, .unset, .unset, .unset] [(.int (an_ % (3 : Int32))), (.int (1 : Int32)), (.ref b5_0)]))
    refine og (fun _ hr => XS.iadd X7.here hx rfl (hb hby at_279) rfl hr) ?_
    show oG p e below _ (T7.setTop (mkF m 280 #[.val (.long x0), .second, .val (.long x1), .second, .val (.int x2), .val (.int (0 : Int32)), .val (.ref b2_0), .val (.ref b3_0), .val (.ref b5_0), .val (.ref b7_0), .val (.int tn_), .val (.int tl_), .val (.int an_), .val (.int al_), .val (.int (((x2.toUInt32 >>> ((1 : Int32) &&& 31).toUInt32).toInt32) &&& (3 : Int32))), .unset, .unset, .unset, .unset, .unset, .unset] [(.int ((1 : Int32) + (an_ % (3 : Int32)))), (.ref b5_0)]))
    have c98 : ¬ (((1 : Int32) + (an_ % (3 : Int32))) < (0 : Int32)) := by
      have q0 := rng32 x2
      have q1 := c_mask x2 (1 : Int32) 1 (by decide) (by decide)
      have q2 := c_iushr x2 (1 : Int32) 1 (by decide) (by decide)
      have q3 := c_mask ((x2.toUInt32 >>> ((1 : Int32) &&& 31).toUInt32).toInt32) (3 : Int32) 2 (by decide) (by decide)
      have q4 := c_iushr x2 (5 : Int32) 5 (by decide) (by decide)
      have q5 := c_mask ((x2.toUInt32 >>> ((5 : Int32) &&& 31).toUInt32).toInt32) (3 : Int32) 2 (by decide) (by decide)
      have q6 := congrArg Int32.toInt han_
      have q7 := c_irem an_ (3 : Int32) 3 (by decide)
      have q8 := c_iadd (1 : Int32) (an_ % (3 : Int32))
      have r8 := rng32 ((1 : Int32) + (an_ % (3 : Int32)))
      have p0 := c1
      have p1 := c9
      have p2 := c51
      simp only [true_implies, Int32.lt_iff_toInt_lt, ← Int32.toInt_inj, Int32.reduceToInt, Int64.lt_iff_toInt_lt, ← Int64.toInt_inj, Int64.reduceToInt] at q0 q1 q2 q3 q4 q5 q6 q7 q8 p0 p1 p2 ⊢
      omega
    have c99 : ¬ ((3 : Int32) < ((1 : Int32) + (an_ % (3 : Int32)))) := by
      have q0 := rng32 x2
      have q1 := c_mask x2 (1 : Int32) 1 (by decide) (by decide)
      have q2 := c_iushr x2 (1 : Int32) 1 (by decide) (by decide)
      have q3 := c_mask ((x2.toUInt32 >>> ((1 : Int32) &&& 31).toUInt32).toInt32) (3 : Int32) 2 (by decide) (by decide)
      have q4 := c_iushr x2 (5 : Int32) 5 (by decide) (by decide)
      have q5 := c_mask ((x2.toUInt32 >>> ((5 : Int32) &&& 31).toUInt32).toInt32) (3 : Int32) 2 (by decide) (by decide)
      have q6 := congrArg Int32.toInt han_
      have q7 := c_irem an_ (3 : Int32) 3 (by decide)
      have q8 := c_iadd (1 : Int32) (an_ % (3 : Int32))
      have r8 := rng32 ((1 : Int32) + (an_ % (3 : Int32)))
      have p0 := c1
      have p1 := c9
      have p2 := c51
      have p3 := c98
      simp only [true_implies, Int32.lt_iff_toInt_lt, ← Int32.toInt_inj, Int32.reduceToInt, Int64.lt_iff_toInt_lt, ← Int64.toInt_inj, Int64.reduceToInt] at q0 q1 q2 q3 q4 q5 q6 q7 q8 p0 p1 p2 p3 ⊢
      omega
    have c100 : ¬ ((own_ch x1 (0 : Int32)) < (0 : Int32)) := by
      have q0 := rng64 x1
      have q1 := own_ch_v x1 (0 : Int32)
      simp only [true_implies, Int32.lt_iff_toInt_lt, ← Int32.toInt_inj, Int32.reduceToInt, Int64.lt_iff_toInt_lt, ← Int64.toInt_inj, Int64.reduceToInt] at q0 q1 ⊢
      omega
    have c101 : ¬ ((255 : Int32) < (own_ch x1 (0 : Int32))) := by
      have q0 := rng64 x1
      have q1 := own_ch_v x1 (0 : Int32)
      have p0 := c100
      simp only [true_implies, Int32.lt_iff_toInt_lt, ← Int32.toInt_inj, Int32.reduceToInt, Int64.lt_iff_toInt_lt, ← Int64.toInt_inj, Int64.reduceToInt] at q0 q1 p0 ⊢
      omega
    have c102 : ¬ ((own_ch x1 (8 : Int32)) < (0 : Int32)) := by
      have q0 := rng64 x1
      have q1 := own_ch_v x1 (0 : Int32)
      have q2 := own_ch_v x1 (8 : Int32)
      have p0 := c100
      have p1 := c101
      simp only [true_implies, Int32.lt_iff_toInt_lt, ← Int32.toInt_inj, Int32.reduceToInt, Int64.lt_iff_toInt_lt, ← Int64.toInt_inj, Int64.reduceToInt] at q0 q1 q2 p0 p1 ⊢
      omega
    have c103 : ¬ ((255 : Int32) < (own_ch x1 (8 : Int32))) := by
      have q0 := rng64 x1
      have q1 := own_ch_v x1 (0 : Int32)
      have q2 := own_ch_v x1 (8 : Int32)
      have p0 := c100
      have p1 := c101
      have p2 := c102
      simp only [true_implies, Int32.lt_iff_toInt_lt, ← Int32.toInt_inj, Int32.reduceToInt, Int64.lt_iff_toInt_lt, ← Int64.toInt_inj, Int64.reduceToInt] at q0 q1 q2 p0 p1 p2 ⊢
      omega
    have c104 : ¬ ((own_ch x1 (16 : Int32)) < (0 : Int32)) := by
      have q0 := rng64 x1
      have q1 := own_ch_v x1 (0 : Int32)
      have q2 := own_ch_v x1 (8 : Int32)
      have q3 := own_ch_v x1 (16 : Int32)
      have p0 := c100
      have p1 := c101
      have p2 := c102
      have p3 := c103
      simp only [true_implies, Int32.lt_iff_toInt_lt, ← Int32.toInt_inj, Int32.reduceToInt, Int64.lt_iff_toInt_lt, ← Int64.toInt_inj, Int64.reduceToInt] at q0 q1 q2 q3 p0 p1 p2 p3 ⊢
      omega
    have c105 : ¬ ((255 : Int32) < (own_ch x1 (16 : Int32))) := by
      have q0 := rng64 x1
      have q1 := own_ch_v x1 (0 : Int32)
      have q2 := own_ch_v x1 (8 : Int32)
      have q3 := own_ch_v x1 (16 : Int32)
      have p0 := c100
      have p1 := c101
      have p2 := c102
      have p3 := c103
      have p4 := c104
      simp only [true_implies, Int32.lt_iff_toInt_lt, ← Int32.toInt_inj, Int32.reduceToInt, Int64.lt_iff_toInt_lt, ← Int64.toInt_inj, Int64.reduceToInt] at q0 q1 q2 q3 p0 p1 p2 p3 p4 ⊢
      omega
    have f107 := (own_sta_keep (own_sta_keep (own_sta_keep (own_sta_keep S_COMPACT_STRINGS K2 all0) K3 all0) K5 all0) K7 all0)
    have f108 := (f5_1.keep K7 nin0)
    have Z109 := (Nat.le_trans Z8 K7.1)
    have hZo110 := hZ
    have A111 := A0.trans (CHr.keep K2 sf0 A0.1)
    have A112 := A111.trans (CHr.keep K3 sf0 A111.1)
    have A113 := A112.trans (CHr.keep K5 sf0 A112.1)
    have A114 := A113.trans (CHr.keep K7 sf0 A113.1)
    have hk115 := (Nat.le_trans (Nat.le_trans (Nat.le_trans (Nat.le_trans hk K2.1) K3.1) K5.1) K7.1)
    refine own_csW X7 hx hZ hown (hw _ (own_m 14 rfl)) (hw _ (own_m 15 rfl)) (hw _ (own_m 2 rfl)) (hw _ (own_m 16 rfl)) (by decide) (rm := { frames := 4, cells := 6, slots := 12, locals := 66 }) (rm_str l Z a0 hw [] b5_0 kb5_0 ((1 : Int32) + (an_ % (3 : Int32))) (own_ch x1 (0 : Int32)) (own_ch x1 (8 : Int32)) (own_ch x1 (16 : Int32)) i_COMPACT_STRINGS T7.heap n0 Z109 f107 hs_COMPACT_STRINGS f108 c98 c99 c100 c101 c102 c103 c104 c105) (by decide) (W := 0) (by decide) (by decide) (by decide) rfl hEL A114.1 hS hk115 (by rw [hml]; rfl) (argsL := [(.ref b5_0), (.int ((1 : Int32) + (an_ % (3 : Int32))))]) (lenOf own_pd10 rfl) (rest := []) rfl rfl (Nat.le_of_eq rfl) (hb hby at_280) ?_
    intro _ T106 L106 X106 hQ106 Ac106 hS hZ hown
    obtain ⟨b106_0, b106_1, kb106_0, rfl, N106q, K106, ge106_0, sz106_0, f106_0, f106_1, f106_2, f106_3⟩ := hQ106
    have N106 := Fr.app N7 N106q
    show oG p e below _ (T106.setTop (mkF m 283 #[.val (.long x0), .second, .val (.long x1), .second, .val (.int x2), .val (.int (0 : Int32)), .val (.ref b2_0), .val (.ref b3_0), .val (.ref b5_0), .val (.ref b7_0), .val (.int tn_), .val (.int tl_), .val (.int an_), .val (.int al_), .val (.int (((x2.toUInt32 >>> ((1 : Int32) &&& 31).toUInt32).toInt32) &&& (3 : Int32))), .unset, .unset, .unset, .unset, .unset, .unset] [(.ref b106_0)]))
    refine og (fun _ hr => XS.astore X106.here hx rfl (hb hby at_283) rfl rfl (l' := #[.val (.long x0), .second, .val (.long x1), .second, .val (.int x2), .val (.int (0 : Int32)), .val (.ref b2_0), .val (.ref b3_0), .val (.ref b5_0), .val (.ref b7_0), .val (.int tn_), .val (.int tl_), .val (.int an_), .val (.int al_), .val (.int (((x2.toUInt32 >>> ((1 : Int32) &&& 31).toUInt32).toInt32) &&& (3 : Int32))), .val (.ref b106_0), .unset, .unset, .unset, .unset, .unset]) rfl (XS.aload X106.here hx rfl (hb hby at_285) rfl rfl (XS.iload X106.here hx rfl (hb hby at_287) rfl hr))) ?_
    show oG p e below _ (T106.setTop (mkF m 289 #[.val (.long x0), .second, .val (.long x1), .second, .val (.int x2), .val (.int (0 : Int32)), .val (.ref b2_0), .val (.ref b3_0), .val (.ref b5_0), .val (.ref b7_0), .val (.int tn_), .val (.int tl_), .val (.int an_), .val (.int al_), .val (.int (((x2.toUInt32 >>> ((1 : Int32) &&& 31).toUInt32).toInt32) &&& (3 : Int32))), .val (.ref b106_0), .unset, .unset, .unset, .unset, .unset] [(.int al_), (.ref b7_0)]))
    have c116 : ¬ (al_ < (0 : Int32)) := by
      have q0 := rng32 x2
      have q1 := c_mask x2 (1 : Int32) 1 (by decide) (by decide)
      have q2 := c_iushr x2 (1 : Int32) 1 (by decide) (by decide)
      have q3 := c_mask ((x2.toUInt32 >>> ((1 : Int32) &&& 31).toUInt32).toInt32) (3 : Int32) 2 (by decide) (by decide)
      have q4 := c_iushr x2 (5 : Int32) 5 (by decide) (by decide)
      have q5 := c_mask ((x2.toUInt32 >>> ((5 : Int32) &&& 31).toUInt32).toInt32) (3 : Int32) 2 (by decide) (by decide)
      have q6 := congrArg Int32.toInt han_
      have q7 := c_irem an_ (3 : Int32) 3 (by decide)
      have q8 := c_iadd (1 : Int32) (an_ % (3 : Int32))
      have r8 := rng32 ((1 : Int32) + (an_ % (3 : Int32)))
      have q9 := c_iushr x2 (7 : Int32) 7 (by decide) (by decide)
      have q10 := c_mask ((x2.toUInt32 >>> ((7 : Int32) &&& 31).toUInt32).toInt32) (3 : Int32) 2 (by decide) (by decide)
      have q11 := congrArg Int32.toInt hal_
      have p0 := c1
      have p1 := c9
      have p2 := c51
      have p3 := c98
      have p4 := c99
      simp only [true_implies, Int32.lt_iff_toInt_lt, ← Int32.toInt_inj, Int32.reduceToInt, Int64.lt_iff_toInt_lt, ← Int64.toInt_inj, Int64.reduceToInt] at q0 q1 q2 q3 q4 q5 q6 q7 q8 q9 q10 q11 p0 p1 p2 p3 p4 ⊢
      omega
    have c117 : ¬ ((3 : Int32) < al_) := by
      have q0 := rng32 x2
      have q1 := c_mask x2 (1 : Int32) 1 (by decide) (by decide)
      have q2 := c_iushr x2 (1 : Int32) 1 (by decide) (by decide)
      have q3 := c_mask ((x2.toUInt32 >>> ((1 : Int32) &&& 31).toUInt32).toInt32) (3 : Int32) 2 (by decide) (by decide)
      have q4 := c_iushr x2 (5 : Int32) 5 (by decide) (by decide)
      have q5 := c_mask ((x2.toUInt32 >>> ((5 : Int32) &&& 31).toUInt32).toInt32) (3 : Int32) 2 (by decide) (by decide)
      have q6 := congrArg Int32.toInt han_
      have q7 := c_irem an_ (3 : Int32) 3 (by decide)
      have q8 := c_iadd (1 : Int32) (an_ % (3 : Int32))
      have r8 := rng32 ((1 : Int32) + (an_ % (3 : Int32)))
      have q9 := c_iushr x2 (7 : Int32) 7 (by decide) (by decide)
      have q10 := c_mask ((x2.toUInt32 >>> ((7 : Int32) &&& 31).toUInt32).toInt32) (3 : Int32) 2 (by decide) (by decide)
      have q11 := congrArg Int32.toInt hal_
      have p0 := c1
      have p1 := c9
      have p2 := c51
      have p3 := c98
      have p4 := c99
      have p5 := c116
      simp only [true_implies, Int32.lt_iff_toInt_lt, ← Int32.toInt_inj, Int32.reduceToInt, Int64.lt_iff_toInt_lt, ← Int64.toInt_inj, Int64.reduceToInt] at q0 q1 q2 q3 q4 q5 q6 q7 q8 q9 q10 q11 p0 p1 p2 p3 p4 p5 ⊢
      omega
    have c118 : ¬ ((own_ch x1 (24 : Int32)) < (0 : Int32)) := by
      have q0 := rng64 x1
      have q1 := own_ch_v x1 (0 : Int32)
      have q2 := own_ch_v x1 (8 : Int32)
      have q3 := own_ch_v x1 (16 : Int32)
      have q4 := own_ch_v x1 (24 : Int32)
      have p0 := c100
      have p1 := c101
      have p2 := c102
      have p3 := c103
      have p4 := c104
      have p5 := c105
      simp only [true_implies, Int32.lt_iff_toInt_lt, ← Int32.toInt_inj, Int32.reduceToInt, Int64.lt_iff_toInt_lt, ← Int64.toInt_inj, Int64.reduceToInt] at q0 q1 q2 q3 q4 p0 p1 p2 p3 p4 p5 ⊢
      omega
    have c119 : ¬ ((255 : Int32) < (own_ch x1 (24 : Int32))) := by
      have q0 := rng64 x1
      have q1 := own_ch_v x1 (0 : Int32)
      have q2 := own_ch_v x1 (8 : Int32)
      have q3 := own_ch_v x1 (16 : Int32)
      have q4 := own_ch_v x1 (24 : Int32)
      have p0 := c100
      have p1 := c101
      have p2 := c102
      have p3 := c103
      have p4 := c104
      have p5 := c105
      have p6 := c118
      simp only [true_implies, Int32.lt_iff_toInt_lt, ← Int32.toInt_inj, Int32.reduceToInt, Int64.lt_iff_toInt_lt, ← Int64.toInt_inj, Int64.reduceToInt] at q0 q1 q2 q3 q4 p0 p1 p2 p3 p4 p5 p6 ⊢
      omega
    have c120 : ¬ ((own_ch x1 (32 : Int32)) < (0 : Int32)) := by
      have q0 := rng64 x1
      have q1 := own_ch_v x1 (0 : Int32)
      have q2 := own_ch_v x1 (8 : Int32)
      have q3 := own_ch_v x1 (16 : Int32)
      have q4 := own_ch_v x1 (24 : Int32)
      have q5 := own_ch_v x1 (32 : Int32)
      have p0 := c100
      have p1 := c101
      have p2 := c102
      have p3 := c103
      have p4 := c104
      have p5 := c105
      have p6 := c118
      have p7 := c119
      simp only [true_implies, Int32.lt_iff_toInt_lt, ← Int32.toInt_inj, Int32.reduceToInt, Int64.lt_iff_toInt_lt, ← Int64.toInt_inj, Int64.reduceToInt] at q0 q1 q2 q3 q4 q5 p0 p1 p2 p3 p4 p5 p6 p7 ⊢
      omega
    have c121 : ¬ ((255 : Int32) < (own_ch x1 (32 : Int32))) := by
      have q0 := rng64 x1
      have q1 := own_ch_v x1 (0 : Int32)
      have q2 := own_ch_v x1 (8 : Int32)
      have q3 := own_ch_v x1 (16 : Int32)
      have q4 := own_ch_v x1 (24 : Int32)
      have q5 := own_ch_v x1 (32 : Int32)
      have p0 := c100
      have p1 := c101
      have p2 := c102
      have p3 := c103
      have p4 := c104
      have p5 := c105
      have p6 := c118
      have p7 := c119
      have p8 := c120
      simp only [true_implies, Int32.lt_iff_toInt_lt, ← Int32.toInt_inj, Int32.reduceToInt, Int64.lt_iff_toInt_lt, ← Int64.toInt_inj, Int64.reduceToInt] at q0 q1 q2 q3 q4 q5 p0 p1 p2 p3 p4 p5 p6 p7 p8 ⊢
      omega
    have c122 : ¬ ((own_ch x1 (40 : Int32)) < (0 : Int32)) := by
      have q0 := rng64 x1
      have q1 := own_ch_v x1 (0 : Int32)
      have q2 := own_ch_v x1 (8 : Int32)
      have q3 := own_ch_v x1 (16 : Int32)
      have q4 := own_ch_v x1 (24 : Int32)
      have q5 := own_ch_v x1 (32 : Int32)
      have q6 := own_ch_v x1 (40 : Int32)
      have p0 := c100
      have p1 := c101
      have p2 := c102
      have p3 := c103
      have p4 := c104
      have p5 := c105
      have p6 := c118
      have p7 := c119
      have p8 := c120
      have p9 := c121
      simp only [true_implies, Int32.lt_iff_toInt_lt, ← Int32.toInt_inj, Int32.reduceToInt, Int64.lt_iff_toInt_lt, ← Int64.toInt_inj, Int64.reduceToInt] at q0 q1 q2 q3 q4 q5 q6 p0 p1 p2 p3 p4 p5 p6 p7 p8 p9 ⊢
      omega
    have c123 : ¬ ((255 : Int32) < (own_ch x1 (40 : Int32))) := by
      have q0 := rng64 x1
      have q1 := own_ch_v x1 (0 : Int32)
      have q2 := own_ch_v x1 (8 : Int32)
      have q3 := own_ch_v x1 (16 : Int32)
      have q4 := own_ch_v x1 (24 : Int32)
      have q5 := own_ch_v x1 (32 : Int32)
      have q6 := own_ch_v x1 (40 : Int32)
      have p0 := c100
      have p1 := c101
      have p2 := c102
      have p3 := c103
      have p4 := c104
      have p5 := c105
      have p6 := c118
      have p7 := c119
      have p8 := c120
      have p9 := c121
      have p10 := c122
      simp only [true_implies, Int32.lt_iff_toInt_lt, ← Int32.toInt_inj, Int32.reduceToInt, Int64.lt_iff_toInt_lt, ← Int64.toInt_inj, Int64.reduceToInt] at q0 q1 q2 q3 q4 q5 q6 p0 p1 p2 p3 p4 p5 p6 p7 p8 p9 p10 ⊢
      omega
    have f125 := (own_sta_keep f107 K106 all0)
    have f126 := (f7_1.keep K106 nin0)
    have Z127 := (Nat.le_trans Z109 K106.1)
    have hZo128 := hZ
    have A129 := A114.trans Ac106
    refine own_csW X106 hx hZ hown (hw _ (own_m 14 rfl)) (hw _ (own_m 15 rfl)) (hw _ (own_m 2 rfl)) (hw _ (own_m 16 rfl)) (by decide) (rm := { frames := 4, cells := 6, slots := 12, locals := 66 }) (rm_str l Z a0 hw [] b7_0 kb7_0 al_ (own_ch x1 (24 : Int32)) (own_ch x1 (32 : Int32)) (own_ch x1 (40 : Int32)) i_COMPACT_STRINGS T106.heap n0 Z127 f125 hs_COMPACT_STRINGS f126 c116 c117 c118 c119 c120 c121 c122 c123) (by decide) (W := 0) (by decide) (by decide) (by decide) rfl hEL A129.1 hS (Nat.le_refl _) (by rw [hml]; rfl) (argsL := [(.ref b7_0), (.int al_)]) (lenOf own_pd10 rfl) (rest := []) rfl rfl (Nat.le_of_eq rfl) (hb hby at_289) ?_
    intro _ T124 L124 X124 hQ124 Ac124 hS hZ hown
    obtain ⟨b124_0, b124_1, kb124_0, rfl, N124q, K124, ge124_0, sz124_0, f124_0, f124_1, f124_2, f124_3⟩ := hQ124
    have N124 := Fr.app N106 N124q
    show oG p e below _ (T124.setTop (mkF m 292 #[.val (.long x0), .second, .val (.long x1), .second, .val (.int x2), .val (.int (0 : Int32)), .val (.ref b2_0), .val (.ref b3_0), .val (.ref b5_0), .val (.ref b7_0), .val (.int tn_), .val (.int tl_), .val (.int an_), .val (.int al_), .val (.int (((x2.toUInt32 >>> ((1 : Int32) &&& 31).toUInt32).toInt32) &&& (3 : Int32))), .val (.ref b106_0), .unset, .unset, .unset, .unset, .unset] [(.ref b124_0)]))
    refine og (fun _ hr => XS.astore X124.here hx rfl (hb hby at_292) rfl rfl (l' := #[.val (.long x0), .second, .val (.long x1), .second, .val (.int x2), .val (.int (0 : Int32)), .val (.ref b2_0), .val (.ref b3_0), .val (.ref b5_0), .val (.ref b7_0), .val (.int tn_), .val (.int tl_), .val (.int an_), .val (.int al_), .val (.int (((x2.toUInt32 >>> ((1 : Int32) &&& 31).toUInt32).toInt32) &&& (3 : Int32))), .val (.ref b106_0), .val (.ref b124_0), .unset, .unset, .unset, .unset]) rfl hr) ?_
    show oG p e below _ (T124.setTop (mkF m 294 #[.val (.long x0), .second, .val (.long x1), .second, .val (.int x2), .val (.int (0 : Int32)), .val (.ref b2_0), .val (.ref b3_0), .val (.ref b5_0), .val (.ref b7_0), .val (.int tn_), .val (.int tl_), .val (.int an_), .val (.int al_), .val (.int (((x2.toUInt32 >>> ((1 : Int32) &&& 31).toUInt32).toInt32) &&& (3 : Int32))), .val (.ref b106_0), .val (.ref b124_0), .unset, .unset, .unset, .unset] []))
    obtain ⟨T130, h130, X130, e130, E130, A130, D130, -, st130⟩ := newO X124 hx hZ hown (hw _ (own_m 31 rfl)) (hw _ (own_m 32 rfl)) (hw _ (own_m 33 rfl)) rfl (g := (mkF m 294 #[.val (.long x0), .second, .val (.long x1), .second, .val (.int x2), .val (.int (0 : Int32)), .val (.ref b2_0), .val (.ref b3_0), .val (.ref b5_0), .val (.ref b7_0), .val (.int tn_), .val (.int tl_), .val (.int an_), .val (.int al_), .val (.int (((x2.toUInt32 >>> ((1 : Int32) &&& 31).toUInt32).toInt32) &&& (3 : Int32))), .val (.ref b106_0), .val (.ref b124_0), .unset, .unset, .unset, .unset] [])) rfl (hb hby at_294) (by decide) (by decide)
    obtain ⟨b130, g130⟩ : ∃ z, z = T124.heap.size := ⟨_, rfl⟩
    rw [← g130] at A130 D130 st130
    have Z131 := (Nat.le_trans Z127 K124.1)
    have ge132 : n0 ≤ b130 := Nat.le_trans Z131 (Nat.le_of_eq g130.symm)
    refine og st130 ?_
    have f133 : Fld Z h130 b130 "com/example/ruleweave/ruleweave/CommonPolicySchema$Term" "namespace" "Ljava/lang/String;" .null := D130 (Or.inr (hw _ (own_m 44 rfl))) (ty := (.object "java/lang/String")) (by decide)
    have f134 : Fld Z h130 b130 "com/example/ruleweave/ruleweave/CommonPolicySchema$Term" "localName" "Ljava/lang/String;" .null := D130 (Or.inr (hw _ (own_m 46 rfl))) (ty := (.object "java/lang/String")) (by decide)
    have f135 : Fld Z h130 b130 "com/example/ruleweave/ruleweave/CommonPolicySchema$Term" "type" "Lcom/example/ruleweave/ruleweave/CommonPolicySchema$Type;" .null := D130 (Or.inr (hw _ (own_m 48 rfl))) (ty := (.object "com/example/ruleweave/ruleweave/CommonPolicySchema$Type")) (by decide)
    show oG p e below _ (T130.setTop (mkF m 297 #[.val (.long x0), .second, .val (.long x1), .second, .val (.int x2), .val (.int (0 : Int32)), .val (.ref b2_0), .val (.ref b3_0), .val (.ref b5_0), .val (.ref b7_0), .val (.int tn_), .val (.int tl_), .val (.int an_), .val (.int al_), .val (.int (((x2.toUInt32 >>> ((1 : Int32) &&& 31).toUInt32).toInt32) &&& (3 : Int32))), .val (.ref b106_0), .val (.ref b124_0), .unset, .unset, .unset, .unset] [(.ref b130)]))
    refine og (fun _ hr => XS.dup X130.here hx rfl (hb hby at_297) rfl rfl (XS.aconstNull X130.here hx rfl (hb hby at_298) (XS.aconstNull X130.here hx rfl (hb hby at_299) (XS.aconstNull X130.here hx rfl (hb hby at_300) hr)))) ?_
    show oG p e below _ (T130.setTop (mkF m 301 #[.val (.long x0), .second, .val (.long x1), .second, .val (.int x2), .val (.int (0 : Int32)), .val (.ref b2_0), .val (.ref b3_0), .val (.ref b5_0), .val (.ref b7_0), .val (.int tn_), .val (.int tl_), .val (.int an_), .val (.int al_), .val (.int (((x2.toUInt32 >>> ((1 : Int32) &&& 31).toUInt32).toInt32) &&& (3 : Int32))), .val (.ref b106_0), .val (.ref b124_0), .unset, .unset, .unset, .unset] [.null, .null, .null, (.ref b130), (.ref b130)]))
    have Z137 := (Nat.le_trans Z131 E130.1)
    refine own_cp X130 hx hZ hown rfl (hw _ (own_m 34 rfl)) (hw _ (own_m 35 rfl)) (hw _ (own_m 33 rfl)) (hw _ (own_m 36 rfl)) (by decide) (rm := { frames := 2, cells := 0, slots := 0, locals := 24 }) (rm_init_21 l Z a0 hw [] b130 h130 n0 Z137 A130 f133 f134 f135 ge132) (by decide) (W := 1) (by decide) (by decide) (by decide) e130 (by rw [hml]; rfl) (argsL := [.null, .null, .null]) (lenOf own_pd12 rfl) (rest := [(.ref b130)]) rfl rfl (Nat.le_of_eq rfl) (hb hby at_301) ?_
    intro _ T136 L136 X136 hQ136
    obtain ⟨rfl, N136q, K136, f136_0, f136_1, f136_2⟩ := hQ136
    have N136 := Fr.app N124 N136q
    show oG p e below _ (T136.setTop (mkF m 304 #[.val (.long x0), .second, .val (.long x1), .second, .val (.int x2), .val (.int (0 : Int32)), .val (.ref b2_0), .val (.ref b3_0), .val (.ref b5_0), .val (.ref b7_0), .val (.int tn_), .val (.int tl_), .val (.int an_), .val (.int al_), .val (.int (((x2.toUInt32 >>> ((1 : Int32) &&& 31).toUInt32).toInt32) &&& (3 : Int32))), .val (.ref b106_0), .val (.ref b124_0), .unset, .unset, .unset, .unset] [(.ref b130)]))
    refine og (fun _ hr => XS.astore X136.here hx rfl (hb hby at_304) rfl rfl (l' := #[.val (.long x0), .second, .val (.long x1), .second, .val (.int x2), .val (.int (0 : Int32)), .val (.ref b2_0), .val (.ref b3_0), .val (.ref b5_0), .val (.ref b7_0), .val (.int tn_), .val (.int tl_), .val (.int an_), .val (.int al_), .val (.int (((x2.toUInt32 >>> ((1 : Int32) &&& 31).toUInt32).toInt32) &&& (3 : Int32))), .val (.ref b106_0), .val (.ref b124_0), .val (.ref b130), .unset, .unset, .unset]) rfl (XS.iload X136.here hx rfl (hb hby at_306) rfl (XS.iconst X136.here hx rfl (hb hby at_308) hr))) ?_
    show oG p e below _ (T136.setTop (mkF m 309 #[.val (.long x0), .second, .val (.long x1), .second, .val (.int x2), .val (.int (0 : Int32)), .val (.ref b2_0), .val (.ref b3_0), .val (.ref b5_0), .val (.ref b7_0), .val (.int tn_), .val (.int tl_), .val (.int an_), .val (.int al_), .val (.int (((x2.toUInt32 >>> ((1 : Int32) &&& 31).toUInt32).toInt32) &&& (3 : Int32))), .val (.ref b106_0), .val (.ref b124_0), .val (.ref b130), .unset, .unset, .unset] [(.int (2 : Int32)), (.int (((x2.toUInt32 >>> ((1 : Int32) &&& 31).toUInt32).toInt32) &&& (3 : Int32)))]))
    have c138 : ¬ ((((x2.toUInt32 >>> ((1 : Int32) &&& 31).toUInt32).toInt32) &&& (3 : Int32)) < (2 : Int32)) := by
      have q0 := rng32 x2
      have q1 := c_mask x2 (1 : Int32) 1 (by decide) (by decide)
      have q2 := c_iushr x2 (1 : Int32) 1 (by decide) (by decide)
      have q3 := c_mask ((x2.toUInt32 >>> ((1 : Int32) &&& 31).toUInt32).toInt32) (3 : Int32) 2 (by decide) (by decide)
      have q4 := c_iushr x2 (5 : Int32) 5 (by decide) (by decide)
      have q5 := c_mask ((x2.toUInt32 >>> ((5 : Int32) &&& 31).toUInt32).toInt32) (3 : Int32) 2 (by decide) (by decide)
      have q6 := congrArg Int32.toInt han_
      have q7 := c_irem an_ (3 : Int32) 3 (by decide)
      have q8 := c_iadd (1 : Int32) (an_ % (3 : Int32))
      have r8 := rng32 ((1 : Int32) + (an_ % (3 : Int32)))
      have q9 := c_iushr x2 (7 : Int32) 7 (by decide) (by decide)
      have q10 := c_mask ((x2.toUInt32 >>> ((7 : Int32) &&& 31).toUInt32).toInt32) (3 : Int32) 2 (by decide) (by decide)
      have q11 := congrArg Int32.toInt hal_
      have p0 := c1
      have p1 := c9
      have p2 := c51
      have p3 := c98
      have p4 := c99
      have p5 := c116
      have p6 := c117
      simp only [true_implies, Int32.lt_iff_toInt_lt, ← Int32.toInt_inj, Int32.reduceToInt, Int64.lt_iff_toInt_lt, ← Int64.toInt_inj, Int64.reduceToInt] at q0 q1 q2 q3 q4 q5 q6 q7 q8 q9 q10 q11 p0 p1 p2 p3 p4 p5 p6 ⊢
      omega
    refine og (fun _ hr => XS.icmpNo X136.here hx rfl (hb hby at_309) rfl (flt c138).1 hr) ?_
    show oG p e below _ (T136.setTop (mkF m 312 #[.val (.long x0), .second, .val (.long x1), .second, .val (.int x2), .val (.int (0 : Int32)), .val (.ref b2_0), .val (.ref b3_0), .val (.ref b5_0), .val (.ref b7_0), .val (.int tn_), .val (.int tl_), .val (.int an_), .val (.int al_), .val (.int (((x2.toUInt32 >>> ((1 : Int32) &&& 31).toUInt32).toInt32) &&& (3 : Int32))), .val (.ref b106_0), .val (.ref b124_0), .val (.ref b130), .unset, .unset, .unset] []))
    refine og (fun _ hr => XS.iconst X136.here hx rfl (hb hby at_312) (XS.goto X136.here hx rfl (pc0 := 313) (pc' := 317) rfl (hb hby at_313) (by decide) (by decide) (XS.istore X136.here hx rfl (hb hby at_317) rfl (l' := #[.val (.long x0), .second, .val (.long x1), .second, .val (.int x2), .val (.int (0 : Int32)), .val (.ref b2_0), .val (.ref b3_0), .val (.ref b5_0), .val (.ref b7_0), .val (.int tn_), .val (.int tl_), .val (.int an_), .val (.int al_), .val (.int (((x2.toUInt32 >>> ((1 : Int32) &&& 31).toUInt32).toInt32) &&& (3 : Int32))), .val (.ref b106_0), .val (.ref b124_0), .val (.ref b130), .val (.int (1 : Int32)), .unset, .unset]) rfl (XS.aload X136.here hx rfl (hb hby at_319) rfl rfl (XS.aload X136.here hx rfl (hb hby at_321) rfl rfl (XS.aload X136.here hx rfl (hb hby at_323) rfl rfl hr)))))) ?_
    show oG p e below _ (T136.setTop (mkF m 325 #[.val (.long x0), .second, .val (.long x1), .second, .val (.int x2), .val (.int (0 : Int32)), .val (.ref b2_0), .val (.ref b3_0), .val (.ref b5_0), .val (.ref b7_0), .val (.int tn_), .val (.int tl_), .val (.int an_), .val (.int al_), .val (.int (((x2.toUInt32 >>> ((1 : Int32) &&& 31).toUInt32).toInt32) &&& (3 : Int32))), .val (.ref b106_0), .val (.ref b124_0), .val (.ref b130), .val (.int (1 : Int32)), .unset, .unset] [(.ref b124_0), (.ref b106_0), (.ref b130)]))
    have c139 : ¬ (((1 : Int32) + (an_ % (3 : Int32))) = (0 : Int32)) := by
      have q0 := rng32 x2
      have q1 := c_mask x2 (1 : Int32) 1 (by decide) (by decide)
      have q2 := c_iushr x2 (1 : Int32) 1 (by decide) (by decide)
      have q3 := c_mask ((x2.toUInt32 >>> ((1 : Int32) &&& 31).toUInt32).toInt32) (3 : Int32) 2 (by decide) (by decide)
      have q4 := c_iushr x2 (5 : Int32) 5 (by decide) (by decide)
      have q5 := c_mask ((x2.toUInt32 >>> ((5 : Int32) &&& 31).toUInt32).toInt32) (3 : Int32) 2 (by decide) (by decide)
      have q6 := congrArg Int32.toInt han_
      have q7 := c_irem an_ (3 : Int32) 3 (by decide)
      have q8 := c_iadd (1 : Int32) (an_ % (3 : Int32))
      have r8 := rng32 ((1 : Int32) + (an_ % (3 : Int32)))
      have q9 := c_iushr x2 (7 : Int32) 7 (by decide) (by decide)
      have q10 := c_mask ((x2.toUInt32 >>> ((7 : Int32) &&& 31).toUInt32).toInt32) (3 : Int32) 2 (by decide) (by decide)
      have q11 := congrArg Int32.toInt hal_
      have p0 := c1
      have p1 := c9
      have p2 := c51
      have p3 := c98
      have p4 := c99
      have p5 := c116
      have p6 := c117
      have p7 := c138
      simp only [true_implies, Int32.lt_iff_toInt_lt, ← Int32.toInt_inj, Int32.reduceToInt, Int64.lt_iff_toInt_lt, ← Int64.toInt_inj, Int64.reduceToInt] at q0 q1 q2 q3 q4 q5 q6 q7 q8 q9 q10 q11 p0 p1 p2 p3 p4 p5 p6 p7 ⊢
      omega
    have c140 : ¬ (((1 : Int32) + (an_ % (3 : Int32))) = (36 : Int32)) := by
      have q0 := rng32 x2
      have q1 := c_mask x2 (1 : Int32) 1 (by decide) (by decide)
      have q2 := c_iushr x2 (1 : Int32) 1 (by decide) (by decide)
      have q3 := c_mask ((x2.toUInt32 >>> ((1 : Int32) &&& 31).toUInt32).toInt32) (3 : Int32) 2 (by decide) (by decide)
      have q4 := c_iushr x2 (5 : Int32) 5 (by decide) (by decide)
      have q5 := c_mask ((x2.toUInt32 >>> ((5 : Int32) &&& 31).toUInt32).toInt32) (3 : Int32) 2 (by decide) (by decide)
      have q6 := congrArg Int32.toInt han_
      have q7 := c_irem an_ (3 : Int32) 3 (by decide)
      have q8 := c_iadd (1 : Int32) (an_ % (3 : Int32))
      have r8 := rng32 ((1 : Int32) + (an_ % (3 : Int32)))
      have q9 := c_iushr x2 (7 : Int32) 7 (by decide) (by decide)
      have q10 := c_mask ((x2.toUInt32 >>> ((7 : Int32) &&& 31).toUInt32).toInt32) (3 : Int32) 2 (by decide) (by decide)
      have q11 := congrArg Int32.toInt hal_
      have p0 := c1
      have p1 := c9
      have p2 := c51
      have p3 := c98
      have p4 := c99
      have p5 := c116
      have p6 := c117
      have p7 := c138
      have p8 := c139
      simp only [true_implies, Int32.lt_iff_toInt_lt, ← Int32.toInt_inj, Int32.reduceToInt, Int64.lt_iff_toInt_lt, ← Int64.toInt_inj, Int64.reduceToInt] at q0 q1 q2 q3 q4 q5 q6 q7 q8 q9 q10 q11 p0 p1 p2 p3 p4 p5 p6 p7 p8 ⊢
      omega
    have f142 := (((f106_2.keep K124 nin0).ext E130).keep K136 (ninS (Nat.ne_of_lt (Nat.lt_of_lt_of_le (f106_0.keep K124).lt (Nat.le_of_eq g130.symm))) nin0))
    have f143 := (((f106_3.keep K124 nin0).ext E130).keep K136 (ninS (Nat.ne_of_lt (Nat.lt_of_lt_of_le (f106_3.keep K124 nin0).lt (Nat.le_of_eq g130.symm))) nin0))
    have f144 := (((f106_0.keep K124).ext E130).keep K136)
    have f145 := (own_sta_keep ((own_sta_keep f125 K124 all0).ext E130) K136 (allS (own_ns_exa A130) all0))
    have f146 := (((f106_1.keep K124 nin0).ext E130).keep K136 (ninS (Nat.ne_of_lt (Nat.lt_of_lt_of_le (f106_0.keep K124).lt (Nat.le_of_eq g130.symm))) nin0))
    have Z147 := (Nat.le_trans Z137 K136.1)
    have hZo148 := hZ
    have f149 := (A130.keep K136)
    have A150 := A129.trans Ac124
    have A151 := A150.trans (CHr.ext E130 A150.1)
    have sf153 := (Safe.ext E130 A150.1 (Safe.new (Nat.le_of_eq g130.symm)))
    have A152 := A151.trans (CHr.keep K136 (sfS sf153 sf0) A151.1)
    have hk154 := (Nat.le_trans (Nat.le_trans (Nat.le_refl _) E130.1) K136.1)
    refine own_cvW X136 hx hZ hown (notFace_of_selects (args := #[]) (mvT (s := s.setVm _) hZ (hw _ (own_m 52 rfl)))) (hw _ (own_m 49 rfl)) (hw _ (own_m 50 rfl)) (hw _ (own_m 52 rfl)) (hw _ (own_m 51 rfl)) (hw _ (own_m 33 rfl)) (hw _ (own_m 53 rfl)) (by decide) f149 (rm := { frames := 2, cells := 2, slots := 148, locals := 28 }) (rm_admits_30 l Z a0 hw [] b130 b106_0 b124_0 b106_1 ((1 : Int32) + (an_ % (3 : Int32))) (own_ch x1 (0 : Int32)) (own_ch x1 (8 : Int32)) (own_ch x1 (16 : Int32)) kb106_0 i_COMPACT_STRINGS T136.heap n0 Z147 f136_2 f142 f143 f144 f145 f146 c139 c140 hs_COMPACT_STRINGS) (by decide) (W := 0) (by decide) (by decide) (by decide) rfl hEL A152.1 hS hk154 (by rw [hml]; rfl) (argsL := [(.ref b106_0), (.ref b124_0)]) (lenOf own_pd14 rfl) (rest := []) rfl rfl (Nat.le_of_eq rfl) (hb hby at_325) ?_
    intro _ T141 L141 X141 hQ141 Ac141 hS hZ hown
    obtain ⟨rfl, N141q, K141⟩ := hQ141
    have N141 := Fr.app N136 N141q
    show oG p e below _ (T141.setTop (mkF m 328 #[.val (.long x0), .second, .val (.long x1), .second, .val (.int x2), .val (.int (0 : Int32)), .val (.ref b2_0), .val (.ref b3_0), .val (.ref b5_0), .val (.ref b7_0), .val (.int tn_), .val (.int tl_), .val (.int an_), .val (.int al_), .val (.int (((x2.toUInt32 >>> ((1 : Int32) &&& 31).toUInt32).toInt32) &&& (3 : Int32))), .val (.ref b106_0), .val (.ref b124_0), .val (.ref b130), .val (.int (1 : Int32)), .unset, .unset] [(.int (1 : Int32))]))
    refine og (fun _ hr => XS.iload X141.here hx rfl (hb hby at_328) rfl (XS.icmpNo X141.here hx rfl (hb hby at_330) rfl (teq (by decide)).2 (XS.iconst X141.here hx rfl (hb hby at_333) (XS.goto X141.here hx rfl (pc0 := 334) (pc' := 338) rfl (hb hby at_334) (by decide) (by decide) hr)))) ?_
    show oG p e below _ (T141.setTop (mkF m 338 #[.val (.long x0), .second, .val (.long x1), .second, .val (.int x2), .val (.int (0 : Int32)), .val (.ref b2_0), .val (.ref b3_0), .val (.ref b5_0), .val (.ref b7_0), .val (.int tn_), .val (.int tl_), .val (.int an_), .val (.int al_), .val (.int (((x2.toUInt32 >>> ((1 : Int32) &&& 31).toUInt32).toInt32) &&& (3 : Int32))), .val (.ref b106_0), .val (.ref b124_0), .val (.ref b130), .val (.int (1 : Int32)), .unset, .unset] [(.int (1 : Int32))]))
    have A155 := A152.trans Ac141
    exact own_retNW X141 hx hlk Bd.returns hS (Nat.le_refl _) hZ hEL hh rfl A155 (t := .boolean) (by simp) (hb hby at_338) (by decide) (by decide) ⟨rfl, N141⟩
  refine og (fun _ hr => XS.ifNo X0.here hx rfl (hb hby at_4) rfl ((if0 _ _).trans (feq c1).1) hr) ?_
  show oG p e below _ (s₁.setTop (mkF m 7 #[.val (.long x0), .second, .val (.long x1), .second, .val (.int x2), .unset, .unset, .unset, .unset, .unset, .unset, .unset, .unset, .unset, .unset, .unset, .unset, .unset, .unset, .unset, .unset] []))
  refine og (fun _ hr => XS.iconst X0.here hx rfl (hb hby at_7) (XS.goto X0.here hx rfl (pc0 := 8) (pc' := 12) rfl (hb hby at_8) (by decide) (by decide) (XS.istore X0.here hx rfl (hb hby at_12) rfl (l' := #[.val (.long x0), .second, .val (.long x1), .second, .val (.int x2), .val (.int (1 : Int32)), .unset, .unset, .unset, .unset, .unset, .unset, .unset, .unset, .unset, .unset, .unset, .unset, .unset, .unset, .unset]) rfl (XS.lloadN X0.here hx rfl (hb hby at_14) rfl (XS.iconst X0.here hx rfl (hb hby at_15) hr))))) ?_
  show oG p e below _ (s₁.setTop (mkF m 16 #[.val (.long x0), .second, .val (.long x1), .second, .val (.int x2), .val (.int (1 : Int32)), .unset, .unset, .unset, .unset, .unset, .unset, .unset, .unset, .unset, .unset, .unset, .unset, .unset, .unset, .unset] [(.int (0 : Int32)), (.long x0)]))
  refine own_cs X0 hx hZ hown (hw _ (own_m 0 rfl)) (hw _ (own_m 1 rfl)) (hw _ (own_m 2 rfl)) (hw _ (own_m 3 rfl)) (by decide) (rm := { frames := 0, cells := 1, slots := 3, locals := 0 }) (rm_chars l Z a0 hw [] x0 (0 : Int32) (8 : Int32) (16 : Int32) h0 n0 Z0 (by decide) (by decide)) (by decide) (W := 0) (by decide) (by decide) (by decide) e0 (by rw [hml]; rfl) (argsL := [(.long x0), (.int (0 : Int32))]) (lenOf own_pd9 rfl) (rest := []) rfl rfl (Nat.le_of_eq rfl) (hb hby at_16) ?_
  intro _ T156 L156 X156 hQ156
  obtain ⟨b156_0, kb156_0, rfl, N156q, K156, ge156_0, sz156_0, f156_0, f156_1⟩ := hQ156
  have N156 := Fr.app N0 N156q
  show oG p e below _ (T156.setTop (mkF m 19 #[.val (.long x0), .second, .val (.long x1), .second, .val (.int x2), .val (.int (1 : Int32)), .unset, .unset, .unset, .unset, .unset, .unset, .unset, .unset, .unset, .unset, .unset, .unset, .unset, .unset, .unset] [(.ref b156_0)]))
  refine og (fun _ hr => XS.astore X156.here hx rfl (hb hby at_19) rfl rfl (l' := #[.val (.long x0), .second, .val (.long x1), .second, .val (.int x2), .val (.int (1 : Int32)), .val (.ref b156_0), .unset, .unset, .unset, .unset, .unset, .unset, .unset, .unset, .unset, .unset, .unset, .unset, .unset, .unset]) rfl (XS.lloadN X156.here hx rfl (hb hby at_21) rfl (XS.bipush X156.here hx rfl (hb hby at_22) hr))) ?_
  show oG p e below _ (T156.setTop (mkF m 24 #[.val (.long x0), .second, .val (.long x1), .second, .val (.int x2), .val (.int (1 : Int32)), .val (.ref b156_0), .unset, .unset, .unset, .unset, .unset, .unset, .unset, .unset, .unset, .unset, .unset, .unset, .unset, .unset] [(.int (24 : Int32)), (.long x0)]))
  have Z158 := (Nat.le_trans Z0 K156.1)
  refine own_cs X156 hx hZ hown (hw _ (own_m 0 rfl)) (hw _ (own_m 1 rfl)) (hw _ (own_m 2 rfl)) (hw _ (own_m 3 rfl)) (by decide) (rm := { frames := 0, cells := 1, slots := 3, locals := 0 }) (rm_chars l Z a0 hw [] x0 (24 : Int32) (32 : Int32) (40 : Int32) T156.heap n0 Z158 (by decide) (by decide)) (by decide) (W := 0) (by decide) (by decide) (by decide) rfl (by rw [hml]; rfl) (argsL := [(.long x0), (.int (24 : Int32))]) (lenOf own_pd9 rfl) (rest := []) rfl rfl (Nat.le_of_eq rfl) (hb hby at_24) ?_
  intro _ T157 L157 X157 hQ157
  obtain ⟨b157_0, kb157_0, rfl, N157q, K157, ge157_0, sz157_0, f157_0, f157_1⟩ := hQ157
  have N157 := Fr.app N156 N157q
  show oG p e below _ (T157.setTop (mkF m 27 #[.val (.long x0), .second, .val (.long x1), .second, .val (.int x2), .val (.int (1 : Int32)), .val (.ref b156_0), .unset, .unset, .unset, .unset, .unset, .unset, .unset, .unset, .unset, .unset, .unset, .unset, .unset, .unset] [(.ref b157_0)]))
  refine og (fun _ hr => XS.astore X157.here hx rfl (hb hby at_27) rfl rfl (l' := #[.val (.long x0), .second, .val (.long x1), .second, .val (.int x2), .val (.int (1 : Int32)), .val (.ref b156_0), .val (.ref b157_0), .unset, .unset, .unset, .unset, .unset, .unset, .unset, .unset, .unset, .unset, .unset, .unset, .unset]) rfl (XS.lloadN X157.here hx rfl (hb hby at_29) rfl (XS.iconst X157.here hx rfl (hb hby at_30) hr))) ?_
  show oG p e below _ (T157.setTop (mkF m 31 #[.val (.long x0), .second, .val (.long x1), .second, .val (.int x2), .val (.int (1 : Int32)), .val (.ref b156_0), .val (.ref b157_0), .unset, .unset, .unset, .unset, .unset, .unset, .unset, .unset, .unset, .unset, .unset, .unset, .unset] [(.int (0 : Int32)), (.long x1)]))
  have Z160 := (Nat.le_trans Z158 K157.1)
  refine own_cs X157 hx hZ hown (hw _ (own_m 0 rfl)) (hw _ (own_m 1 rfl)) (hw _ (own_m 2 rfl)) (hw _ (own_m 3 rfl)) (by decide) (rm := { frames := 0, cells := 1, slots := 3, locals := 0 }) (rm_chars l Z a0 hw [] x1 (0 : Int32) (8 : Int32) (16 : Int32) T157.heap n0 Z160 (by decide) (by decide)) (by decide) (W := 0) (by decide) (by decide) (by decide) rfl (by rw [hml]; rfl) (argsL := [(.long x1), (.int (0 : Int32))]) (lenOf own_pd9 rfl) (rest := []) rfl rfl (Nat.le_of_eq rfl) (hb hby at_31) ?_
  intro _ T159 L159 X159 hQ159
  obtain ⟨b159_0, kb159_0, rfl, N159q, K159, ge159_0, sz159_0, f159_0, f159_1⟩ := hQ159
  have N159 := Fr.app N157 N159q
  show oG p e below _ (T159.setTop (mkF m 34 #[.val (.long x0), .second, .val (.long x1), .second, .val (.int x2), .val (.int (1 : Int32)), .val (.ref b156_0), .val (.ref b157_0), .unset, .unset, .unset, .unset, .unset, .unset, .unset, .unset, .unset, .unset, .unset, .unset, .unset] [(.ref b159_0)]))
  refine og (fun _ hr => XS.astore X159.here hx rfl (hb hby at_34) rfl rfl (l' := #[.val (.long x0), .second, .val (.long x1), .second, .val (.int x2), .val (.int (1 : Int32)), .val (.ref b156_0), .val (.ref b157_0), .val (.ref b159_0), .unset, .unset, .unset, .unset, .unset, .unset, .unset, .unset, .unset, .unset, .unset, .unset]) rfl (XS.lloadN X159.here hx rfl (hb hby at_36) rfl (XS.bipush X159.here hx rfl (hb hby at_37) hr))) ?_
  show oG p e below _ (T159.setTop (mkF m 39 #[.val (.long x0), .second, .val (.long x1), .second, .val (.int x2), .val (.int (1 : Int32)), .val (.ref b156_0), .val (.ref b157_0), .val (.ref b159_0), .unset, .unset, .unset, .unset, .unset, .unset, .unset, .unset, .unset, .unset, .unset, .unset] [(.int (24 : Int32)), (.long x1)]))
  have Z162 := (Nat.le_trans Z160 K159.1)
  refine own_cs X159 hx hZ hown (hw _ (own_m 0 rfl)) (hw _ (own_m 1 rfl)) (hw _ (own_m 2 rfl)) (hw _ (own_m 3 rfl)) (by decide) (rm := { frames := 0, cells := 1, slots := 3, locals := 0 }) (rm_chars l Z a0 hw [] x1 (24 : Int32) (32 : Int32) (40 : Int32) T159.heap n0 Z162 (by decide) (by decide)) (by decide) (W := 0) (by decide) (by decide) (by decide) rfl (by rw [hml]; rfl) (argsL := [(.long x1), (.int (24 : Int32))]) (lenOf own_pd9 rfl) (rest := []) rfl rfl (Nat.le_of_eq rfl) (hb hby at_39) ?_
  intro _ T161 L161 X161 hQ161
  obtain ⟨b161_0, kb161_0, rfl, N161q, K161, ge161_0, sz161_0, f161_0, f161_1⟩ := hQ161
  have N161 := Fr.app N159 N161q
  show oG p e below _ (T161.setTop (mkF m 42 #[.val (.long x0), .second, .val (.long x1), .second, .val (.int x2), .val (.int (1 : Int32)), .val (.ref b156_0), .val (.ref b157_0), .val (.ref b159_0), .unset, .unset, .unset, .unset, .unset, .unset, .unset, .unset, .unset, .unset, .unset, .unset] [(.ref b161_0)]))
  refine og (fun _ hr => XS.astore X161.here hx rfl (hb hby at_42) rfl rfl (l' := #[.val (.long x0), .second, .val (.long x1), .second, .val (.int x2), .val (.int (1 : Int32)), .val (.ref b156_0), .val (.ref b157_0), .val (.ref b159_0), .val (.ref b161_0), .unset, .unset, .unset, .unset, .unset, .unset, .unset, .unset, .unset, .unset, .unset]) rfl (XS.iload X161.here hx rfl (hb hby at_44) rfl (XS.iconst X161.here hx rfl (hb hby at_46) (XS.iushr X161.here hx rfl (hb hby at_47) rfl (XS.iconst X161.here hx rfl (hb hby at_48) (XS.iand X161.here hx rfl (hb hby at_49) rfl (XS.istore X161.here hx rfl (hb hby at_50) rfl (l' := #[.val (.long x0), .second, .val (.long x1), .second, .val (.int x2), .val (.int (1 : Int32)), .val (.ref b156_0), .val (.ref b157_0), .val (.ref b159_0), .val (.ref b161_0), .val (.int (((x2.toUInt32 >>> ((1 : Int32) &&& 31).toUInt32).toInt32) &&& (3 : Int32))), .unset, .unset, .unset, .unset, .unset, .unset, .unset, .unset, .unset, .unset]) rfl (XS.iload X161.here hx rfl (hb hby at_52) rfl (XS.iconst X161.here hx rfl (hb hby at_54) (XS.iushr X161.here hx rfl (hb hby at_55) rfl (XS.iconst X161.here hx rfl (hb hby at_56) (XS.iand X161.here hx rfl (hb hby at_57) rfl (XS.istore X161.here hx rfl (hb hby at_58) rfl (l' := #[.val (.long x0), .second, .val (.long x1), .second, .val (.int x2), .val (.int (1 : Int32)), .val (.ref b156_0), .val (.ref b157_0), .val (.ref b159_0), .val (.ref b161_0), .val (.int (((x2.toUInt32 >>> ((1 : Int32) &&& 31).toUInt32).toInt32) &&& (3 : Int32))), .val (.int (((x2.toUInt32 >>> ((3 : Int32) &&& 31).toUInt32).toInt32) &&& (3 : Int32))), .unset, .unset, .unset, .unset, .unset, .unset, .unset, .unset, .unset]) rfl (XS.iload X161.here hx rfl (hb hby at_60) rfl hr)))))))))))))) ?_
  show oG p e below _ (T161.setTop (mkF m 62 #[.val (.long x0), .second, .val (.long x1), .second, .val (.int x2), .val (.int (1 : Int32)), .val (.ref b156_0), .val (.ref b157_0), .val (.ref b159_0), .val (.ref b161_0), .val (.int (((x2.toUInt32 >>> ((1 : Int32) &&& 31).toUInt32).toInt32) &&& (3 : Int32))), .val (.int (((x2.toUInt32 >>> ((3 : Int32) &&& 31).toUInt32).toInt32) &&& (3 : Int32))), .unset, .unset, .unset, .unset, .unset, .unset, .unset, .unset, .unset] [(.int x2)]))
  refine og (fun _ hr => XS.iconst X161.here hx rfl (hb hby at_62) (XS.iushr X161.here hx rfl (hb hby at_63) rfl (XS.iconst X161.here hx rfl (hb hby at_64) (XS.iand X161.here hx rfl (hb hby at_65) rfl (XS.istore X161.here hx rfl (hb hby at_66) rfl (l' := #[.val (.long x0), .second, .val (.long x1), .second, .val (.int x2), .val (.int (1 : Int32)), .val (.ref b156_0), .val (.ref b157_0), .val (.ref b159_0), .val (.ref b161_0), .val (.int (((x2.toUInt32 >>> ((1 : Int32) &&& 31).toUInt32).toInt32) &&& (3 : Int32))), .val (.int (((x2.toUInt32 >>> ((3 : Int32) &&& 31).toUInt32).toInt32) &&& (3 : Int32))), .val (.int (((x2.toUInt32 >>> ((5 : Int32) &&& 31).toUInt32).toInt32) &&& (3 : Int32))), .unset, .unset, .unset, .unset, .unset, .unset, .unset, .unset]) rfl (XS.iload X161.here hx rfl (hb hby at_68) rfl (XS.bipush X161.here hx rfl (hb hby at_70) (XS.iushr X161.here hx rfl (hb hby at_72) rfl (XS.iconst X161.here hx rfl (hb hby at_73) (XS.iand X161.here hx rfl (hb hby at_74) rfl (XS.istore X161.here hx rfl (hb hby at_75) rfl (l' := #[.val (.long x0), .second, .val (.long x1), .second, .val (.int x2), .val (.int (1 : Int32)), .val (.ref b156_0), .val (.ref b157_0), .val (.ref b159_0), .val (.ref b161_0), .val (.int (((x2.toUInt32 >>> ((1 : Int32) &&& 31).toUInt32).toInt32) &&& (3 : Int32))), .val (.int (((x2.toUInt32 >>> ((3 : Int32) &&& 31).toUInt32).toInt32) &&& (3 : Int32))), .val (.int (((x2.toUInt32 >>> ((5 : Int32) &&& 31).toUInt32).toInt32) &&& (3 : Int32))), .val (.int (((x2.toUInt32 >>> ((7 : Int32) &&& 31).toUInt32).toInt32) &&& (3 : Int32))), .unset, .unset, .unset, .unset, .unset, .unset, .unset]) rfl hr))))))))))) ?_
  show oG p e below _ (T161.setTop (mkF m 77 #[.val (.long x0), .second, .val (.long x1), .second, .val (.int x2), .val (.int (1 : Int32)), .val (.ref b156_0), .val (.ref b157_0), .val (.ref b159_0), .val (.ref b161_0), .val (.int (((x2.toUInt32 >>> ((1 : Int32) &&& 31).toUInt32).toInt32) &&& (3 : Int32))), .val (.int (((x2.toUInt32 >>> ((3 : Int32) &&& 31).toUInt32).toInt32) &&& (3 : Int32))), .val (.int (((x2.toUInt32 >>> ((5 : Int32) &&& 31).toUInt32).toInt32) &&& (3 : Int32))), .val (.int (((x2.toUInt32 >>> ((7 : Int32) &&& 31).toUInt32).toInt32) &&& (3 : Int32))), .unset, .unset, .unset, .unset, .unset, .unset, .unset] []))
  generalize htn_ : (((x2.toUInt32 >>> ((1 : Int32) &&& 31).toUInt32).toInt32) &&& (3 : Int32)) = tn_
  generalize htl_ : (((x2.toUInt32 >>> ((3 : Int32) &&& 31).toUInt32).toInt32) &&& (3 : Int32)) = tl_
  generalize han_ : (((x2.toUInt32 >>> ((5 : Int32) &&& 31).toUInt32).toInt32) &&& (3 : Int32)) = an_
  generalize hal_ : (((x2.toUInt32 >>> ((7 : Int32) &&& 31).toUInt32).toInt32) &&& (3 : Int32)) = al_
  refine og (fun _ hr => XS.iload X161.here hx rfl (hb hby at_77) rfl (XS.ifNo X161.here hx rfl (hb hby at_79) rfl ((if0 _ _).trans (feq (by decide)).1) (XS.iload X161.here hx rfl (hb hby at_82) rfl (XS.bipush X161.here hx rfl (hb hby at_84) (XS.iushr X161.here hx rfl (hb hby at_86) rfl (XS.iconst X161.here hx rfl (hb hby at_87) (XS.iand X161.here hx rfl (hb hby at_88) rfl hr))))))) ?_
  show oG p e below _ (T161.setTop (mkF m 89 #[.val (.long x0), .second, .val (.long x1), .second, .val (.int x2), .val (.int (1 : Int32)), .val (.ref b156_0), .val (.ref b157_0), .val (.ref b159_0), .val (.ref b161_0), .val (.int tn_), .val (.int tl_), .val (.int an_), .val (.int al_), .unset, .unset, .unset, .unset, .unset, .unset, .unset] [(.int (((x2.toUInt32 >>> ((9 : Int32) &&& 31).toUInt32).toInt32) &&& (1 : Int32)))]))
  rcases Classical.em ((((x2.toUInt32 >>> ((9 : Int32) &&& 31).toUInt32).toInt32) &&& (1 : Int32)) = (0 : Int32)) with c163 | c163
  · skip
    refine og (fun _ hr => XS.ifYes X161.here hx rfl (pc0 := 89) (pc' := 100) rfl (hb hby at_89) rfl ((if0 _ _).trans (teq c163).1) (by decide) (by decide) hr) ?_
    show oG p e below _ (T161.setTop (mkF m 100 #[.val (.long x0), .second, .val (.long x1), .second, .val (.int x2), .val (.int (1 : Int32)), .val (.ref b156_0), .val (.ref b157_0), .val (.ref b159_0), .val (.ref b161_0), .val (.int tn_), .val (.int tl_), .val (.int an_), .val (.int al_), .unset, .unset, .unset, .unset, .unset, .unset, .unset] []))
    refine og (fun _ hr => XS.iload X161.here hx rfl (hb hby at_100) rfl (XS.bipush X161.here hx rfl (hb hby at_102) (XS.iushr X161.here hx rfl (hb hby at_104) rfl (XS.iconst X161.here hx rfl (hb hby at_105) (XS.iand X161.here hx rfl (hb hby at_106) rfl hr))))) ?_
    show oG p e below _ (T161.setTop (mkF m 107 #[.val (.long x0), .second, .val (.long x1), .second, .val (.int x2), .val (.int (1 : Int32)), .val (.ref b156_0), .val (.ref b157_0), .val (.ref b159_0), .val (.ref b161_0), .val (.int tn_), .val (.int tl_), .val (.int an_), .val (.int al_), .unset, .unset, .unset, .unset, .unset, .unset, .unset] [(.int (((x2.toUInt32 >>> ((10 : Int32) &&& 31).toUInt32).toInt32) &&& (1 : Int32)))]))
    rcases Classical.em ((((x2.toUInt32 >>> ((10 : Int32) &&& 31).toUInt32).toInt32) &&& (1 : Int32)) = (0 : Int32)) with c164 | c164
    · skip
      refine og (fun _ hr => XS.ifYes X161.here hx rfl (pc0 := 107) (pc' := 118) rfl (hb hby at_107) rfl ((if0 _ _).trans (teq c164).1) (by decide) (by decide) hr) ?_
      show oG p e below _ (T161.setTop (mkF m 118 #[.val (.long x0), .second, .val (.long x1), .second, .val (.int x2), .val (.int (1 : Int32)), .val (.ref b156_0), .val (.ref b157_0), .val (.ref b159_0), .val (.ref b161_0), .val (.int tn_), .val (.int tl_), .val (.int an_), .val (.int al_), .unset, .unset, .unset, .unset, .unset, .unset, .unset] []))
      refine og (fun _ hr => XS.aload X161.here hx rfl (hb hby at_118) rfl rfl (XS.iload X161.here hx rfl (hb hby at_120) rfl hr)) ?_
      show oG p e below _ (T161.setTop (mkF m 122 #[.val (.long x0), .second, .val (.long x1), .second, .val (.int x2), .val (.int (1 : Int32)), .val (.ref b156_0), .val (.ref b157_0), .val (.ref b159_0), .val (.ref b161_0), .val (.int tn_), .val (.int tl_), .val (.int an_), .val (.int al_), .unset, .unset, .unset, .unset, .unset, .unset, .unset] [(.int tn_), (.ref b156_0)]))
      have c165 : ¬ (tn_ < (0 : Int32)) := by
        have q0 := rng32 x2
        have q1 := c_mask x2 (1 : Int32) 1 (by decide) (by decide)
        have q2 := c_iushr x2 (9 : Int32) 9 (by decide) (by decide)
        have q3 := c_mask ((x2.toUInt32 >>> ((9 : Int32) &&& 31).toUInt32).toInt32) (1 : Int32) 1 (by decide) (by decide)
        have q4 := c_iushr x2 (10 : Int32) 10 (by decide) (by decide)
        have q5 := c_mask ((x2.toUInt32 >>> ((10 : Int32) &&& 31).toUInt32).toInt32) (1 : Int32) 1 (by decide) (by decide)
        have q6 := c_iushr x2 (1 : Int32) 1 (by decide) (by decide)
        have q7 := c_mask ((x2.toUInt32 >>> ((1 : Int32) &&& 31).toUInt32).toInt32) (3 : Int32) 2 (by decide) (by decide)
        have q8 := congrArg Int32.toInt htn_
        have p0 := c1
        have p1 := c163
        have p2 := c164
        simp only [true_implies, Int32.lt_iff_toInt_lt, ← Int32.toInt_inj, Int32.reduceToInt, Int64.lt_iff_toInt_lt, ← Int64.toInt_inj, Int64.reduceToInt] at q0 q1 q2 q3 q4 q5 q6 q7 q8 p0 p1 p2 ⊢
        omega
      have c166 : ¬ ((3 : Int32) < tn_) := by
        have q0 := rng32 x2
        have q1 := c_mask x2 (1 : Int32) 1 (by decide) (by decide)
        have q2 := c_iushr x2 (9 : Int32) 9 (by decide) (by decide)
        have q3 := c_mask ((x2.toUInt32 >>> ((9 : Int32) &&& 31).toUInt32).toInt32) (1 : Int32) 1 (by decide) (by decide)
        have q4 := c_iushr x2 (10 : Int32) 10 (by decide) (by decide)
        have q5 := c_mask ((x2.toUInt32 >>> ((10 : Int32) &&& 31).toUInt32).toInt32) (1 : Int32) 1 (by decide) (by decide)
        have q6 := c_iushr x2 (1 : Int32) 1 (by decide) (by decide)
        have q7 := c_mask ((x2.toUInt32 >>> ((1 : Int32) &&& 31).toUInt32).toInt32) (3 : Int32) 2 (by decide) (by decide)
        have q8 := congrArg Int32.toInt htn_
        have p0 := c1
        have p1 := c163
        have p2 := c164
        have p3 := c165
        simp only [true_implies, Int32.lt_iff_toInt_lt, ← Int32.toInt_inj, Int32.reduceToInt, Int64.lt_iff_toInt_lt, ← Int64.toInt_inj, Int64.reduceToInt] at q0 q1 q2 q3 q4 q5 q6 q7 q8 p0 p1 p2 p3 ⊢
        omega
      have c167 : ¬ ((own_ch x0 (0 : Int32)) < (0 : Int32)) := by
        have q0 := rng64 x0
        have q1 := own_ch_v x0 (0 : Int32)
        simp only [true_implies, Int32.lt_iff_toInt_lt, ← Int32.toInt_inj, Int32.reduceToInt, Int64.lt_iff_toInt_lt, ← Int64.toInt_inj, Int64.reduceToInt] at q0 q1 ⊢
        omega
      have c168 : ¬ ((255 : Int32) < (own_ch x0 (0 : Int32))) := by
        have q0 := rng64 x0
        have q1 := own_ch_v x0 (0 : Int32)
        have p0 := c167
        simp only [true_implies, Int32.lt_iff_toInt_lt, ← Int32.toInt_inj, Int32.reduceToInt, Int64.lt_iff_toInt_lt, ← Int64.toInt_inj, Int64.reduceToInt] at q0 q1 p0 ⊢
        omega
      have c169 : ¬ ((own_ch x0 (8 : Int32)) < (0 : Int32)) := by
        have q0 := rng64 x0
        have q1 := own_ch_v x0 (0 : Int32)
        have q2 := own_ch_v x0 (8 : Int32)
        have p0 := c167
        have p1 := c168
        simp only [true_implies, Int32.lt_iff_toInt_lt, ← Int32.toInt_inj, Int32.reduceToInt, Int64.lt_iff_toInt_lt, ← Int64.toInt_inj, Int64.reduceToInt] at q0 q1 q2 p0 p1 ⊢
        omega
      have c170 : ¬ ((255 : Int32) < (own_ch x0 (8 : Int32))) := by
        have q0 := rng64 x0
        have q1 := own_ch_v x0 (0 : Int32)
        have q2 := own_ch_v x0 (8 : Int32)
        have p0 := c167
        have p1 := c168
        have p2 := c169
        simp only [true_implies, Int32.lt_iff_toInt_lt, ← Int32.toInt_inj, Int32.reduceToInt, Int64.lt_iff_toInt_lt, ← Int64.toInt_inj, Int64.reduceToInt] at q0 q1 q2 p0 p1 p2 ⊢
        omega
      have c171 : ¬ ((own_ch x0 (16 : Int32)) < (0 : Int32)) := by
        have q0 := rng64 x0
        have q1 := own_ch_v x0 (0 : Int32)
        have q2 := own_ch_v x0 (8 : Int32)
        have q3 := own_ch_v x0 (16 : Int32)
        have p0 := c167
        have p1 := c168
        have p2 := c169
        have p3 := c170
        simp only [true_implies, Int32.lt_iff_toInt_lt, ← Int32.toInt_inj, Int32.reduceToInt, Int64.lt_iff_toInt_lt, ← Int64.toInt_inj, Int64.reduceToInt] at q0 q1 q2 q3 p0 p1 p2 p3 ⊢
        omega
      have c172 : ¬ ((255 : Int32) < (own_ch x0 (16 : Int32))) := by
        have q0 := rng64 x0
        have q1 := own_ch_v x0 (0 : Int32)
        have q2 := own_ch_v x0 (8 : Int32)
        have q3 := own_ch_v x0 (16 : Int32)
        have p0 := c167
        have p1 := c168
        have p2 := c169
        have p3 := c170
        have p4 := c171
        simp only [true_implies, Int32.lt_iff_toInt_lt, ← Int32.toInt_inj, Int32.reduceToInt, Int64.lt_iff_toInt_lt, ← Int64.toInt_inj, Int64.reduceToInt] at q0 q1 q2 q3 p0 p1 p2 p3 p4 ⊢
        omega
      have f174 := (own_sta_keep (own_sta_keep (own_sta_keep (own_sta_keep S_COMPACT_STRINGS K156 all0) K157 all0) K159 all0) K161 all0)
      have f175 := (((f156_1.keep K157 nin0).keep K159 nin0).keep K161 nin0)
      have Z176 := (Nat.le_trans Z162 K161.1)
      have hZo177 := hZ
      have A178 := A0.trans (CHr.keep K156 sf0 A0.1)
      have A179 := A178.trans (CHr.keep K157 sf0 A178.1)
      have A180 := A179.trans (CHr.keep K159 sf0 A179.1)
      have A181 := A180.trans (CHr.keep K161 sf0 A180.1)
      have hk182 := (Nat.le_trans (Nat.le_trans (Nat.le_trans (Nat.le_trans hk K156.1) K157.1) K159.1) K161.1)
      refine own_csW X161 hx hZ hown (hw _ (own_m 14 rfl)) (hw _ (own_m 15 rfl)) (hw _ (own_m 2 rfl)) (hw _ (own_m 16 rfl)) (by decide) (rm := { frames := 4, cells := 6, slots := 12, locals := 66 }) (rm_str l Z a0 hw [] b156_0 kb156_0 tn_ (own_ch x0 (0 : Int32)) (own_ch x0 (8 : Int32)) (own_ch x0 (16 : Int32)) i_COMPACT_STRINGS T161.heap n0 Z176 f174 hs_COMPACT_STRINGS f175 c165 c166 c167 c168 c169 c170 c171 c172) (by decide) (W := 0) (by decide) (by decide) (by decide) rfl hEL A181.1 hS hk182 (by rw [hml]; rfl) (argsL := [(.ref b156_0), (.int tn_)]) (lenOf own_pd10 rfl) (rest := []) rfl rfl (Nat.le_of_eq rfl) (hb hby at_122) ?_
      intro _ T173 L173 X173 hQ173 Ac173 hS hZ hown
      obtain ⟨b173_0, b173_1, kb173_0, rfl, N173q, K173, ge173_0, sz173_0, f173_0, f173_1, f173_2, f173_3⟩ := hQ173
      have N173 := Fr.app N161 N173q
      show oG p e below _ (T173.setTop (mkF m 125 #[.val (.long x0), .second, .val (.long x1), .second, .val (.int x2), .val (.int (1 : Int32)), .val (.ref b156_0), .val (.ref b157_0), .val (.ref b159_0), .val (.ref b161_0), .val (.int tn_), .val (.int tl_), .val (.int an_), .val (.int al_), .unset, .unset, .unset, .unset, .unset, .unset, .unset] [(.ref b173_0)]))
      refine og (fun _ hr => XS.astore X173.here hx rfl (hb hby at_125) rfl rfl (l' := #[.val (.long x0), .second, .val (.long x1), .second, .val (.int x2), .val (.int (1 : Int32)), .val (.ref b156_0), .val (.ref b157_0), .val (.ref b159_0), .val (.ref b161_0), .val (.int tn_), .val (.int tl_), .val (.int an_), .val (.int al_), .val (.ref b173_0), .unset, .unset, .unset, .unset, .unset, .unset]) rfl (XS.aload X173.here hx rfl (hb hby at_127) rfl rfl (XS.iload X173.here hx rfl (hb hby at_129) rfl hr))) ?_
      show oG p e below _ (T173.setTop (mkF m 131 #[.val (.long x0), .second, .val (.long x1), .second, .val (.int x2), .val (.int (1 : Int32)), .val (.ref b156_0), .val (.ref b157_0), .val (.ref b159_0), .val (.ref b161_0), .val (.int tn_), .val (.int tl_), .val (.int an_), .val (.int al_), .val (.ref b173_0), .unset, .unset, .unset, .unset, .unset, .unset] [(.int tl_), (.ref b157_0)]))
      have c183 : ¬ (tl_ < (0 : Int32)) := by
        have q0 := rng32 x2
        have q1 := c_mask x2 (1 : Int32) 1 (by decide) (by decide)
        have q2 := c_iushr x2 (9 : Int32) 9 (by decide) (by decide)
        have q3 := c_mask ((x2.toUInt32 >>> ((9 : Int32) &&& 31).toUInt32).toInt32) (1 : Int32) 1 (by decide) (by decide)
        have q4 := c_iushr x2 (10 : Int32) 10 (by decide) (by decide)
        have q5 := c_mask ((x2.toUInt32 >>> ((10 : Int32) &&& 31).toUInt32).toInt32) (1 : Int32) 1 (by decide) (by decide)
        have q6 := c_iushr x2 (1 : Int32) 1 (by decide) (by decide)
        have q7 := c_mask ((x2.toUInt32 >>> ((1 : Int32) &&& 31).toUInt32).toInt32) (3 : Int32) 2 (by decide) (by decide)
        have q8 := congrArg Int32.toInt htn_
        have q9 := c_iushr x2 (3 : Int32) 3 (by decide) (by decide)
        have q10 := c_mask ((x2.toUInt32 >>> ((3 : Int32) &&& 31).toUInt32).toInt32) (3 : Int32) 2 (by decide) (by decide)
        have q11 := congrArg Int32.toInt htl_
        have p0 := c1
        have p1 := c163
        have p2 := c164
        have p3 := c165
        have p4 := c166
        simp only [true_implies, Int32.lt_iff_toInt_lt, ← Int32.toInt_inj, Int32.reduceToInt, Int64.lt_iff_toInt_lt, ← Int64.toInt_inj, Int64.reduceToInt] at q0 q1 q2 q3 q4 q5 q6 q7 q8 q9 q10 q11 p0 p1 p2 p3 p4 ⊢
        omega
      have c184 : ¬ ((3 : Int32) < tl_) := by
        have q0 := rng32 x2
        have q1 := c_mask x2 (1 : Int32) 1 (by decide) (by decide)
        have q2 := c_iushr x2 (9 : Int32) 9 (by decide) (by decide)
        have q3 := c_mask ((x2.toUInt32 >>> ((9 : Int32) &&& 31).toUInt32).toInt32) (1 : Int32) 1 (by decide) (by decide)
        have q4 := c_iushr x2 (10 : Int32) 10 (by decide) (by decide)
        have q5 := c_mask ((x2.toUInt32 >>> ((10 : Int32) &&& 31).toUInt32).toInt32) (1 : Int32) 1 (by decide) (by decide)
        have q6 := c_iushr x2 (1 : Int32) 1 (by decide) (by decide)
        have q7 := c_mask ((x2.toUInt32 >>> ((1 : Int32) &&& 31).toUInt32).toInt32) (3 : Int32) 2 (by decide) (by decide)
        have q8 := congrArg Int32.toInt htn_
        have q9 := c_iushr x2 (3 : Int32) 3 (by decide) (by decide)
        have q10 := c_mask ((x2.toUInt32 >>> ((3 : Int32) &&& 31).toUInt32).toInt32) (3 : Int32) 2 (by decide) (by decide)
        have q11 := congrArg Int32.toInt htl_
        have p0 := c1
        have p1 := c163
        have p2 := c164
        have p3 := c165
        have p4 := c166
        have p5 := c183
        simp only [true_implies, Int32.lt_iff_toInt_lt, ← Int32.toInt_inj, Int32.reduceToInt, Int64.lt_iff_toInt_lt, ← Int64.toInt_inj, Int64.reduceToInt] at q0 q1 q2 q3 q4 q5 q6 q7 q8 q9 q10 q11 p0 p1 p2 p3 p4 p5 ⊢
        omega
      have c185 : ¬ ((own_ch x0 (24 : Int32)) < (0 : Int32)) := by
        have q0 := rng64 x0
        have q1 := own_ch_v x0 (0 : Int32)
        have q2 := own_ch_v x0 (8 : Int32)
        have q3 := own_ch_v x0 (16 : Int32)
        have q4 := own_ch_v x0 (24 : Int32)
        have p0 := c167
        have p1 := c168
        have p2 := c169
        have p3 := c170
        have p4 := c171
        have p5 := c172
        simp only [true_implies, Int32.lt_iff_toInt_lt, ← Int32.toInt_inj, Int32.reduceToInt, Int64.lt_iff_toInt_lt, ← Int64.toInt_inj, Int64.reduceToInt] at q0 q1 q2 q3 q4 p0 p1 p2 p3 p4 p5 ⊢
        omega
      have c186 : ¬ ((255 : Int32) < (own_ch x0 (24 : Int32))) := by
        have q0 := rng64 x0
        have q1 := own_ch_v x0 (0 : Int32)
        have q2 := own_ch_v x0 (8 : Int32)
        have q3 := own_ch_v x0 (16 : Int32)
        have q4 := own_ch_v x0 (24 : Int32)
        have p0 := c167
        have p1 := c168
        have p2 := c169
        have p3 := c170
        have p4 := c171
        have p5 := c172
        have p6 := c185
        simp only [true_implies, Int32.lt_iff_toInt_lt, ← Int32.toInt_inj, Int32.reduceToInt, Int64.lt_iff_toInt_lt, ← Int64.toInt_inj, Int64.reduceToInt] at q0 q1 q2 q3 q4 p0 p1 p2 p3 p4 p5 p6 ⊢
        omega
      have c187 : ¬ ((own_ch x0 (32 : Int32)) < (0 : Int32)) := by
        have q0 := rng64 x0
        have q1 := own_ch_v x0 (0 : Int32)
        have q2 := own_ch_v x0 (8 : Int32)
        have q3 := own_ch_v x0 (16 : Int32)
        have q4 := own_ch_v x0 (24 : Int32)
        have q5 := own_ch_v x0 (32 : Int32)
        have p0 := c167
        have p1 := c168
        have p2 := c169
        have p3 := c170
        have p4 := c171
        have p5 := c172
        have p6 := c185
        have p7 := c186
        simp only [true_implies, Int32.lt_iff_toInt_lt, ← Int32.toInt_inj, Int32.reduceToInt, Int64.lt_iff_toInt_lt, ← Int64.toInt_inj, Int64.reduceToInt] at q0 q1 q2 q3 q4 q5 p0 p1 p2 p3 p4 p5 p6 p7 ⊢
        omega
      have c188 : ¬ ((255 : Int32) < (own_ch x0 (32 : Int32))) := by
        have q0 := rng64 x0
        have q1 := own_ch_v x0 (0 : Int32)
        have q2 := own_ch_v x0 (8 : Int32)
        have q3 := own_ch_v x0 (16 : Int32)
        have q4 := own_ch_v x0 (24 : Int32)
        have q5 := own_ch_v x0 (32 : Int32)
        have p0 := c167
        have p1 := c168
        have p2 := c169
        have p3 := c170
        have p4 := c171
        have p5 := c172
        have p6 := c185
        have p7 := c186
        have p8 := c187
        simp only [true_implies, Int32.lt_iff_toInt_lt, ← Int32.toInt_inj, Int32.reduceToInt, Int64.lt_iff_toInt_lt, ← Int64.toInt_inj, Int64.reduceToInt] at q0 q1 q2 q3 q4 q5 p0 p1 p2 p3 p4 p5 p6 p7 p8 ⊢
        omega
      have c189 : ¬ ((own_ch x0 (40 : Int32)) < (0 : Int32)) := by
        have q0 := rng64 x0
        have q1 := own_ch_v x0 (0 : Int32)
        have q2 := own_ch_v x0 (8 : Int32)
        have q3 := own_ch_v x0 (16 : Int32)
        have q4 := own_ch_v x0 (24 : Int32)
        have q5 := own_ch_v x0 (32 : Int32)
        have q6 := own_ch_v x0 (40 : Int32)
        have p0 := c167
        have p1 := c168
        have p2 := c169
        have p3 := c170
        have p4 := c171
        have p5 := c172
        have p6 := c185
        have p7 := c186
        have p8 := c187
        have p9 := c188
        simp only [true_implies, Int32.lt_iff_toInt_lt, ← Int32.toInt_inj, Int32.reduceToInt, Int64.lt_iff_toInt_lt, ← Int64.toInt_inj, Int64.reduceToInt] at q0 q1 q2 q3 q4 q5 q6 p0 p1 p2 p3 p4 p5 p6 p7 p8 p9 ⊢
        omega
      have c190 : ¬ ((255 : Int32) < (own_ch x0 (40 : Int32))) := by
        have q0 := rng64 x0
        have q1 := own_ch_v x0 (0 : Int32)
        have q2 := own_ch_v x0 (8 : Int32)
        have q3 := own_ch_v x0 (16 : Int32)
        have q4 := own_ch_v x0 (24 : Int32)
        have q5 := own_ch_v x0 (32 : Int32)
        have q6 := own_ch_v x0 (40 : Int32)
        have p0 := c167
        have p1 := c168
        have p2 := c169
        have p3 := c170
        have p4 := c171
        have p5 := c172
        have p6 := c185
        have p7 := c186
        have p8 := c187
        have p9 := c188
        have p10 := c189
        simp only [true_implies, Int32.lt_iff_toInt_lt, ← Int32.toInt_inj, Int32.reduceToInt, Int64.lt_iff_toInt_lt, ← Int64.toInt_inj, Int64.reduceToInt] at q0 q1 q2 q3 q4 q5 q6 p0 p1 p2 p3 p4 p5 p6 p7 p8 p9 p10 ⊢
        omega
      have f192 := (own_sta_keep f174 K173 all0)
      have f193 := (((f157_1.keep K159 nin0).keep K161 nin0).keep K173 nin0)
      have Z194 := (Nat.le_trans Z176 K173.1)
      have hZo195 := hZ
      have A196 := A181.trans Ac173
      refine own_csW X173 hx hZ hown (hw _ (own_m 14 rfl)) (hw _ (own_m 15 rfl)) (hw _ (own_m 2 rfl)) (hw _ (own_m 16 rfl)) (by decide) (rm := { frames := 4, cells := 6, slots := 12, locals := 66 }) (rm_str l Z a0 hw [] b157_0 kb157_0 tl_ (own_ch x0 (24 : Int32)) (own_ch x0 (32 : Int32)) (own_ch x0 (40 : Int32)) i_COMPACT_STRINGS T173.heap n0 Z194 f192 hs_COMPACT_STRINGS f193 c183 c184 c185 c186 c187 c188 c189 c190) (by decide) (W := 0) (by decide) (by decide) (by decide) rfl hEL A196.1 hS (Nat.le_refl _) (by rw [hml]; rfl) (argsL := [(.ref b157_0), (.int tl_)]) (lenOf own_pd10 rfl) (rest := []) rfl rfl (Nat.le_of_eq rfl) (hb hby at_131) ?_
      intro _ T191 L191 X191 hQ191 Ac191 hS hZ hown
      obtain ⟨b191_0, b191_1, kb191_0, rfl, N191q, K191, ge191_0, sz191_0, f191_0, f191_1, f191_2, f191_3⟩ := hQ191
      have N191 := Fr.app N173 N191q
      show oG p e below _ (T191.setTop (mkF m 134 #[.val (.long x0), .second, .val (.long x1), .second, .val (.int x2), .val (.int (1 : Int32)), .val (.ref b156_0), .val (.ref b157_0), .val (.ref b159_0), .val (.ref b161_0), .val (.int tn_), .val (.int tl_), .val (.int an_), .val (.int al_), .val (.ref b173_0), .unset, .unset, .unset, .unset, .unset, .unset] [(.ref b191_0)]))
      refine og (fun _ hr => XS.astore X191.here hx rfl (hb hby at_134) rfl rfl (l' := #[.val (.long x0), .second, .val (.long x1), .second, .val (.int x2), .val (.int (1 : Int32)), .val (.ref b156_0), .val (.ref b157_0), .val (.ref b159_0), .val (.ref b161_0), .val (.int tn_), .val (.int tl_), .val (.int an_), .val (.int al_), .val (.ref b173_0), .val (.ref b191_0), .unset, .unset, .unset, .unset, .unset]) rfl (XS.aload X191.here hx rfl (hb hby at_136) rfl rfl (XS.iload X191.here hx rfl (hb hby at_138) rfl hr))) ?_
      show oG p e below _ (T191.setTop (mkF m 140 #[.val (.long x0), .second, .val (.long x1), .second, .val (.int x2), .val (.int (1 : Int32)), .val (.ref b156_0), .val (.ref b157_0), .val (.ref b159_0), .val (.ref b161_0), .val (.int tn_), .val (.int tl_), .val (.int an_), .val (.int al_), .val (.ref b173_0), .val (.ref b191_0), .unset, .unset, .unset, .unset, .unset] [(.int an_), (.ref b159_0)]))
      have c197 : ¬ (an_ < (0 : Int32)) := by
        have q0 := rng32 x2
        have q1 := c_mask x2 (1 : Int32) 1 (by decide) (by decide)
        have q2 := c_iushr x2 (9 : Int32) 9 (by decide) (by decide)
        have q3 := c_mask ((x2.toUInt32 >>> ((9 : Int32) &&& 31).toUInt32).toInt32) (1 : Int32) 1 (by decide) (by decide)
        have q4 := c_iushr x2 (10 : Int32) 10 (by decide) (by decide)
        have q5 := c_mask ((x2.toUInt32 >>> ((10 : Int32) &&& 31).toUInt32).toInt32) (1 : Int32) 1 (by decide) (by decide)
        have q6 := c_iushr x2 (1 : Int32) 1 (by decide) (by decide)
        have q7 := c_mask ((x2.toUInt32 >>> ((1 : Int32) &&& 31).toUInt32).toInt32) (3 : Int32) 2 (by decide) (by decide)
        have q8 := congrArg Int32.toInt htn_
        have q9 := c_iushr x2 (3 : Int32) 3 (by decide) (by decide)
        have q10 := c_mask ((x2.toUInt32 >>> ((3 : Int32) &&& 31).toUInt32).toInt32) (3 : Int32) 2 (by decide) (by decide)
        have q11 := congrArg Int32.toInt htl_
        have q12 := c_iushr x2 (5 : Int32) 5 (by decide) (by decide)
        have q13 := c_mask ((x2.toUInt32 >>> ((5 : Int32) &&& 31).toUInt32).toInt32) (3 : Int32) 2 (by decide) (by decide)
        have q14 := congrArg Int32.toInt han_
        have p0 := c1
        have p1 := c163
        have p2 := c164
        have p3 := c165
        have p4 := c166
        have p5 := c183
        have p6 := c184
        simp only [true_implies, Int32.lt_iff_toInt_lt, ← Int32.toInt_inj, Int32.reduceToInt, Int64.lt_iff_toInt_lt, ← Int64.toInt_inj, Int64.reduceToInt] at q0 q1 q2 q3 q4 q5 q6 q7 q8 q9 q10 q11 q12 q13 q14 p0 p1 p2 p3 p4 p5 p6 ⊢
        omega
      have c198 : ¬ ((3 : Int32) < an_) := by
        have q0 := rng32 x2
        have q1 := c_mask x2 (1 : Int32) 1 (by decide) (by decide)
        have q2 := c_iushr x2 (9 : Int32) 9 (by decide) (by decide)
        have q3 := c_mask ((x2.toUInt32 >>> ((9 : Int32) &&& 31).toUInt32).toInt32) (1 : Int32) 1 (by decide) (by decide)
        have q4 := c_iushr x2 (10 : Int32) 10 (by decide) (by decide)
        have q5 := c_mask ((x2.toUInt32 >>> ((10 : Int32) &&& 31).toUInt32).toInt32) (1 : Int32) 1 (by decide) (by decide)
        have q6 := c_iushr x2 (1 : Int32) 1 (by decide) (by decide)
        have q7 := c_mask ((x2.toUInt32 >>> ((1 : Int32) &&& 31).toUInt32).toInt32) (3 : Int32) 2 (by decide) (by decide)
        have q8 := congrArg Int32.toInt htn_
        have q9 := c_iushr x2 (3 : Int32) 3 (by decide) (by decide)
        have q10 := c_mask ((x2.toUInt32 >>> ((3 : Int32) &&& 31).toUInt32).toInt32) (3 : Int32) 2 (by decide) (by decide)
        have q11 := congrArg Int32.toInt htl_
        have q12 := c_iushr x2 (5 : Int32) 5 (by decide) (by decide)
        have q13 := c_mask ((x2.toUInt32 >>> ((5 : Int32) &&& 31).toUInt32).toInt32) (3 : Int32) 2 (by decide) (by decide)
        have q14 := congrArg Int32.toInt han_
        have p0 := c1
        have p1 := c163
        have p2 := c164
        have p3 := c165
        have p4 := c166
        have p5 := c183
        have p6 := c184
        have p7 := c197
        simp only [true_implies, Int32.lt_iff_toInt_lt, ← Int32.toInt_inj, Int32.reduceToInt, Int64.lt_iff_toInt_lt, ← Int64.toInt_inj, Int64.reduceToInt] at q0 q1 q2 q3 q4 q5 q6 q7 q8 q9 q10 q11 q12 q13 q14 p0 p1 p2 p3 p4 p5 p6 p7 ⊢
        omega
      have c199 : ¬ ((own_ch x1 (0 : Int32)) < (0 : Int32)) := by
        have q0 := rng64 x1
        have q1 := own_ch_v x1 (0 : Int32)
        simp only [true_implies, Int32.lt_iff_toInt_lt, ← Int32.toInt_inj, Int32.reduceToInt, Int64.lt_iff_toInt_lt, ← Int64.toInt_inj, Int64.reduceToInt] at q0 q1 ⊢
        omega
      have c200 : ¬ ((255 : Int32) < (own_ch x1 (0 : Int32))) := by
        have q0 := rng64 x1
        have q1 := own_ch_v x1 (0 : Int32)
        have p0 := c199
        simp only [true_implies, Int32.lt_iff_toInt_lt, ← Int32.toInt_inj, Int32.reduceToInt, Int64.lt_iff_toInt_lt, ← Int64.toInt_inj, Int64.reduceToInt] at q0 q1 p0 ⊢
        omega
      have c201 : ¬ ((own_ch x1 (8 : Int32)) < (0 : Int32)) := by
        have q0 := rng64 x1
        have q1 := own_ch_v x1 (0 : Int32)
        have q2 := own_ch_v x1 (8 : Int32)
        have p0 := c199
        have p1 := c200
        simp only [true_implies, Int32.lt_iff_toInt_lt, ← Int32.toInt_inj, Int32.reduceToInt, Int64.lt_iff_toInt_lt, ← Int64.toInt_inj, Int64.reduceToInt] at q0 q1 q2 p0 p1 ⊢
        omega
      have c202 : ¬ ((255 : Int32) < (own_ch x1 (8 : Int32))) := by
        have q0 := rng64 x1
        have q1 := own_ch_v x1 (0 : Int32)
        have q2 := own_ch_v x1 (8 : Int32)
        have p0 := c199
        have p1 := c200
        have p2 := c201
        simp only [true_implies, Int32.lt_iff_toInt_lt, ← Int32.toInt_inj, Int32.reduceToInt, Int64.lt_iff_toInt_lt, ← Int64.toInt_inj, Int64.reduceToInt] at q0 q1 q2 p0 p1 p2 ⊢
        omega
      have c203 : ¬ ((own_ch x1 (16 : Int32)) < (0 : Int32)) := by
        have q0 := rng64 x1
        have q1 := own_ch_v x1 (0 : Int32)
        have q2 := own_ch_v x1 (8 : Int32)
        have q3 := own_ch_v x1 (16 : Int32)
        have p0 := c199
        have p1 := c200
        have p2 := c201
        have p3 := c202
        simp only [true_implies, Int32.lt_iff_toInt_lt, ← Int32.toInt_inj, Int32.reduceToInt, Int64.lt_iff_toInt_lt, ← Int64.toInt_inj, Int64.reduceToInt] at q0 q1 q2 q3 p0 p1 p2 p3 ⊢
        omega
      have c204 : ¬ ((255 : Int32) < (own_ch x1 (16 : Int32))) := by
        have q0 := rng64 x1
        have q1 := own_ch_v x1 (0 : Int32)
        have q2 := own_ch_v x1 (8 : Int32)
        have q3 := own_ch_v x1 (16 : Int32)
        have p0 := c199
        have p1 := c200
        have p2 := c201
        have p3 := c202
        have p4 := c203
        simp only [true_implies, Int32.lt_iff_toInt_lt, ← Int32.toInt_inj, Int32.reduceToInt, Int64.lt_iff_toInt_lt, ← Int64.toInt_inj, Int64.reduceToInt] at q0 q1 q2 q3 p0 p1 p2 p3 p4 ⊢
        omega
      have f206 := (own_sta_keep f192 K191 all0)
      have f207 := (((f159_1.keep K161 nin0).keep K173 nin0).keep K191 nin0)
      have Z208 := (Nat.le_trans Z194 K191.1)
      have hZo209 := hZ
      have A210 := A196.trans Ac191
      refine own_csW X191 hx hZ hown (hw _ (own_m 14 rfl)) (hw _ (own_m 15 rfl)) (hw _ (own_m 2 rfl)) (hw _ (own_m 16 rfl)) (by decide) (rm := { frames := 4, cells := 6, slots := 12, locals := 66 }) (rm_str l Z a0 hw [] b159_0 kb159_0 an_ (own_ch x1 (0 : Int32)) (own_ch x1 (8 : Int32)) (own_ch x1 (16 : Int32)) i_COMPACT_STRINGS T191.heap n0 Z208 f206 hs_COMPACT_STRINGS f207 c197 c198 c199 c200 c201 c202 c203 c204) (by decide) (W := 0) (by decide) (by decide) (by decide) rfl hEL A210.1 hS (Nat.le_refl _) (by rw [hml]; rfl) (argsL := [(.ref b159_0), (.int an_)]) (lenOf own_pd10 rfl) (rest := []) rfl rfl (Nat.le_of_eq rfl) (hb hby at_140) ?_
      intro _ T205 L205 X205 hQ205 Ac205 hS hZ hown
      obtain ⟨b205_0, b205_1, kb205_0, rfl, N205q, K205, ge205_0, sz205_0, f205_0, f205_1, f205_2, f205_3⟩ := hQ205
      have N205 := Fr.app N191 N205q
      show oG p e below _ (T205.setTop (mkF m 143 #[.val (.long x0), .second, .val (.long x1), .second, .val (.int x2), .val (.int (1 : Int32)), .val (.ref b156_0), .val (.ref b157_0), .val (.ref b159_0), .val (.ref b161_0), .val (.int tn_), .val (.int tl_), .val (.int an_), .val (.int al_), .val (.ref b173_0), .val (.ref b191_0), .unset, .unset, .unset, .unset, .unset] [(.ref b205_0)]))
      refine og (fun _ hr => XS.astore X205.here hx rfl (hb hby at_143) rfl rfl (l' := #[.val (.long x0), .second, .val (.long x1), .second, .val (.int x2), .val (.int (1 : Int32)), .val (.ref b156_0), .val (.ref b157_0), .val (.ref b159_0), .val (.ref b161_0), .val (.int tn_), .val (.int tl_), .val (.int an_), .val (.int al_), .val (.ref b173_0), .val (.ref b191_0), .val (.ref b205_0), .unset, .unset, .unset, .unset]) rfl (XS.aload X205.here hx rfl (hb hby at_145) rfl rfl (XS.iload X205.here hx rfl (hb hby at_147) rfl hr))) ?_
      show oG p e below _ (T205.setTop (mkF m 149 #[.val (.long x0), .second, .val (.long x1), .second, .val (.int x2), .val (.int (1 : Int32)), .val (.ref b156_0), .val (.ref b157_0), .val (.ref b159_0), .val (.ref b161_0), .val (.int tn_), .val (.int tl_), .val (.int an_), .val (.int al_), .val (.ref b173_0), .val (.ref b191_0), .val (.ref b205_0), .unset, .unset, .unset, .unset] [(.int al_), (.ref b161_0)]))
      have c211 : ¬ (al_ < (0 : Int32)) := by
        have q0 := rng32 x2
        have q1 := c_mask x2 (1 : Int32) 1 (by decide) (by decide)
        have q2 := c_iushr x2 (9 : Int32) 9 (by decide) (by decide)
        have q3 := c_mask ((x2.toUInt32 >>> ((9 : Int32) &&& 31).toUInt32).toInt32) (1 : Int32) 1 (by decide) (by decide)
        have q4 := c_iushr x2 (10 : Int32) 10 (by decide) (by decide)
        have q5 := c_mask ((x2.toUInt32 >>> ((10 : Int32) &&& 31).toUInt32).toInt32) (1 : Int32) 1 (by decide) (by decide)
        have q6 := c_iushr x2 (1 : Int32) 1 (by decide) (by decide)
        have q7 := c_mask ((x2.toUInt32 >>> ((1 : Int32) &&& 31).toUInt32).toInt32) (3 : Int32) 2 (by decide) (by decide)
        have q8 := congrArg Int32.toInt htn_
        have q9 := c_iushr x2 (3 : Int32) 3 (by decide) (by decide)
        have q10 := c_mask ((x2.toUInt32 >>> ((3 : Int32) &&& 31).toUInt32).toInt32) (3 : Int32) 2 (by decide) (by decide)
        have q11 := congrArg Int32.toInt htl_
        have q12 := c_iushr x2 (5 : Int32) 5 (by decide) (by decide)
        have q13 := c_mask ((x2.toUInt32 >>> ((5 : Int32) &&& 31).toUInt32).toInt32) (3 : Int32) 2 (by decide) (by decide)
        have q14 := congrArg Int32.toInt han_
        have q15 := c_iushr x2 (7 : Int32) 7 (by decide) (by decide)
        have q16 := c_mask ((x2.toUInt32 >>> ((7 : Int32) &&& 31).toUInt32).toInt32) (3 : Int32) 2 (by decide) (by decide)
        have q17 := congrArg Int32.toInt hal_
        have p0 := c1
        have p1 := c163
        have p2 := c164
        have p3 := c165
        have p4 := c166
        have p5 := c183
        have p6 := c184
        have p7 := c197
        have p8 := c198
        simp only [true_implies, Int32.lt_iff_toInt_lt, ← Int32.toInt_inj, Int32.reduceToInt, Int64.lt_iff_toInt_lt, ← Int64.toInt_inj, Int64.reduceToInt] at q0 q1 q2 q3 q4 q5 q6 q7 q8 q9 q10 q11 q12 q13 q14 q15 q16 q17 p0 p1 p2 p3 p4 p5 p6 p7 p8 ⊢
        omega
      have c212 : ¬ ((3 : Int32) < al_) := by
        have q0 := rng32 x2
        have q1 := c_mask x2 (1 : Int32) 1 (by decide) (by decide)
        have q2 := c_iushr x2 (9 : Int32) 9 (by decide) (by decide)
        have q3 := c_mask ((x2.toUInt32 >>> ((9 : Int32) &&& 31).toUInt32).toInt32) (1 : Int32) 1 (by decide) (by decide)
        have q4 := c_iushr x2 (10 : Int32) 10 (by decide) (by decide)
        have q5 := c_mask ((x2.toUInt32 >>> ((10 : Int32) &&& 31).toUInt32).toInt32) (1 : Int32) 1 (by decide) (by decide)
        have q6 := c_iushr x2 (1 : Int32) 1 (by decide) (by decide)
        have q7 := c_mask ((x2.toUInt32 >>> ((1 : Int32) &&& 31).toUInt32).toInt32) (3 : Int32) 2 (by decide) (by decide)
        have q8 := congrArg Int32.toInt htn_
        have q9 := c_iushr x2 (3 : Int32) 3 (by decide) (by decide)
        have q10 := c_mask ((x2.toUInt32 >>> ((3 : Int32) &&& 31).toUInt32).toInt32) (3 : Int32) 2 (by decide) (by decide)
        have q11 := congrArg Int32.toInt htl_
        have q12 := c_iushr x2 (5 : Int32) 5 (by decide) (by decide)
        have q13 := c_mask ((x2.toUInt32 >>> ((5 : Int32) &&& 31).toUInt32).toInt32) (3 : Int32) 2 (by decide) (by decide)
        have q14 := congrArg Int32.toInt han_
        have q15 := c_iushr x2 (7 : Int32) 7 (by decide) (by decide)
        have q16 := c_mask ((x2.toUInt32 >>> ((7 : Int32) &&& 31).toUInt32).toInt32) (3 : Int32) 2 (by decide) (by decide)
        have q17 := congrArg Int32.toInt hal_
        have p0 := c1
        have p1 := c163
        have p2 := c164
        have p3 := c165
        have p4 := c166
        have p5 := c183
        have p6 := c184
        have p7 := c197
        have p8 := c198
        have p9 := c211
        simp only [true_implies, Int32.lt_iff_toInt_lt, ← Int32.toInt_inj, Int32.reduceToInt, Int64.lt_iff_toInt_lt, ← Int64.toInt_inj, Int64.reduceToInt] at q0 q1 q2 q3 q4 q5 q6 q7 q8 q9 q10 q11 q12 q13 q14 q15 q16 q17 p0 p1 p2 p3 p4 p5 p6 p7 p8 p9 ⊢
        omega
      have c213 : ¬ ((own_ch x1 (24 : Int32)) < (0 : Int32)) := by
        have q0 := rng64 x1
        have q1 := own_ch_v x1 (0 : Int32)
        have q2 := own_ch_v x1 (8 : Int32)
        have q3 := own_ch_v x1 (16 : Int32)
        have q4 := own_ch_v x1 (24 : Int32)
        have p0 := c199
        have p1 := c200
        have p2 := c201
        have p3 := c202
        have p4 := c203
        have p5 := c204
        simp only [true_implies, Int32.lt_iff_toInt_lt, ← Int32.toInt_inj, Int32.reduceToInt, Int64.lt_iff_toInt_lt, ← Int64.toInt_inj, Int64.reduceToInt] at q0 q1 q2 q3 q4 p0 p1 p2 p3 p4 p5 ⊢
        omega
      have c214 : ¬ ((255 : Int32) < (own_ch x1 (24 : Int32))) := by
        have q0 := rng64 x1
        have q1 := own_ch_v x1 (0 : Int32)
        have q2 := own_ch_v x1 (8 : Int32)
        have q3 := own_ch_v x1 (16 : Int32)
        have q4 := own_ch_v x1 (24 : Int32)
        have p0 := c199
        have p1 := c200
        have p2 := c201
        have p3 := c202
        have p4 := c203
        have p5 := c204
        have p6 := c213
        simp only [true_implies, Int32.lt_iff_toInt_lt, ← Int32.toInt_inj, Int32.reduceToInt, Int64.lt_iff_toInt_lt, ← Int64.toInt_inj, Int64.reduceToInt] at q0 q1 q2 q3 q4 p0 p1 p2 p3 p4 p5 p6 ⊢
        omega
      have c215 : ¬ ((own_ch x1 (32 : Int32)) < (0 : Int32)) := by
        have q0 := rng64 x1
        have q1 := own_ch_v x1 (0 : Int32)
        have q2 := own_ch_v x1 (8 : Int32)
        have q3 := own_ch_v x1 (16 : Int32)
        have q4 := own_ch_v x1 (24 : Int32)
        have q5 := own_ch_v x1 (32 : Int32)
        have p0 := c199
        have p1 := c200
        have p2 := c201
        have p3 := c202
        have p4 := c203
        have p5 := c204
        have p6 := c213
        have p7 := c214
        simp only [true_implies, Int32.lt_iff_toInt_lt, ← Int32.toInt_inj, Int32.reduceToInt, Int64.lt_iff_toInt_lt, ← Int64.toInt_inj, Int64.reduceToInt] at q0 q1 q2 q3 q4 q5 p0 p1 p2 p3 p4 p5 p6 p7 ⊢
        omega
      have c216 : ¬ ((255 : Int32) < (own_ch x1 (32 : Int32))) := by
        have q0 := rng64 x1
        have q1 := own_ch_v x1 (0 : Int32)
        have q2 := own_ch_v x1 (8 : Int32)
        have q3 := own_ch_v x1 (16 : Int32)
        have q4 := own_ch_v x1 (24 : Int32)
        have q5 := own_ch_v x1 (32 : Int32)
        have p0 := c199
        have p1 := c200
        have p2 := c201
        have p3 := c202
        have p4 := c203
        have p5 := c204
        have p6 := c213
        have p7 := c214
        have p8 := c215
        simp only [true_implies, Int32.lt_iff_toInt_lt, ← Int32.toInt_inj, Int32.reduceToInt, Int64.lt_iff_toInt_lt, ← Int64.toInt_inj, Int64.reduceToInt] at q0 q1 q2 q3 q4 q5 p0 p1 p2 p3 p4 p5 p6 p7 p8 ⊢
        omega
      have c217 : ¬ ((own_ch x1 (40 : Int32)) < (0 : Int32)) := by
        have q0 := rng64 x1
        have q1 := own_ch_v x1 (0 : Int32)
        have q2 := own_ch_v x1 (8 : Int32)
        have q3 := own_ch_v x1 (16 : Int32)
        have q4 := own_ch_v x1 (24 : Int32)
        have q5 := own_ch_v x1 (32 : Int32)
        have q6 := own_ch_v x1 (40 : Int32)
        have p0 := c199
        have p1 := c200
        have p2 := c201
        have p3 := c202
        have p4 := c203
        have p5 := c204
        have p6 := c213
        have p7 := c214
        have p8 := c215
        have p9 := c216
        simp only [true_implies, Int32.lt_iff_toInt_lt, ← Int32.toInt_inj, Int32.reduceToInt, Int64.lt_iff_toInt_lt, ← Int64.toInt_inj, Int64.reduceToInt] at q0 q1 q2 q3 q4 q5 q6 p0 p1 p2 p3 p4 p5 p6 p7 p8 p9 ⊢
        omega
      have c218 : ¬ ((255 : Int32) < (own_ch x1 (40 : Int32))) := by
        have q0 := rng64 x1
        have q1 := own_ch_v x1 (0 : Int32)
        have q2 := own_ch_v x1 (8 : Int32)
        have q3 := own_ch_v x1 (16 : Int32)
        have q4 := own_ch_v x1 (24 : Int32)
        have q5 := own_ch_v x1 (32 : Int32)
        have q6 := own_ch_v x1 (40 : Int32)
        have p0 := c199
        have p1 := c200
        have p2 := c201
        have p3 := c202
        have p4 := c203
        have p5 := c204
        have p6 := c213
        have p7 := c214
        have p8 := c215
        have p9 := c216
        have p10 := c217
        simp only [true_implies, Int32.lt_iff_toInt_lt, ← Int32.toInt_inj, Int32.reduceToInt, Int64.lt_iff_toInt_lt, ← Int64.toInt_inj, Int64.reduceToInt] at q0 q1 q2 q3 q4 q5 q6 p0 p1 p2 p3 p4 p5 p6 p7 p8 p9 p10 ⊢
        omega
      have f220 := (own_sta_keep f206 K205 all0)
      have f221 := (((f161_1.keep K173 nin0).keep K191 nin0).keep K205 nin0)
      have Z222 := (Nat.le_trans Z208 K205.1)
      have hZo223 := hZ
      have A224 := A210.trans Ac205
      refine own_csW X205 hx hZ hown (hw _ (own_m 14 rfl)) (hw _ (own_m 15 rfl)) (hw _ (own_m 2 rfl)) (hw _ (own_m 16 rfl)) (by decide) (rm := { frames := 4, cells := 6, slots := 12, locals := 66 }) (rm_str l Z a0 hw [] b161_0 kb161_0 al_ (own_ch x1 (24 : Int32)) (own_ch x1 (32 : Int32)) (own_ch x1 (40 : Int32)) i_COMPACT_STRINGS T205.heap n0 Z222 f220 hs_COMPACT_STRINGS f221 c211 c212 c213 c214 c215 c216 c217 c218) (by decide) (W := 0) (by decide) (by decide) (by decide) rfl hEL A224.1 hS (Nat.le_refl _) (by rw [hml]; rfl) (argsL := [(.ref b161_0), (.int al_)]) (lenOf own_pd10 rfl) (rest := []) rfl rfl (Nat.le_of_eq rfl) (hb hby at_149) ?_
      intro _ T219 L219 X219 hQ219 Ac219 hS hZ hown
      obtain ⟨b219_0, b219_1, kb219_0, rfl, N219q, K219, ge219_0, sz219_0, f219_0, f219_1, f219_2, f219_3⟩ := hQ219
      have N219 := Fr.app N205 N219q
      show oG p e below _ (T219.setTop (mkF m 152 #[.val (.long x0), .second, .val (.long x1), .second, .val (.int x2), .val (.int (1 : Int32)), .val (.ref b156_0), .val (.ref b157_0), .val (.ref b159_0), .val (.ref b161_0), .val (.int tn_), .val (.int tl_), .val (.int an_), .val (.int al_), .val (.ref b173_0), .val (.ref b191_0), .val (.ref b205_0), .unset, .unset, .unset, .unset] [(.ref b219_0)]))
      refine og (fun _ hr => XS.astore X219.here hx rfl (hb hby at_152) rfl rfl (l' := #[.val (.long x0), .second, .val (.long x1), .second, .val (.int x2), .val (.int (1 : Int32)), .val (.ref b156_0), .val (.ref b157_0), .val (.ref b159_0), .val (.ref b161_0), .val (.int tn_), .val (.int tl_), .val (.int an_), .val (.int al_), .val (.ref b173_0), .val (.ref b191_0), .val (.ref b205_0), .val (.ref b219_0), .unset, .unset, .unset]) rfl hr) ?_
      show oG p e below _ (T219.setTop (mkF m 154 #[.val (.long x0), .second, .val (.long x1), .second, .val (.int x2), .val (.int (1 : Int32)), .val (.ref b156_0), .val (.ref b157_0), .val (.ref b159_0), .val (.ref b161_0), .val (.int tn_), .val (.int tl_), .val (.int an_), .val (.int al_), .val (.ref b173_0), .val (.ref b191_0), .val (.ref b205_0), .val (.ref b219_0), .unset, .unset, .unset] []))
      obtain ⟨T225, h225, X225, e225, E225, A225, D225, -, st225⟩ := newO X219 hx hZ hown (hw _ (own_m 70 rfl)) (hw _ (own_m 71 rfl)) (hw _ (own_m 72 rfl)) rfl (g := (mkF m 154 #[.val (.long x0), .second, .val (.long x1), .second, .val (.int x2), .val (.int (1 : Int32)), .val (.ref b156_0), .val (.ref b157_0), .val (.ref b159_0), .val (.ref b161_0), .val (.int tn_), .val (.int tl_), .val (.int an_), .val (.int al_), .val (.ref b173_0), .val (.ref b191_0), .val (.ref b205_0), .val (.ref b219_0), .unset, .unset, .unset] [])) rfl (hb hby at_154) (by decide) (by decide)
      obtain ⟨b225, g225⟩ : ∃ z, z = T219.heap.size := ⟨_, rfl⟩
      rw [← g225] at A225 D225 st225
      have Z226 := (Nat.le_trans Z222 K219.1)
      have ge227 : n0 ≤ b225 := Nat.le_trans Z226 (Nat.le_of_eq g225.symm)
      refine og st225 ?_
      have f228 : Fld Z h225 b225 "com/example/ruleweave/ruleweave/CommonPolicySchema$Type" "namespace" "Ljava/lang/String;" .null := D225 (Or.inr (hw _ (own_m 78 rfl))) (ty := (.object "java/lang/String")) (by decide)
      have f229 : Fld Z h225 b225 "com/example/ruleweave/ruleweave/CommonPolicySchema$Type" "name" "Ljava/lang/String;" .null := D225 (Or.inr (hw _ (own_m 80 rfl))) (ty := (.object "java/lang/String")) (by decide)
      have f230 : Fld Z h225 b225 "com/example/ruleweave/ruleweave/CommonPolicySchema$Type" "attributes" "Ljava/util/List;" .null := D225 (Or.inr (hw _ (own_m 82 rfl))) (ty := (.object "java/util/List")) (by decide)
      have f231 : Fld Z h225 b225 "com/example/ruleweave/ruleweave/CommonPolicySchema$Type" "content" "Lcom/example/ruleweave/ruleweave/CommonPolicySchema$Content;" .null := D225 (Or.inr (hw _ (own_m 84 rfl))) (ty := (.object "com/example/ruleweave/ruleweave/CommonPolicySchema$Content")) (by decide)
      have f232 : Fld Z h225 b225 "com/example/ruleweave/ruleweave/CommonPolicySchema$Type" "datatype" "Lcom/example/ruleweave/ruleweave/CommonPolicySchema$Datatype;" .null := D225 (Or.inr (hw _ (own_m 86 rfl))) (ty := (.object "com/example/ruleweave/ruleweave/CommonPolicySchema$Datatype")) (by decide)
      have f233 : Fld Z h225 b225 "com/example/ruleweave/ruleweave/CommonPolicySchema$Type" "model" "Lcom/example/ruleweave/ruleweave/CommonPolicySchema$Model;" .null := D225 (Or.inr (hw _ (own_m 88 rfl))) (ty := (.object "com/example/ruleweave/ruleweave/CommonPolicySchema$Model")) (by decide)
      show oG p e below _ (T225.setTop (mkF m 157 #[.val (.long x0), .second, .val (.long x1), .second, .val (.int x2), .val (.int (1 : Int32)), .val (.ref b156_0), .val (.ref b157_0), .val (.ref b159_0), .val (.ref b161_0), .val (.int tn_), .val (.int tl_), .val (.int an_), .val (.int al_), .val (.ref b173_0), .val (.ref b191_0), .val (.ref b205_0), .val (.ref b219_0), .unset, .unset, .unset] [(.ref b225)]))
      refine og (fun _ hr => XS.dup X225.here hx rfl (hb hby at_157) rfl rfl (XS.aconstNull X225.here hx rfl (hb hby at_158) (XS.aconstNull X225.here hx rfl (hb hby at_159) (XS.aconstNull X225.here hx rfl (hb hby at_160) (XS.aconstNull X225.here hx rfl (hb hby at_161) (XS.aconstNull X225.here hx rfl (hb hby at_162) (XS.aconstNull X225.here hx rfl (hb hby at_163) hr))))))) ?_
      show oG p e below _ (T225.setTop (mkF m 164 #[.val (.long x0), .second, .val (.long x1), .second, .val (.int x2), .val (.int (1 : Int32)), .val (.ref b156_0), .val (.ref b157_0), .val (.ref b159_0), .val (.ref b161_0), .val (.int tn_), .val (.int tl_), .val (.int an_), .val (.int al_), .val (.ref b173_0), .val (.ref b191_0), .val (.ref b205_0), .val (.ref b219_0), .unset, .unset, .unset] [.null, .null, .null, .null, .null, .null, (.ref b225), (.ref b225)]))
      have Z235 := (Nat.le_trans Z226 E225.1)
      refine own_cp X225 hx hZ hown rfl (hw _ (own_m 73 rfl)) (hw _ (own_m 74 rfl)) (hw _ (own_m 72 rfl)) (hw _ (own_m 75 rfl)) (by decide) (rm := { frames := 2, cells := 0, slots := 0, locals := 24 }) (rm_init_31 l Z a0 hw [] b225 h225 n0 Z235 A225 f228 f229 f230 f231 f232 f233 ge227) (by decide) (W := 1) (by decide) (by decide) (by decide) e225 (by rw [hml]; rfl) (argsL := [.null, .null, .null, .null, .null, .null]) (lenOf own_pd17 rfl) (rest := [(.ref b225)]) rfl rfl (Nat.le_of_eq rfl) (hb hby at_164) ?_
      intro _ T234 L234 X234 hQ234
      obtain ⟨rfl, N234q, K234, f234_0, f234_1, f234_2, f234_3, f234_4, f234_5⟩ := hQ234
      have N234 := Fr.app N219 N234q
      show oG p e below _ (T234.setTop (mkF m 167 #[.val (.long x0), .second, .val (.long x1), .second, .val (.int x2), .val (.int (1 : Int32)), .val (.ref b156_0), .val (.ref b157_0), .val (.ref b159_0), .val (.ref b161_0), .val (.int tn_), .val (.int tl_), .val (.int an_), .val (.int al_), .val (.ref b173_0), .val (.ref b191_0), .val (.ref b205_0), .val (.ref b219_0), .unset, .unset, .unset] [(.ref b225)]))
      refine og (fun _ hr => XS.astore X234.here hx rfl (hb hby at_167) rfl rfl (l' := #[.val (.long x0), .second, .val (.long x1), .second, .val (.int x2), .val (.int (1 : Int32)), .val (.ref b156_0), .val (.ref b157_0), .val (.ref b159_0), .val (.ref b161_0), .val (.int tn_), .val (.int tl_), .val (.int an_), .val (.int al_), .val (.ref b173_0), .val (.ref b191_0), .val (.ref b205_0), .val (.ref b219_0), .val (.ref b225), .unset, .unset]) rfl hr) ?_
      show oG p e below _ (T234.setTop (mkF m 169 #[.val (.long x0), .second, .val (.long x1), .second, .val (.int x2), .val (.int (1 : Int32)), .val (.ref b156_0), .val (.ref b157_0), .val (.ref b159_0), .val (.ref b161_0), .val (.int tn_), .val (.int tl_), .val (.int an_), .val (.int al_), .val (.ref b173_0), .val (.ref b191_0), .val (.ref b205_0), .val (.ref b219_0), .val (.ref b225), .unset, .unset] []))
      obtain ⟨T236, h236, X236, e236, E236, A236, D236, -, st236⟩ := newO X234 hx hZ hown (hw _ (own_m 31 rfl)) (hw _ (own_m 32 rfl)) (hw _ (own_m 33 rfl)) rfl (g := (mkF m 169 #[.val (.long x0), .second, .val (.long x1), .second, .val (.int x2), .val (.int (1 : Int32)), .val (.ref b156_0), .val (.ref b157_0), .val (.ref b159_0), .val (.ref b161_0), .val (.int tn_), .val (.int tl_), .val (.int an_), .val (.int al_), .val (.ref b173_0), .val (.ref b191_0), .val (.ref b205_0), .val (.ref b219_0), .val (.ref b225), .unset, .unset] [])) rfl (hb hby at_169) (by decide) (by decide)
      obtain ⟨b236, g236⟩ : ∃ z, z = T234.heap.size := ⟨_, rfl⟩
      rw [← g236] at A236 D236 st236
      have Z237 := (Nat.le_trans Z235 K234.1)
      have ge238 : n0 ≤ b236 := Nat.le_trans Z237 (Nat.le_of_eq g236.symm)
      refine og st236 ?_
      have f239 : Fld Z h236 b236 "com/example/ruleweave/ruleweave/CommonPolicySchema$Term" "namespace" "Ljava/lang/String;" .null := D236 (Or.inr (hw _ (own_m 44 rfl))) (ty := (.object "java/lang/String")) (by decide)
      have f240 : Fld Z h236 b236 "com/example/ruleweave/ruleweave/CommonPolicySchema$Term" "localName" "Ljava/lang/String;" .null := D236 (Or.inr (hw _ (own_m 46 rfl))) (ty := (.object "java/lang/String")) (by decide)
      have f241 : Fld Z h236 b236 "com/example/ruleweave/ruleweave/CommonPolicySchema$Term" "type" "Lcom/example/ruleweave/ruleweave/CommonPolicySchema$Type;" .null := D236 (Or.inr (hw _ (own_m 48 rfl))) (ty := (.object "com/example/ruleweave/ruleweave/CommonPolicySchema$Type")) (by decide)
      show oG p e below _ (T236.setTop (mkF m 172 #[.val (.long x0), .second, .val (.long x1), .second, .val (.int x2), .val (.int (1 : Int32)), .val (.ref b156_0), .val (.ref b157_0), .val (.ref b159_0), .val (.ref b161_0), .val (.int tn_), .val (.int tl_), .val (.int an_), .val (.int al_), .val (.ref b173_0), .val (.ref b191_0), .val (.ref b205_0), .val (.ref b219_0), .val (.ref b225), .unset, .unset] [(.ref b236)]))
      refine og (fun _ hr => XS.dup X236.here hx rfl (hb hby at_172) rfl rfl (XS.aload X236.here hx rfl (hb hby at_173) rfl rfl (XS.aload X236.here hx rfl (hb hby at_175) rfl rfl (XS.aload X236.here hx rfl (hb hby at_177) rfl rfl hr)))) ?_
      show oG p e below _ (T236.setTop (mkF m 179 #[.val (.long x0), .second, .val (.long x1), .second, .val (.int x2), .val (.int (1 : Int32)), .val (.ref b156_0), .val (.ref b157_0), .val (.ref b159_0), .val (.ref b161_0), .val (.int tn_), .val (.int tl_), .val (.int an_), .val (.int al_), .val (.ref b173_0), .val (.ref b191_0), .val (.ref b205_0), .val (.ref b219_0), .val (.ref b225), .unset, .unset] [(.ref b225), (.ref b191_0), (.ref b173_0), (.ref b236), (.ref b236)]))
      have Z243 := (Nat.le_trans Z237 E236.1)
      refine own_cp X236 hx hZ hown rfl (hw _ (own_m 34 rfl)) (hw _ (own_m 35 rfl)) (hw _ (own_m 33 rfl)) (hw _ (own_m 36 rfl)) (by decide) (rm := { frames := 2, cells := 0, slots := 0, locals := 24 }) (rm_init_32 l Z a0 hw [] b236 b173_0 b191_0 b225 h236 n0 Z243 A236 f239 f240 f241 ge238) (by decide) (W := 1) (by decide) (by decide) (by decide) e236 (by rw [hml]; rfl) (argsL := [(.ref b173_0), (.ref b191_0), (.ref b225)]) (lenOf own_pd12 rfl) (rest := [(.ref b236)]) rfl rfl (Nat.le_of_eq rfl) (hb hby at_179) ?_
      intro _ T242 L242 X242 hQ242
      obtain ⟨rfl, N242q, K242, f242_0, f242_1, f242_2⟩ := hQ242
      have N242 := Fr.app N234 N242q
      show oG p e below _ (T242.setTop (mkF m 182 #[.val (.long x0), .second, .val (.long x1), .second, .val (.int x2), .val (.int (1 : Int32)), .val (.ref b156_0), .val (.ref b157_0), .val (.ref b159_0), .val (.ref b161_0), .val (.int tn_), .val (.int tl_), .val (.int an_), .val (.int al_), .val (.ref b173_0), .val (.ref b191_0), .val (.ref b205_0), .val (.ref b219_0), .val (.ref b225), .unset, .unset] [(.ref b236)]))
      refine og (fun _ hr => XS.astore X242.here hx rfl (hb hby at_182) rfl rfl (l' := #[.val (.long x0), .second, .val (.long x1), .second, .val (.int x2), .val (.int (1 : Int32)), .val (.ref b156_0), .val (.ref b157_0), .val (.ref b159_0), .val (.ref b161_0), .val (.int tn_), .val (.int tl_), .val (.int an_), .val (.int al_), .val (.ref b173_0), .val (.ref b191_0), .val (.ref b205_0), .val (.ref b219_0), .val (.ref b225), .val (.ref b236), .unset]) rfl (XS.aload X242.here hx rfl (hb hby at_184) rfl rfl (XS.iload X242.here hx rfl (hb hby at_186) rfl (XS.aload X242.here hx rfl (hb hby at_188) rfl rfl (XS.iload X242.here hx rfl (hb hby at_190) rfl hr))))) ?_
      show oG p e below _ (T242.setTop (mkF m 192 #[.val (.long x0), .second, .val (.long x1), .second, .val (.int x2), .val (.int (1 : Int32)), .val (.ref b156_0), .val (.ref b157_0), .val (.ref b159_0), .val (.ref b161_0), .val (.int tn_), .val (.int tl_), .val (.int an_), .val (.int al_), .val (.ref b173_0), .val (.ref b191_0), .val (.ref b205_0), .val (.ref b219_0), .val (.ref b225), .val (.ref b236), .unset] [(.int an_), (.ref b159_0), (.int tn_), (.ref b156_0)]))
      have f245 := ((((((((f175.keep K173 nin0).keep K191 nin0).keep K205 nin0).keep K219 nin0).ext E225).keep K234 (ninS (Nat.ne_of_lt (Nat.lt_of_lt_of_le (((((((f156_0.keep K157).keep K159).keep K161).keep K173).keep K191).keep K205).keep K219).lt (Nat.le_of_eq g225.symm))) nin0)).ext E236).keep K242 (ninS (Nat.ne_of_lt (Nat.lt_of_lt_of_le (((((((((f156_0.keep K157).keep K159).keep K161).keep K173).keep K191).keep K205).keep K219).ext E225).keep K234).lt (Nat.le_of_eq g236.symm))) nin0))
      have f246 := ((((((f207.keep K205 nin0).keep K219 nin0).ext E225).keep K234 (ninS (Nat.ne_of_lt (Nat.lt_of_lt_of_le (((((f159_0.keep K161).keep K173).keep K191).keep K205).keep K219).lt (Nat.le_of_eq g225.symm))) nin0)).ext E236).keep K242 (ninS (Nat.ne_of_lt (Nat.lt_of_lt_of_le (((((((f159_0.keep K161).keep K173).keep K191).keep K205).keep K219).ext E225).keep K234).lt (Nat.le_of_eq g236.symm))) nin0))
      have Z247 := (Nat.le_trans Z243 K242.1)
      refine own_cs X242 hx hZ hown (hw _ (own_m 89 rfl)) (hw _ (own_m 90 rfl)) (hw _ (own_m 2 rfl)) (hw _ (own_m 91 rfl)) (by decide) (rm := { frames := 0, cells := 0, slots := 0, locals := 0 }) (rm_same l Z a0 hw [] b156_0 b159_0 kb156_0 kb159_0 (own_ch x0 (0 : Int32)) (own_ch x0 (8 : Int32)) (own_ch x0 (16 : Int32)) tn_ (own_ch x1 (0 : Int32)) (own_ch x1 (8 : Int32)) (own_ch x1 (16 : Int32)) an_ T242.heap n0 Z247 f245 f246) (by decide) (W := 0) (by decide) (by decide) (by decide) rfl (by rw [hml]; rfl) (argsL := [(.ref b156_0), (.int tn_), (.ref b159_0), (.int an_)]) (lenOf own_pd18 rfl) (rest := []) rfl rfl (Nat.le_of_eq rfl) (hb hby at_192) ?_
      intro _ T244 L244 X244 hQ244
      obtain ⟨rfl, N244q, e244⟩ := hQ244
      have N244 := Fr.app N242 N244q
      show oG p e below _ (T244.setTop (mkF m 195 #[.val (.long x0), .second, .val (.long x1), .second, .val (.int x2), .val (.int (1 : Int32)), .val (.ref b156_0), .val (.ref b157_0), .val (.ref b159_0), .val (.ref b161_0), .val (.int tn_), .val (.int tl_), .val (.int an_), .val (.int al_), .val (.ref b173_0), .val (.ref b191_0), .val (.ref b205_0), .val (.ref b219_0), .val (.ref b225), .val (.ref b236), .unset] [(.int (own_same (own_ch x0 (0 : Int32)) (own_ch x0 (8 : Int32)) (own_ch x0 (16 : Int32)) tn_ (own_ch x1 (0 : Int32)) (own_ch x1 (8 : Int32)) (own_ch x1 (16 : Int32)) an_))]))
      rcases Classical.em ((own_same (own_ch x0 (0 : Int32)) (own_ch x0 (8 : Int32)) (own_ch x0 (16 : Int32)) tn_ (own_ch x1 (0 : Int32)) (own_ch x1 (8 : Int32)) (own_ch x1 (16 : Int32)) an_) = (0 : Int32)) with c248 | c248
      · skip
        refine og (fun _ hr => XS.ifYes X244.here hx rfl (pc0 := 195) (pc' := 216) rfl (hb hby at_195) rfl ((if0 _ _).trans (teq c248).1) (by decide) (by decide) hr) ?_
        show oG p e below _ (T244.setTop (mkF m 216 #[.val (.long x0), .second, .val (.long x1), .second, .val (.int x2), .val (.int (1 : Int32)), .val (.ref b156_0), .val (.ref b157_0), .val (.ref b159_0), .val (.ref b161_0), .val (.int tn_), .val (.int tl_), .val (.int an_), .val (.int al_), .val (.ref b173_0), .val (.ref b191_0), .val (.ref b205_0), .val (.ref b219_0), .val (.ref b225), .val (.ref b236), .unset] []))
        refine og (fun _ hr => XS.iconst X244.here hx rfl (hb hby at_216) (XS.istore X244.here hx rfl (hb hby at_217) rfl (l' := #[.val (.long x0), .second, .val (.long x1), .second, .val (.int x2), .val (.int (1 : Int32)), .val (.ref b156_0), .val (.ref b157_0), .val (.ref b159_0), .val (.ref b161_0), .val (.int tn_), .val (.int tl_), .val (.int an_), .val (.int al_), .val (.ref b173_0), .val (.ref b191_0), .val (.ref b205_0), .val (.ref b219_0), .val (.ref b225), .val (.ref b236), .val (.int (0 : Int32))]) rfl (XS.aload X244.here hx rfl (hb hby at_219) rfl rfl (XS.aload X244.here hx rfl (hb hby at_221) rfl rfl (XS.aload X244.here hx rfl (hb hby at_223) rfl rfl hr))))) ?_
        show oG p e below _ (T244.setTop (mkF m 225 #[.val (.long x0), .second, .val (.long x1), .second, .val (.int x2), .val (.int (1 : Int32)), .val (.ref b156_0), .val (.ref b157_0), .val (.ref b159_0), .val (.ref b161_0), .val (.int tn_), .val (.int tl_), .val (.int an_), .val (.int al_), .val (.ref b173_0), .val (.ref b191_0), .val (.ref b205_0), .val (.ref b219_0), .val (.ref b225), .val (.ref b236), .val (.int (0 : Int32))] [(.ref b219_0), (.ref b205_0), (.ref b236)]))
        have c249 : (own_leq (own_ch x1 (0 : Int32)) (own_ch x1 (8 : Int32)) (own_ch x1 (16 : Int32)) an_ (own_ch x0 (0 : Int32)) (own_ch x0 (8 : Int32)) (own_ch x0 (16 : Int32)) tn_) = (0 : Int32) := by rw [own_leq_same (own_ch x1 (0 : Int32)) (own_ch x1 (8 : Int32)) (own_ch x1 (16 : Int32)) an_ (own_ch x0 (0 : Int32)) (own_ch x0 (8 : Int32)) (own_ch x0 (16 : Int32)) tn_ (own_rg c199 c200) (own_rg c201 c202) (own_rg c203 c204) (own_rg c167 c168) (own_rg c169 c170) (own_rg c171 c172) (own_four c197 c198) (own_four c165 c166), own_same_comm]; exact c248
        have f251 := (((((((f173_0.keep K191).keep K205).keep K219).ext E225).keep K234).ext E236).keep K242)
        have f252 := (own_sta_keep ((own_sta_keep ((own_sta_keep f220 K219 all0).ext E225) K234 (allS (own_ns_exa A225) all0)).ext E236) K242 (allS (own_ns_exa A236) all0))
        have f253 := (((((f205_1.keep K219 nin0).ext E225).keep K234 (ninS (Nat.ne_of_lt (Nat.lt_of_lt_of_le (f205_0.keep K219).lt (Nat.le_of_eq g225.symm))) nin0)).ext E236).keep K242 (ninS (Nat.ne_of_lt (Nat.lt_of_lt_of_le (((f205_0.keep K219).ext E225).keep K234).lt (Nat.le_of_eq g236.symm))) nin0))
        have f254 := (((((((f173_1.keep K191 nin0).keep K205 nin0).keep K219 nin0).ext E225).keep K234 (ninS (Nat.ne_of_lt (Nat.lt_of_lt_of_le (((f173_0.keep K191).keep K205).keep K219).lt (Nat.le_of_eq g225.symm))) nin0)).ext E236).keep K242 (ninS (Nat.ne_of_lt (Nat.lt_of_lt_of_le (((((f173_0.keep K191).keep K205).keep K219).ext E225).keep K234).lt (Nat.le_of_eq g236.symm))) nin0))
        have f255 := (((((f205_2.keep K219 nin0).ext E225).keep K234 (ninS (Nat.ne_of_lt (Nat.lt_of_lt_of_le (f205_0.keep K219).lt (Nat.le_of_eq g225.symm))) nin0)).ext E236).keep K242 (ninS (Nat.ne_of_lt (Nat.lt_of_lt_of_le (((f205_0.keep K219).ext E225).keep K234).lt (Nat.le_of_eq g236.symm))) nin0))
        have f256 := (((((((f173_2.keep K191 nin0).keep K205 nin0).keep K219 nin0).ext E225).keep K234 (ninS (Nat.ne_of_lt (Nat.lt_of_lt_of_le (((f173_0.keep K191).keep K205).keep K219).lt (Nat.le_of_eq g225.symm))) nin0)).ext E236).keep K242 (ninS (Nat.ne_of_lt (Nat.lt_of_lt_of_le (((((f173_0.keep K191).keep K205).keep K219).ext E225).keep K234).lt (Nat.le_of_eq g236.symm))) nin0))
        have f257 := (((((f205_3.keep K219 nin0).ext E225).keep K234 (ninS (Nat.ne_of_lt (Nat.lt_of_lt_of_le (f205_3.keep K219 nin0).lt (Nat.le_of_eq g225.symm))) nin0)).ext E236).keep K242 (ninS (Nat.ne_of_lt (Nat.lt_of_lt_of_le (((f205_3.keep K219 nin0).ext E225).keep K234 (ninS (Nat.ne_of_lt (Nat.lt_of_lt_of_le (f205_3.keep K219 nin0).lt (Nat.le_of_eq g225.symm))) nin0)).lt (Nat.le_of_eq g236.symm))) nin0))
        have f258 := (((((((f173_3.keep K191 nin0).keep K205 nin0).keep K219 nin0).ext E225).keep K234 (ninS (Nat.ne_of_lt (Nat.lt_of_lt_of_le (((f173_3.keep K191 nin0).keep K205 nin0).keep K219 nin0).lt (Nat.le_of_eq g225.symm))) nin0)).ext E236).keep K242 (ninS (Nat.ne_of_lt (Nat.lt_of_lt_of_le (((((f173_3.keep K191 nin0).keep K205 nin0).keep K219 nin0).ext E225).keep K234 (ninS (Nat.ne_of_lt (Nat.lt_of_lt_of_le (((f173_3.keep K191 nin0).keep K205 nin0).keep K219 nin0).lt (Nat.le_of_eq g225.symm))) nin0)).lt (Nat.le_of_eq g236.symm))) nin0))
        have f259 := (((((f205_0.keep K219).ext E225).keep K234).ext E236).keep K242)
        have f260 := (A236.keep K242)
        refine own_cv X244 hx hZ hown (notFace_of_selects (args := #[]) (mvT hZ (hw _ (own_m 52 rfl)))) (hw _ (own_m 49 rfl)) (hw _ (own_m 50 rfl)) (hw _ (own_m 52 rfl)) (hw _ (own_m 51 rfl)) (hw _ (own_m 33 rfl)) (hw _ (own_m 53 rfl)) (by decide) f260 (rm := { frames := 2, cells := 0, slots := 0, locals := 28 }) (rm_admits_34 l Z a0 hw [] b236 b205_0 b219_0 b225 b173_0 i_COMPACT_STRINGS b205_1 b173_1 an_ (own_ch x1 (0 : Int32)) (own_ch x1 (8 : Int32)) (own_ch x1 (16 : Int32)) kb205_0 tn_ (own_ch x0 (0 : Int32)) (own_ch x0 (8 : Int32)) (own_ch x0 (16 : Int32)) kb173_0 T242.heap n0 Z247 f242_2 f242_1 f251 f252 f253 f254 f255 f256 f257 f258 f259 (Ne.symm (Nat.ne_of_lt (Nat.lt_of_lt_of_le (f173_0.keep K191).lt sz205_0))) hs_COMPACT_STRINGS c197 c198 c165 c166 c249) (by decide) (W := 0) (by decide) (by decide) (by decide) e244 (by rw [hml]; rfl) (argsL := [(.ref b205_0), (.ref b219_0)]) (lenOf own_pd14 rfl) (rest := []) rfl rfl (Nat.le_of_eq rfl) (hb hby at_225) ?_
        intro _ T250 L250 X250 hQ250
        obtain ⟨rfl, N250q, e250⟩ := hQ250
        have N250 := Fr.app N244 N250q
        show oG p e below _ (T250.setTop (mkF m 228 #[.val (.long x0), .second, .val (.long x1), .second, .val (.int x2), .val (.int (1 : Int32)), .val (.ref b156_0), .val (.ref b157_0), .val (.ref b159_0), .val (.ref b161_0), .val (.int tn_), .val (.int tl_), .val (.int an_), .val (.int al_), .val (.ref b173_0), .val (.ref b191_0), .val (.ref b205_0), .val (.ref b219_0), .val (.ref b225), .val (.ref b236), .val (.int (0 : Int32))] [(.int (0 : Int32))]))
        refine og (fun _ hr => XS.iload X250.here hx rfl (hb hby at_228) rfl (XS.icmpNo X250.here hx rfl (hb hby at_230) rfl (teq (by decide)).2 (XS.iconst X250.here hx rfl (hb hby at_233) (XS.goto X250.here hx rfl (pc0 := 234) (pc' := 238) rfl (hb hby at_234) (by decide) (by decide) hr)))) ?_
        show oG p e below _ (T250.setTop (mkF m 238 #[.val (.long x0), .second, .val (.long x1), .second, .val (.int x2), .val (.int (1 : Int32)), .val (.ref b156_0), .val (.ref b157_0), .val (.ref b159_0), .val (.ref b161_0), .val (.int tn_), .val (.int tl_), .val (.int an_), .val (.int al_), .val (.ref b173_0), .val (.ref b191_0), .val (.ref b205_0), .val (.ref b219_0), .val (.ref b225), .val (.ref b236), .val (.int (0 : Int32))] [(.int (1 : Int32))]))
        have hk261 := (Nat.le_trans (Nat.le_trans (Nat.le_trans (Nat.le_trans (Nat.le_refl _) E225.1) K234.1) E236.1) K242.1)
        have A262 := A224.trans Ac219
        have A263 := A262.trans (CHr.ext E225 A262.1)
        have sf265 := (Safe.ext E225 A262.1 (Safe.new (Nat.le_of_eq g225.symm)))
        have A264 := A263.trans (CHr.keep K234 (sfS sf265 sf0) A263.1)
        have A266 := A264.trans (CHr.ext E236 A264.1)
        have sf268 := (Safe.ext E236 A264.1 (Safe.new (Nat.le_of_eq g236.symm)))
        have A267 := A266.trans (CHr.keep K242 (sfS sf268 sf0) A266.1)
        exact own_retNW X250 hx hlk Bd.returns hS hk261 hZ hEL hh e250 A267 (t := .boolean) (by simp) (hb hby at_238) (by decide) (by decide) ⟨rfl, N250⟩
      refine og (fun _ hr => XS.ifNo X244.here hx rfl (hb hby at_195) rfl ((if0 _ _).trans (feq c248).1) hr) ?_
      show oG p e below _ (T244.setTop (mkF m 198 #[.val (.long x0), .second, .val (.long x1), .second, .val (.int x2), .val (.int (1 : Int32)), .val (.ref b156_0), .val (.ref b157_0), .val (.ref b159_0), .val (.ref b161_0), .val (.int tn_), .val (.int tl_), .val (.int an_), .val (.int al_), .val (.ref b173_0), .val (.ref b191_0), .val (.ref b205_0), .val (.ref b219_0), .val (.ref b225), .val (.ref b236), .unset] []))
      refine og (fun _ hr => XS.aload X244.here hx rfl (hb hby at_198) rfl rfl (XS.iload X244.here hx rfl (hb hby at_200) rfl (XS.aload X244.here hx rfl (hb hby at_202) rfl rfl (XS.iload X244.here hx rfl (hb hby at_204) rfl hr)))) ?_
      show oG p e below _ (T244.setTop (mkF m 206 #[.val (.long x0), .second, .val (.long x1), .second, .val (.int x2), .val (.int (1 : Int32)), .val (.ref b156_0), .val (.ref b157_0), .val (.ref b159_0), .val (.ref b161_0), .val (.int tn_), .val (.int tl_), .val (.int an_), .val (.int al_), .val (.ref b173_0), .val (.ref b191_0), .val (.ref b205_0), .val (.ref b219_0), .val (.ref b225), .val (.ref b236), .unset] [(.int al_), (.ref b161_0), (.int tl_), (.ref b157_0)]))
      have f270 := (((((((f193.keep K191 nin0).keep K205 nin0).keep K219 nin0).ext E225).keep K234 (ninS (Nat.ne_of_lt (Nat.lt_of_lt_of_le ((((((f157_0.keep K159).keep K161).keep K173).keep K191).keep K205).keep K219).lt (Nat.le_of_eq g225.symm))) nin0)).ext E236).keep K242 (ninS (Nat.ne_of_lt (Nat.lt_of_lt_of_le ((((((((f157_0.keep K159).keep K161).keep K173).keep K191).keep K205).keep K219).ext E225).keep K234).lt (Nat.le_of_eq g236.symm))) nin0))
      have f271 := (((((f221.keep K219 nin0).ext E225).keep K234 (ninS (Nat.ne_of_lt (Nat.lt_of_lt_of_le ((((f161_0.keep K173).keep K191).keep K205).keep K219).lt (Nat.le_of_eq g225.symm))) nin0)).ext E236).keep K242 (ninS (Nat.ne_of_lt (Nat.lt_of_lt_of_le ((((((f161_0.keep K173).keep K191).keep K205).keep K219).ext E225).keep K234).lt (Nat.le_of_eq g236.symm))) nin0))
      refine own_cs X244 hx hZ hown (hw _ (own_m 89 rfl)) (hw _ (own_m 90 rfl)) (hw _ (own_m 2 rfl)) (hw _ (own_m 91 rfl)) (by decide) (rm := { frames := 0, cells := 0, slots := 0, locals := 0 }) (rm_same l Z a0 hw [] b157_0 b161_0 kb157_0 kb161_0 (own_ch x0 (24 : Int32)) (own_ch x0 (32 : Int32)) (own_ch x0 (40 : Int32)) tl_ (own_ch x1 (24 : Int32)) (own_ch x1 (32 : Int32)) (own_ch x1 (40 : Int32)) al_ T242.heap n0 Z247 f270 f271) (by decide) (W := 0) (by decide) (by decide) (by decide) e244 (by rw [hml]; rfl) (argsL := [(.ref b157_0), (.int tl_), (.ref b161_0), (.int al_)]) (lenOf own_pd18 rfl) (rest := []) rfl rfl (Nat.le_of_eq rfl) (hb hby at_206) ?_
      intro _ T269 L269 X269 hQ269
      obtain ⟨rfl, N269q, e269⟩ := hQ269
      have N269 := Fr.app N244 N269q
      show oG p e below _ (T269.setTop (mkF m 209 #[.val (.long x0), .second, .val (.long x1), .second, .val (.int x2), .val (.int (1 : Int32)), .val (.ref b156_0), .val (.ref b157_0), .val (.ref b159_0), .val (.ref b161_0), .val (.int tn_), .val (.int tl_), .val (.int an_), .val (.int al_), .val (.ref b173_0), .val (.ref b191_0), .val (.ref b205_0), .val (.ref b219_0), .val (.ref b225), .val (.ref b236), .unset] [(.int (own_same (own_ch x0 (24 : Int32)) (own_ch x0 (32 : Int32)) (own_ch x0 (40 : Int32)) tl_ (own_ch x1 (24 : Int32)) (own_ch x1 (32 : Int32)) (own_ch x1 (40 : Int32)) al_))]))
      rcases Classical.em ((own_same (own_ch x0 (24 : Int32)) (own_ch x0 (32 : Int32)) (own_ch x0 (40 : Int32)) tl_ (own_ch x1 (24 : Int32)) (own_ch x1 (32 : Int32)) (own_ch x1 (40 : Int32)) al_) = (0 : Int32)) with c272 | c272
      · skip
        refine og (fun _ hr => XS.ifYes X269.here hx rfl (pc0 := 209) (pc' := 216) rfl (hb hby at_209) rfl ((if0 _ _).trans (teq c272).1) (by decide) (by decide) hr) ?_
        show oG p e below _ (T269.setTop (mkF m 216 #[.val (.long x0), .second, .val (.long x1), .second, .val (.int x2), .val (.int (1 : Int32)), .val (.ref b156_0), .val (.ref b157_0), .val (.ref b159_0), .val (.ref b161_0), .val (.int tn_), .val (.int tl_), .val (.int an_), .val (.int al_), .val (.ref b173_0), .val (.ref b191_0), .val (.ref b205_0), .val (.ref b219_0), .val (.ref b225), .val (.ref b236), .unset] []))
        refine og (fun _ hr => XS.iconst X269.here hx rfl (hb hby at_216) (XS.istore X269.here hx rfl (hb hby at_217) rfl (l' := #[.val (.long x0), .second, .val (.long x1), .second, .val (.int x2), .val (.int (1 : Int32)), .val (.ref b156_0), .val (.ref b157_0), .val (.ref b159_0), .val (.ref b161_0), .val (.int tn_), .val (.int tl_), .val (.int an_), .val (.int al_), .val (.ref b173_0), .val (.ref b191_0), .val (.ref b205_0), .val (.ref b219_0), .val (.ref b225), .val (.ref b236), .val (.int (0 : Int32))]) rfl (XS.aload X269.here hx rfl (hb hby at_219) rfl rfl (XS.aload X269.here hx rfl (hb hby at_221) rfl rfl (XS.aload X269.here hx rfl (hb hby at_223) rfl rfl hr))))) ?_
        show oG p e below _ (T269.setTop (mkF m 225 #[.val (.long x0), .second, .val (.long x1), .second, .val (.int x2), .val (.int (1 : Int32)), .val (.ref b156_0), .val (.ref b157_0), .val (.ref b159_0), .val (.ref b161_0), .val (.int tn_), .val (.int tl_), .val (.int an_), .val (.int al_), .val (.ref b173_0), .val (.ref b191_0), .val (.ref b205_0), .val (.ref b219_0), .val (.ref b225), .val (.ref b236), .val (.int (0 : Int32))] [(.ref b219_0), (.ref b205_0), (.ref b236)]))
        have c273 : ¬ ((own_leq (own_ch x1 (0 : Int32)) (own_ch x1 (8 : Int32)) (own_ch x1 (16 : Int32)) an_ (own_ch x0 (0 : Int32)) (own_ch x0 (8 : Int32)) (own_ch x0 (16 : Int32)) tn_) = (0 : Int32)) := by rw [own_leq_same (own_ch x1 (0 : Int32)) (own_ch x1 (8 : Int32)) (own_ch x1 (16 : Int32)) an_ (own_ch x0 (0 : Int32)) (own_ch x0 (8 : Int32)) (own_ch x0 (16 : Int32)) tn_ (own_rg c199 c200) (own_rg c201 c202) (own_rg c203 c204) (own_rg c167 c168) (own_rg c169 c170) (own_rg c171 c172) (own_four c197 c198) (own_four c165 c166), own_same_comm]; exact c248
        have c274 : (own_leq (own_ch x1 (24 : Int32)) (own_ch x1 (32 : Int32)) (own_ch x1 (40 : Int32)) al_ (own_ch x0 (24 : Int32)) (own_ch x0 (32 : Int32)) (own_ch x0 (40 : Int32)) tl_) = (0 : Int32) := by rw [own_leq_same (own_ch x1 (24 : Int32)) (own_ch x1 (32 : Int32)) (own_ch x1 (40 : Int32)) al_ (own_ch x0 (24 : Int32)) (own_ch x0 (32 : Int32)) (own_ch x0 (40 : Int32)) tl_ (own_rg c213 c214) (own_rg c215 c216) (own_rg c217 c218) (own_rg c185 c186) (own_rg c187 c188) (own_rg c189 c190) (own_four c211 c212) (own_four c183 c184), own_same_comm]; exact c272
        have f276 := (((((((f173_0.keep K191).keep K205).keep K219).ext E225).keep K234).ext E236).keep K242)
        have f277 := (own_sta_keep ((own_sta_keep ((own_sta_keep f220 K219 all0).ext E225) K234 (allS (own_ns_exa A225) all0)).ext E236) K242 (allS (own_ns_exa A236) all0))
        have f278 := (((((f205_1.keep K219 nin0).ext E225).keep K234 (ninS (Nat.ne_of_lt (Nat.lt_of_lt_of_le (f205_0.keep K219).lt (Nat.le_of_eq g225.symm))) nin0)).ext E236).keep K242 (ninS (Nat.ne_of_lt (Nat.lt_of_lt_of_le (((f205_0.keep K219).ext E225).keep K234).lt (Nat.le_of_eq g236.symm))) nin0))
        have f279 := (((((((f173_1.keep K191 nin0).keep K205 nin0).keep K219 nin0).ext E225).keep K234 (ninS (Nat.ne_of_lt (Nat.lt_of_lt_of_le (((f173_0.keep K191).keep K205).keep K219).lt (Nat.le_of_eq g225.symm))) nin0)).ext E236).keep K242 (ninS (Nat.ne_of_lt (Nat.lt_of_lt_of_le (((((f173_0.keep K191).keep K205).keep K219).ext E225).keep K234).lt (Nat.le_of_eq g236.symm))) nin0))
        have f280 := (((((f205_2.keep K219 nin0).ext E225).keep K234 (ninS (Nat.ne_of_lt (Nat.lt_of_lt_of_le (f205_0.keep K219).lt (Nat.le_of_eq g225.symm))) nin0)).ext E236).keep K242 (ninS (Nat.ne_of_lt (Nat.lt_of_lt_of_le (((f205_0.keep K219).ext E225).keep K234).lt (Nat.le_of_eq g236.symm))) nin0))
        have f281 := (((((((f173_2.keep K191 nin0).keep K205 nin0).keep K219 nin0).ext E225).keep K234 (ninS (Nat.ne_of_lt (Nat.lt_of_lt_of_le (((f173_0.keep K191).keep K205).keep K219).lt (Nat.le_of_eq g225.symm))) nin0)).ext E236).keep K242 (ninS (Nat.ne_of_lt (Nat.lt_of_lt_of_le (((((f173_0.keep K191).keep K205).keep K219).ext E225).keep K234).lt (Nat.le_of_eq g236.symm))) nin0))
        have f282 := (((((f205_3.keep K219 nin0).ext E225).keep K234 (ninS (Nat.ne_of_lt (Nat.lt_of_lt_of_le (f205_3.keep K219 nin0).lt (Nat.le_of_eq g225.symm))) nin0)).ext E236).keep K242 (ninS (Nat.ne_of_lt (Nat.lt_of_lt_of_le (((f205_3.keep K219 nin0).ext E225).keep K234 (ninS (Nat.ne_of_lt (Nat.lt_of_lt_of_le (f205_3.keep K219 nin0).lt (Nat.le_of_eq g225.symm))) nin0)).lt (Nat.le_of_eq g236.symm))) nin0))
        have f283 := (((((((f173_3.keep K191 nin0).keep K205 nin0).keep K219 nin0).ext E225).keep K234 (ninS (Nat.ne_of_lt (Nat.lt_of_lt_of_le (((f173_3.keep K191 nin0).keep K205 nin0).keep K219 nin0).lt (Nat.le_of_eq g225.symm))) nin0)).ext E236).keep K242 (ninS (Nat.ne_of_lt (Nat.lt_of_lt_of_le (((((f173_3.keep K191 nin0).keep K205 nin0).keep K219 nin0).ext E225).keep K234 (ninS (Nat.ne_of_lt (Nat.lt_of_lt_of_le (((f173_3.keep K191 nin0).keep K205 nin0).keep K219 nin0).lt (Nat.le_of_eq g225.symm))) nin0)).lt (Nat.le_of_eq g236.symm))) nin0))
        have f284 := (((((f205_0.keep K219).ext E225).keep K234).ext E236).keep K242)
        have f285 := ((((((f191_0.keep K205).keep K219).ext E225).keep K234).ext E236).keep K242)
        have f286 := ((((f219_1.ext E225).keep K234 (ninS (Nat.ne_of_lt (Nat.lt_of_lt_of_le f219_0.lt (Nat.le_of_eq g225.symm))) nin0)).ext E236).keep K242 (ninS (Nat.ne_of_lt (Nat.lt_of_lt_of_le ((f219_0.ext E225).keep K234).lt (Nat.le_of_eq g236.symm))) nin0))
        have f287 := ((((((f191_1.keep K205 nin0).keep K219 nin0).ext E225).keep K234 (ninS (Nat.ne_of_lt (Nat.lt_of_lt_of_le ((f191_0.keep K205).keep K219).lt (Nat.le_of_eq g225.symm))) nin0)).ext E236).keep K242 (ninS (Nat.ne_of_lt (Nat.lt_of_lt_of_le ((((f191_0.keep K205).keep K219).ext E225).keep K234).lt (Nat.le_of_eq g236.symm))) nin0))
        have f288 := ((((f219_2.ext E225).keep K234 (ninS (Nat.ne_of_lt (Nat.lt_of_lt_of_le f219_0.lt (Nat.le_of_eq g225.symm))) nin0)).ext E236).keep K242 (ninS (Nat.ne_of_lt (Nat.lt_of_lt_of_le ((f219_0.ext E225).keep K234).lt (Nat.le_of_eq g236.symm))) nin0))
        have f289 := ((((((f191_2.keep K205 nin0).keep K219 nin0).ext E225).keep K234 (ninS (Nat.ne_of_lt (Nat.lt_of_lt_of_le ((f191_0.keep K205).keep K219).lt (Nat.le_of_eq g225.symm))) nin0)).ext E236).keep K242 (ninS (Nat.ne_of_lt (Nat.lt_of_lt_of_le ((((f191_0.keep K205).keep K219).ext E225).keep K234).lt (Nat.le_of_eq g236.symm))) nin0))
        have f290 := ((((f219_3.ext E225).keep K234 (ninS (Nat.ne_of_lt (Nat.lt_of_lt_of_le f219_3.lt (Nat.le_of_eq g225.symm))) nin0)).ext E236).keep K242 (ninS (Nat.ne_of_lt (Nat.lt_of_lt_of_le ((f219_3.ext E225).keep K234 (ninS (Nat.ne_of_lt (Nat.lt_of_lt_of_le f219_3.lt (Nat.le_of_eq g225.symm))) nin0)).lt (Nat.le_of_eq g236.symm))) nin0))
        have f291 := ((((((f191_3.keep K205 nin0).keep K219 nin0).ext E225).keep K234 (ninS (Nat.ne_of_lt (Nat.lt_of_lt_of_le ((f191_3.keep K205 nin0).keep K219 nin0).lt (Nat.le_of_eq g225.symm))) nin0)).ext E236).keep K242 (ninS (Nat.ne_of_lt (Nat.lt_of_lt_of_le ((((f191_3.keep K205 nin0).keep K219 nin0).ext E225).keep K234 (ninS (Nat.ne_of_lt (Nat.lt_of_lt_of_le ((f191_3.keep K205 nin0).keep K219 nin0).lt (Nat.le_of_eq g225.symm))) nin0)).lt (Nat.le_of_eq g236.symm))) nin0))
        have f292 := ((((f219_0.ext E225).keep K234).ext E236).keep K242)
        have f293 := (A236.keep K242)
        refine own_cv X269 hx hZ hown (notFace_of_selects (args := #[]) (mvT hZ (hw _ (own_m 52 rfl)))) (hw _ (own_m 49 rfl)) (hw _ (own_m 50 rfl)) (hw _ (own_m 52 rfl)) (hw _ (own_m 51 rfl)) (hw _ (own_m 33 rfl)) (hw _ (own_m 53 rfl)) (by decide) f293 (rm := { frames := 2, cells := 0, slots := 0, locals := 28 }) (rm_admits_36 l Z a0 hw [] b236 b205_0 b219_0 b225 b173_0 i_COMPACT_STRINGS b205_1 b173_1 an_ (own_ch x1 (0 : Int32)) (own_ch x1 (8 : Int32)) (own_ch x1 (16 : Int32)) kb205_0 tn_ (own_ch x0 (0 : Int32)) (own_ch x0 (8 : Int32)) (own_ch x0 (16 : Int32)) kb173_0 b191_0 b219_1 b191_1 al_ (own_ch x1 (24 : Int32)) (own_ch x1 (32 : Int32)) (own_ch x1 (40 : Int32)) kb219_0 tl_ (own_ch x0 (24 : Int32)) (own_ch x0 (32 : Int32)) (own_ch x0 (40 : Int32)) kb191_0 T242.heap n0 Z247 f242_2 f242_1 f276 f277 f278 f279 f280 f281 f282 f283 f284 f242_0 f285 f286 f287 f288 f289 f290 f291 f292 (Ne.symm (Nat.ne_of_lt (Nat.lt_of_lt_of_le (f173_0.keep K191).lt sz205_0))) (Ne.symm (Nat.ne_of_lt (Nat.lt_of_lt_of_le (f191_0.keep K205).lt sz219_0))) hs_COMPACT_STRINGS c197 c198 c165 c166 c273 c211 c212 c183 c184 c274) (by decide) (W := 0) (by decide) (by decide) (by decide) e269 (by rw [hml]; rfl) (argsL := [(.ref b205_0), (.ref b219_0)]) (lenOf own_pd14 rfl) (rest := []) rfl rfl (Nat.le_of_eq rfl) (hb hby at_225) ?_
        intro _ T275 L275 X275 hQ275
        obtain ⟨rfl, N275q, e275⟩ := hQ275
        have N275 := Fr.app N269 N275q
        show oG p e below _ (T275.setTop (mkF m 228 #[.val (.long x0), .second, .val (.long x1), .second, .val (.int x2), .val (.int (1 : Int32)), .val (.ref b156_0), .val (.ref b157_0), .val (.ref b159_0), .val (.ref b161_0), .val (.int tn_), .val (.int tl_), .val (.int an_), .val (.int al_), .val (.ref b173_0), .val (.ref b191_0), .val (.ref b205_0), .val (.ref b219_0), .val (.ref b225), .val (.ref b236), .val (.int (0 : Int32))] [(.int (0 : Int32))]))
        refine og (fun _ hr => XS.iload X275.here hx rfl (hb hby at_228) rfl (XS.icmpNo X275.here hx rfl (hb hby at_230) rfl (teq (by decide)).2 (XS.iconst X275.here hx rfl (hb hby at_233) (XS.goto X275.here hx rfl (pc0 := 234) (pc' := 238) rfl (hb hby at_234) (by decide) (by decide) hr)))) ?_
        show oG p e below _ (T275.setTop (mkF m 238 #[.val (.long x0), .second, .val (.long x1), .second, .val (.int x2), .val (.int (1 : Int32)), .val (.ref b156_0), .val (.ref b157_0), .val (.ref b159_0), .val (.ref b161_0), .val (.int tn_), .val (.int tl_), .val (.int an_), .val (.int al_), .val (.ref b173_0), .val (.ref b191_0), .val (.ref b205_0), .val (.ref b219_0), .val (.ref b225), .val (.ref b236), .val (.int (0 : Int32))] [(.int (1 : Int32))]))
        have hk294 := (Nat.le_trans (Nat.le_trans (Nat.le_trans (Nat.le_trans (Nat.le_refl _) E225.1) K234.1) E236.1) K242.1)
        have A295 := A224.trans Ac219
        have A296 := A295.trans (CHr.ext E225 A295.1)
        have sf298 := (Safe.ext E225 A295.1 (Safe.new (Nat.le_of_eq g225.symm)))
        have A297 := A296.trans (CHr.keep K234 (sfS sf298 sf0) A296.1)
        have A299 := A297.trans (CHr.ext E236 A297.1)
        have sf301 := (Safe.ext E236 A297.1 (Safe.new (Nat.le_of_eq g236.symm)))
        have A300 := A299.trans (CHr.keep K242 (sfS sf301 sf0) A299.1)
        exact own_retNW X275 hx hlk Bd.returns hS hk294 hZ hEL hh e275 A300 (t := .boolean) (by simp) (hb hby at_238) (by decide) (by decide) ⟨rfl, N275⟩
      refine og (fun _ hr => XS.ifNo X269.here hx rfl (hb hby at_209) rfl ((if0 _ _).trans (feq c272).1) hr) ?_
      show oG p e below _ (T269.setTop (mkF m 212 #[.val (.long x0), .second, .val (.long x1), .second, .val (.int x2), .val (.int (1 : Int32)), .val (.ref b156_0), .val (.ref b157_0), .val (.ref b159_0), .val (.ref b161_0), .val (.int tn_), .val (.int tl_), .val (.int an_), .val (.int al_), .val (.ref b173_0), .val (.ref b191_0), .val (.ref b205_0), .val (.ref b219_0), .val (.ref b225), .val (.ref b236), .unset] []))
      refine og (fun _ hr => XS.iconst X269.here hx rfl (hb hby at_212) (XS.goto X269.here hx rfl (pc0 := 213) (pc' := 217) rfl (hb hby at_213) (by decide) (by decide) (XS.istore X269.here hx rfl (hb hby at_217) rfl (l' := #[.val (.long x0), .second, .val (.long x1), .second, .val (.int x2), .val (.int (1 : Int32)), .val (.ref b156_0), .val (.ref b157_0), .val (.ref b159_0), .val (.ref b161_0), .val (.int tn_), .val (.int tl_), .val (.int an_), .val (.int al_), .val (.ref b173_0), .val (.ref b191_0), .val (.ref b205_0), .val (.ref b219_0), .val (.ref b225), .val (.ref b236), .val (.int (1 : Int32))]) rfl (XS.aload X269.here hx rfl (hb hby at_219) rfl rfl (XS.aload X269.here hx rfl (hb hby at_221) rfl rfl (XS.aload X269.here hx rfl (hb hby at_223) rfl rfl hr)))))) ?_
      show oG p e below _ (T269.setTop (mkF m 225 #[.val (.long x0), .second, .val (.long x1), .second, .val (.int x2), .val (.int (1 : Int32)), .val (.ref b156_0), .val (.ref b157_0), .val (.ref b159_0), .val (.ref b161_0), .val (.int tn_), .val (.int tl_), .val (.int an_), .val (.int al_), .val (.ref b173_0), .val (.ref b191_0), .val (.ref b205_0), .val (.ref b219_0), .val (.ref b225), .val (.ref b236), .val (.int (1 : Int32))] [(.ref b219_0), (.ref b205_0), (.ref b236)]))
      have c302 : ¬ ((own_leq (own_ch x1 (0 : Int32)) (own_ch x1 (8 : Int32)) (own_ch x1 (16 : Int32)) an_ (own_ch x0 (0 : Int32)) (own_ch x0 (8 : Int32)) (own_ch x0 (16 : Int32)) tn_) = (0 : Int32)) := by rw [own_leq_same (own_ch x1 (0 : Int32)) (own_ch x1 (8 : Int32)) (own_ch x1 (16 : Int32)) an_ (own_ch x0 (0 : Int32)) (own_ch x0 (8 : Int32)) (own_ch x0 (16 : Int32)) tn_ (own_rg c199 c200) (own_rg c201 c202) (own_rg c203 c204) (own_rg c167 c168) (own_rg c169 c170) (own_rg c171 c172) (own_four c197 c198) (own_four c165 c166), own_same_comm]; exact c248
      have c303 : ¬ ((own_leq (own_ch x1 (24 : Int32)) (own_ch x1 (32 : Int32)) (own_ch x1 (40 : Int32)) al_ (own_ch x0 (24 : Int32)) (own_ch x0 (32 : Int32)) (own_ch x0 (40 : Int32)) tl_) = (0 : Int32)) := by rw [own_leq_same (own_ch x1 (24 : Int32)) (own_ch x1 (32 : Int32)) (own_ch x1 (40 : Int32)) al_ (own_ch x0 (24 : Int32)) (own_ch x0 (32 : Int32)) (own_ch x0 (40 : Int32)) tl_ (own_rg c213 c214) (own_rg c215 c216) (own_rg c217 c218) (own_rg c185 c186) (own_rg c187 c188) (own_rg c189 c190) (own_four c211 c212) (own_four c183 c184), own_same_comm]; exact c272
      have f305 := (((((((f173_0.keep K191).keep K205).keep K219).ext E225).keep K234).ext E236).keep K242)
      have f306 := (own_sta_keep ((own_sta_keep ((own_sta_keep f220 K219 all0).ext E225) K234 (allS (own_ns_exa A225) all0)).ext E236) K242 (allS (own_ns_exa A236) all0))
      have f307 := (((((f205_1.keep K219 nin0).ext E225).keep K234 (ninS (Nat.ne_of_lt (Nat.lt_of_lt_of_le (f205_0.keep K219).lt (Nat.le_of_eq g225.symm))) nin0)).ext E236).keep K242 (ninS (Nat.ne_of_lt (Nat.lt_of_lt_of_le (((f205_0.keep K219).ext E225).keep K234).lt (Nat.le_of_eq g236.symm))) nin0))
      have f308 := (((((((f173_1.keep K191 nin0).keep K205 nin0).keep K219 nin0).ext E225).keep K234 (ninS (Nat.ne_of_lt (Nat.lt_of_lt_of_le (((f173_0.keep K191).keep K205).keep K219).lt (Nat.le_of_eq g225.symm))) nin0)).ext E236).keep K242 (ninS (Nat.ne_of_lt (Nat.lt_of_lt_of_le (((((f173_0.keep K191).keep K205).keep K219).ext E225).keep K234).lt (Nat.le_of_eq g236.symm))) nin0))
      have f309 := (((((f205_2.keep K219 nin0).ext E225).keep K234 (ninS (Nat.ne_of_lt (Nat.lt_of_lt_of_le (f205_0.keep K219).lt (Nat.le_of_eq g225.symm))) nin0)).ext E236).keep K242 (ninS (Nat.ne_of_lt (Nat.lt_of_lt_of_le (((f205_0.keep K219).ext E225).keep K234).lt (Nat.le_of_eq g236.symm))) nin0))
      have f310 := (((((((f173_2.keep K191 nin0).keep K205 nin0).keep K219 nin0).ext E225).keep K234 (ninS (Nat.ne_of_lt (Nat.lt_of_lt_of_le (((f173_0.keep K191).keep K205).keep K219).lt (Nat.le_of_eq g225.symm))) nin0)).ext E236).keep K242 (ninS (Nat.ne_of_lt (Nat.lt_of_lt_of_le (((((f173_0.keep K191).keep K205).keep K219).ext E225).keep K234).lt (Nat.le_of_eq g236.symm))) nin0))
      have f311 := (((((f205_3.keep K219 nin0).ext E225).keep K234 (ninS (Nat.ne_of_lt (Nat.lt_of_lt_of_le (f205_3.keep K219 nin0).lt (Nat.le_of_eq g225.symm))) nin0)).ext E236).keep K242 (ninS (Nat.ne_of_lt (Nat.lt_of_lt_of_le (((f205_3.keep K219 nin0).ext E225).keep K234 (ninS (Nat.ne_of_lt (Nat.lt_of_lt_of_le (f205_3.keep K219 nin0).lt (Nat.le_of_eq g225.symm))) nin0)).lt (Nat.le_of_eq g236.symm))) nin0))
      have f312 := (((((((f173_3.keep K191 nin0).keep K205 nin0).keep K219 nin0).ext E225).keep K234 (ninS (Nat.ne_of_lt (Nat.lt_of_lt_of_le (((f173_3.keep K191 nin0).keep K205 nin0).keep K219 nin0).lt (Nat.le_of_eq g225.symm))) nin0)).ext E236).keep K242 (ninS (Nat.ne_of_lt (Nat.lt_of_lt_of_le (((((f173_3.keep K191 nin0).keep K205 nin0).keep K219 nin0).ext E225).keep K234 (ninS (Nat.ne_of_lt (Nat.lt_of_lt_of_le (((f173_3.keep K191 nin0).keep K205 nin0).keep K219 nin0).lt (Nat.le_of_eq g225.symm))) nin0)).lt (Nat.le_of_eq g236.symm))) nin0))
      have f313 := (((((f205_0.keep K219).ext E225).keep K234).ext E236).keep K242)
      have f314 := ((((((f191_0.keep K205).keep K219).ext E225).keep K234).ext E236).keep K242)
      have f315 := ((((f219_1.ext E225).keep K234 (ninS (Nat.ne_of_lt (Nat.lt_of_lt_of_le f219_0.lt (Nat.le_of_eq g225.symm))) nin0)).ext E236).keep K242 (ninS (Nat.ne_of_lt (Nat.lt_of_lt_of_le ((f219_0.ext E225).keep K234).lt (Nat.le_of_eq g236.symm))) nin0))
      have f316 := ((((((f191_1.keep K205 nin0).keep K219 nin0).ext E225).keep K234 (ninS (Nat.ne_of_lt (Nat.lt_of_lt_of_le ((f191_0.keep K205).keep K219).lt (Nat.le_of_eq g225.symm))) nin0)).ext E236).keep K242 (ninS (Nat.ne_of_lt (Nat.lt_of_lt_of_le ((((f191_0.keep K205).keep K219).ext E225).keep K234).lt (Nat.le_of_eq g236.symm))) nin0))
      have f317 := ((((f219_2.ext E225).keep K234 (ninS (Nat.ne_of_lt (Nat.lt_of_lt_of_le f219_0.lt (Nat.le_of_eq g225.symm))) nin0)).ext E236).keep K242 (ninS (Nat.ne_of_lt (Nat.lt_of_lt_of_le ((f219_0.ext E225).keep K234).lt (Nat.le_of_eq g236.symm))) nin0))
      have f318 := ((((((f191_2.keep K205 nin0).keep K219 nin0).ext E225).keep K234 (ninS (Nat.ne_of_lt (Nat.lt_of_lt_of_le ((f191_0.keep K205).keep K219).lt (Nat.le_of_eq g225.symm))) nin0)).ext E236).keep K242 (ninS (Nat.ne_of_lt (Nat.lt_of_lt_of_le ((((f191_0.keep K205).keep K219).ext E225).keep K234).lt (Nat.le_of_eq g236.symm))) nin0))
      have f319 := ((((f219_3.ext E225).keep K234 (ninS (Nat.ne_of_lt (Nat.lt_of_lt_of_le f219_3.lt (Nat.le_of_eq g225.symm))) nin0)).ext E236).keep K242 (ninS (Nat.ne_of_lt (Nat.lt_of_lt_of_le ((f219_3.ext E225).keep K234 (ninS (Nat.ne_of_lt (Nat.lt_of_lt_of_le f219_3.lt (Nat.le_of_eq g225.symm))) nin0)).lt (Nat.le_of_eq g236.symm))) nin0))
      have f320 := ((((((f191_3.keep K205 nin0).keep K219 nin0).ext E225).keep K234 (ninS (Nat.ne_of_lt (Nat.lt_of_lt_of_le ((f191_3.keep K205 nin0).keep K219 nin0).lt (Nat.le_of_eq g225.symm))) nin0)).ext E236).keep K242 (ninS (Nat.ne_of_lt (Nat.lt_of_lt_of_le ((((f191_3.keep K205 nin0).keep K219 nin0).ext E225).keep K234 (ninS (Nat.ne_of_lt (Nat.lt_of_lt_of_le ((f191_3.keep K205 nin0).keep K219 nin0).lt (Nat.le_of_eq g225.symm))) nin0)).lt (Nat.le_of_eq g236.symm))) nin0))
      have f321 := ((((f219_0.ext E225).keep K234).ext E236).keep K242)
      have f322 := (A236.keep K242)
      refine own_cv X269 hx hZ hown (notFace_of_selects (args := #[]) (mvT hZ (hw _ (own_m 52 rfl)))) (hw _ (own_m 49 rfl)) (hw _ (own_m 50 rfl)) (hw _ (own_m 52 rfl)) (hw _ (own_m 51 rfl)) (hw _ (own_m 33 rfl)) (hw _ (own_m 53 rfl)) (by decide) f322 (rm := { frames := 2, cells := 0, slots := 0, locals := 28 }) (rm_admits_37 l Z a0 hw [] b236 b205_0 b219_0 b225 b173_0 i_COMPACT_STRINGS b205_1 b173_1 an_ (own_ch x1 (0 : Int32)) (own_ch x1 (8 : Int32)) (own_ch x1 (16 : Int32)) kb205_0 tn_ (own_ch x0 (0 : Int32)) (own_ch x0 (8 : Int32)) (own_ch x0 (16 : Int32)) kb173_0 b191_0 b219_1 b191_1 al_ (own_ch x1 (24 : Int32)) (own_ch x1 (32 : Int32)) (own_ch x1 (40 : Int32)) kb219_0 tl_ (own_ch x0 (24 : Int32)) (own_ch x0 (32 : Int32)) (own_ch x0 (40 : Int32)) kb191_0 T242.heap n0 Z247 f242_2 f242_1 f305 f306 f307 f308 f309 f310 f311 f312 f313 f242_0 f314 f315 f316 f317 f318 f319 f320 f321 (Ne.symm (Nat.ne_of_lt (Nat.lt_of_lt_of_le (f173_0.keep K191).lt sz205_0))) (Ne.symm (Nat.ne_of_lt (Nat.lt_of_lt_of_le (f191_0.keep K205).lt sz219_0))) hs_COMPACT_STRINGS c197 c198 c165 c166 c302 c211 c212 c183 c184 c303) (by decide) (W := 0) (by decide) (by decide) (by decide) e269 (by rw [hml]; rfl) (argsL := [(.ref b205_0), (.ref b219_0)]) (lenOf own_pd14 rfl) (rest := []) rfl rfl (Nat.le_of_eq rfl) (hb hby at_225) ?_
      intro _ T304 L304 X304 hQ304
      obtain ⟨rfl, N304q, e304⟩ := hQ304
      have N304 := Fr.app N269 N304q
      show oG p e below _ (T304.setTop (mkF m 228 #[.val (.long x0), .second, .val (.long x1), .second, .val (.int x2), .val (.int (1 : Int32)), .val (.ref b156_0), .val (.ref b157_0), .val (.ref b159_0), .val (.ref b161_0), .val (.int tn_), .val (.int tl_), .val (.int an_), .val (.int al_), .val (.ref b173_0), .val (.ref b191_0), .val (.ref b205_0), .val (.ref b219_0), .val (.ref b225), .val (.ref b236), .val (.int (1 : Int32))] [(.int (1 : Int32))]))
      refine og (fun _ hr => XS.iload X304.here hx rfl (hb hby at_228) rfl (XS.icmpNo X304.here hx rfl (hb hby at_230) rfl (teq (by decide)).2 (XS.iconst X304.here hx rfl (hb hby at_233) (XS.goto X304.here hx rfl (pc0 := 234) (pc' := 238) rfl (hb hby at_234) (by decide) (by decide) hr)))) ?_
      show oG p e below _ (T304.setTop (mkF m 238 #[.val (.long x0), .second, .val (.long x1), .second, .val (.int x2), .val (.int (1 : Int32)), .val (.ref b156_0), .val (.ref b157_0), .val (.ref b159_0), .val (.ref b161_0), .val (.int tn_), .val (.int tl_), .val (.int an_), .val (.int al_), .val (.ref b173_0), .val (.ref b191_0), .val (.ref b205_0), .val (.ref b219_0), .val (.ref b225), .val (.ref b236), .val (.int (1 : Int32))] [(.int (1 : Int32))]))
      have hk323 := (Nat.le_trans (Nat.le_trans (Nat.le_trans (Nat.le_trans (Nat.le_refl _) E225.1) K234.1) E236.1) K242.1)
      have A324 := A224.trans Ac219
      have A325 := A324.trans (CHr.ext E225 A324.1)
      have sf327 := (Safe.ext E225 A324.1 (Safe.new (Nat.le_of_eq g225.symm)))
      have A326 := A325.trans (CHr.keep K234 (sfS sf327 sf0) A325.1)
      have A328 := A326.trans (CHr.ext E236 A326.1)
      have sf330 := (Safe.ext E236 A326.1 (Safe.new (Nat.le_of_eq g236.symm)))
      have A329 := A328.trans (CHr.keep K242 (sfS sf330 sf0) A328.1)
      exact own_retNW X304 hx hlk Bd.returns hS hk323 hZ hEL hh e304 A329 (t := .boolean) (by simp) (hb hby at_238) (by decide) (by decide) ⟨rfl, N304⟩
    refine og (fun _ hr => XS.ifNo X161.here hx rfl (hb hby at_107) rfl ((if0 _ _).trans (feq c164).1) hr) ?_
    show oG p e below _ (T161.setTop (mkF m 110 #[.val (.long x0), .second, .val (.long x1), .second, .val (.int x2), .val (.int (1 : Int32)), .val (.ref b156_0), .val (.ref b157_0), .val (.ref b159_0), .val (.ref b161_0), .val (.int tn_), .val (.int tl_), .val (.int an_), .val (.int al_), .unset, .unset, .unset, .unset, .unset, .unset, .unset] []))
    refine og (fun _ hr => XS.aload X161.here hx rfl (hb hby at_110) rfl rfl (XS.astore X161.here hx rfl (hb hby at_112) rfl rfl (l' := #[.val (.long x0), .second, .val (.long x1), .second, .val (.int x2), .val (.int (1 : Int32)), .val (.ref b156_0), .val (.ref b157_0), .val (.ref b159_0), .val (.ref b157_0), .val (.int tn_), .val (.int tl_), .val (.int an_), .val (.int al_), .unset, .unset, .unset, .unset, .unset, .unset, .unset]) rfl (XS.iload X161.here hx rfl (hb hby at_114) rfl (XS.istore X161.here hx rfl (hb hby at_116) rfl (l' := #[.val (.long x0), .second, .val (.long x1), .second, .val (.int x2), .val (.int (1 : Int32)), .val (.ref b156_0), .val (.ref b157_0), .val (.ref b159_0), .val (.ref b157_0), .val (.int tn_), .val (.int tl_), .val (.int an_), .val (.int tl_), .unset, .unset, .unset, .unset, .unset, .unset, .unset]) rfl (XS.aload X161.here hx rfl (hb hby at_118) rfl rfl (XS.iload X161.here hx rfl (hb hby at_120) rfl hr)))))) ?_
    show oG p e below _ (T161.setTop (mkF m 122 #[.val (.long x0), .second, .val (.long x1), .second, .val (.int x2), .val (.int (1 : Int32)), .val (.ref b156_0), .val (.ref b157_0), .val (.ref b159_0), .val (.ref b157_0), .val (.int tn_), .val (.int tl_), .val (.int an_), .val (.int tl_), .unset, .unset, .unset, .unset, .unset, .unset, .unset] [(.int tn_), (.ref b156_0)]))
    have c331 : ¬ (tn_ < (0 : Int32)) := by
      have q0 := rng32 x2
      have q1 := c_mask x2 (1 : Int32) 1 (by decide) (by decide)
      have q2 := c_iushr x2 (9 : Int32) 9 (by decide) (by decide)
      have q3 := c_mask ((x2.toUInt32 >>> ((9 : Int32) &&& 31).toUInt32).toInt32) (1 : Int32) 1 (by decide) (by decide)
      have q4 := c_iushr x2 (10 : Int32) 10 (by decide) (by decide)
      have q5 := c_mask ((x2.toUInt32 >>> ((10 : Int32) &&& 31).toUInt32).toInt32) (1 : Int32) 1 (by decide) (by decide)
      have q6 := c_iushr x2 (1 : Int32) 1 (by decide) (by decide)
      have q7 := c_mask ((x2.toUInt32 >>> ((1 : Int32) &&& 31).toUInt32).toInt32) (3 : Int32) 2 (by decide) (by decide)
      have q8 := congrArg Int32.toInt htn_
      have p0 := c1
      have p1 := c163
      have p2 := c164
      simp only [true_implies, Int32.lt_iff_toInt_lt, ← Int32.toInt_inj, Int32.reduceToInt, Int64.lt_iff_toInt_lt, ← Int64.toInt_inj, Int64.reduceToInt] at q0 q1 q2 q3 q4 q5 q6 q7 q8 p0 p1 p2 ⊢
      omega
    have c332 : ¬ ((3 : Int32) < tn_) := by
      have q0 := rng32 x2
      have q1 := c_mask x2 (1 : Int32) 1 (by decide) (by decide)
      have q2 := c_iushr x2 (9 : Int32) 9 (by decide) (by decide)
      have q3 := c_mask ((x2.toUInt32 >>> ((9 : Int32) &&& 31).toUInt32).toInt32) (1 : Int32) 1 (by decide) (by decide)
      have q4 := c_iushr x2 (10 : Int32) 10 (by decide) (by decide)
      have q5 := c_mask ((x2.toUInt32 >>> ((10 : Int32) &&& 31).toUInt32).toInt32) (1 : Int32) 1 (by decide) (by decide)
      have q6 := c_iushr x2 (1 : Int32) 1 (by decide) (by decide)
      have q7 := c_mask ((x2.toUInt32 >>> ((1 : Int32) &&& 31).toUInt32).toInt32) (3 : Int32) 2 (by decide) (by decide)
      have q8 := congrArg Int32.toInt htn_
      have p0 := c1
      have p1 := c163
      have p2 := c164
      have p3 := c331
      simp only [true_implies, Int32.lt_iff_toInt_lt, ← Int32.toInt_inj, Int32.reduceToInt, Int64.lt_iff_toInt_lt, ← Int64.toInt_inj, Int64.reduceToInt] at q0 q1 q2 q3 q4 q5 q6 q7 q8 p0 p1 p2 p3 ⊢
      omega
    have c333 : ¬ ((own_ch x0 (0 : Int32)) < (0 : Int32)) := by
      have q0 := rng64 x0
      have q1 := own_ch_v x0 (0 : Int32)
      simp only [true_implies, Int32.lt_iff_toInt_lt, ← Int32.toInt_inj, Int32.reduceToInt, Int64.lt_iff_toInt_lt, ← Int64.toInt_inj, Int64.reduceToInt] at q0 q1 ⊢
      omega
    have c334 : ¬ ((255 : Int32) < (own_ch x0 (0 : Int32))) := by
      have q0 := rng64 x0
      have q1 := own_ch_v x0 (0 : Int32)
      have p0 := c333
      simp only [true_implies, Int32.lt_iff_toInt_lt, ← Int32.toInt_inj, Int32.reduceToInt, Int64.lt_iff_toInt_lt, ← Int64.toInt_inj, Int64.reduceToInt] at q0 q1 p0 ⊢
      omega
    have c335 : ¬ ((own_ch x0 (8 : Int32)) < (0 : Int32)) := by
      have q0 := rng64 x0
      have q1 := own_ch_v x0 (0 : Int32)
      have q2 := own_ch_v x0 (8 : Int32)
      have p0 := c333
      have p1 := c334
      simp only [true_implies, Int32.lt_iff_toInt_lt, ← Int32.toInt_inj, Int32.reduceToInt, Int64.lt_iff_toInt_lt, ← Int64.toInt_inj, Int64.reduceToInt] at q0 q1 q2 p0 p1 ⊢
      omega
    have c336 : ¬ ((255 : Int32) < (own_ch x0 (8 : Int32))) := by
      have q0 := rng64 x0
      have q1 := own_ch_v x0 (0 : Int32)
      have q2 := own_ch_v x0 (8 : Int32)
      have p0 := c333
      have p1 := c334
      have p2 := c335
      simp only [true_implies, Int32.lt_iff_toInt_lt, ← Int32.toInt_inj, Int32.reduceToInt, Int64.lt_iff_toInt_lt, ← Int64.toInt_inj, Int64.reduceToInt] at q0 q1 q2 p0 p1 p2 ⊢
      omega
    have c337 : ¬ ((own_ch x0 (16 : Int32)) < (0 : Int32)) := by
      have q0 := rng64 x0
      have q1 := own_ch_v x0 (0 : Int32)
      have q2 := own_ch_v x0 (8 : Int32)
      have q3 := own_ch_v x0 (16 : Int32)
      have p0 := c333
      have p1 := c334
      have p2 := c335
      have p3 := c336
      simp only [true_implies, Int32.lt_iff_toInt_lt, ← Int32.toInt_inj, Int32.reduceToInt, Int64.lt_iff_toInt_lt, ← Int64.toInt_inj, Int64.reduceToInt] at q0 q1 q2 q3 p0 p1 p2 p3 ⊢
      omega
    have c338 : ¬ ((255 : Int32) < (own_ch x0 (16 : Int32))) := by
      have q0 := rng64 x0
      have q1 := own_ch_v x0 (0 : Int32)
      have q2 := own_ch_v x0 (8 : Int32)
      have q3 := own_ch_v x0 (16 : Int32)
      have p0 := c333
      have p1 := c334
      have p2 := c335
      have p3 := c336
      have p4 := c337
      simp only [true_implies, Int32.lt_iff_toInt_lt, ← Int32.toInt_inj, Int32.reduceToInt, Int64.lt_iff_toInt_lt, ← Int64.toInt_inj, Int64.reduceToInt] at q0 q1 q2 q3 p0 p1 p2 p3 p4 ⊢
      omega
    have f340 := (own_sta_keep (own_sta_keep (own_sta_keep (own_sta_keep S_COMPACT_STRINGS K156 all0) K157 all0) K159 all0) K161 all0)
    have f341 := (((f156_1.keep K157 nin0).keep K159 nin0).keep K161 nin0)
    have Z342 := (Nat.le_trans Z162 K161.1)
    have hZo343 := hZ
    have A344 := A0.trans (CHr.keep K156 sf0 A0.1)
    have A345 := A344.trans (CHr.keep K157 sf0 A344.1)
    have A346 := A345.trans (CHr.keep K159 sf0 A345.1)
    have A347 := A346.trans (CHr.keep K161 sf0 A346.1)
    have hk348 := (Nat.le_trans (Nat.le_trans (Nat.le_trans (Nat.le_trans hk K156.1) K157.1) K159.1) K161.1)
    refine own_csW X161 hx hZ hown (hw _ (own_m 14 rfl)) (hw _ (own_m 15 rfl)) (hw _ (own_m 2 rfl)) (hw _ (own_m 16 rfl)) (by decide) (rm := { frames := 4, cells := 6, slots := 12, locals := 66 }) (rm_str l Z a0 hw [] b156_0 kb156_0 tn_ (own_ch x0 (0 : Int32)) (own_ch x0 (8 : Int32)) (own_ch x0 (16 : Int32)) i_COMPACT_STRINGS T161.heap n0 Z342 f340 hs_COMPACT_STRINGS f341 c331 c332 c333 c334 c335 c336 c337 c338) (by decide) (W := 0) (by decide) (by decide) (by decide) rfl hEL A347.1 hS hk348 (by rw [hml]; rfl) (argsL := [(.ref b156_0), (.int tn_)]) (lenOf own_pd10 rfl) (rest := []) rfl rfl (Nat.le_of_eq rfl) (hb hby at_122) ?_
    intro _ T339 L339 X339 hQ339 Ac339 hS hZ hown
    obtain ⟨b339_0, b339_1, kb339_0, rfl, N339q, K339, ge339_0, sz339_0, f339_0, f339_1, f339_2, f339_3⟩ := hQ339
    have N339 := Fr.app N161 N339q
    show oG p e below _ (T339.setTop (mkF m 125 #[.val (.long x0), .second, .val (.long x1), .second, .val (.int x2), .val (.int (1 : Int32)), .val (.ref b156_0), .val (.ref b157_0), .val (.ref b159_0), .val (.ref b157_0), .val (.int tn_), .val (.int tl_), .val (.int an_), .val (.int tl_), .unset, .unset, .unset, .unset, .unset, .unset, .unset] [(.ref b339_0)]))
    refine og (fun _ hr => XS.astore X339.here hx rfl (hb hby at_125) rfl rfl (l' := #[.val (.long x0), .second, .val (.long x1), .second, .val (.int x2), .val (.int (1 : Int32)), .val (.ref b156_0), .val (.ref b157_0), .val (.ref b159_0), .val (.ref b157_0), .val (.int tn_), .val (.int tl_), .val (.int an_), .val (.int tl_), .val (.ref b339_0), .unset, .unset, .unset, .unset, .unset, .unset]) rfl (XS.aload X339.here hx rfl (hb hby at_127) rfl rfl (XS.iload X339.here hx rfl (hb hby at_129) rfl hr))) ?_
    show oG p e below _ (T339.setTop (mkF m 131 #[.val (.long x0), .second, .val (.long x1), .second, .val (.int x2), .val (.int (1 : Int32)), .val (.ref b156_0), .val (.ref b157_0), .val (.ref b159_0), .val (.ref b157_0), .val (.int tn_), .val (.int tl_), .val (.int an_), .val (.int tl_), .val (.ref b339_0), .unset, .unset, .unset, .unset, .unset, .unset] [(.int tl_), (.ref b157_0)]))
    have c349 : ¬ (tl_ < (0 : Int32)) := by
      have q0 := rng32 x2
      have q1 := c_mask x2 (1 : Int32) 1 (by decide) (by decide)
      have q2 := c_iushr x2 (9 : Int32) 9 (by decide) (by decide)
      have q3 := c_mask ((x2.toUInt32 >>> ((9 : Int32) &&& 31).toUInt32).toInt32) (1 : Int32) 1 (by decide) (by decide)
      have q4 := c_iushr x2 (10 : Int32) 10 (by decide) (by decide)
      have q5 := c_mask ((x2.toUInt32 >>> ((10 : Int32) &&& 31).toUInt32).toInt32) (1 : Int32) 1 (by decide) (by decide)
      have q6 := c_iushr x2 (1 : Int32) 1 (by decide) (by decide)
      have q7 := c_mask ((x2.toUInt32 >>> ((1 : Int32) &&& 31).toUInt32).toInt32) (3 : Int32) 2 (by decide) (by decide)
      have q8 := congrArg Int32.toInt htn_
      have q9 := c_iushr x2 (3 : Int32) 3 (by decide) (by decide)
      have q10 := c_mask ((x2.toUInt32 >>> ((3 : Int32) &&& 31).toUInt32).toInt32) (3 : Int32) 2 (by decide) (by decide)
      have q11 := congrArg Int32.toInt htl_
      have p0 := c1
      have p1 := c163
      have p2 := c164
      have p3 := c331
      have p4 := c332
      simp only [true_implies, Int32.lt_iff_toInt_lt, ← Int32.toInt_inj, Int32.reduceToInt, Int64.lt_iff_toInt_lt, ← Int64.toInt_inj, Int64.reduceToInt] at q0 q1 q2 q3 q4 q5 q6 q7 q8 q9 q10 q11 p0 p1 p2 p3 p4 ⊢
      omega
    have c350 : ¬ ((3 : Int32) < tl_) := by
      have q0 := rng32 x2
      have q1 := c_mask x2 (1 : Int32) 1 (by decide) (by decide)
      have q2 := c_iushr x2 (9 : Int32) 9 (by decide) (by decide)
      have q3 := c_mask ((x2.toUInt32 >>> ((9 : Int32) &&& 31).toUInt32).toInt32) (1 : Int32) 1 (by decide) (by decide)
      have q4 := c_iushr x2 (10 : Int32) 10 (by decide) (by decide)
      have q5 := c_mask ((x2.toUInt32 >>> ((10 : Int32) &&& 31).toUInt32).toInt32) (1 : Int32) 1 (by decide) (by decide)
      have q6 := c_iushr x2 (1 : Int32) 1 (by decide) (by decide)
      have q7 := c_mask ((x2.toUInt32 >>> ((1 : Int32) &&& 31).toUInt32).toInt32) (3 : Int32) 2 (by decide) (by decide)
      have q8 := congrArg Int32.toInt htn_
      have q9 := c_iushr x2 (3 : Int32) 3 (by decide) (by decide)
      have q10 := c_mask ((x2.toUInt32 >>> ((3 : Int32) &&& 31).toUInt32).toInt32) (3 : Int32) 2 (by decide) (by decide)
      have q11 := congrArg Int32.toInt htl_
      have p0 := c1
      have p1 := c163
      have p2 := c164
      have p3 := c331
      have p4 := c332
      have p5 := c349
      simp only [true_implies, Int32.lt_iff_toInt_lt, ← Int32.toInt_inj, Int32.reduceToInt, Int64.lt_iff_toInt_lt, ← Int64.toInt_inj, Int64.reduceToInt] at q0 q1 q2 q3 q4 q5 q6 q7 q8 q9 q10 q11 p0 p1 p2 p3 p4 p5 ⊢
      omega
    have c351 : ¬ ((own_ch x0 (24 : Int32)) < (0 : Int32)) := by
      have q0 := rng64 x0
      have q1 := own_ch_v x0 (0 : Int32)
      have q2 := own_ch_v x0 (8 : Int32)
      have q3 := own_ch_v x0 (16 : Int32)
      have q4 := own_ch_v x0 (24 : Int32)
      have p0 := c333
      have p1 := c334
      have p2 := c335
      have p3 := c336
      have p4 := c337
      have p5 := c338
      simp only [true_implies, Int32.lt_iff_toInt_lt, ← Int32.toInt_inj, Int32.reduceToInt, Int64.lt_iff_toInt_lt, ← Int64.toInt_inj, Int64.reduceToInt] at q0 q1 q2 q3 q4 p0 p1 p2 p3 p4 p5 ⊢
      omega
    have c352 : ¬ ((255 : Int32) < (own_ch x0 (24 : Int32))) := by
      have q0 := rng64 x0
      have q1 := own_ch_v x0 (0 : Int32)
      have q2 := own_ch_v x0 (8 : Int32)
      have q3 := own_ch_v x0 (16 : Int32)
      have q4 := own_ch_v x0 (24 : Int32)
      have p0 := c333
      have p1 := c334
      have p2 := c335
      have p3 := c336
      have p4 := c337
      have p5 := c338
      have p6 := c351
      simp only [true_implies, Int32.lt_iff_toInt_lt, ← Int32.toInt_inj, Int32.reduceToInt, Int64.lt_iff_toInt_lt, ← Int64.toInt_inj, Int64.reduceToInt] at q0 q1 q2 q3 q4 p0 p1 p2 p3 p4 p5 p6 ⊢
      omega
    have c353 : ¬ ((own_ch x0 (32 : Int32)) < (0 : Int32)) := by
      have q0 := rng64 x0
      have q1 := own_ch_v x0 (0 : Int32)
      have q2 := own_ch_v x0 (8 : Int32)
      have q3 := own_ch_v x0 (16 : Int32)
      have q4 := own_ch_v x0 (24 : Int32)
      have q5 := own_ch_v x0 (32 : Int32)
      have p0 := c333
      have p1 := c334
      have p2 := c335
      have p3 := c336
      have p4 := c337
      have p5 := c338
      have p6 := c351
      have p7 := c352
      simp only [true_implies, Int32.lt_iff_toInt_lt, ← Int32.toInt_inj, Int32.reduceToInt, Int64.lt_iff_toInt_lt, ← Int64.toInt_inj, Int64.reduceToInt] at q0 q1 q2 q3 q4 q5 p0 p1 p2 p3 p4 p5 p6 p7 ⊢
      omega
    have c354 : ¬ ((255 : Int32) < (own_ch x0 (32 : Int32))) := by
      have q0 := rng64 x0
      have q1 := own_ch_v x0 (0 : Int32)
      have q2 := own_ch_v x0 (8 : Int32)
      have q3 := own_ch_v x0 (16 : Int32)
      have q4 := own_ch_v x0 (24 : Int32)
      have q5 := own_ch_v x0 (32 : Int32)
      have p0 := c333
      have p1 := c334
      have p2 := c335
      have p3 := c336
      have p4 := c337
      have p5 := c338
      have p6 := c351
      have p7 := c352
      have p8 := c353
      simp only [true_implies, Int32.lt_iff_toInt_lt, ← Int32.toInt_inj, Int32.reduceToInt, Int64.lt_iff_toInt_lt, ← Int64.toInt_inj, Int64.reduceToInt] at q0 q1 q2 q3 q4 q5 p0 p1 p2 p3 p4 p5 p6 p7 p8 ⊢
      omega
    have c355 : ¬ ((own_ch x0 (40 : Int32)) < (0 : Int32)) := by
      have q0 := rng64 x0
      have q1 := own_ch_v x0 (0 : Int32)
      have q2 := own_ch_v x0 (8 : Int32)
      have q3 := own_ch_v x0 (16 : Int32)
      have q4 := own_ch_v x0 (24 : Int32)
      have q5 := own_ch_v x0 (32 : Int32)
      have q6 := own_ch_v x0 (40 : Int32)
      have p0 := c333
      have p1 := c334
      have p2 := c335
      have p3 := c336
      have p4 := c337
      have p5 := c338
      have p6 := c351
      have p7 := c352
      have p8 := c353
      have p9 := c354
      simp only [true_implies, Int32.lt_iff_toInt_lt, ← Int32.toInt_inj, Int32.reduceToInt, Int64.lt_iff_toInt_lt, ← Int64.toInt_inj, Int64.reduceToInt] at q0 q1 q2 q3 q4 q5 q6 p0 p1 p2 p3 p4 p5 p6 p7 p8 p9 ⊢
      omega
    have c356 : ¬ ((255 : Int32) < (own_ch x0 (40 : Int32))) := by
      have q0 := rng64 x0
      have q1 := own_ch_v x0 (0 : Int32)
      have q2 := own_ch_v x0 (8 : Int32)
      have q3 := own_ch_v x0 (16 : Int32)
      have q4 := own_ch_v x0 (24 : Int32)
      have q5 := own_ch_v x0 (32 : Int32)
      have q6 := own_ch_v x0 (40 : Int32)
      have p0 := c333
      have p1 := c334
      have p2 := c335
      have p3 := c336
      have p4 := c337
      have p5 := c338
      have p6 := c351
      have p7 := c352
      have p8 := c353
      have p9 := c354
      have p10 := c355
      simp only [true_implies, Int32.lt_iff_toInt_lt, ← Int32.toInt_inj, Int32.reduceToInt, Int64.lt_iff_toInt_lt, ← Int64.toInt_inj, Int64.reduceToInt] at q0 q1 q2 q3 q4 q5 q6 p0 p1 p2 p3 p4 p5 p6 p7 p8 p9 p10 ⊢
      omega
    have f358 := (own_sta_keep f340 K339 all0)
    have f359 := (((f157_1.keep K159 nin0).keep K161 nin0).keep K339 nin0)
    have Z360 := (Nat.le_trans Z342 K339.1)
    have hZo361 := hZ
    have A362 := A347.trans Ac339
    refine own_csW X339 hx hZ hown (hw _ (own_m 14 rfl)) (hw _ (own_m 15 rfl)) (hw _ (own_m 2 rfl)) (hw _ (own_m 16 rfl)) (by decide) (rm := { frames := 4, cells := 6, slots := 12, locals := 66 }) (rm_str l Z a0 hw [] b157_0 kb157_0 tl_ (own_ch x0 (24 : Int32)) (own_ch x0 (32 : Int32)) (own_ch x0 (40 : Int32)) i_COMPACT_STRINGS T339.heap n0 Z360 f358 hs_COMPACT_STRINGS f359 c349 c350 c351 c352 c353 c354 c355 c356) (by decide) (W := 0) (by decide) (by decide) (by decide) rfl hEL A362.1 hS (Nat.le_refl _) (by rw [hml]; rfl) (argsL := [(.ref b157_0), (.int tl_)]) (lenOf own_pd10 rfl) (rest := []) rfl rfl (Nat.le_of_eq rfl) (hb hby at_131) ?_
    intro _ T357 L357 X357 hQ357 Ac357 hS hZ hown
    obtain ⟨b357_0, b357_1, kb357_0, rfl, N357q, K357, ge357_0, sz357_0, f357_0, f357_1, f357_2, f357_3⟩ := hQ357
    have N357 := Fr.app N339 N357q
    show oG p e below _ (T357.setTop (mkF m 134 #[.val (.long x0), .second, .val (.long x1), .second, .val (.int x2), .val (.int (1 : Int32)), .val (.ref b156_0), .val (.ref b157_0), .val (.ref b159_0), .val (.ref b157_0), .val (.int tn_), .val (.int tl_), .val (.int an_), .val (.int tl_), .val (.ref b339_0), .unset, .unset, .unset, .unset, .unset, .unset] [(.ref b357_0)]))
    refine og (fun _ hr => XS.astore X357.here hx rfl (hb hby at_134) rfl rfl (l' := #[.val (.long x0), .second, .val (.long x1), .second, .val (.int x2), .val (.int (1 : Int32)), .val (.ref b156_0), .val (.ref b157_0), .val (.ref b159_0), .val (.ref b157_0), .val (.int tn_), .val (.int tl_), .val (.int an_), .val (.int tl_), .val (.ref b339_0), .val (.ref b357_0), .unset, .unset, .unset, .unset, .unset]) rfl (XS.aload X357.here hx rfl (hb hby at_136) rfl rfl (XS.iload X357.here hx rfl (hb hby at_138) rfl hr))) ?_
    show oG p e below _ (T357.setTop (mkF m 140 #[.val (.long x0), .second, .val (.long x1), .second, .val (.int x2), .val (.int (1 : Int32)), .val (.ref b156_0), .val (.ref b157_0), .val (.ref b159_0), .val (.ref b157_0), .val (.int tn_), .val (.int tl_), .val (.int an_), .val (.int tl_), .val (.ref b339_0), .val (.ref b357_0), .unset, .unset, .unset, .unset, .unset] [(.int an_), (.ref b159_0)]))
    have c363 : ¬ (an_ < (0 : Int32)) := by
      have q0 := rng32 x2
      have q1 := c_mask x2 (1 : Int32) 1 (by decide) (by decide)
      have q2 := c_iushr x2 (9 : Int32) 9 (by decide) (by decide)
      have q3 := c_mask ((x2.toUInt32 >>> ((9 : Int32) &&& 31).toUInt32).toInt32) (1 : Int32) 1 (by decide) (by decide)
      have q4 := c_iushr x2 (10 : Int32) 10 (by decide) (by decide)
      have q5 := c_mask ((x2.toUInt32 >>> ((10 : Int32) &&& 31).toUInt32).toInt32) (1 : Int32) 1 (by decide) (by decide)
      have q6 := c_iushr x2 (1 : Int32) 1 (by decide) (by decide)
      have q7 := c_mask ((x2.toUInt32 >>> ((1 : Int32) &&& 31).toUInt32).toInt32) (3 : Int32) 2 (by decide) (by decide)
      have q8 := congrArg Int32.toInt htn_
      have q9 := c_iushr x2 (3 : Int32) 3 (by decide) (by decide)
      have q10 := c_mask ((x2.toUInt32 >>> ((3 : Int32) &&& 31).toUInt32).toInt32) (3 : Int32) 2 (by decide) (by decide)
      have q11 := congrArg Int32.toInt htl_
      have q12 := c_iushr x2 (5 : Int32) 5 (by decide) (by decide)
      have q13 := c_mask ((x2.toUInt32 >>> ((5 : Int32) &&& 31).toUInt32).toInt32) (3 : Int32) 2 (by decide) (by decide)
      have q14 := congrArg Int32.toInt han_
      have p0 := c1
      have p1 := c163
      have p2 := c164
      have p3 := c331
      have p4 := c332
      have p5 := c349
      have p6 := c350
      simp only [true_implies, Int32.lt_iff_toInt_lt, ← Int32.toInt_inj, Int32.reduceToInt, Int64.lt_iff_toInt_lt, ← Int64.toInt_inj, Int64.reduceToInt] at q0 q1 q2 q3 q4 q5 q6 q7 q8 q9 q10 q11 q12 q13 q14 p0 p1 p2 p3 p4 p5 p6 ⊢
      omega
    have c364 : ¬ ((3 : Int32) < an_) := by
      have q0 := rng32 x2
      have q1 := c_mask x2 (1 : Int32) 1 (by decide) (by decide)
      have q2 := c_iushr x2 (9 : Int32) 9 (by decide) (by decide)
      have q3 := c_mask ((x2.toUInt32 >>> ((9 : Int32) &&& 31).toUInt32).toInt32) (1 : Int32) 1 (by decide) (by decide)
      have q4 := c_iushr x2 (10 : Int32) 10 (by decide) (by decide)
      have q5 := c_mask ((x2.toUInt32 >>> ((10 : Int32) &&& 31).toUInt32).toInt32) (1 : Int32) 1 (by decide) (by decide)
      have q6 := c_iushr x2 (1 : Int32) 1 (by decide) (by decide)
      have q7 := c_mask ((x2.toUInt32 >>> ((1 : Int32) &&& 31).toUInt32).toInt32) (3 : Int32) 2 (by decide) (by decide)
      have q8 := congrArg Int32.toInt htn_
      have q9 := c_iushr x2 (3 : Int32) 3 (by decide) (by decide)
      have q10 := c_mask ((x2.toUInt32 >>> ((3 : Int32) &&& 31).toUInt32).toInt32) (3 : Int32) 2 (by decide) (by decide)
      have q11 := congrArg Int32.toInt htl_
      have q12 := c_iushr x2 (5 : Int32) 5 (by decide) (by decide)
      have q13 := c_mask ((x2.toUInt32 >>> ((5 : Int32) &&& 31).toUInt32).toInt32) (3 : Int32) 2 (by decide) (by decide)
      have q14 := congrArg Int32.toInt han_
      have p0 := c1
      have p1 := c163
      have p2 := c164
      have p3 := c331
      have p4 := c332
      have p5 := c349
      have p6 := c350
      have p7 := c363
      simp only [true_implies, Int32.lt_iff_toInt_lt, ← Int32.toInt_inj, Int32.reduceToInt, Int64.lt_iff_toInt_lt, ← Int64.toInt_inj, Int64.reduceToInt] at q0 q1 q2 q3 q4 q5 q6 q7 q8 q9 q10 q11 q12 q13 q14 p0 p1 p2 p3 p4 p5 p6 p7 ⊢
      omega
    have c365 : ¬ ((own_ch x1 (0 : Int32)) < (0 : Int32)) := by
      have q0 := rng64 x1
      have q1 := own_ch_v x1 (0 : Int32)
      simp only [true_implies, Int32.lt_iff_toInt_lt, ← Int32.toInt_inj, Int32.reduceToInt, Int64.lt_iff_toInt_lt, ← Int64.toInt_inj, Int64.reduceToInt] at q0 q1 ⊢
      omega
    have c366 : ¬ ((255 : Int32) < (own_ch x1 (0 : Int32))) := by
      have q0 := rng64 x1
      have q1 := own_ch_v x1 (0 : Int32)
      have p0 := c365
      simp only [true_implies, Int32.lt_iff_toInt_lt, ← Int32.toInt_inj, Int32.reduceToInt, Int64.lt_iff_toInt_lt, ← Int64.toInt_inj, Int64.reduceToInt] at q0 q1 p0 ⊢
      omega
    have c367 : ¬ ((own_ch x1 (8 : Int32)) < (0 : Int32)) := by
      have q0 := rng64 x1
      have q1 := own_ch_v x1 (0 : Int32)
      have q2 := own_ch_v x1 (8 : Int32)
      have p0 := c365
      have p1 := c366
      simp only [true_implies, Int32.lt_iff_toInt_lt, ← Int32.toInt_inj, Int32.reduceToInt, Int64.lt_iff_toInt_lt, ← Int64.toInt_inj, Int64.reduceToInt] at q0 q1 q2 p0 p1 ⊢
      omega
    have c368 : ¬ ((255 : Int32) < (own_ch x1 (8 : Int32))) := by
      have q0 := rng64 x1
      have q1 := own_ch_v x1 (0 : Int32)
      have q2 := own_ch_v x1 (8 : Int32)
      have p0 := c365
      have p1 := c366
      have p2 := c367
      simp only [true_implies, Int32.lt_iff_toInt_lt, ← Int32.toInt_inj, Int32.reduceToInt, Int64.lt_iff_toInt_lt, ← Int64.toInt_inj, Int64.reduceToInt] at q0 q1 q2 p0 p1 p2 ⊢
      omega
    have c369 : ¬ ((own_ch x1 (16 : Int32)) < (0 : Int32)) := by
      have q0 := rng64 x1
      have q1 := own_ch_v x1 (0 : Int32)
      have q2 := own_ch_v x1 (8 : Int32)
      have q3 := own_ch_v x1 (16 : Int32)
      have p0 := c365
      have p1 := c366
      have p2 := c367
      have p3 := c368
      simp only [true_implies, Int32.lt_iff_toInt_lt, ← Int32.toInt_inj, Int32.reduceToInt, Int64.lt_iff_toInt_lt, ← Int64.toInt_inj, Int64.reduceToInt] at q0 q1 q2 q3 p0 p1 p2 p3 ⊢
      omega
    have c370 : ¬ ((255 : Int32) < (own_ch x1 (16 : Int32))) := by
      have q0 := rng64 x1
      have q1 := own_ch_v x1 (0 : Int32)
      have q2 := own_ch_v x1 (8 : Int32)
      have q3 := own_ch_v x1 (16 : Int32)
      have p0 := c365
      have p1 := c366
      have p2 := c367
      have p3 := c368
      have p4 := c369
      simp only [true_implies, Int32.lt_iff_toInt_lt, ← Int32.toInt_inj, Int32.reduceToInt, Int64.lt_iff_toInt_lt, ← Int64.toInt_inj, Int64.reduceToInt] at q0 q1 q2 q3 p0 p1 p2 p3 p4 ⊢
      omega
    have f372 := (own_sta_keep f358 K357 all0)
    have f373 := (((f159_1.keep K161 nin0).keep K339 nin0).keep K357 nin0)
    have Z374 := (Nat.le_trans Z360 K357.1)
    have hZo375 := hZ
    have A376 := A362.trans Ac357
    refine own_csW X357 hx hZ hown (hw _ (own_m 14 rfl)) (hw _ (own_m 15 rfl)) (hw _ (own_m 2 rfl)) (hw _ (own_m 16 rfl)) (by decide) (rm := { frames := 4, cells := 6, slots := 12, locals := 66 }) (rm_str l Z a0 hw [] b159_0 kb159_0 an_ (own_ch x1 (0 : Int32)) (own_ch x1 (8 : Int32)) (own_ch x1 (16 : Int32)) i_COMPACT_STRINGS T357.heap n0 Z374 f372 hs_COMPACT_STRINGS f373 c363 c364 c365 c366 c367 c368 c369 c370) (by decide) (W := 0) (by decide) (by decide) (by decide) rfl hEL A376.1 hS (Nat.le_refl _) (by rw [hml]; rfl) (argsL := [(.ref b159_0), (.int an_)]) (lenOf own_pd10 rfl) (rest := []) rfl rfl (Nat.le_of_eq rfl) (hb hby at_140) ?_
    intro _ T371 L371 X371 hQ371 Ac371 hS hZ hown
    obtain ⟨b371_0, b371_1, kb371_0, rfl, N371q, K371, ge371_0, sz371_0, f371_0, f371_1, f371_2, f371_3⟩ := hQ371
    have N371 := Fr.app N357 N371q
    show oG p e below _ (T371.setTop (mkF m 143 #[.val (.long x0), .second, .val (.long x1), .second, .val (.int x2), .val (.int (1 : Int32)), .val (.ref b156_0), .val (.ref b157_0), .val (.ref b159_0), .val (.ref b157_0), .val (.int tn_), .val (.int tl_), .val (.int an_), .val (.int tl_), .val (.ref b339_0), .val (.ref b357_0), .unset, .unset, .unset, .unset, .unset] [(.ref b371_0)]))
    refine og (fun _ hr => XS.astore X371.here hx rfl (hb hby at_143) rfl rfl (l' := #[.val (.long x0), .second, .val (.long x1), .second, .val (.int x2), .val (.int (1 : Int32)), .val (.ref b156_0), .val (.ref b157_0), .val (.ref b159_0), .val (.ref b157_0), .val (.int tn_), .val (.int tl_), .val (.int an_), .val (.int tl_), .val (.ref b339_0), .val (.ref b357_0), .val (.ref b371_0), .unset, .unset, .unset, .unset]) rfl (XS.aload X371.here hx rfl (hb hby at_145) rfl rfl (XS.iload X371.here hx rfl (hb hby at_147) rfl hr))) ?_
    show oG p e below _ (T371.setTop (mkF m 149 #[.val (.long x0), .second, .val (.long x1), .second, .val (.int x2), .val (.int (1 : Int32)), .val (.ref b156_0), .val (.ref b157_0), .val (.ref b159_0), .val (.ref b157_0), .val (.int tn_), .val (.int tl_), .val (.int an_), .val (.int tl_), .val (.ref b339_0), .val (.ref b357_0), .val (.ref b371_0), .unset, .unset, .unset, .unset] [(.int tl_), (.ref b157_0)]))
    have f378 := (own_sta_keep f372 K371 all0)
    have f379 := ((f359.keep K357 nin0).keep K371 nin0)
    have Z380 := (Nat.le_trans Z374 K371.1)
    have hZo381 := hZ
    have A382 := A376.trans Ac371
    refine own_csW X371 hx hZ hown (hw _ (own_m 14 rfl)) (hw _ (own_m 15 rfl)) (hw _ (own_m 2 rfl)) (hw _ (own_m 16 rfl)) (by decide) (rm := { frames := 4, cells := 6, slots := 12, locals := 66 }) (rm_str l Z a0 hw [] b157_0 kb157_0 tl_ (own_ch x0 (24 : Int32)) (own_ch x0 (32 : Int32)) (own_ch x0 (40 : Int32)) i_COMPACT_STRINGS T371.heap n0 Z380 f378 hs_COMPACT_STRINGS f379 c349 c350 c351 c352 c353 c354 c355 c356) (by decide) (W := 0) (by decide) (by decide) (by decide) rfl hEL A382.1 hS (Nat.le_refl _) (by rw [hml]; rfl) (argsL := [(.ref b157_0), (.int tl_)]) (lenOf own_pd10 rfl) (rest := []) rfl rfl (Nat.le_of_eq rfl) (hb hby at_149) ?_
    intro _ T377 L377 X377 hQ377 Ac377 hS hZ hown
    obtain ⟨b377_0, b377_1, kb377_0, rfl, N377q, K377, ge377_0, sz377_0, f377_0, f377_1, f377_2, f377_3⟩ := hQ377
    have N377 := Fr.app N371 N377q
    show oG p e below _ (T377.setTop (mkF m 152 #[.val (.long x0), .second, .val (.long x1), .second, .val (.int x2), .val (.int (1 : Int32)), .val (.ref b156_0), .val (.ref b157_0), .val (.ref b159_0), .val (.ref b157_0), .val (.int tn_), .val (.int tl_), .val (.int an_), .val (.int tl_), .val (.ref b339_0), .val (.ref b357_0), .val (.ref b371_0), .unset, .unset, .unset, .unset] [(.ref b377_0)]))
    refine og (fun _ hr => XS.astore X377.here hx rfl (hb hby at_152) rfl rfl (l' := #[.val (.long x0), .second, .val (.long x1), .second, .val (.int x2), .val (.int (1 : Int32)), .val (.ref b156_0), .val (.ref b157_0), .val (.ref b159_0), .val (.ref b157_0), .val (.int tn_), .val (.int tl_), .val (.int an_), .val (.int tl_), .val (.ref b339_0), .val (.ref b357_0), .val (.ref b371_0), .val (.ref b377_0), .unset, .unset, .unset]) rfl hr) ?_
    show oG p e below _ (T377.setTop (mkF m 154 #[.val (.long x0), .second, .val (.long x1), .second, .val (.int x2), .val (.int (1 : Int32)), .val (.ref b156_0), .val (.ref b157_0), .val (.ref b159_0), .val (.ref b157_0), .val (.int tn_), .val (.int tl_), .val (.int an_), .val (.int tl_), .val (.ref b339_0), .val (.ref b357_0), .val (.ref b371_0), .val (.ref b377_0), .unset, .unset, .unset] []))
    obtain ⟨T383, h383, X383, e383, E383, A383, D383, -, st383⟩ := newO X377 hx hZ hown (hw _ (own_m 70 rfl)) (hw _ (own_m 71 rfl)) (hw _ (own_m 72 rfl)) rfl (g := (mkF m 154 #[.val (.long x0), .second, .val (.long x1), .second, .val (.int x2), .val (.int (1 : Int32)), .val (.ref b156_0), .val (.ref b157_0), .val (.ref b159_0), .val (.ref b157_0), .val (.int tn_), .val (.int tl_), .val (.int an_), .val (.int tl_), .val (.ref b339_0), .val (.ref b357_0), .val (.ref b371_0), .val (.ref b377_0), .unset, .unset, .unset] [])) rfl (hb hby at_154) (by decide) (by decide)
    obtain ⟨b383, g383⟩ : ∃ z, z = T377.heap.size := ⟨_, rfl⟩
    rw [← g383] at A383 D383 st383
    have Z384 := (Nat.le_trans Z380 K377.1)
    have ge385 : n0 ≤ b383 := Nat.le_trans Z384 (Nat.le_of_eq g383.symm)
    refine og st383 ?_
    have f386 : Fld Z h383 b383 "com/example/ruleweave/ruleweave/CommonPolicySchema$Type" "namespace" "Ljava/lang/String;" .null := D383 (Or.inr (hw _ (own_m 78 rfl))) (ty := (.object "java/lang/String")) (by decide)
    have f387 : Fld Z h383 b383 "com/example/ruleweave/ruleweave/CommonPolicySchema$Type" "name" "Ljava/lang/String;" .null := D383 (Or.inr (hw _ (own_m 80 rfl))) (ty := (.object "java/lang/String")) (by decide)
    have f388 : Fld Z h383 b383 "com/example/ruleweave/ruleweave/CommonPolicySchema$Type" "attributes" "Ljava/util/List;" .null := D383 (Or.inr (hw _ (own_m 82 rfl))) (ty := (.object "java/util/List")) (by decide)
    have f389 : Fld Z h383 b383 "com/example/ruleweave/ruleweave/CommonPolicySchema$Type" "content" "Lcom/example/ruleweave/ruleweave/CommonPolicySchema$Content;" .null := D383 (Or.inr (hw _ (own_m 84 rfl))) (ty := (.object "com/example/ruleweave/ruleweave/CommonPolicySchema$Content")) (by decide)
    have f390 : Fld Z h383 b383 "com/example/ruleweave/ruleweave/CommonPolicySchema$Type" "datatype" "Lcom/example/ruleweave/ruleweave/CommonPolicySchema$Datatype;" .null := D383 (Or.inr (hw _ (own_m 86 rfl))) (ty := (.object "com/example/ruleweave/ruleweave/CommonPolicySchema$Datatype")) (by decide)
    have f391 : Fld Z h383 b383 "com/example/ruleweave/ruleweave/CommonPolicySchema$Type" "model" "Lcom/example/ruleweave/ruleweave/CommonPolicySchema$Model;" .null := D383 (Or.inr (hw _ (own_m 88 rfl))) (ty := (.object "com/example/ruleweave/ruleweave/CommonPolicySchema$Model")) (by decide)
    show oG p e below _ (T383.setTop (mkF m 157 #[.val (.long x0), .second, .val (.long x1), .second, .val (.int x2), .val (.int (1 : Int32)), .val (.ref b156_0), .val (.ref b157_0), .val (.ref b159_0), .val (.ref b157_0), .val (.int tn_), .val (.int tl_), .val (.int an_), .val (.int tl_), .val (.ref b339_0), .val (.ref b357_0), .val (.ref b371_0), .val (.ref b377_0), .unset, .unset, .unset] [(.ref b383)]))
    refine og (fun _ hr => XS.dup X383.here hx rfl (hb hby at_157) rfl rfl (XS.aconstNull X383.here hx rfl (hb hby at_158) (XS.aconstNull X383.here hx rfl (hb hby at_159) (XS.aconstNull X383.here hx rfl (hb hby at_160) (XS.aconstNull X383.here hx rfl (hb hby at_161) (XS.aconstNull X383.here hx rfl (hb hby at_162) (XS.aconstNull X383.here hx rfl (hb hby at_163) hr))))))) ?_
    show oG p e below _ (T383.setTop (mkF m 164 #[.val (.long x0), .second, .val (.long x1), .second, .val (.int x2), .val (.int (1 : Int32)), .val (.ref b156_0), .val (.ref b157_0), .val (.ref b159_0), .val (.ref b157_0), .val (.int tn_), .val (.int tl_), .val (.int an_), .val (.int tl_), .val (.ref b339_0), .val (.ref b357_0), .val (.ref b371_0), .val (.ref b377_0), .unset, .unset, .unset] [.null, .null, .null, .null, .null, .null, (.ref b383), (.ref b383)]))
    have Z393 := (Nat.le_trans Z384 E383.1)
    refine own_cp X383 hx hZ hown rfl (hw _ (own_m 73 rfl)) (hw _ (own_m 74 rfl)) (hw _ (own_m 72 rfl)) (hw _ (own_m 75 rfl)) (by decide) (rm := { frames := 2, cells := 0, slots := 0, locals := 24 }) (rm_init_31 l Z a0 hw [] b383 h383 n0 Z393 A383 f386 f387 f388 f389 f390 f391 ge385) (by decide) (W := 1) (by decide) (by decide) (by decide) e383 (by rw [hml]; rfl) (argsL := [.null, .null, .null, .null, .null, .null]) (lenOf own_pd17 rfl) (rest := [(.ref b383)]) rfl rfl (Nat.le_of_eq rfl) (hb hby at_164) ?_
    intro _ T392 L392 X392 hQ392
    obtain ⟨rfl, N392q, K392, f392_0, f392_1, f392_2, f392_3, f392_4, f392_5⟩ := hQ392
    have N392 := Fr.app N377 N392q
    show oG p e below _ (T392.setTop (mkF m 167 #[.val (.long x0), .second, .val (.long x1), .second, .val (.int x2), .val (.int (1 : Int32)), .val (.ref b156_0), .val (.ref b157_0), .val (.ref b159_0), .val (.ref b157_0), .val (.int tn_), .val (.int tl_), .val (.int an_), .val (.int tl_), .val (.ref b339_0), .val (.ref b357_0), .val (.ref b371_0), .val (.ref b377_0), .unset, .unset, .unset] [(.ref b383)]))
    refine og (fun _ hr => XS.astore X392.here hx rfl (hb hby at_167) rfl rfl (l' := #[.val (.long x0), .second, .val (.long x1), .second, .val (.int x2), .val (.int (1 : Int32)), .val (.ref b156_0), .val (.ref b157_0), .val (.ref b159_0), .val (.ref b157_0), .val (.int tn_), .val (.int tl_), .val (.int an_), .val (.int tl_), .val (.ref b339_0), .val (.ref b357_0), .val (.ref b371_0), .val (.ref b377_0), .val (.ref b383), .unset, .unset]) rfl hr) ?_
    show oG p e below _ (T392.setTop (mkF m 169 #[.val (.long x0), .second, .val (.long x1), .second, .val (.int x2), .val (.int (1 : Int32)), .val (.ref b156_0), .val (.ref b157_0), .val (.ref b159_0), .val (.ref b157_0), .val (.int tn_), .val (.int tl_), .val (.int an_), .val (.int tl_), .val (.ref b339_0), .val (.ref b357_0), .val (.ref b371_0), .val (.ref b377_0), .val (.ref b383), .unset, .unset] []))
    obtain ⟨T394, h394, X394, e394, E394, A394, D394, -, st394⟩ := newO X392 hx hZ hown (hw _ (own_m 31 rfl)) (hw _ (own_m 32 rfl)) (hw _ (own_m 33 rfl)) rfl (g := (mkF m 169 #[.val (.long x0), .second, .val (.long x1), .second, .val (.int x2), .val (.int (1 : Int32)), .val (.ref b156_0), .val (.ref b157_0), .val (.ref b159_0), .val (.ref b157_0), .val (.int tn_), .val (.int tl_), .val (.int an_), .val (.int tl_), .val (.ref b339_0), .val (.ref b357_0), .val (.ref b371_0), .val (.ref b377_0), .val (.ref b383), .unset, .unset] [])) rfl (hb hby at_169) (by decide) (by decide)
    obtain ⟨b394, g394⟩ : ∃ z, z = T392.heap.size := ⟨_, rfl⟩
    rw [← g394] at A394 D394 st394
    have Z395 := (Nat.le_trans Z393 K392.1)
    have ge396 : n0 ≤ b394 := Nat.le_trans Z395 (Nat.le_of_eq g394.symm)
    refine og st394 ?_
    have f397 : Fld Z h394 b394 "com/example/ruleweave/ruleweave/CommonPolicySchema$Term" "namespace" "Ljava/lang/String;" .null := D394 (Or.inr (hw _ (own_m 44 rfl))) (ty := (.object "java/lang/String")) (by decide)
    have f398 : Fld Z h394 b394 "com/example/ruleweave/ruleweave/CommonPolicySchema$Term" "localName" "Ljava/lang/String;" .null := D394 (Or.inr (hw _ (own_m 46 rfl))) (ty := (.object "java/lang/String")) (by decide)
    have f399 : Fld Z h394 b394 "com/example/ruleweave/ruleweave/CommonPolicySchema$Term" "type" "Lcom/example/ruleweave/ruleweave/CommonPolicySchema$Type;" .null := D394 (Or.inr (hw _ (own_m 48 rfl))) (ty := (.object "com/example/ruleweave/ruleweave/CommonPolicySchema$Type")) (by decide)
    show oG p e below _ (T394.setTop (mkF m 172 #[.val (.long x0), .second, .val (.long x1), .second, .val (.int x2), .val (.int (1 : Int32)), .val (.ref b156_0), .val (.ref b157_0), .val (.ref b159_0), .val (.ref b157_0), .val (.int tn_), .val (.int tl_), .val (.int an_), .val (.int tl_), .val (.ref b339_0), .val (.ref b357_0), .val (.ref b371_0), .val (.ref b377_0), .val (.ref b383), .unset, .unset] [(.ref b394)]))
    refine og (fun _ hr => XS.dup X394.here hx rfl (hb hby at_172) rfl rfl (XS.aload X394.here hx rfl (hb hby at_173) rfl rfl (XS.aload X394.here hx rfl (hb hby at_175) rfl rfl (XS.aload X394.here hx rfl (hb hby at_177) rfl rfl hr)))) ?_
    show oG p e below _ (T394.setTop (mkF m 179 #[.val (.long x0), .second, .val (.long x1), .second, .val (.int x2), .val (.int (1 : Int32)), .val (.ref b156_0), .val (.ref b157_0), .val (.ref b159_0), .val (.ref b157_0), .val (.int tn_), .val (.int tl_), .val (.int an_), .val (.int tl_), .val (.ref b339_0), .val (.ref b357_0), .val (.ref b371_0), .val (.ref b377_0), .val (.ref b383), .unset, .unset] [(.ref b383), (.ref b357_0), (.ref b339_0), (.ref b394), (.ref b394)]))
    have Z401 := (Nat.le_trans Z395 E394.1)
    refine own_cp X394 hx hZ hown rfl (hw _ (own_m 34 rfl)) (hw _ (own_m 35 rfl)) (hw _ (own_m 33 rfl)) (hw _ (own_m 36 rfl)) (by decide) (rm := { frames := 2, cells := 0, slots := 0, locals := 24 }) (rm_init_32 l Z a0 hw [] b394 b339_0 b357_0 b383 h394 n0 Z401 A394 f397 f398 f399 ge396) (by decide) (W := 1) (by decide) (by decide) (by decide) e394 (by rw [hml]; rfl) (argsL := [(.ref b339_0), (.ref b357_0), (.ref b383)]) (lenOf own_pd12 rfl) (rest := [(.ref b394)]) rfl rfl (Nat.le_of_eq rfl) (hb hby at_179) ?_
    intro _ T400 L400 X400 hQ400
    obtain ⟨rfl, N400q, K400, f400_0, f400_1, f400_2⟩ := hQ400
    have N400 := Fr.app N392 N400q
    show oG p e below _ (T400.setTop (mkF m 182 #[.val (.long x0), .second, .val (.long x1), .second, .val (.int x2), .val (.int (1 : Int32)), .val (.ref b156_0), .val (.ref b157_0), .val (.ref b159_0), .val (.ref b157_0), .val (.int tn_), .val (.int tl_), .val (.int an_), .val (.int tl_), .val (.ref b339_0), .val (.ref b357_0), .val (.ref b371_0), .val (.ref b377_0), .val (.ref b383), .unset, .unset] [(.ref b394)]))
    refine og (fun _ hr => XS.astore X400.here hx rfl (hb hby at_182) rfl rfl (l' := #[.val (.long x0), .second, .val (.long x1), .second, .val (.int x2), .val (.int (1 : Int32)), .val (.ref b156_0), .val (.ref b157_0), .val (.ref b159_0), .val (.ref b157_0), .val (.int tn_), .val (.int tl_), .val (.int an_), .val (.int tl_), .val (.ref b339_0), .val (.ref b357_0), .val (.ref b371_0), .val (.ref b377_0), .val (.ref b383), .val (.ref b394), .unset]) rfl (XS.aload X400.here hx rfl (hb hby at_184) rfl rfl (XS.iload X400.here hx rfl (hb hby at_186) rfl (XS.aload X400.here hx rfl (hb hby at_188) rfl rfl (XS.iload X400.here hx rfl (hb hby at_190) rfl hr))))) ?_
    show oG p e below _ (T400.setTop (mkF m 192 #[.val (.long x0), .second, .val (.long x1), .second, .val (.int x2), .val (.int (1 : Int32)), .val (.ref b156_0), .val (.ref b157_0), .val (.ref b159_0), .val (.ref b157_0), .val (.int tn_), .val (.int tl_), .val (.int an_), .val (.int tl_), .val (.ref b339_0), .val (.ref b357_0), .val (.ref b371_0), .val (.ref b377_0), .val (.ref b383), .val (.ref b394), .unset] [(.int an_), (.ref b159_0), (.int tn_), (.ref b156_0)]))
    have f403 := ((((((((f341.keep K339 nin0).keep K357 nin0).keep K371 nin0).keep K377 nin0).ext E383).keep K392 (ninS (Nat.ne_of_lt (Nat.lt_of_lt_of_le (((((((f156_0.keep K157).keep K159).keep K161).keep K339).keep K357).keep K371).keep K377).lt (Nat.le_of_eq g383.symm))) nin0)).ext E394).keep K400 (ninS (Nat.ne_of_lt (Nat.lt_of_lt_of_le (((((((((f156_0.keep K157).keep K159).keep K161).keep K339).keep K357).keep K371).keep K377).ext E383).keep K392).lt (Nat.le_of_eq g394.symm))) nin0))
    have f404 := ((((((f373.keep K371 nin0).keep K377 nin0).ext E383).keep K392 (ninS (Nat.ne_of_lt (Nat.lt_of_lt_of_le (((((f159_0.keep K161).keep K339).keep K357).keep K371).keep K377).lt (Nat.le_of_eq g383.symm))) nin0)).ext E394).keep K400 (ninS (Nat.ne_of_lt (Nat.lt_of_lt_of_le (((((((f159_0.keep K161).keep K339).keep K357).keep K371).keep K377).ext E383).keep K392).lt (Nat.le_of_eq g394.symm))) nin0))
    have Z405 := (Nat.le_trans Z401 K400.1)
    refine own_cs X400 hx hZ hown (hw _ (own_m 89 rfl)) (hw _ (own_m 90 rfl)) (hw _ (own_m 2 rfl)) (hw _ (own_m 91 rfl)) (by decide) (rm := { frames := 0, cells := 0, slots := 0, locals := 0 }) (rm_same l Z a0 hw [] b156_0 b159_0 kb156_0 kb159_0 (own_ch x0 (0 : Int32)) (own_ch x0 (8 : Int32)) (own_ch x0 (16 : Int32)) tn_ (own_ch x1 (0 : Int32)) (own_ch x1 (8 : Int32)) (own_ch x1 (16 : Int32)) an_ T400.heap n0 Z405 f403 f404) (by decide) (W := 0) (by decide) (by decide) (by decide) rfl (by rw [hml]; rfl) (argsL := [(.ref b156_0), (.int tn_), (.ref b159_0), (.int an_)]) (lenOf own_pd18 rfl) (rest := []) rfl rfl (Nat.le_of_eq rfl) (hb hby at_192) ?_
    intro _ T402 L402 X402 hQ402
    obtain ⟨rfl, N402q, e402⟩ := hQ402
    have N402 := Fr.app N400 N402q
    show oG p e below _ (T402.setTop (mkF m 195 #[.val (.long x0), .second, .val (.long x1), .second, .val (.int x2), .val (.int (1 : Int32)), .val (.ref b156_0), .val (.ref b157_0), .val (.ref b159_0), .val (.ref b157_0), .val (.int tn_), .val (.int tl_), .val (.int an_), .val (.int tl_), .val (.ref b339_0), .val (.ref b357_0), .val (.ref b371_0), .val (.ref b377_0), .val (.ref b383), .val (.ref b394), .unset] [(.int (own_same (own_ch x0 (0 : Int32)) (own_ch x0 (8 : Int32)) (own_ch x0 (16 : Int32)) tn_ (own_ch x1 (0 : Int32)) (own_ch x1 (8 : Int32)) (own_ch x1 (16 : Int32)) an_))]))
    rcases Classical.em ((own_same (own_ch x0 (0 : Int32)) (own_ch x0 (8 : Int32)) (own_ch x0 (16 : Int32)) tn_ (own_ch x1 (0 : Int32)) (own_ch x1 (8 : Int32)) (own_ch x1 (16 : Int32)) an_) = (0 : Int32)) with c406 | c406
    · skip
      refine og (fun _ hr => XS.ifYes X402.here hx rfl (pc0 := 195) (pc' := 216) rfl (hb hby at_195) rfl ((if0 _ _).trans (teq c406).1) (by decide) (by decide) hr) ?_
      show oG p e below _ (T402.setTop (mkF m 216 #[.val (.long x0), .second, .val (.long x1), .second, .val (.int x2), .val (.int (1 : Int32)), .val (.ref b156_0), .val (.ref b157_0), .val (.ref b159_0), .val (.ref b157_0), .val (.int tn_), .val (.int tl_), .val (.int an_), .val (.int tl_), .val (.ref b339_0), .val (.ref b357_0), .val (.ref b371_0), .val (.ref b377_0), .val (.ref b383), .val (.ref b394), .unset] []))
      refine og (fun _ hr => XS.iconst X402.here hx rfl (hb hby at_216) (XS.istore X402.here hx rfl (hb hby at_217) rfl (l' := #[.val (.long x0), .second, .val (.long x1), .second, .val (.int x2), .val (.int (1 : Int32)), .val (.ref b156_0), .val (.ref b157_0), .val (.ref b159_0), .val (.ref b157_0), .val (.int tn_), .val (.int tl_), .val (.int an_), .val (.int tl_), .val (.ref b339_0), .val (.ref b357_0), .val (.ref b371_0), .val (.ref b377_0), .val (.ref b383), .val (.ref b394), .val (.int (0 : Int32))]) rfl (XS.aload X402.here hx rfl (hb hby at_219) rfl rfl (XS.aload X402.here hx rfl (hb hby at_221) rfl rfl (XS.aload X402.here hx rfl (hb hby at_223) rfl rfl hr))))) ?_
      show oG p e below _ (T402.setTop (mkF m 225 #[.val (.long x0), .second, .val (.long x1), .second, .val (.int x2), .val (.int (1 : Int32)), .val (.ref b156_0), .val (.ref b157_0), .val (.ref b159_0), .val (.ref b157_0), .val (.int tn_), .val (.int tl_), .val (.int an_), .val (.int tl_), .val (.ref b339_0), .val (.ref b357_0), .val (.ref b371_0), .val (.ref b377_0), .val (.ref b383), .val (.ref b394), .val (.int (0 : Int32))] [(.ref b377_0), (.ref b371_0), (.ref b394)]))
      have c407 : (own_leq (own_ch x1 (0 : Int32)) (own_ch x1 (8 : Int32)) (own_ch x1 (16 : Int32)) an_ (own_ch x0 (0 : Int32)) (own_ch x0 (8 : Int32)) (own_ch x0 (16 : Int32)) tn_) = (0 : Int32) := by rw [own_leq_same (own_ch x1 (0 : Int32)) (own_ch x1 (8 : Int32)) (own_ch x1 (16 : Int32)) an_ (own_ch x0 (0 : Int32)) (own_ch x0 (8 : Int32)) (own_ch x0 (16 : Int32)) tn_ (own_rg c365 c366) (own_rg c367 c368) (own_rg c369 c370) (own_rg c333 c334) (own_rg c335 c336) (own_rg c337 c338) (own_four c363 c364) (own_four c331 c332), own_same_comm]; exact c406
      have f409 := (((((((f339_0.keep K357).keep K371).keep K377).ext E383).keep K392).ext E394).keep K400)
      have f410 := (own_sta_keep ((own_sta_keep ((own_sta_keep f378 K377 all0).ext E383) K392 (allS (own_ns_exa A383) all0)).ext E394) K400 (allS (own_ns_exa A394) all0))
      have f411 := (((((f371_1.keep K377 nin0).ext E383).keep K392 (ninS (Nat.ne_of_lt (Nat.lt_of_lt_of_le (f371_0.keep K377).lt (Nat.le_of_eq g383.symm))) nin0)).ext E394).keep K400 (ninS (Nat.ne_of_lt (Nat.lt_of_lt_of_le (((f371_0.keep K377).ext E383).keep K392).lt (Nat.le_of_eq g394.symm))) nin0))
      have f412 := (((((((f339_1.keep K357 nin0).keep K371 nin0).keep K377 nin0).ext E383).keep K392 (ninS (Nat.ne_of_lt (Nat.lt_of_lt_of_le (((f339_0.keep K357).keep K371).keep K377).lt (Nat.le_of_eq g383.symm))) nin0)).ext E394).keep K400 (ninS (Nat.ne_of_lt (Nat.lt_of_lt_of_le (((((f339_0.keep K357).keep K371).keep K377).ext E383).keep K392).lt (Nat.le_of_eq g394.symm))) nin0))
      have f413 := (((((f371_2.keep K377 nin0).ext E383).keep K392 (ninS (Nat.ne_of_lt (Nat.lt_of_lt_of_le (f371_0.keep K377).lt (Nat.le_of_eq g383.symm))) nin0)).ext E394).keep K400 (ninS (Nat.ne_of_lt (Nat.lt_of_lt_of_le (((f371_0.keep K377).ext E383).keep K392).lt (Nat.le_of_eq g394.symm))) nin0))
      have f414 := (((((((f339_2.keep K357 nin0).keep K371 nin0).keep K377 nin0).ext E383).keep K392 (ninS (Nat.ne_of_lt (Nat.lt_of_lt_of_le (((f339_0.keep K357).keep K371).keep K377).lt (Nat.le_of_eq g383.symm))) nin0)).ext E394).keep K400 (ninS (Nat.ne_of_lt (Nat.lt_of_lt_of_le (((((f339_0.keep K357).keep K371).keep K377).ext E383).keep K392).lt (Nat.le_of_eq g394.symm))) nin0))
      have f415 := (((((f371_3.keep K377 nin0).ext E383).keep K392 (ninS (Nat.ne_of_lt (Nat.lt_of_lt_of_le (f371_3.keep K377 nin0).lt (Nat.le_of_eq g383.symm))) nin0)).ext E394).keep K400 (ninS (Nat.ne_of_lt (Nat.lt_of_lt_of_le (((f371_3.keep K377 nin0).ext E383).keep K392 (ninS (Nat.ne_of_lt (Nat.lt_of_lt_of_le (f371_3.keep K377 nin0).lt (Nat.le_of_eq g383.symm))) nin0)).lt (Nat.le_of_eq g394.symm))) nin0))
      have f416 := (((((((f339_3.keep K357 nin0).keep K371 nin0).keep K377 nin0).ext E383).keep K392 (ninS (Nat.ne_of_lt (Nat.lt_of_lt_of_le (((f339_3.keep K357 nin0).keep K371 nin0).keep K377 nin0).lt (Nat.le_of_eq g383.symm))) nin0)).ext E394).keep K400 (ninS (Nat.ne_of_lt (Nat.lt_of_lt_of_le (((((f339_3.keep K357 nin0).keep K371 nin0).keep K377 nin0).ext E383).keep K392 (ninS (Nat.ne_of_lt (Nat.lt_of_lt_of_le (((f339_3.keep K357 nin0).keep K371 nin0).keep K377 nin0).lt (Nat.le_of_eq g383.symm))) nin0)).lt (Nat.le_of_eq g394.symm))) nin0))
      have f417 := (((((f371_0.keep K377).ext E383).keep K392).ext E394).keep K400)
      have f418 := (A394.keep K400)
      refine own_cv X402 hx hZ hown (notFace_of_selects (args := #[]) (mvT hZ (hw _ (own_m 52 rfl)))) (hw _ (own_m 49 rfl)) (hw _ (own_m 50 rfl)) (hw _ (own_m 52 rfl)) (hw _ (own_m 51 rfl)) (hw _ (own_m 33 rfl)) (hw _ (own_m 53 rfl)) (by decide) f418 (rm := { frames := 2, cells := 0, slots := 0, locals := 28 }) (rm_admits_34 l Z a0 hw [] b394 b371_0 b377_0 b383 b339_0 i_COMPACT_STRINGS b371_1 b339_1 an_ (own_ch x1 (0 : Int32)) (own_ch x1 (8 : Int32)) (own_ch x1 (16 : Int32)) kb371_0 tn_ (own_ch x0 (0 : Int32)) (own_ch x0 (8 : Int32)) (own_ch x0 (16 : Int32)) kb339_0 T400.heap n0 Z405 f400_2 f400_1 f409 f410 f411 f412 f413 f414 f415 f416 f417 (Ne.symm (Nat.ne_of_lt (Nat.lt_of_lt_of_le (f339_0.keep K357).lt sz371_0))) hs_COMPACT_STRINGS c363 c364 c331 c332 c407) (by decide) (W := 0) (by decide) (by decide) (by decide) e402 (by rw [hml]; rfl) (argsL := [(.ref b371_0), (.ref b377_0)]) (lenOf own_pd14 rfl) (rest := []) rfl rfl (Nat.le_of_eq rfl) (hb hby at_225) ?_
      intro _ T408 L408 X408 hQ408
      obtain ⟨rfl, N408q, e408⟩ := hQ408
      have N408 := Fr.app N402 N408q
      show oG p e below _ (T408.setTop (mkF m 228 #[.val (.long x0), .second, .val (.long x1), .second, .val (.int x2), .val (.int (1 : Int32)), .val (.ref b156_0), .val (.ref b157_0), .val (.ref b159_0), .val (.ref b157_0), .val (.int tn_), .val (.int tl_), .val (.int an_), .val (.int tl_), .val (.ref b339_0), .val (.ref b357_0), .val (.ref b371_0), .val (.ref b377_0), .val (.ref b383), .val (.ref b394), .val (.int (0 : Int32))] [(.int (0 : Int32))]))
      refine og (fun _ hr => XS.iload X408.here hx rfl (hb hby at_228) rfl (XS.icmpNo X408.here hx rfl (hb hby at_230) rfl (teq (by decide)).2 (XS.iconst X408.here hx rfl (hb hby at_233) (XS.goto X408.here hx rfl (pc0 := 234) (pc' := 238) rfl (hb hby at_234) (by decide) (by decide) hr)))) ?_
      show oG p e below _ (T408.setTop (mkF m 238 #[.val (.long x0), .second, .val (.long x1), .second, .val (.int x2), .val (.int (1 : Int32)), .val (.ref b156_0), .val (.ref b157_0), .val (.ref b159_0), .val (.ref b157_0), .val (.int tn_), .val (.int tl_), .val (.int an_), .val (.int tl_), .val (.ref b339_0), .val (.ref b357_0), .val (.ref b371_0), .val (.ref b377_0), .val (.ref b383), .val (.ref b394), .val (.int (0 : Int32))] [(.int (1 : Int32))]))
      have hk419 := (Nat.le_trans (Nat.le_trans (Nat.le_trans (Nat.le_trans (Nat.le_refl _) E383.1) K392.1) E394.1) K400.1)
      have A420 := A382.trans Ac377
      have A421 := A420.trans (CHr.ext E383 A420.1)
      have sf423 := (Safe.ext E383 A420.1 (Safe.new (Nat.le_of_eq g383.symm)))
      have A422 := A421.trans (CHr.keep K392 (sfS sf423 sf0) A421.1)
      have A424 := A422.trans (CHr.ext E394 A422.1)
      have sf426 := (Safe.ext E394 A422.1 (Safe.new (Nat.le_of_eq g394.symm)))
      have A425 := A424.trans (CHr.keep K400 (sfS sf426 sf0) A424.1)
      exact own_retNW X408 hx hlk Bd.returns hS hk419 hZ hEL hh e408 A425 (t := .boolean) (by simp) (hb hby at_238) (by decide) (by decide) ⟨rfl, N408⟩
    refine og (fun _ hr => XS.ifNo X402.here hx rfl (hb hby at_195) rfl ((if0 _ _).trans (feq c406).1) hr) ?_
    show oG p e below _ (T402.setTop (mkF m 198 #[.val (.long x0), .second, .val (.long x1), .second, .val (.int x2), .val (.int (1 : Int32)), .val (.ref b156_0), .val (.ref b157_0), .val (.ref b159_0), .val (.ref b157_0), .val (.int tn_), .val (.int tl_), .val (.int an_), .val (.int tl_), .val (.ref b339_0), .val (.ref b357_0), .val (.ref b371_0), .val (.ref b377_0), .val (.ref b383), .val (.ref b394), .unset] []))
    refine og (fun _ hr => XS.aload X402.here hx rfl (hb hby at_198) rfl rfl (XS.iload X402.here hx rfl (hb hby at_200) rfl (XS.aload X402.here hx rfl (hb hby at_202) rfl rfl (XS.iload X402.here hx rfl (hb hby at_204) rfl hr)))) ?_
    show oG p e below _ (T402.setTop (mkF m 206 #[.val (.long x0), .second, .val (.long x1), .second, .val (.int x2), .val (.int (1 : Int32)), .val (.ref b156_0), .val (.ref b157_0), .val (.ref b159_0), .val (.ref b157_0), .val (.int tn_), .val (.int tl_), .val (.int an_), .val (.int tl_), .val (.ref b339_0), .val (.ref b357_0), .val (.ref b371_0), .val (.ref b377_0), .val (.ref b383), .val (.ref b394), .unset] [(.int tl_), (.ref b157_0), (.int tl_), (.ref b157_0)]))
    have f428 := (((((f379.keep K377 nin0).ext E383).keep K392 (ninS (Nat.ne_of_lt (Nat.lt_of_lt_of_le ((((((f157_0.keep K159).keep K161).keep K339).keep K357).keep K371).keep K377).lt (Nat.le_of_eq g383.symm))) nin0)).ext E394).keep K400 (ninS (Nat.ne_of_lt (Nat.lt_of_lt_of_le ((((((((f157_0.keep K159).keep K161).keep K339).keep K357).keep K371).keep K377).ext E383).keep K392).lt (Nat.le_of_eq g394.symm))) nin0))
    refine own_cs X402 hx hZ hown (hw _ (own_m 89 rfl)) (hw _ (own_m 90 rfl)) (hw _ (own_m 2 rfl)) (hw _ (own_m 91 rfl)) (by decide) (rm := { frames := 0, cells := 0, slots := 0, locals := 0 }) (rm_same l Z a0 hw [] b157_0 b157_0 kb157_0 kb157_0 (own_ch x0 (24 : Int32)) (own_ch x0 (32 : Int32)) (own_ch x0 (40 : Int32)) tl_ (own_ch x0 (24 : Int32)) (own_ch x0 (32 : Int32)) (own_ch x0 (40 : Int32)) tl_ T400.heap n0 Z405 f428 f428) (by decide) (W := 0) (by decide) (by decide) (by decide) e402 (by rw [hml]; rfl) (argsL := [(.ref b157_0), (.int tl_), (.ref b157_0), (.int tl_)]) (lenOf own_pd18 rfl) (rest := []) rfl rfl (Nat.le_of_eq rfl) (hb hby at_206) ?_
    intro _ T427 L427 X427 hQ427
    obtain ⟨rfl, N427q, e427⟩ := hQ427
    have N427 := Fr.app N402 N427q
    show oG p e below _ (T427.setTop (mkF m 209 #[.val (.long x0), .second, .val (.long x1), .second, .val (.int x2), .val (.int (1 : Int32)), .val (.ref b156_0), .val (.ref b157_0), .val (.ref b159_0), .val (.ref b157_0), .val (.int tn_), .val (.int tl_), .val (.int an_), .val (.int tl_), .val (.ref b339_0), .val (.ref b357_0), .val (.ref b371_0), .val (.ref b377_0), .val (.ref b383), .val (.ref b394), .unset] [(.int (own_same (own_ch x0 (24 : Int32)) (own_ch x0 (32 : Int32)) (own_ch x0 (40 : Int32)) tl_ (own_ch x0 (24 : Int32)) (own_ch x0 (32 : Int32)) (own_ch x0 (40 : Int32)) tl_))]))
    have c429 : ¬ ((own_same (own_ch x0 (24 : Int32)) (own_ch x0 (32 : Int32)) (own_ch x0 (40 : Int32)) tl_ (own_ch x0 (24 : Int32)) (own_ch x0 (32 : Int32)) (own_ch x0 (40 : Int32)) tl_) = (0 : Int32)) := by rw [own_same_self _ _ _ _ (own_four c349 c350)]; decide
    refine og (fun _ hr => XS.ifNo X427.here hx rfl (hb hby at_209) rfl ((if0 _ _).trans (feq c429).1) hr) ?_
    show oG p e below _ (T427.setTop (mkF m 212 #[.val (.long x0), .second, .val (.long x1), .second, .val (.int x2), .val (.int (1 : Int32)), .val (.ref b156_0), .val (.ref b157_0), .val (.ref b159_0), .val (.ref b157_0), .val (.int tn_), .val (.int tl_), .val (.int an_), .val (.int tl_), .val (.ref b339_0), .val (.ref b357_0), .val (.ref b371_0), .val (.ref b377_0), .val (.ref b383), .val (.ref b394), .unset] []))
    refine og (fun _ hr => XS.iconst X427.here hx rfl (hb hby at_212) (XS.goto X427.here hx rfl (pc0 := 213) (pc' := 217) rfl (hb hby at_213) (by decide) (by decide) (XS.istore X427.here hx rfl (hb hby at_217) rfl (l' := #[.val (.long x0), .second, .val (.long x1), .second, .val (.int x2), .val (.int (1 : Int32)), .val (.ref b156_0), .val (.ref b157_0), .val (.ref b159_0), .val (.ref b157_0), .val (.int tn_), .val (.int tl_), .val (.int an_), .val (.int tl_), .val (.ref b339_0), .val (.ref b357_0), .val (.ref b371_0), .val (.ref b377_0), .val (.ref b383), .val (.ref b394), .val (.int (1 : Int32))]) rfl (XS.aload X427.here hx rfl (hb hby at_219) rfl rfl (XS.aload X427.here hx rfl (hb hby at_221) rfl rfl (XS.aload X427.here hx rfl (hb hby at_223) rfl rfl hr)))))) ?_
    show oG p e below _ (T427.setTop (mkF m 225 #[.val (.long x0), .second, .val (.long x1), .second, .val (.int x2), .val (.int (1 : Int32)), .val (.ref b156_0), .val (.ref b157_0), .val (.ref b159_0), .val (.ref b157_0), .val (.int tn_), .val (.int tl_), .val (.int an_), .val (.int tl_), .val (.ref b339_0), .val (.ref b357_0), .val (.ref b371_0), .val (.ref b377_0), .val (.ref b383), .val (.ref b394), .val (.int (1 : Int32))] [(.ref b377_0), (.ref b371_0), (.ref b394)]))
    have c430 : ¬ ((own_leq (own_ch x1 (0 : Int32)) (own_ch x1 (8 : Int32)) (own_ch x1 (16 : Int32)) an_ (own_ch x0 (0 : Int32)) (own_ch x0 (8 : Int32)) (own_ch x0 (16 : Int32)) tn_) = (0 : Int32)) := by rw [own_leq_same (own_ch x1 (0 : Int32)) (own_ch x1 (8 : Int32)) (own_ch x1 (16 : Int32)) an_ (own_ch x0 (0 : Int32)) (own_ch x0 (8 : Int32)) (own_ch x0 (16 : Int32)) tn_ (own_rg c365 c366) (own_rg c367 c368) (own_rg c369 c370) (own_rg c333 c334) (own_rg c335 c336) (own_rg c337 c338) (own_four c363 c364) (own_four c331 c332), own_same_comm]; exact c406
    have c431 : ¬ ((own_leq (own_ch x0 (24 : Int32)) (own_ch x0 (32 : Int32)) (own_ch x0 (40 : Int32)) tl_ (own_ch x0 (24 : Int32)) (own_ch x0 (32 : Int32)) (own_ch x0 (40 : Int32)) tl_) = (0 : Int32)) := by rw [own_leq_same (own_ch x0 (24 : Int32)) (own_ch x0 (32 : Int32)) (own_ch x0 (40 : Int32)) tl_ (own_ch x0 (24 : Int32)) (own_ch x0 (32 : Int32)) (own_ch x0 (40 : Int32)) tl_ (own_rg c351 c352) (own_rg c353 c354) (own_rg c355 c356) (own_rg c351 c352) (own_rg c353 c354) (own_rg c355 c356) (own_four c349 c350) (own_four c349 c350), own_same_comm]; exact c429
    have f433 := (((((((f339_0.keep K357).keep K371).keep K377).ext E383).keep K392).ext E394).keep K400)
    have f434 := (own_sta_keep ((own_sta_keep ((own_sta_keep f378 K377 all0).ext E383) K392 (allS (own_ns_exa A383) all0)).ext E394) K400 (allS (own_ns_exa A394) all0))
    have f435 := (((((f371_1.keep K377 nin0).ext E383).keep K392 (ninS (Nat.ne_of_lt (Nat.lt_of_lt_of_le (f371_0.keep K377).lt (Nat.le_of_eq g383.symm))) nin0)).ext E394).keep K400 (ninS (Nat.ne_of_lt (Nat.lt_of_lt_of_le (((f371_0.keep K377).ext E383).keep K392).lt (Nat.le_of_eq g394.symm))) nin0))
    have f436 := (((((((f339_1.keep K357 nin0).keep K371 nin0).keep K377 nin0).ext E383).keep K392 (ninS (Nat.ne_of_lt (Nat.lt_of_lt_of_le (((f339_0.keep K357).keep K371).keep K377).lt (Nat.le_of_eq g383.symm))) nin0)).ext E394).keep K400 (ninS (Nat.ne_of_lt (Nat.lt_of_lt_of_le (((((f339_0.keep K357).keep K371).keep K377).ext E383).keep K392).lt (Nat.le_of_eq g394.symm))) nin0))
    have f437 := (((((f371_2.keep K377 nin0).ext E383).keep K392 (ninS (Nat.ne_of_lt (Nat.lt_of_lt_of_le (f371_0.keep K377).lt (Nat.le_of_eq g383.symm))) nin0)).ext E394).keep K400 (ninS (Nat.ne_of_lt (Nat.lt_of_lt_of_le (((f371_0.keep K377).ext E383).keep K392).lt (Nat.le_of_eq g394.symm))) nin0))
    have f438 := (((((((f339_2.keep K357 nin0).keep K371 nin0).keep K377 nin0).ext E383).keep K392 (ninS (Nat.ne_of_lt (Nat.lt_of_lt_of_le (((f339_0.keep K357).keep K371).keep K377).lt (Nat.le_of_eq g383.symm))) nin0)).ext E394).keep K400 (ninS (Nat.ne_of_lt (Nat.lt_of_lt_of_le (((((f339_0.keep K357).keep K371).keep K377).ext E383).keep K392).lt (Nat.le_of_eq g394.symm))) nin0))
    have f439 := (((((f371_3.keep K377 nin0).ext E383).keep K392 (ninS (Nat.ne_of_lt (Nat.lt_of_lt_of_le (f371_3.keep K377 nin0).lt (Nat.le_of_eq g383.symm))) nin0)).ext E394).keep K400 (ninS (Nat.ne_of_lt (Nat.lt_of_lt_of_le (((f371_3.keep K377 nin0).ext E383).keep K392 (ninS (Nat.ne_of_lt (Nat.lt_of_lt_of_le (f371_3.keep K377 nin0).lt (Nat.le_of_eq g383.symm))) nin0)).lt (Nat.le_of_eq g394.symm))) nin0))
    have f440 := (((((((f339_3.keep K357 nin0).keep K371 nin0).keep K377 nin0).ext E383).keep K392 (ninS (Nat.ne_of_lt (Nat.lt_of_lt_of_le (((f339_3.keep K357 nin0).keep K371 nin0).keep K377 nin0).lt (Nat.le_of_eq g383.symm))) nin0)).ext E394).keep K400 (ninS (Nat.ne_of_lt (Nat.lt_of_lt_of_le (((((f339_3.keep K357 nin0).keep K371 nin0).keep K377 nin0).ext E383).keep K392 (ninS (Nat.ne_of_lt (Nat.lt_of_lt_of_le (((f339_3.keep K357 nin0).keep K371 nin0).keep K377 nin0).lt (Nat.le_of_eq g383.symm))) nin0)).lt (Nat.le_of_eq g394.symm))) nin0))
    have f441 := (((((f371_0.keep K377).ext E383).keep K392).ext E394).keep K400)
    have f442 := ((((((f357_0.keep K371).keep K377).ext E383).keep K392).ext E394).keep K400)
    have f443 := ((((f377_1.ext E383).keep K392 (ninS (Nat.ne_of_lt (Nat.lt_of_lt_of_le f377_0.lt (Nat.le_of_eq g383.symm))) nin0)).ext E394).keep K400 (ninS (Nat.ne_of_lt (Nat.lt_of_lt_of_le ((f377_0.ext E383).keep K392).lt (Nat.le_of_eq g394.symm))) nin0))
    have f444 := ((((((f357_1.keep K371 nin0).keep K377 nin0).ext E383).keep K392 (ninS (Nat.ne_of_lt (Nat.lt_of_lt_of_le ((f357_0.keep K371).keep K377).lt (Nat.le_of_eq g383.symm))) nin0)).ext E394).keep K400 (ninS (Nat.ne_of_lt (Nat.lt_of_lt_of_le ((((f357_0.keep K371).keep K377).ext E383).keep K392).lt (Nat.le_of_eq g394.symm))) nin0))
    have f445 := ((((f377_2.ext E383).keep K392 (ninS (Nat.ne_of_lt (Nat.lt_of_lt_of_le f377_0.lt (Nat.le_of_eq g383.symm))) nin0)).ext E394).keep K400 (ninS (Nat.ne_of_lt (Nat.lt_of_lt_of_le ((f377_0.ext E383).keep K392).lt (Nat.le_of_eq g394.symm))) nin0))
    have f446 := ((((((f357_2.keep K371 nin0).keep K377 nin0).ext E383).keep K392 (ninS (Nat.ne_of_lt (Nat.lt_of_lt_of_le ((f357_0.keep K371).keep K377).lt (Nat.le_of_eq g383.symm))) nin0)).ext E394).keep K400 (ninS (Nat.ne_of_lt (Nat.lt_of_lt_of_le ((((f357_0.keep K371).keep K377).ext E383).keep K392).lt (Nat.le_of_eq g394.symm))) nin0))
    have f447 := ((((f377_3.ext E383).keep K392 (ninS (Nat.ne_of_lt (Nat.lt_of_lt_of_le f377_3.lt (Nat.le_of_eq g383.symm))) nin0)).ext E394).keep K400 (ninS (Nat.ne_of_lt (Nat.lt_of_lt_of_le ((f377_3.ext E383).keep K392 (ninS (Nat.ne_of_lt (Nat.lt_of_lt_of_le f377_3.lt (Nat.le_of_eq g383.symm))) nin0)).lt (Nat.le_of_eq g394.symm))) nin0))
    have f448 := ((((((f357_3.keep K371 nin0).keep K377 nin0).ext E383).keep K392 (ninS (Nat.ne_of_lt (Nat.lt_of_lt_of_le ((f357_3.keep K371 nin0).keep K377 nin0).lt (Nat.le_of_eq g383.symm))) nin0)).ext E394).keep K400 (ninS (Nat.ne_of_lt (Nat.lt_of_lt_of_le ((((f357_3.keep K371 nin0).keep K377 nin0).ext E383).keep K392 (ninS (Nat.ne_of_lt (Nat.lt_of_lt_of_le ((f357_3.keep K371 nin0).keep K377 nin0).lt (Nat.le_of_eq g383.symm))) nin0)).lt (Nat.le_of_eq g394.symm))) nin0))
    have f449 := ((((f377_0.ext E383).keep K392).ext E394).keep K400)
    have f450 := (A394.keep K400)
    refine own_cv X427 hx hZ hown (notFace_of_selects (args := #[]) (mvT hZ (hw _ (own_m 52 rfl)))) (hw _ (own_m 49 rfl)) (hw _ (own_m 50 rfl)) (hw _ (own_m 52 rfl)) (hw _ (own_m 51 rfl)) (hw _ (own_m 33 rfl)) (hw _ (own_m 53 rfl)) (by decide) f450 (rm := { frames := 2, cells := 0, slots := 0, locals := 28 }) (rm_admits_39 l Z a0 hw [] b394 b371_0 b377_0 b383 b339_0 i_COMPACT_STRINGS b371_1 b339_1 an_ (own_ch x1 (0 : Int32)) (own_ch x1 (8 : Int32)) (own_ch x1 (16 : Int32)) kb371_0 tn_ (own_ch x0 (0 : Int32)) (own_ch x0 (8 : Int32)) (own_ch x0 (16 : Int32)) kb339_0 b357_0 b377_1 b357_1 tl_ (own_ch x0 (24 : Int32)) (own_ch x0 (32 : Int32)) (own_ch x0 (40 : Int32)) kb377_0 kb357_0 T400.heap n0 Z405 f400_2 f400_1 f433 f434 f435 f436 f437 f438 f439 f440 f441 f400_0 f442 f443 f444 f445 f446 f447 f448 f449 (Ne.symm (Nat.ne_of_lt (Nat.lt_of_lt_of_le (f339_0.keep K357).lt sz371_0))) (Ne.symm (Nat.ne_of_lt (Nat.lt_of_lt_of_le (f357_0.keep K371).lt sz377_0))) hs_COMPACT_STRINGS c363 c364 c331 c332 c430 c349 c350 c431) (by decide) (W := 0) (by decide) (by decide) (by decide) e427 (by rw [hml]; rfl) (argsL := [(.ref b371_0), (.ref b377_0)]) (lenOf own_pd14 rfl) (rest := []) rfl rfl (Nat.le_of_eq rfl) (hb hby at_225) ?_
    intro _ T432 L432 X432 hQ432
    obtain ⟨rfl, N432q, e432⟩ := hQ432
    have N432 := Fr.app N427 N432q
    show oG p e below _ (T432.setTop (mkF m 228 #[.val (.long x0), .second, .val (.long x1), .second, .val (.int x2), .val (.int (1 : Int32)), .val (.ref b156_0), .val (.ref b157_0), .val (.ref b159_0), .val (.ref b157_0), .val (.int tn_), .val (.int tl_), .val (.int an_), .val (.int tl_), .val (.ref b339_0), .val (.ref b357_0), .val (.ref b371_0), .val (.ref b377_0), .val (.ref b383), .val (.ref b394), .val (.int (1 : Int32))] [(.int (1 : Int32))]))
    refine og (fun _ hr => XS.iload X432.here hx rfl (hb hby at_228) rfl (XS.icmpNo X432.here hx rfl (hb hby at_230) rfl (teq (by decide)).2 (XS.iconst X432.here hx rfl (hb hby at_233) (XS.goto X432.here hx rfl (pc0 := 234) (pc' := 238) rfl (hb hby at_234) (by decide) (by decide) hr)))) ?_
    show oG p e below _ (T432.setTop (mkF m 238 #[.val (.long x0), .second, .val (.long x1), .second, .val (.int x2), .val (.int (1 : Int32)), .val (.ref b156_0), .val (.ref b157_0), .val (.ref b159_0), .val (.ref b157_0), .val (.int tn_), .val (.int tl_), .val (.int an_), .val (.int tl_), .val (.ref b339_0), .val (.ref b357_0), .val (.ref b371_0), .val (.ref b377_0), .val (.ref b383), .val (.ref b394), .val (.int (1 : Int32))] [(.int (1 : Int32))]))
    have hk451 := (Nat.le_trans (Nat.le_trans (Nat.le_trans (Nat.le_trans (Nat.le_refl _) E383.1) K392.1) E394.1) K400.1)
    have A452 := A382.trans Ac377
    have A453 := A452.trans (CHr.ext E383 A452.1)
    have sf455 := (Safe.ext E383 A452.1 (Safe.new (Nat.le_of_eq g383.symm)))
    have A454 := A453.trans (CHr.keep K392 (sfS sf455 sf0) A453.1)
    have A456 := A454.trans (CHr.ext E394 A454.1)
    have sf458 := (Safe.ext E394 A454.1 (Safe.new (Nat.le_of_eq g394.symm)))
    have A457 := A456.trans (CHr.keep K400 (sfS sf458 sf0) A456.1)
    exact own_retNW X432 hx hlk Bd.returns hS hk451 hZ hEL hh e432 A457 (t := .boolean) (by simp) (hb hby at_238) (by decide) (by decide) ⟨rfl, N432⟩
  refine og (fun _ hr => XS.ifNo X161.here hx rfl (hb hby at_89) rfl ((if0 _ _).trans (feq c163).1) hr) ?_
  show oG p e below _ (T161.setTop (mkF m 92 #[.val (.long x0), .second, .val (.long x1), .second, .val (.int x2), .val (.int (1 : Int32)), .val (.ref b156_0), .val (.ref b157_0), .val (.ref b159_0), .val (.ref b161_0), .val (.int tn_), .val (.int tl_), .val (.int an_), .val (.int al_), .unset, .unset, .unset, .unset, .unset, .unset, .unset] []))
  refine og (fun _ hr => XS.aload X161.here hx rfl (hb hby at_92) rfl rfl (XS.astore X161.here hx rfl (hb hby at_94) rfl rfl (l' := #[.val (.long x0), .second, .val (.long x1), .second, .val (.int x2), .val (.int (1 : Int32)), .val (.ref b156_0), .val (.ref b157_0), .val (.ref b156_0), .val (.ref b161_0), .val (.int tn_), .val (.int tl_), .val (.int an_), .val (.int al_), .unset, .unset, .unset, .unset, .unset, .unset, .unset]) rfl (XS.iload X161.here hx rfl (hb hby at_96) rfl (XS.istore X161.here hx rfl (hb hby at_98) rfl (l' := #[.val (.long x0), .second, .val (.long x1), .second, .val (.int x2), .val (.int (1 : Int32)), .val (.ref b156_0), .val (.ref b157_0), .val (.ref b156_0), .val (.ref b161_0), .val (.int tn_), .val (.int tl_), .val (.int tn_), .val (.int al_), .unset, .unset, .unset, .unset, .unset, .unset, .unset]) rfl (XS.iload X161.here hx rfl (hb hby at_100) rfl (XS.bipush X161.here hx rfl (hb hby at_102) (XS.iushr X161.here hx rfl (hb hby at_104) rfl (XS.iconst X161.here hx rfl (hb hby at_105) (XS.iand X161.here hx rfl (hb hby at_106) rfl hr))))))))) ?_
  show oG p e below _ (T161.setTop (mkF m 107 #[.val (.long x0), .second, .val (.long x1), .second, .val (.int x2), .val (.int (1 : Int32)), .val (.ref b156_0), .val (.ref b157_0), .val (.ref b156_0), .val (.ref b161_0), .val (.int tn_), .val (.int tl_), .val (.int tn_), .val (.int al_), .unset, .unset, .unset, .unset, .unset, .unset, .unset] [(.int (((x2.toUInt32 >>> ((10 : Int32) &&& 31).toUInt32).toInt32) &&& (1 : Int32)))]))
  rcases Classical.em ((((x2.toUInt32 >>> ((10 : Int32) &&& 31).toUInt32).toInt32) &&& (1 : Int32)) = (0 : Int32)) with c459 | c459
  · skip
    refine og (fun _ hr => XS.ifYes X161.here hx rfl (pc0 := 107) (pc' := 118) rfl (hb hby at_107) rfl ((if0 _ _).trans (teq c459).1) (by decide) (by decide) hr) ?_
    show oG p e below _ (T161.setTop (mkF m 118 #[.val (.long x0), .second, .val (.long x1), .second, .val (.int x2), .val (.int (1 : Int32)), .val (.ref b156_0), .val (.ref b157_0), .val (.ref b156_0), .val (.ref b161_0), .val (.int tn_), .val (.int tl_), .val (.int tn_), .val (.int al_), .unset, .unset, .unset, .unset, .unset, .unset, .unset] []))
    refine og (fun _ hr => XS.aload X161.here hx rfl (hb hby at_118) rfl rfl (XS.iload X161.here hx rfl (hb hby at_120) rfl hr)) ?_
    show oG p e below _ (T161.setTop (mkF m 122 #[.val (.long x0), .second, .val (.long x1), .second, .val (.int x2), .val (.int (1 : Int32)), .val (.ref b156_0), .val (.ref b157_0), .val (.ref b156_0), .val (.ref b161_0), .val (.int tn_), .val (.int tl_), .val (.int tn_), .val (.int al_), .unset, .unset, .unset, .unset, .unset, .unset, .unset] [(.int tn_), (.ref b156_0)]))
    have c460 : ¬ (tn_ < (0 : Int32)) := by
      have q0 := rng32 x2
      have q1 := c_mask x2 (1 : Int32) 1 (by decide) (by decide)
      have q2 := c_iushr x2 (9 : Int32) 9 (by decide) (by decide)
      have q3 := c_mask ((x2.toUInt32 >>> ((9 : Int32) &&& 31).toUInt32).toInt32) (1 : Int32) 1 (by decide) (by decide)
      have q4 := c_iushr x2 (10 : Int32) 10 (by decide) (by decide)
      have q5 := c_mask ((x2.toUInt32 >>> ((10 : Int32) &&& 31).toUInt32).toInt32) (1 : Int32) 1 (by decide) (by decide)
      have q6 := c_iushr x2 (1 : Int32) 1 (by decide) (by decide)
      have q7 := c_mask ((x2.toUInt32 >>> ((1 : Int32) &&& 31).toUInt32).toInt32) (3 : Int32) 2 (by decide) (by decide)
      have q8 := congrArg Int32.toInt htn_
      have p0 := c1
      have p1 := c163
      have p2 := c459
      simp only [true_implies, Int32.lt_iff_toInt_lt, ← Int32.toInt_inj, Int32.reduceToInt, Int64.lt_iff_toInt_lt, ← Int64.toInt_inj, Int64.reduceToInt] at q0 q1 q2 q3 q4 q5 q6 q7 q8 p0 p1 p2 ⊢
      omega
    have c461 : ¬ ((3 : Int32) < tn_) := by
      have q0 := rng32 x2
      have q1 := c_mask x2 (1 : Int32) 1 (by decide) (by decide)
      have q2 := c_iushr x2 (9 : Int32) 9 (by decide) (by decide)
      have q3 := c_mask ((x2.toUInt32 >>> ((9 : Int32) &&& 31).toUInt32).toInt32) (1 : Int32) 1 (by decide) (by decide)
      have q4 := c_iushr x2 (10 : Int32) 10 (by decide) (by decide)
      have q5 := c_mask ((x2.toUInt32 >>> ((10 : Int32) &&& 31).toUInt32).toInt32) (1 : Int32) 1 (by decide) (by decide)
      have q6 := c_iushr x2 (1 : Int32) 1 (by decide) (by decide)
      have q7 := c_mask ((x2.toUInt32 >>> ((1 : Int32) &&& 31).toUInt32).toInt32) (3 : Int32) 2 (by decide) (by decide)
      have q8 := congrArg Int32.toInt htn_
      have p0 := c1
      have p1 := c163
      have p2 := c459
      have p3 := c460
      simp only [true_implies, Int32.lt_iff_toInt_lt, ← Int32.toInt_inj, Int32.reduceToInt, Int64.lt_iff_toInt_lt, ← Int64.toInt_inj, Int64.reduceToInt] at q0 q1 q2 q3 q4 q5 q6 q7 q8 p0 p1 p2 p3 ⊢
      omega
    have c462 : ¬ ((own_ch x0 (0 : Int32)) < (0 : Int32)) := by
      have q0 := rng64 x0
      have q1 := own_ch_v x0 (0 : Int32)
      simp only [true_implies, Int32.lt_iff_toInt_lt, ← Int32.toInt_inj, Int32.reduceToInt, Int64.lt_iff_toInt_lt, ← Int64.toInt_inj, Int64.reduceToInt] at q0 q1 ⊢
      omega
    have c463 : ¬ ((255 : Int32) < (own_ch x0 (0 : Int32))) := by
      have q0 := rng64 x0
      have q1 := own_ch_v x0 (0 : Int32)
      have p0 := c462
      simp only [true_implies, Int32.lt_iff_toInt_lt, ← Int32.toInt_inj, Int32.reduceToInt, Int64.lt_iff_toInt_lt, ← Int64.toInt_inj, Int64.reduceToInt] at q0 q1 p0 ⊢
      omega
    have c464 : ¬ ((own_ch x0 (8 : Int32)) < (0 : Int32)) := by
      have q0 := rng64 x0
      have q1 := own_ch_v x0 (0 : Int32)
      have q2 := own_ch_v x0 (8 : Int32)
      have p0 := c462
      have p1 := c463
      simp only [true_implies, Int32.lt_iff_toInt_lt, ← Int32.toInt_inj, Int32.reduceToInt, Int64.lt_iff_toInt_lt, ← Int64.toInt_inj, Int64.reduceToInt] at q0 q1 q2 p0 p1 ⊢
      omega
    have c465 : ¬ ((255 : Int32) < (own_ch x0 (8 : Int32))) := by
      have q0 := rng64 x0
      have q1 := own_ch_v x0 (0 : Int32)
      have q2 := own_ch_v x0 (8 : Int32)
      have p0 := c462
      have p1 := c463
      have p2 := c464
      simp only [true_implies, Int32.lt_iff_toInt_lt, ← Int32.toInt_inj, Int32.reduceToInt, Int64.lt_iff_toInt_lt, ← Int64.toInt_inj, Int64.reduceToInt] at q0 q1 q2 p0 p1 p2 ⊢
      omega
    have c466 : ¬ ((own_ch x0 (16 : Int32)) < (0 : Int32)) := by
      have q0 := rng64 x0
      have q1 := own_ch_v x0 (0 : Int32)
      have q2 := own_ch_v x0 (8 : Int32)
      have q3 := own_ch_v x0 (16 : Int32)
      have p0 := c462
      have p1 := c463
      have p2 := c464
      have p3 := c465
      simp only [true_implies, Int32.lt_iff_toInt_lt, ← Int32.toInt_inj, Int32.reduceToInt, Int64.lt_iff_toInt_lt, ← Int64.toInt_inj, Int64.reduceToInt] at q0 q1 q2 q3 p0 p1 p2 p3 ⊢
      omega
    have c467 : ¬ ((255 : Int32) < (own_ch x0 (16 : Int32))) := by
      have q0 := rng64 x0
      have q1 := own_ch_v x0 (0 : Int32)
      have q2 := own_ch_v x0 (8 : Int32)
      have q3 := own_ch_v x0 (16 : Int32)
      have p0 := c462
      have p1 := c463
      have p2 := c464
      have p3 := c465
      have p4 := c466
      simp only [true_implies, Int32.lt_iff_toInt_lt, ← Int32.toInt_inj, Int32.reduceToInt, Int64.lt_iff_toInt_lt, ← Int64.toInt_inj, Int64.reduceToInt] at q0 q1 q2 q3 p0 p1 p2 p3 p4 ⊢
      omega
    have f469 := (own_sta_keep (own_sta_keep (own_sta_keep (own_sta_keep S_COMPACT_STRINGS K156 all0) K157 all0) K159 all0) K161 all0)
    have f470 := (((f156_1.keep K157 nin0).keep K159 nin0).keep K161 nin0)
    have Z471 := (Nat.le_trans Z162 K161.1)
    have hZo472 := hZ
    have A473 := A0.trans (CHr.keep K156 sf0 A0.1)
    have A474 := A473.trans (CHr.keep K157 sf0 A473.1)
    have A475 := A474.trans (CHr.keep K159 sf0 A474.1)
    have A476 := A475.trans (CHr.keep K161 sf0 A475.1)
    have hk477 := (Nat.le_trans (Nat.le_trans (Nat.le_trans (Nat.le_trans hk K156.1) K157.1) K159.1) K161.1)
    refine own_csW X161 hx hZ hown (hw _ (own_m 14 rfl)) (hw _ (own_m 15 rfl)) (hw _ (own_m 2 rfl)) (hw _ (own_m 16 rfl)) (by decide) (rm := { frames := 4, cells := 6, slots := 12, locals := 66 }) (rm_str l Z a0 hw [] b156_0 kb156_0 tn_ (own_ch x0 (0 : Int32)) (own_ch x0 (8 : Int32)) (own_ch x0 (16 : Int32)) i_COMPACT_STRINGS T161.heap n0 Z471 f469 hs_COMPACT_STRINGS f470 c460 c461 c462 c463 c464 c465 c466 c467) (by decide) (W := 0) (by decide) (by decide) (by decide) rfl hEL A476.1 hS hk477 (by rw [hml]; rfl) (argsL := [(.ref b156_0), (.int tn_)]) (lenOf own_pd10 rfl) (rest := []) rfl rfl (Nat.le_of_eq rfl) (hb hby at_122) ?_
    intro _ T468 L468 X468 hQ468 Ac468 hS hZ hown
    obtain ⟨b468_0, b468_1, kb468_0, rfl, N468q, K468, ge468_0, sz468_0, f468_0, f468_1, f468_2, f468_3⟩ := hQ468
    have N468 := Fr.app N161 N468q
    show oG p e below _ (T468.setTop (mkF m 125 #[.val (.long x0), .second, .val (.long x1), .second, .val (.int x2), .val (.int (1 : Int32)), .val (.ref b156_0), .val (.ref b157_0), .val (.ref b156_0), .val (.ref b161_0), .val (.int tn_), .val (.int tl_), .val (.int tn_), .val (.int al_), .unset, .unset, .unset, .unset, .unset, .unset, .unset] [(.ref b468_0)]))
    refine og (fun _ hr => XS.astore X468.here hx rfl (hb hby at_125) rfl rfl (l' := #[.val (.long x0), .second, .val (.long x1), .second, .val (.int x2), .val (.int (1 : Int32)), .val (.ref b156_0), .val (.ref b157_0), .val (.ref b156_0), .val (.ref b161_0), .val (.int tn_), .val (.int tl_), .val (.int tn_), .val (.int al_), .val (.ref b468_0), .unset, .unset, .unset, .unset, .unset, .unset]) rfl (XS.aload X468.here hx rfl (hb hby at_127) rfl rfl (XS.iload X468.here hx rfl (hb hby at_129) rfl hr))) ?_
    show oG p e below _ (T468.setTop (mkF m 131 #[.val (.long x0), .second, .val (.long x1), .second, .val (.int x2), .val (.int (1 : Int32)), .val (.ref b156_0), .val (.ref b157_0), .val (.ref b156_0), .val (.ref b161_0), .val (.int tn_), .val (.int tl_), .val (.int tn_), .val (.int al_), .val (.ref b468_0), .unset, .unset, .unset, .unset, .unset, .unset] [(.int tl_), (.ref b157_0)]))
    have c478 : ¬ (tl_ < (0 : Int32)) := by
      have q0 := rng32 x2
      have q1 := c_mask x2 (1 : Int32) 1 (by decide) (by decide)
      have q2 := c_iushr x2 (9 : Int32) 9 (by decide) (by decide)
      have q3 := c_mask ((x2.toUInt32 >>> ((9 : Int32) &&& 31).toUInt32).toInt32) (1 : Int32) 1 (by decide) (by decide)
      have q4 := c_iushr x2 (10 : Int32) 10 (by decide) (by decide)
      have q5 := c_mask ((x2.toUInt32 >>> ((10 : Int32) &&& 31).toUInt32).toInt32) (1 : Int32) 1 (by decide) (by decide)
      have q6 := c_iushr x2 (1 : Int32) 1 (by decide) (by decide)
      have q7 := c_mask ((x2.toUInt32 >>> ((1 : Int32) &&& 31).toUInt32).toInt32) (3 : Int32) 2 (by decide) (by decide)
      have q8 := congrArg Int32.toInt htn_
      have q9 := c_iushr x2 (3 : Int32) 3 (by decide) (by decide)
      have q10 := c_mask ((x2.toUInt32 >>> ((3 : Int32) &&& 31).toUInt32).toInt32) (3 : Int32) 2 (by decide) (by decide)
      have q11 := congrArg Int32.toInt htl_
      have p0 := c1
      have p1 := c163
      have p2 := c459
      have p3 := c460
      have p4 := c461
      simp only [true_implies, Int32.lt_iff_toInt_lt, ← Int32.toInt_inj, Int32.reduceToInt, Int64.lt_iff_toInt_lt, ← Int64.toInt_inj, Int64.reduceToInt] at q0 q1 q2 q3 q4 q5 q6 q7 q8 q9 q10 q11 p0 p1 p2 p3 p4 ⊢
      omega
    have c479 : ¬ ((3 : Int32) < tl_) := by
      have q0 := rng32 x2
      have q1 := c_mask x2 (1 : Int32) 1 (by decide) (by decide)
      have q2 := c_iushr x2 (9 : Int32) 9 (by decide) (by decide)
      have q3 := c_mask ((x2.toUInt32 >>> ((9 : Int32) &&& 31).toUInt32).toInt32) (1 : Int32) 1 (by decide) (by decide)
      have q4 := c_iushr x2 (10 : Int32) 10 (by decide) (by decide)
      have q5 := c_mask ((x2.toUInt32 >>> ((10 : Int32) &&& 31).toUInt32).toInt32) (1 : Int32) 1 (by decide) (by decide)
      have q6 := c_iushr x2 (1 : Int32) 1 (by decide) (by decide)
      have q7 := c_mask ((x2.toUInt32 >>> ((1 : Int32) &&& 31).toUInt32).toInt32) (3 : Int32) 2 (by decide) (by decide)
      have q8 := congrArg Int32.toInt htn_
      have q9 := c_iushr x2 (3 : Int32) 3 (by decide) (by decide)
      have q10 := c_mask ((x2.toUInt32 >>> ((3 : Int32) &&& 31).toUInt32).toInt32) (3 : Int32) 2 (by decide) (by decide)
      have q11 := congrArg Int32.toInt htl_
      have p0 := c1
      have p1 := c163
      have p2 := c459
      have p3 := c460
      have p4 := c461
      have p5 := c478
      simp only [true_implies, Int32.lt_iff_toInt_lt, ← Int32.toInt_inj, Int32.reduceToInt, Int64.lt_iff_toInt_lt, ← Int64.toInt_inj, Int64.reduceToInt] at q0 q1 q2 q3 q4 q5 q6 q7 q8 q9 q10 q11 p0 p1 p2 p3 p4 p5 ⊢
      omega
    have c480 : ¬ ((own_ch x0 (24 : Int32)) < (0 : Int32)) := by
      have q0 := rng64 x0
      have q1 := own_ch_v x0 (0 : Int32)
      have q2 := own_ch_v x0 (8 : Int32)
      have q3 := own_ch_v x0 (16 : Int32)
      have q4 := own_ch_v x0 (24 : Int32)
      have p0 := c462
      have p1 := c463
      have p2 := c464
      have p3 := c465
      have p4 := c466
      have p5 := c467
      simp only [true_implies, Int32.lt_iff_toInt_lt, ← Int32.toInt_inj, Int32.reduceToInt, Int64.lt_iff_toInt_lt, ← Int64.toInt_inj, Int64.reduceToInt] at q0 q1 q2 q3 q4 p0 p1 p2 p3 p4 p5 ⊢
      omega
    have c481 : ¬ ((255 : Int32) < (own_ch x0 (24 : Int32))) := by
      have q0 := rng64 x0
      have q1 := own_ch_v x0 (0 : Int32)
      have q2 := own_ch_v x0 (8 : Int32)
      have q3 := own_ch_v x0 (16 : Int32)
      have q4 := own_ch_v x0 (24 : Int32)
      have p0 := c462
      have p1 := c463
      have p2 := c464
      have p3 := c465
      have p4 := c466
      have p5 := c467
      have p6 := c480
      simp only [true_implies, Int32.lt_iff_toInt_lt, ← Int32.toInt_inj, Int32.reduceToInt, Int64.lt_iff_toInt_lt, ← Int64.toInt_inj, Int64.reduceToInt] at q0 q1 q2 q3 q4 p0 p1 p2 p3 p4 p5 p6 ⊢
      omega
    have c482 : ¬ ((own_ch x0 (32 : Int32)) < (0 : Int32)) := by
      have q0 := rng64 x0
      have q1 := own_ch_v x0 (0 : Int32)
      have q2 := own_ch_v x0 (8 : Int32)
      have q3 := own_ch_v x0 (16 : Int32)
      have q4 := own_ch_v x0 (24 : Int32)
      have q5 := own_ch_v x0 (32 : Int32)
      have p0 := c462
      have p1 := c463
      have p2 := c464
      have p3 := c465
      have p4 := c466
      have p5 := c467
      have p6 := c480
      have p7 := c481
      simp only [true_implies, Int32.lt_iff_toInt_lt, ← Int32.toInt_inj, Int32.reduceToInt, Int64.lt_iff_toInt_lt, ← Int64.toInt_inj, Int64.reduceToInt] at q0 q1 q2 q3 q4 q5 p0 p1 p2 p3 p4 p5 p6 p7 ⊢
      omega
    have c483 : ¬ ((255 : Int32) < (own_ch x0 (32 : Int32))) := by
      have q0 := rng64 x0
      have q1 := own_ch_v x0 (0 : Int32)
      have q2 := own_ch_v x0 (8 : Int32)
      have q3 := own_ch_v x0 (16 : Int32)
      have q4 := own_ch_v x0 (24 : Int32)
      have q5 := own_ch_v x0 (32 : Int32)
      have p0 := c462
      have p1 := c463
      have p2 := c464
      have p3 := c465
      have p4 := c466
      have p5 := c467
      have p6 := c480
      have p7 := c481
      have p8 := c482
      simp only [true_implies, Int32.lt_iff_toInt_lt, ← Int32.toInt_inj, Int32.reduceToInt, Int64.lt_iff_toInt_lt, ← Int64.toInt_inj, Int64.reduceToInt] at q0 q1 q2 q3 q4 q5 p0 p1 p2 p3 p4 p5 p6 p7 p8 ⊢
      omega
    have c484 : ¬ ((own_ch x0 (40 : Int32)) < (0 : Int32)) := by
      have q0 := rng64 x0
      have q1 := own_ch_v x0 (0 : Int32)
      have q2 := own_ch_v x0 (8 : Int32)
      have q3 := own_ch_v x0 (16 : Int32)
      have q4 := own_ch_v x0 (24 : Int32)
      have q5 := own_ch_v x0 (32 : Int32)
      have q6 := own_ch_v x0 (40 : Int32)
      have p0 := c462
      have p1 := c463
      have p2 := c464
      have p3 := c465
      have p4 := c466
      have p5 := c467
      have p6 := c480
      have p7 := c481
      have p8 := c482
      have p9 := c483
      simp only [true_implies, Int32.lt_iff_toInt_lt, ← Int32.toInt_inj, Int32.reduceToInt, Int64.lt_iff_toInt_lt, ← Int64.toInt_inj, Int64.reduceToInt] at q0 q1 q2 q3 q4 q5 q6 p0 p1 p2 p3 p4 p5 p6 p7 p8 p9 ⊢
      omega
    have c485 : ¬ ((255 : Int32) < (own_ch x0 (40 : Int32))) := by
      have q0 := rng64 x0
      have q1 := own_ch_v x0 (0 : Int32)
      have q2 := own_ch_v x0 (8 : Int32)
      have q3 := own_ch_v x0 (16 : Int32)
      have q4 := own_ch_v x0 (24 : Int32)
      have q5 := own_ch_v x0 (32 : Int32)
      have q6 := own_ch_v x0 (40 : Int32)
      have p0 := c462
      have p1 := c463
      have p2 := c464
      have p3 := c465
      have p4 := c466
      have p5 := c467
      have p6 := c480
      have p7 := c481
      have p8 := c482
      have p9 := c483
      have p10 := c484
      simp only [true_implies, Int32.lt_iff_toInt_lt, ← Int32.toInt_inj, Int32.reduceToInt, Int64.lt_iff_toInt_lt, ← Int64.toInt_inj, Int64.reduceToInt] at q0 q1 q2 q3 q4 q5 q6 p0 p1 p2 p3 p4 p5 p6 p7 p8 p9 p10 ⊢
      omega
    have f487 := (own_sta_keep f469 K468 all0)
    have f488 := (((f157_1.keep K159 nin0).keep K161 nin0).keep K468 nin0)
    have Z489 := (Nat.le_trans Z471 K468.1)
    have hZo490 := hZ
    have A491 := A476.trans Ac468
    refine own_csW X468 hx hZ hown (hw _ (own_m 14 rfl)) (hw _ (own_m 15 rfl)) (hw _ (own_m 2 rfl)) (hw _ (own_m 16 rfl)) (by decide) (rm := { frames := 4, cells := 6, slots := 12, locals := 66 }) (rm_str l Z a0 hw [] b157_0 kb157_0 tl_ (own_ch x0 (24 : Int32)) (own_ch x0 (32 : Int32)) (own_ch x0 (40 : Int32)) i_COMPACT_STRINGS T468.heap n0 Z489 f487 hs_COMPACT_STRINGS f488 c478 c479 c480 c481 c482 c483 c484 c485) (by decide) (W := 0) (by decide) (by decide) (by decide) rfl hEL A491.1 hS (Nat.le_refl _) (by rw [hml]; rfl) (argsL := [(.ref b157_0), (.int tl_)]) (lenOf own_pd10 rfl) (rest := []) rfl rfl (Nat.le_of_eq rfl) (hb hby at_131) ?_
    intro _ T486 L486 X486 hQ486 Ac486 hS hZ hown
    obtain ⟨b486_0, b486_1, kb486_0, rfl, N486q, K486, ge486_0, sz486_0, f486_0, f486_1, f486_2, f486_3⟩ := hQ486
    have N486 := Fr.app N468 N486q
    show oG p e below _ (T486.setTop (mkF m 134 #[.val (.long x0), .second, .val (.long x1), .second, .val (.int x2), .val (.int (1 : Int32)), .val (.ref b156_0), .val (.ref b157_0), .val (.ref b156_0), .val (.ref b161_0), .val (.int tn_), .val (.int tl_), .val (.int tn_), .val (.int al_), .val (.ref b468_0), .unset, .unset, .unset, .unset, .unset, .unset] [(.ref b486_0)]))
    refine og (fun _ hr => XS.astore X486.here hx rfl (hb hby at_134) rfl rfl (l' := #[.val (.long x0), .second, .val (.long x1), .second, .val (.int x2), .val (.int (1 : Int32)), .val (.ref b156_0), .val (.ref b157_0), .val (.ref b156_0), .val (.ref b161_0), .val (.int tn_), .val (.int tl_), .val (.int tn_), .val (.int al_), .val (.ref b468_0), .val (.ref b486_0), .unset, .unset, .unset, .unset, .unset]) rfl (XS.aload X486.here hx rfl (hb hby at_136) rfl rfl (XS.iload X486.here hx rfl (hb hby at_138) rfl hr))) ?_
    show oG p e below _ (T486.setTop (mkF m 140 #[.val (.long x0), .second, .val (.long x1), .second, .val (.int x2), .val (.int (1 : Int32)), .val (.ref b156_0), .val (.ref b157_0), .val (.ref b156_0), .val (.ref b161_0), .val (.int tn_), .val (.int tl_), .val (.int tn_), .val (.int al_), .val (.ref b468_0), .val (.ref b486_0), .unset, .unset, .unset, .unset, .unset] [(.int tn_), (.ref b156_0)]))
    have f493 := (own_sta_keep f487 K486 all0)
    have f494 := ((f470.keep K468 nin0).keep K486 nin0)
    have Z495 := (Nat.le_trans Z489 K486.1)
    have hZo496 := hZ
    have A497 := A491.trans Ac486
    refine own_csW X486 hx hZ hown (hw _ (own_m 14 rfl)) (hw _ (own_m 15 rfl)) (hw _ (own_m 2 rfl)) (hw _ (own_m 16 rfl)) (by decide) (rm := { frames := 4, cells := 6, slots := 12, locals := 66 }) (rm_str l Z a0 hw [] b156_0 kb156_0 tn_ (own_ch x0 (0 : Int32)) (own_ch x0 (8 : Int32)) (own_ch x0 (16 : Int32)) i_COMPACT_STRINGS T486.heap n0 Z495 f493 hs_COMPACT_STRINGS f494 c460 c461 c462 c463 c464 c465 c466 c467) (by decide) (W := 0) (by decide) (by decide) (by decide) rfl hEL A497.1 hS (Nat.le_refl _) (by rw [hml]; rfl) (argsL := [(.ref b156_0), (.int tn_)]) (lenOf own_pd10 rfl) (rest := []) rfl rfl (Nat.le_of_eq rfl) (hb hby at_140) ?_
    intro _ T492 L492 X492 hQ492 Ac492 hS hZ hown
    obtain ⟨b492_0, b492_1, kb492_0, rfl, N492q, K492, ge492_0, sz492_0, f492_0, f492_1, f492_2, f492_3⟩ := hQ492
    have N492 := Fr.app N486 N492q
    show oG p e below _ (T492.setTop (mkF m 143 #[.val (.long x0), .second, .val (.long x1), .second, .val (.int x2), .val (.int (1 : Int32)), .val (.ref b156_0), .val (.ref b157_0), .val (.ref b156_0), .val (.ref b161_0), .val (.int tn_), .val (.int tl_), .val (.int tn_), .val (.int al_), .val (.ref b468_0), .val (.ref b486_0), .unset, .unset, .unset, .unset, .unset] [(.ref b492_0)]))
    refine og (fun _ hr => XS.astore X492.here hx rfl (hb hby at_143) rfl rfl (l' := #[.val (.long x0), .second, .val (.long x1), .second, .val (.int x2), .val (.int (1 : Int32)), .val (.ref b156_0), .val (.ref b157_0), .val (.ref b156_0), .val (.ref b161_0), .val (.int tn_), .val (.int tl_), .val (.int tn_), .val (.int al_), .val (.ref b468_0), .val (.ref b486_0), .val (.ref b492_0), .unset, .unset, .unset, .unset]) rfl (XS.aload X492.here hx rfl (hb hby at_145) rfl rfl (XS.iload X492.here hx rfl (hb hby at_147) rfl hr))) ?_
    show oG p e below _ (T492.setTop (mkF m 149 #[.val (.long x0), .second, .val (.long x1), .second, .val (.int x2), .val (.int (1 : Int32)), .val (.ref b156_0), .val (.ref b157_0), .val (.ref b156_0), .val (.ref b161_0), .val (.int tn_), .val (.int tl_), .val (.int tn_), .val (.int al_), .val (.ref b468_0), .val (.ref b486_0), .val (.ref b492_0), .unset, .unset, .unset, .unset] [(.int al_), (.ref b161_0)]))
    have c498 : ¬ (al_ < (0 : Int32)) := by
      have q0 := rng32 x2
      have q1 := c_mask x2 (1 : Int32) 1 (by decide) (by decide)
      have q2 := c_iushr x2 (9 : Int32) 9 (by decide) (by decide)
      have q3 := c_mask ((x2.toUInt32 >>> ((9 : Int32) &&& 31).toUInt32).toInt32) (1 : Int32) 1 (by decide) (by decide)
      have q4 := c_iushr x2 (10 : Int32) 10 (by decide) (by decide)
      have q5 := c_mask ((x2.toUInt32 >>> ((10 : Int32) &&& 31).toUInt32).toInt32) (1 : Int32) 1 (by decide) (by decide)
      have q6 := c_iushr x2 (1 : Int32) 1 (by decide) (by decide)
      have q7 := c_mask ((x2.toUInt32 >>> ((1 : Int32) &&& 31).toUInt32).toInt32) (3 : Int32) 2 (by decide) (by decide)
      have q8 := congrArg Int32.toInt htn_
      have q9 := c_iushr x2 (3 : Int32) 3 (by decide) (by decide)
      have q10 := c_mask ((x2.toUInt32 >>> ((3 : Int32) &&& 31).toUInt32).toInt32) (3 : Int32) 2 (by decide) (by decide)
      have q11 := congrArg Int32.toInt htl_
      have q12 := c_iushr x2 (7 : Int32) 7 (by decide) (by decide)
      have q13 := c_mask ((x2.toUInt32 >>> ((7 : Int32) &&& 31).toUInt32).toInt32) (3 : Int32) 2 (by decide) (by decide)
      have q14 := congrArg Int32.toInt hal_
      have p0 := c1
      have p1 := c163
      have p2 := c459
      have p3 := c460
      have p4 := c461
      have p5 := c478
      have p6 := c479
      simp only [true_implies, Int32.lt_iff_toInt_lt, ← Int32.toInt_inj, Int32.reduceToInt, Int64.lt_iff_toInt_lt, ← Int64.toInt_inj, Int64.reduceToInt] at q0 q1 q2 q3 q4 q5 q6 q7 q8 q9 q10 q11 q12 q13 q14 p0 p1 p2 p3 p4 p5 p6 ⊢
      omega
    have c499 : ¬ ((3 : Int32) < al_) := by
      have q0 := rng32 x2
      have q1 := c_mask x2 (1 : Int32) 1 (by decide) (by decide)
      have q2 := c_iushr x2 (9 : Int32) 9 (by decide) (by decide)
      have q3 := c_mask ((x2.toUInt32 >>> ((9 : Int32) &&& 31).toUInt32).toInt32) (1 : Int32) 1 (by decide) (by decide)
      have q4 := c_iushr x2 (10 : Int32) 10 (by decide) (by decide)
      have q5 := c_mask ((x2.toUInt32 >>> ((10 : Int32) &&& 31).toUInt32).toInt32) (1 : Int32) 1 (by decide) (by decide)
      have q6 := c_iushr x2 (1 : Int32) 1 (by decide) (by decide)
      have q7 := c_mask ((x2.toUInt32 >>> ((1 : Int32) &&& 31).toUInt32).toInt32) (3 : Int32) 2 (by decide) (by decide)
      have q8 := congrArg Int32.toInt htn_
      have q9 := c_iushr x2 (3 : Int32) 3 (by decide) (by decide)
      have q10 := c_mask ((x2.toUInt32 >>> ((3 : Int32) &&& 31).toUInt32).toInt32) (3 : Int32) 2 (by decide) (by decide)
      have q11 := congrArg Int32.toInt htl_
      have q12 := c_iushr x2 (7 : Int32) 7 (by decide) (by decide)
      have q13 := c_mask ((x2.toUInt32 >>> ((7 : Int32) &&& 31).toUInt32).toInt32) (3 : Int32) 2 (by decide) (by decide)
      have q14 := congrArg Int32.toInt hal_
      have p0 := c1
      have p1 := c163
      have p2 := c459
      have p3 := c460
      have p4 := c461
      have p5 := c478
      have p6 := c479
      have p7 := c498
      simp only [true_implies, Int32.lt_iff_toInt_lt, ← Int32.toInt_inj, Int32.reduceToInt, Int64.lt_iff_toInt_lt, ← Int64.toInt_inj, Int64.reduceToInt] at q0 q1 q2 q3 q4 q5 q6 q7 q8 q9 q10 q11 q12 q13 q14 p0 p1 p2 p3 p4 p5 p6 p7 ⊢
      omega
    have c500 : ¬ ((own_ch x1 (24 : Int32)) < (0 : Int32)) := by
      have q0 := rng64 x1
      have q1 := own_ch_v x1 (24 : Int32)
      simp only [true_implies, Int32.lt_iff_toInt_lt, ← Int32.toInt_inj, Int32.reduceToInt, Int64.lt_iff_toInt_lt, ← Int64.toInt_inj, Int64.reduceToInt] at q0 q1 ⊢
      omega
    have c501 : ¬ ((255 : Int32) < (own_ch x1 (24 : Int32))) := by
      have q0 := rng64 x1
      have q1 := own_ch_v x1 (24 : Int32)
      have p0 := c500
      simp only [true_implies, Int32.lt_iff_toInt_lt, ← Int32.toInt_inj, Int32.reduceToInt, Int64.lt_iff_toInt_lt, ← Int64.toInt_inj, Int64.reduceToInt] at q0 q1 p0 ⊢
      omega
    have c502 : ¬ ((own_ch x1 (32 : Int32)) < (0 : Int32)) := by
      have q0 := rng64 x1
      have q1 := own_ch_v x1 (24 : Int32)
      have q2 := own_ch_v x1 (32 : Int32)
      have p0 := c500
      have p1 := c501
      simp only [true_implies, Int32.lt_iff_toInt_lt, ← Int32.toInt_inj, Int32.reduceToInt, Int64.lt_iff_toInt_lt, ← Int64.toInt_inj, Int64.reduceToInt] at q0 q1 q2 p0 p1 ⊢
      omega
    have c503 : ¬ ((255 : Int32) < (own_ch x1 (32 : Int32))) := by
      have q0 := rng64 x1
      have q1 := own_ch_v x1 (24 : Int32)
      have q2 := own_ch_v x1 (32 : Int32)
      have p0 := c500
      have p1 := c501
      have p2 := c502
      simp only [true_implies, Int32.lt_iff_toInt_lt, ← Int32.toInt_inj, Int32.reduceToInt, Int64.lt_iff_toInt_lt, ← Int64.toInt_inj, Int64.reduceToInt] at q0 q1 q2 p0 p1 p2 ⊢
      omega
    have c504 : ¬ ((own_ch x1 (40 : Int32)) < (0 : Int32)) := by
      have q0 := rng64 x1
      have q1 := own_ch_v x1 (24 : Int32)
      have q2 := own_ch_v x1 (32 : Int32)
      have q3 := own_ch_v x1 (40 : Int32)
      have p0 := c500
      have p1 := c501
      have p2 := c502
      have p3 := c503
      simp only [true_implies, Int32.lt_iff_toInt_lt, ← Int32.toInt_inj, Int32.reduceToInt, Int64.lt_iff_toInt_lt, ← Int64.toInt_inj, Int64.reduceToInt] at q0 q1 q2 q3 p0 p1 p2 p3 ⊢
      omega
    have c505 : ¬ ((255 : Int32) < (own_ch x1 (40 : Int32))) := by
      have q0 := rng64 x1
      have q1 := own_ch_v x1 (24 : Int32)
      have q2 := own_ch_v x1 (32 : Int32)
      have q3 := own_ch_v x1 (40 : Int32)
      have p0 := c500
      have p1 := c501
      have p2 := c502
      have p3 := c503
      have p4 := c504
      simp only [true_implies, Int32.lt_iff_toInt_lt, ← Int32.toInt_inj, Int32.reduceToInt, Int64.lt_iff_toInt_lt, ← Int64.toInt_inj, Int64.reduceToInt] at q0 q1 q2 q3 p0 p1 p2 p3 p4 ⊢
      omega
    have f507 := (own_sta_keep f493 K492 all0)
    have f508 := (((f161_1.keep K468 nin0).keep K486 nin0).keep K492 nin0)
    have Z509 := (Nat.le_trans Z495 K492.1)
    have hZo510 := hZ
    have A511 := A497.trans Ac492
    refine own_csW X492 hx hZ hown (hw _ (own_m 14 rfl)) (hw _ (own_m 15 rfl)) (hw _ (own_m 2 rfl)) (hw _ (own_m 16 rfl)) (by decide) (rm := { frames := 4, cells := 6, slots := 12, locals := 66 }) (rm_str l Z a0 hw [] b161_0 kb161_0 al_ (own_ch x1 (24 : Int32)) (own_ch x1 (32 : Int32)) (own_ch x1 (40 : Int32)) i_COMPACT_STRINGS T492.heap n0 Z509 f507 hs_COMPACT_STRINGS f508 c498 c499 c500 c501 c502 c503 c504 c505) (by decide) (W := 0) (by decide) (by decide) (by decide) rfl hEL A511.1 hS (Nat.le_refl _) (by rw [hml]; rfl) (argsL := [(.ref b161_0), (.int al_)]) (lenOf own_pd10 rfl) (rest := []) rfl rfl (Nat.le_of_eq rfl) (hb hby at_149) ?_
    intro _ T506 L506 X506 hQ506 Ac506 hS hZ hown
    obtain ⟨b506_0, b506_1, kb506_0, rfl, N506q, K506, ge506_0, sz506_0, f506_0, f506_1, f506_2, f506_3⟩ := hQ506
    have N506 := Fr.app N492 N506q
    show oG p e below _ (T506.setTop (mkF m 152 #[.val (.long x0), .second, .val (.long x1), .second, .val (.int x2), .val (.int (1 : Int32)), .val (.ref b156_0), .val (.ref b157_0), .val (.ref b156_0), .val (.ref b161_0), .val (.int tn_), .val (.int tl_), .val (.int tn_), .val (.int al_), .val (.ref b468_0), .val (.ref b486_0), .val (.ref b492_0), .unset, .unset, .unset, .unset] [(.ref b506_0)]))
    refine og (fun _ hr => XS.astore X506.here hx rfl (hb hby at_152) rfl rfl (l' := #[.val (.long x0), .second, .val (.long x1), .second, .val (.int x2), .val (.int (1 : Int32)), .val (.ref b156_0), .val (.ref b157_0), .val (.ref b156_0), .val (.ref b161_0), .val (.int tn_), .val (.int tl_), .val (.int tn_), .val (.int al_), .val (.ref b468_0), .val (.ref b486_0), .val (.ref b492_0), .val (.ref b506_0), .unset, .unset, .unset]) rfl hr) ?_
    show oG p e below _ (T506.setTop (mkF m 154 #[.val (.long x0), .second, .val (.long x1), .second, .val (.int x2), .val (.int (1 : Int32)), .val (.ref b156_0), .val (.ref b157_0), .val (.ref b156_0), .val (.ref b161_0), .val (.int tn_), .val (.int tl_), .val (.int tn_), .val (.int al_), .val (.ref b468_0), .val (.ref b486_0), .val (.ref b492_0), .val (.ref b506_0), .unset, .unset, .unset] []))
    obtain ⟨T512, h512, X512, e512, E512, A512, D512, -, st512⟩ := newO X506 hx hZ hown (hw _ (own_m 70 rfl)) (hw _ (own_m 71 rfl)) (hw _ (own_m 72 rfl)) rfl (g := (mkF m 154 #[.val (.long x0), .second, .val (.long x1), .second, .val (.int x2), .val (.int (1 : Int32)), .val (.ref b156_0), .val (.ref b157_0), .val (.ref b156_0), .val (.ref b161_0), .val (.int tn_), .val (.int tl_), .val (.int tn_), .val (.int al_), .val (.ref b468_0), .val (.ref b486_0), .val (.ref b492_0), .val (.ref b506_0), .unset, .unset, .unset] [])) rfl (hb hby at_154) (by decide) (by decide)
    obtain ⟨b512, g512⟩ : ∃ z, z = T506.heap.size := ⟨_, rfl⟩
    rw [← g512] at A512 D512 st512
    have Z513 := (Nat.le_trans Z509 K506.1)
    have ge514 : n0 ≤ b512 := Nat.le_trans Z513 (Nat.le_of_eq g512.symm)
    refine og st512 ?_
    have f515 : Fld Z h512 b512 "com/example/ruleweave/ruleweave/CommonPolicySchema$Type" "namespace" "Ljava/lang/String;" .null := D512 (Or.inr (hw _ (own_m 78 rfl))) (ty := (.object "java/lang/String")) (by decide)
    have f516 : Fld Z h512 b512 "com/example/ruleweave/ruleweave/CommonPolicySchema$Type" "name" "Ljava/lang/String;" .null := D512 (Or.inr (hw _ (own_m 80 rfl))) (ty := (.object "java/lang/String")) (by decide)
    have f517 : Fld Z h512 b512 "com/example/ruleweave/ruleweave/CommonPolicySchema$Type" "attributes" "Ljava/util/List;" .null := D512 (Or.inr (hw _ (own_m 82 rfl))) (ty := (.object "java/util/List")) (by decide)
    have f518 : Fld Z h512 b512 "com/example/ruleweave/ruleweave/CommonPolicySchema$Type" "content" "Lcom/example/ruleweave/ruleweave/CommonPolicySchema$Content;" .null := D512 (Or.inr (hw _ (own_m 84 rfl))) (ty := (.object "com/example/ruleweave/ruleweave/CommonPolicySchema$Content")) (by decide)
    have f519 : Fld Z h512 b512 "com/example/ruleweave/ruleweave/CommonPolicySchema$Type" "datatype" "Lcom/example/ruleweave/ruleweave/CommonPolicySchema$Datatype;" .null := D512 (Or.inr (hw _ (own_m 86 rfl))) (ty := (.object "com/example/ruleweave/ruleweave/CommonPolicySchema$Datatype")) (by decide)
    have f520 : Fld Z h512 b512 "com/example/ruleweave/ruleweave/CommonPolicySchema$Type" "model" "Lcom/example/ruleweave/ruleweave/CommonPolicySchema$Model;" .null := D512 (Or.inr (hw _ (own_m 88 rfl))) (ty := (.object "com/example/ruleweave/ruleweave/CommonPolicySchema$Model")) (by decide)
    show oG p e below _ (T512.setTop (mkF m 157 #[.val (.long x0), .second, .val (.long x1), .second, .val (.int x2), .val (.int (1 : Int32)), .val (.ref b156_0), .val (.ref b157_0), .val (.ref b156_0), .val (.ref b161_0), .val (.int tn_), .val (.int tl_), .val (.int tn_), .val (.int al_), .val (.ref b468_0), .val (.ref b486_0), .val (.ref b492_0), .val (.ref b506_0), .unset, .unset, .unset] [(.ref b512)]))
    refine og (fun _ hr => XS.dup X512.here hx rfl (hb hby at_157) rfl rfl (XS.aconstNull X512.here hx rfl (hb hby at_158) (XS.aconstNull X512.here hx rfl (hb hby at_159) (XS.aconstNull X512.here hx rfl (hb hby at_160) (XS.aconstNull X512.here hx rfl (hb hby at_161) (XS.aconstNull X512.here hx rfl (hb hby at_162) (XS.aconstNull X512.here hx rfl (hb hby at_163) hr))))))) ?_
    show oG p e below _ (T512.setTop (mkF m 164 #[.val (.long x0), .second, .val (.long x1), .second, .val (.int x2), .val (.int (1 : Int32)), .val (.ref b156_0), .val (.ref b157_0), .val (.ref b156_0), .val (.ref b161_0), .val (.int tn_), .val (.int tl_), .val (.int tn_), .val (.int al_), .val (.ref b468_0), .val (.ref b486_0), .val (.ref b492_0), .val (.ref b506_0), .unset, .unset, .unset] [.null, .null, .null, .null, .null, .null, (.ref b512), (.ref b512)]))
    have Z522 := (Nat.le_trans Z513 E512.1)
    refine own_cp X512 hx hZ hown rfl (hw _ (own_m 73 rfl)) (hw _ (own_m 74 rfl)) (hw _ (own_m 72 rfl)) (hw _ (own_m 75 rfl)) (by decide) (rm := { frames := 2, cells := 0, slots := 0, locals := 24 }) (rm_init_31 l Z a0 hw [] b512 h512 n0 Z522 A512 f515 f516 f517 f518 f519 f520 ge514) (by decide) (W := 1) (by decide) (by decide) (by decide) e512 (by rw [hml]; rfl) (argsL := [.null, .null, .null, .null, .null, .null]) (lenOf own_pd17 rfl) (rest := [(.ref b512)]) rfl rfl (Nat.le_of_eq rfl) (hb hby at_164) ?_
    intro _ T521 L521 X521 hQ521
    obtain ⟨rfl, N521q, K521, f521_0, f521_1, f521_2, f521_3, f521_4, f521_5⟩ := hQ521
    have N521 := Fr.app N506 N521q
    show oG p e below _ (T521.setTop (mkF m 167 #[.val (.long x0), .second, .val (.long x1), .second, .val (.int x2), .val (.int (1 : Int32)), .val (.ref b156_0), .val (.ref b157_0), .val (.ref b156_0), .val (.ref b161_0), .val (.int tn_), .val (.int tl_), .val (.int tn_), .val (.int al_), .val (.ref b468_0), .val (.ref b486_0), .val (.ref b492_0), .val (.ref b506_0), .unset, .unset, .unset] [(.ref b512)]))
    refine og (fun _ hr => XS.astore X521.here hx rfl (hb hby at_167) rfl rfl (l' := #[.val (.long x0), .second, .val (.long x1), .second, .val (.int x2), .val (.int (1 : Int32)), .val (.ref b156_0), .val (.ref b157_0), .val (.ref b156_0), .val (.ref b161_0), .val (.int tn_), .val (.int tl_), .val (.int tn_), .val (.int al_), .val (.ref b468_0), .val (.ref b486_0), .val (.ref b492_0), .val (.ref b506_0), .val (.ref b512), .unset, .unset]) rfl hr) ?_
    show oG p e below _ (T521.setTop (mkF m 169 #[.val (.long x0), .second, .val (.long x1), .second, .val (.int x2), .val (.int (1 : Int32)), .val (.ref b156_0), .val (.ref b157_0), .val (.ref b156_0), .val (.ref b161_0), .val (.int tn_), .val (.int tl_), .val (.int tn_), .val (.int al_), .val (.ref b468_0), .val (.ref b486_0), .val (.ref b492_0), .val (.ref b506_0), .val (.ref b512), .unset, .unset] []))
    obtain ⟨T523, h523, X523, e523, E523, A523, D523, -, st523⟩ := newO X521 hx hZ hown (hw _ (own_m 31 rfl)) (hw _ (own_m 32 rfl)) (hw _ (own_m 33 rfl)) rfl (g := (mkF m 169 #[.val (.long x0), .second, .val (.long x1), .second, .val (.int x2), .val (.int (1 : Int32)), .val (.ref b156_0), .val (.ref b157_0), .val (.ref b156_0), .val (.ref b161_0), .val (.int tn_), .val (.int tl_), .val (.int tn_), .val (.int al_), .val (.ref b468_0), .val (.ref b486_0), .val (.ref b492_0), .val (.ref b506_0), .val (.ref b512), .unset, .unset] [])) rfl (hb hby at_169) (by decide) (by decide)
    obtain ⟨b523, g523⟩ : ∃ z, z = T521.heap.size := ⟨_, rfl⟩
    rw [← g523] at A523 D523 st523
    have Z524 := (Nat.le_trans Z522 K521.1)
    have ge525 : n0 ≤ b523 := Nat.le_trans Z524 (Nat.le_of_eq g523.symm)
    refine og st523 ?_
    have f526 : Fld Z h523 b523 "com/example/ruleweave/ruleweave/CommonPolicySchema$Term" "namespace" "Ljava/lang/String;" .null := D523 (Or.inr (hw _ (own_m 44 rfl))) (ty := (.object "java/lang/String")) (by decide)
    have f527 : Fld Z h523 b523 "com/example/ruleweave/ruleweave/CommonPolicySchema$Term" "localName" "Ljava/lang/String;" .null := D523 (Or.inr (hw _ (own_m 46 rfl))) (ty := (.object "java/lang/String")) (by decide)
    have f528 : Fld Z h523 b523 "com/example/ruleweave/ruleweave/CommonPolicySchema$Term" "type" "Lcom/example/ruleweave/ruleweave/CommonPolicySchema$Type;" .null := D523 (Or.inr (hw _ (own_m 48 rfl))) (ty := (.object "com/example/ruleweave/ruleweave/CommonPolicySchema$Type")) (by decide)
    show oG p e below _ (T523.setTop (mkF m 172 #[.val (.long x0), .second, .val (.long x1), .second, .val (.int x2), .val (.int (1 : Int32)), .val (.ref b156_0), .val (.ref b157_0), .val (.ref b156_0), .val (.ref b161_0), .val (.int tn_), .val (.int tl_), .val (.int tn_), .val (.int al_), .val (.ref b468_0), .val (.ref b486_0), .val (.ref b492_0), .val (.ref b506_0), .val (.ref b512), .unset, .unset] [(.ref b523)]))
    refine og (fun _ hr => XS.dup X523.here hx rfl (hb hby at_172) rfl rfl (XS.aload X523.here hx rfl (hb hby at_173) rfl rfl (XS.aload X523.here hx rfl (hb hby at_175) rfl rfl (XS.aload X523.here hx rfl (hb hby at_177) rfl rfl hr)))) ?_
    show oG p e below _ (T523.setTop (mkF m 179 #[.val (.long x0), .second, .val (.long x1), .second, .val (.int x2), .val (.int (1 : Int32)), .val (.ref b156_0), .val (.ref b157_0), .val (.ref b156_0), .val (.ref b161_0), .val (.int tn_), .val (.int tl_), .val (.int tn_), .val (.int al_), .val (.ref b468_0), .val (.ref b486_0), .val (.ref b492_0), .val (.ref b506_0), .val (.ref b512), .unset, .unset] [(.ref b512), (.ref b486_0), (.ref b468_0), (.ref b523), (.ref b523)]))
    have Z530 := (Nat.le_trans Z524 E523.1)
    refine own_cp X523 hx hZ hown rfl (hw _ (own_m 34 rfl)) (hw _ (own_m 35 rfl)) (hw _ (own_m 33 rfl)) (hw _ (own_m 36 rfl)) (by decide) (rm := { frames := 2, cells := 0, slots := 0, locals := 24 }) (rm_init_32 l Z a0 hw [] b523 b468_0 b486_0 b512 h523 n0 Z530 A523 f526 f527 f528 ge525) (by decide) (W := 1) (by decide) (by decide) (by decide) e523 (by rw [hml]; rfl) (argsL := [(.ref b468_0), (.ref b486_0), (.ref b512)]) (lenOf own_pd12 rfl) (rest := [(.ref b523)]) rfl rfl (Nat.le_of_eq rfl) (hb hby at_179) ?_
    intro _ T529 L529 X529 hQ529
    obtain ⟨rfl, N529q, K529, f529_0, f529_1, f529_2⟩ := hQ529
    have N529 := Fr.app N521 N529q
    show oG p e below _ (T529.setTop (mkF m 182 #[.val (.long x0), .second, .val (.long x1), .second, .val (.int x2), .val (.int (1 : Int32)), .val (.ref b156_0), .val (.ref b157_0), .val (.ref b156_0), .val (.ref b161_0), .val (.int tn_), .val (.int tl_), .val (.int tn_), .val (.int al_), .val (.ref b468_0), .val (.ref b486_0), .val (.ref b492_0), .val (.ref b506_0), .val (.ref b512), .unset, .unset] [(.ref b523)]))
    refine og (fun _ hr => XS.astore X529.here hx rfl (hb hby at_182) rfl rfl (l' := #[.val (.long x0), .second, .val (.long x1), .second, .val (.int x2), .val (.int (1 : Int32)), .val (.ref b156_0), .val (.ref b157_0), .val (.ref b156_0), .val (.ref b161_0), .val (.int tn_), .val (.int tl_), .val (.int tn_), .val (.int al_), .val (.ref b468_0), .val (.ref b486_0), .val (.ref b492_0), .val (.ref b506_0), .val (.ref b512), .val (.ref b523), .unset]) rfl (XS.aload X529.here hx rfl (hb hby at_184) rfl rfl (XS.iload X529.here hx rfl (hb hby at_186) rfl (XS.aload X529.here hx rfl (hb hby at_188) rfl rfl (XS.iload X529.here hx rfl (hb hby at_190) rfl hr))))) ?_
    show oG p e below _ (T529.setTop (mkF m 192 #[.val (.long x0), .second, .val (.long x1), .second, .val (.int x2), .val (.int (1 : Int32)), .val (.ref b156_0), .val (.ref b157_0), .val (.ref b156_0), .val (.ref b161_0), .val (.int tn_), .val (.int tl_), .val (.int tn_), .val (.int al_), .val (.ref b468_0), .val (.ref b486_0), .val (.ref b492_0), .val (.ref b506_0), .val (.ref b512), .val (.ref b523), .unset] [(.int tn_), (.ref b156_0), (.int tn_), (.ref b156_0)]))
    have f532 := ((((((f494.keep K492 nin0).keep K506 nin0).ext E512).keep K521 (ninS (Nat.ne_of_lt (Nat.lt_of_lt_of_le (((((((f156_0.keep K157).keep K159).keep K161).keep K468).keep K486).keep K492).keep K506).lt (Nat.le_of_eq g512.symm))) nin0)).ext E523).keep K529 (ninS (Nat.ne_of_lt (Nat.lt_of_lt_of_le (((((((((f156_0.keep K157).keep K159).keep K161).keep K468).keep K486).keep K492).keep K506).ext E512).keep K521).lt (Nat.le_of_eq g523.symm))) nin0))
    have Z533 := (Nat.le_trans Z530 K529.1)
    refine own_cs X529 hx hZ hown (hw _ (own_m 89 rfl)) (hw _ (own_m 90 rfl)) (hw _ (own_m 2 rfl)) (hw _ (own_m 91 rfl)) (by decide) (rm := { frames := 0, cells := 0, slots := 0, locals := 0 }) (rm_same l Z a0 hw [] b156_0 b156_0 kb156_0 kb156_0 (own_ch x0 (0 : Int32)) (own_ch x0 (8 : Int32)) (own_ch x0 (16 : Int32)) tn_ (own_ch x0 (0 : Int32)) (own_ch x0 (8 : Int32)) (own_ch x0 (16 : Int32)) tn_ T529.heap n0 Z533 f532 f532) (by decide) (W := 0) (by decide) (by decide) (by decide) rfl (by rw [hml]; rfl) (argsL := [(.ref b156_0), (.int tn_), (.ref b156_0), (.int tn_)]) (lenOf own_pd18 rfl) (rest := []) rfl rfl (Nat.le_of_eq rfl) (hb hby at_192) ?_
    intro _ T531 L531 X531 hQ531
    obtain ⟨rfl, N531q, e531⟩ := hQ531
    have N531 := Fr.app N529 N531q
    show oG p e below _ (T531.setTop (mkF m 195 #[.val (.long x0), .second, .val (.long x1), .second, .val (.int x2), .val (.int (1 : Int32)), .val (.ref b156_0), .val (.ref b157_0), .val (.ref b156_0), .val (.ref b161_0), .val (.int tn_), .val (.int tl_), .val (.int tn_), .val (.int al_), .val (.ref b468_0), .val (.ref b486_0), .val (.ref b492_0), .val (.ref b506_0), .val (.ref b512), .val (.ref b523), .unset] [(.int (own_same (own_ch x0 (0 : Int32)) (own_ch x0 (8 : Int32)) (own_ch x0 (16 : Int32)) tn_ (own_ch x0 (0 : Int32)) (own_ch x0 (8 : Int32)) (own_ch x0 (16 : Int32)) tn_))]))
    have c534 : ¬ ((own_same (own_ch x0 (0 : Int32)) (own_ch x0 (8 : Int32)) (own_ch x0 (16 : Int32)) tn_ (own_ch x0 (0 : Int32)) (own_ch x0 (8 : Int32)) (own_ch x0 (16 : Int32)) tn_) = (0 : Int32)) := by rw [own_same_self _ _ _ _ (own_four c460 c461)]; decide
    refine og (fun _ hr => XS.ifNo X531.here hx rfl (hb hby at_195) rfl ((if0 _ _).trans (feq c534).1) hr) ?_
    show oG p e below _ (T531.setTop (mkF m 198 #[.val (.long x0), .second, .val (.long x1), .second, .val (.int x2), .val (.int (1 : Int32)), .val (.ref b156_0), .val (.ref b157_0), .val (.ref b156_0), .val (.ref b161_0), .val (.int tn_), .val (.int tl_), .val (.int tn_), .val (.int al_), .val (.ref b468_0), .val (.ref b486_0), .val (.ref b492_0), .val (.ref b506_0), .val (.ref b512), .val (.ref b523), .unset] []))
    refine og (fun _ hr => XS.aload X531.here hx rfl (hb hby at_198) rfl rfl (XS.iload X531.here hx rfl (hb hby at_200) rfl (XS.aload X531.here hx rfl (hb hby at_202) rfl rfl (XS.iload X531.here hx rfl (hb hby at_204) rfl hr)))) ?_
    show oG p e below _ (T531.setTop (mkF m 206 #[.val (.long x0), .second, .val (.long x1), .second, .val (.int x2), .val (.int (1 : Int32)), .val (.ref b156_0), .val (.ref b157_0), .val (.ref b156_0), .val (.ref b161_0), .val (.int tn_), .val (.int tl_), .val (.int tn_), .val (.int al_), .val (.ref b468_0), .val (.ref b486_0), .val (.ref b492_0), .val (.ref b506_0), .val (.ref b512), .val (.ref b523), .unset] [(.int al_), (.ref b161_0), (.int tl_), (.ref b157_0)]))
    have f536 := (((((((f488.keep K486 nin0).keep K492 nin0).keep K506 nin0).ext E512).keep K521 (ninS (Nat.ne_of_lt (Nat.lt_of_lt_of_le ((((((f157_0.keep K159).keep K161).keep K468).keep K486).keep K492).keep K506).lt (Nat.le_of_eq g512.symm))) nin0)).ext E523).keep K529 (ninS (Nat.ne_of_lt (Nat.lt_of_lt_of_le ((((((((f157_0.keep K159).keep K161).keep K468).keep K486).keep K492).keep K506).ext E512).keep K521).lt (Nat.le_of_eq g523.symm))) nin0))
    have f537 := (((((f508.keep K506 nin0).ext E512).keep K521 (ninS (Nat.ne_of_lt (Nat.lt_of_lt_of_le ((((f161_0.keep K468).keep K486).keep K492).keep K506).lt (Nat.le_of_eq g512.symm))) nin0)).ext E523).keep K529 (ninS (Nat.ne_of_lt (Nat.lt_of_lt_of_le ((((((f161_0.keep K468).keep K486).keep K492).keep K506).ext E512).keep K521).lt (Nat.le_of_eq g523.symm))) nin0))
    refine own_cs X531 hx hZ hown (hw _ (own_m 89 rfl)) (hw _ (own_m 90 rfl)) (hw _ (own_m 2 rfl)) (hw _ (own_m 91 rfl)) (by decide) (rm := { frames := 0, cells := 0, slots := 0, locals := 0 }) (rm_same l Z a0 hw [] b157_0 b161_0 kb157_0 kb161_0 (own_ch x0 (24 : Int32)) (own_ch x0 (32 : Int32)) (own_ch x0 (40 : Int32)) tl_ (own_ch x1 (24 : Int32)) (own_ch x1 (32 : Int32)) (own_ch x1 (40 : Int32)) al_ T529.heap n0 Z533 f536 f537) (by decide) (W := 0) (by decide) (by decide) (by decide) e531 (by rw [hml]; rfl) (argsL := [(.ref b157_0), (.int tl_), (.ref b161_0), (.int al_)]) (lenOf own_pd18 rfl) (rest := []) rfl rfl (Nat.le_of_eq rfl) (hb hby at_206) ?_
    intro _ T535 L535 X535 hQ535
    obtain ⟨rfl, N535q, e535⟩ := hQ535
    have N535 := Fr.app N531 N535q
    show oG p e below _ (T535.setTop (mkF m 209 #[.val (.long x0), .second, .val (.long x1), .second, .val (.int x2), .val (.int (1 : Int32)), .val (.ref b156_0), .val (.ref b157_0), .val (.ref b156_0), .val (.ref b161_0), .val (.int tn_), .val (.int tl_), .val (.int tn_), .val (.int al_), .val (.ref b468_0), .val (.ref b486_0), .val (.ref b492_0), .val (.ref b506_0), .val (.ref b512), .val (.ref b523), .unset] [(.int (own_same (own_ch x0 (24 : Int32)) (own_ch x0 (32 : Int32)) (own_ch x0 (40 : Int32)) tl_ (own_ch x1 (24 : Int32)) (own_ch x1 (32 : Int32)) (own_ch x1 (40 : Int32)) al_))]))
    rcases Classical.em ((own_same (own_ch x0 (24 : Int32)) (own_ch x0 (32 : Int32)) (own_ch x0 (40 : Int32)) tl_ (own_ch x1 (24 : Int32)) (own_ch x1 (32 : Int32)) (own_ch x1 (40 : Int32)) al_) = (0 : Int32)) with c538 | c538
    · skip
      refine og (fun _ hr => XS.ifYes X535.here hx rfl (pc0 := 209) (pc' := 216) rfl (hb hby at_209) rfl ((if0 _ _).trans (teq c538).1) (by decide) (by decide) hr) ?_
      show oG p e below _ (T535.setTop (mkF m 216 #[.val (.long x0), .second, .val (.long x1), .second, .val (.int x2), .val (.int (1 : Int32)), .val (.ref b156_0), .val (.ref b157_0), .val (.ref b156_0), .val (.ref b161_0), .val (.int tn_), .val (.int tl_), .val (.int tn_), .val (.int al_), .val (.ref b468_0), .val (.ref b486_0), .val (.ref b492_0), .val (.ref b506_0), .val (.ref b512), .val (.ref b523), .unset] []))
      refine og (fun _ hr => XS.iconst X535.here hx rfl (hb hby at_216) (XS.istore X535.here hx rfl (hb hby at_217) rfl (l' := #[.val (.long x0), .second, .val (.long x1), .second, .val (.int x2), .val (.int (1 : Int32)), .val (.ref b156_0), .val (.ref b157_0), .val (.ref b156_0), .val (.ref b161_0), .val (.int tn_), .val (.int tl_), .val (.int tn_), .val (.int al_), .val (.ref b468_0), .val (.ref b486_0), .val (.ref b492_0), .val (.ref b506_0), .val (.ref b512), .val (.ref b523), .val (.int (0 : Int32))]) rfl (XS.aload X535.here hx rfl (hb hby at_219) rfl rfl (XS.aload X535.here hx rfl (hb hby at_221) rfl rfl (XS.aload X535.here hx rfl (hb hby at_223) rfl rfl hr))))) ?_
      show oG p e below _ (T535.setTop (mkF m 225 #[.val (.long x0), .second, .val (.long x1), .second, .val (.int x2), .val (.int (1 : Int32)), .val (.ref b156_0), .val (.ref b157_0), .val (.ref b156_0), .val (.ref b161_0), .val (.int tn_), .val (.int tl_), .val (.int tn_), .val (.int al_), .val (.ref b468_0), .val (.ref b486_0), .val (.ref b492_0), .val (.ref b506_0), .val (.ref b512), .val (.ref b523), .val (.int (0 : Int32))] [(.ref b506_0), (.ref b492_0), (.ref b523)]))
      have c539 : ¬ ((own_leq (own_ch x0 (0 : Int32)) (own_ch x0 (8 : Int32)) (own_ch x0 (16 : Int32)) tn_ (own_ch x0 (0 : Int32)) (own_ch x0 (8 : Int32)) (own_ch x0 (16 : Int32)) tn_) = (0 : Int32)) := by rw [own_leq_same (own_ch x0 (0 : Int32)) (own_ch x0 (8 : Int32)) (own_ch x0 (16 : Int32)) tn_ (own_ch x0 (0 : Int32)) (own_ch x0 (8 : Int32)) (own_ch x0 (16 : Int32)) tn_ (own_rg c462 c463) (own_rg c464 c465) (own_rg c466 c467) (own_rg c462 c463) (own_rg c464 c465) (own_rg c466 c467) (own_four c460 c461) (own_four c460 c461), own_same_comm]; exact c534
      have c540 : (own_leq (own_ch x1 (24 : Int32)) (own_ch x1 (32 : Int32)) (own_ch x1 (40 : Int32)) al_ (own_ch x0 (24 : Int32)) (own_ch x0 (32 : Int32)) (own_ch x0 (40 : Int32)) tl_) = (0 : Int32) := by rw [own_leq_same (own_ch x1 (24 : Int32)) (own_ch x1 (32 : Int32)) (own_ch x1 (40 : Int32)) al_ (own_ch x0 (24 : Int32)) (own_ch x0 (32 : Int32)) (own_ch x0 (40 : Int32)) tl_ (own_rg c500 c501) (own_rg c502 c503) (own_rg c504 c505) (own_rg c480 c481) (own_rg c482 c483) (own_rg c484 c485) (own_four c498 c499) (own_four c478 c479), own_same_comm]; exact c538
      have f542 := (((((((f468_0.keep K486).keep K492).keep K506).ext E512).keep K521).ext E523).keep K529)
      have f543 := (own_sta_keep ((own_sta_keep ((own_sta_keep f507 K506 all0).ext E512) K521 (allS (own_ns_exa A512) all0)).ext E523) K529 (allS (own_ns_exa A523) all0))
      have f544 := (((((f492_1.keep K506 nin0).ext E512).keep K521 (ninS (Nat.ne_of_lt (Nat.lt_of_lt_of_le (f492_0.keep K506).lt (Nat.le_of_eq g512.symm))) nin0)).ext E523).keep K529 (ninS (Nat.ne_of_lt (Nat.lt_of_lt_of_le (((f492_0.keep K506).ext E512).keep K521).lt (Nat.le_of_eq g523.symm))) nin0))
      have f545 := (((((((f468_1.keep K486 nin0).keep K492 nin0).keep K506 nin0).ext E512).keep K521 (ninS (Nat.ne_of_lt (Nat.lt_of_lt_of_le (((f468_0.keep K486).keep K492).keep K506).lt (Nat.le_of_eq g512.symm))) nin0)).ext E523).keep K529 (ninS (Nat.ne_of_lt (Nat.lt_of_lt_of_le (((((f468_0.keep K486).keep K492).keep K506).ext E512).keep K521).lt (Nat.le_of_eq g523.symm))) nin0))
      have f546 := (((((f492_2.keep K506 nin0).ext E512).keep K521 (ninS (Nat.ne_of_lt (Nat.lt_of_lt_of_le (f492_0.keep K506).lt (Nat.le_of_eq g512.symm))) nin0)).ext E523).keep K529 (ninS (Nat.ne_of_lt (Nat.lt_of_lt_of_le (((f492_0.keep K506).ext E512).keep K521).lt (Nat.le_of_eq g523.symm))) nin0))
      have f547 := (((((((f468_2.keep K486 nin0).keep K492 nin0).keep K506 nin0).ext E512).keep K521 (ninS (Nat.ne_of_lt (Nat.lt_of_lt_of_le (((f468_0.keep K486).keep K492).keep K506).lt (Nat.le_of_eq g512.symm))) nin0)).ext E523).keep K529 (ninS (Nat.ne_of_lt (Nat.lt_of_lt_of_le (((((f468_0.keep K486).keep K492).keep K506).ext E512).keep K521).lt (Nat.le_of_eq g523.symm))) nin0))
      have f548 := (((((f492_3.keep K506 nin0).ext E512).keep K521 (ninS (Nat.ne_of_lt (Nat.lt_of_lt_of_le (f492_3.keep K506 nin0).lt (Nat.le_of_eq g512.symm))) nin0)).ext E523).keep K529 (ninS (Nat.ne_of_lt (Nat.lt_of_lt_of_le (((f492_3.keep K506 nin0).ext E512).keep K521 (ninS (Nat.ne_of_lt (Nat.lt_of_lt_of_le (f492_3.keep K506 nin0).lt (Nat.le_of_eq g512.symm))) nin0)).lt (Nat.le_of_eq g523.symm))) nin0))
      have f549 := (((((((f468_3.keep K486 nin0).keep K492 nin0).keep K506 nin0).ext E512).keep K521 (ninS (Nat.ne_of_lt (Nat.lt_of_lt_of_le (((f468_3.keep K486 nin0).keep K492 nin0).keep K506 nin0).lt (Nat.le_of_eq g512.symm))) nin0)).ext E523).keep K529 (ninS (Nat.ne_of_lt (Nat.lt_of_lt_of_le (((((f468_3.keep K486 nin0).keep K492 nin0).keep K506 nin0).ext E512).keep K521 (ninS (Nat.ne_of_lt (Nat.lt_of_lt_of_le (((f468_3.keep K486 nin0).keep K492 nin0).keep K506 nin0).lt (Nat.le_of_eq g512.symm))) nin0)).lt (Nat.le_of_eq g523.symm))) nin0))
      have f550 := (((((f492_0.keep K506).ext E512).keep K521).ext E523).keep K529)
      have f551 := ((((((f486_0.keep K492).keep K506).ext E512).keep K521).ext E523).keep K529)
      have f552 := ((((f506_1.ext E512).keep K521 (ninS (Nat.ne_of_lt (Nat.lt_of_lt_of_le f506_0.lt (Nat.le_of_eq g512.symm))) nin0)).ext E523).keep K529 (ninS (Nat.ne_of_lt (Nat.lt_of_lt_of_le ((f506_0.ext E512).keep K521).lt (Nat.le_of_eq g523.symm))) nin0))
      have f553 := ((((((f486_1.keep K492 nin0).keep K506 nin0).ext E512).keep K521 (ninS (Nat.ne_of_lt (Nat.lt_of_lt_of_le ((f486_0.keep K492).keep K506).lt (Nat.le_of_eq g512.symm))) nin0)).ext E523).keep K529 (ninS (Nat.ne_of_lt (Nat.lt_of_lt_of_le ((((f486_0.keep K492).keep K506).ext E512).keep K521).lt (Nat.le_of_eq g523.symm))) nin0))
      have f554 := ((((f506_2.ext E512).keep K521 (ninS (Nat.ne_of_lt (Nat.lt_of_lt_of_le f506_0.lt (Nat.le_of_eq g512.symm))) nin0)).ext E523).keep K529 (ninS (Nat.ne_of_lt (Nat.lt_of_lt_of_le ((f506_0.ext E512).keep K521).lt (Nat.le_of_eq g523.symm))) nin0))
      have f555 := ((((((f486_2.keep K492 nin0).keep K506 nin0).ext E512).keep K521 (ninS (Nat.ne_of_lt (Nat.lt_of_lt_of_le ((f486_0.keep K492).keep K506).lt (Nat.le_of_eq g512.symm))) nin0)).ext E523).keep K529 (ninS (Nat.ne_of_lt (Nat.lt_of_lt_of_le ((((f486_0.keep K492).keep K506).ext E512).keep K521).lt (Nat.le_of_eq g523.symm))) nin0))
      have f556 := ((((f506_3.ext E512).keep K521 (ninS (Nat.ne_of_lt (Nat.lt_of_lt_of_le f506_3.lt (Nat.le_of_eq g512.symm))) nin0)).ext E523).keep K529 (ninS (Nat.ne_of_lt (Nat.lt_of_lt_of_le ((f506_3.ext E512).keep K521 (ninS (Nat.ne_of_lt (Nat.lt_of_lt_of_le f506_3.lt (Nat.le_of_eq g512.symm))) nin0)).lt (Nat.le_of_eq g523.symm))) nin0))
      have f557 := ((((((f486_3.keep K492 nin0).keep K506 nin0).ext E512).keep K521 (ninS (Nat.ne_of_lt (Nat.lt_of_lt_of_le ((f486_3.keep K492 nin0).keep K506 nin0).lt (Nat.le_of_eq g512.symm))) nin0)).ext E523).keep K529 (ninS (Nat.ne_of_lt (Nat.lt_of_lt_of_le ((((f486_3.keep K492 nin0).keep K506 nin0).ext E512).keep K521 (ninS (Nat.ne_of_lt (Nat.lt_of_lt_of_le ((f486_3.keep K492 nin0).keep K506 nin0).lt (Nat.le_of_eq g512.symm))) nin0)).lt (Nat.le_of_eq g523.symm))) nin0))
      have f558 := ((((f506_0.ext E512).keep K521).ext E523).keep K529)
      have f559 := (A523.keep K529)
      refine own_cv X535 hx hZ hown (notFace_of_selects (args := #[]) (mvT hZ (hw _ (own_m 52 rfl)))) (hw _ (own_m 49 rfl)) (hw _ (own_m 50 rfl)) (hw _ (own_m 52 rfl)) (hw _ (own_m 51 rfl)) (hw _ (own_m 33 rfl)) (hw _ (own_m 53 rfl)) (by decide) f559 (rm := { frames := 2, cells := 0, slots := 0, locals := 28 }) (rm_admits_40 l Z a0 hw [] b523 b492_0 b506_0 b512 b468_0 i_COMPACT_STRINGS b492_1 b468_1 tn_ (own_ch x0 (0 : Int32)) (own_ch x0 (8 : Int32)) (own_ch x0 (16 : Int32)) kb492_0 kb468_0 b486_0 b506_1 b486_1 al_ (own_ch x1 (24 : Int32)) (own_ch x1 (32 : Int32)) (own_ch x1 (40 : Int32)) kb506_0 tl_ (own_ch x0 (24 : Int32)) (own_ch x0 (32 : Int32)) (own_ch x0 (40 : Int32)) kb486_0 T529.heap n0 Z533 f529_2 f529_1 f542 f543 f544 f545 f546 f547 f548 f549 f550 f529_0 f551 f552 f553 f554 f555 f556 f557 f558 (Ne.symm (Nat.ne_of_lt (Nat.lt_of_lt_of_le (f468_0.keep K486).lt sz492_0))) (Ne.symm (Nat.ne_of_lt (Nat.lt_of_lt_of_le (f486_0.keep K492).lt sz506_0))) hs_COMPACT_STRINGS c460 c461 c539 c498 c499 c478 c479 c540) (by decide) (W := 0) (by decide) (by decide) (by decide) e535 (by rw [hml]; rfl) (argsL := [(.ref b492_0), (.ref b506_0)]) (lenOf own_pd14 rfl) (rest := []) rfl rfl (Nat.le_of_eq rfl) (hb hby at_225) ?_
      intro _ T541 L541 X541 hQ541
      obtain ⟨rfl, N541q, e541⟩ := hQ541
      have N541 := Fr.app N535 N541q
      show oG p e below _ (T541.setTop (mkF m 228 #[.val (.long x0), .second, .val (.long x1), .second, .val (.int x2), .val (.int (1 : Int32)), .val (.ref b156_0), .val (.ref b157_0), .val (.ref b156_0), .val (.ref b161_0), .val (.int tn_), .val (.int tl_), .val (.int tn_), .val (.int al_), .val (.ref b468_0), .val (.ref b486_0), .val (.ref b492_0), .val (.ref b506_0), .val (.ref b512), .val (.ref b523), .val (.int (0 : Int32))] [(.int (0 : Int32))]))
      refine og (fun _ hr => XS.iload X541.here hx rfl (hb hby at_228) rfl (XS.icmpNo X541.here hx rfl (hb hby at_230) rfl (teq (by decide)).2 (XS.iconst X541.here hx rfl (hb hby at_233) (XS.goto X541.here hx rfl (pc0 := 234) (pc' := 238) rfl (hb hby at_234) (by decide) (by decide) hr)))) ?_
      show oG p e below _ (T541.setTop (mkF m 238 #[.val (.long x0), .second, .val (.long x1), .second, .val (.int x2), .val (.int (1 : Int32)), .val (.ref b156_0), .val (.ref b157_0), .val (.ref b156_0), .val (.ref b161_0), .val (.int tn_), .val (.int tl_), .val (.int tn_), .val (.int al_), .val (.ref b468_0), .val (.ref b486_0), .val (.ref b492_0), .val (.ref b506_0), .val (.ref b512), .val (.ref b523), .val (.int (0 : Int32))] [(.int (1 : Int32))]))
      have hk560 := (Nat.le_trans (Nat.le_trans (Nat.le_trans (Nat.le_trans (Nat.le_refl _) E512.1) K521.1) E523.1) K529.1)
      have A561 := A511.trans Ac506
      have A562 := A561.trans (CHr.ext E512 A561.1)
      have sf564 := (Safe.ext E512 A561.1 (Safe.new (Nat.le_of_eq g512.symm)))
      have A563 := A562.trans (CHr.keep K521 (sfS sf564 sf0) A562.1)
      have A565 := A563.trans (CHr.ext E523 A563.1)
      have sf567 := (Safe.ext E523 A563.1 (Safe.new (Nat.le_of_eq g523.symm)))
      have A566 := A565.trans (CHr.keep K529 (sfS sf567 sf0) A565.1)
      exact own_retNW X541 hx hlk Bd.returns hS hk560 hZ hEL hh e541 A566 (t := .boolean) (by simp) (hb hby at_238) (by decide) (by decide) ⟨rfl, N541⟩
    refine og (fun _ hr => XS.ifNo X535.here hx rfl (hb hby at_209) rfl ((if0 _ _).trans (feq c538).1) hr) ?_
    show oG p e below _ (T535.setTop (mkF m 212 #[.val (.long x0), .second, .val (.long x1), .second, .val (.int x2), .val (.int (1 : Int32)), .val (.ref b156_0), .val (.ref b157_0), .val (.ref b156_0), .val (.ref b161_0), .val (.int tn_), .val (.int tl_), .val (.int tn_), .val (.int al_), .val (.ref b468_0), .val (.ref b486_0), .val (.ref b492_0), .val (.ref b506_0), .val (.ref b512), .val (.ref b523), .unset] []))
    refine og (fun _ hr => XS.iconst X535.here hx rfl (hb hby at_212) (XS.goto X535.here hx rfl (pc0 := 213) (pc' := 217) rfl (hb hby at_213) (by decide) (by decide) (XS.istore X535.here hx rfl (hb hby at_217) rfl (l' := #[.val (.long x0), .second, .val (.long x1), .second, .val (.int x2), .val (.int (1 : Int32)), .val (.ref b156_0), .val (.ref b157_0), .val (.ref b156_0), .val (.ref b161_0), .val (.int tn_), .val (.int tl_), .val (.int tn_), .val (.int al_), .val (.ref b468_0), .val (.ref b486_0), .val (.ref b492_0), .val (.ref b506_0), .val (.ref b512), .val (.ref b523), .val (.int (1 : Int32))]) rfl (XS.aload X535.here hx rfl (hb hby at_219) rfl rfl (XS.aload X535.here hx rfl (hb hby at_221) rfl rfl (XS.aload X535.here hx rfl (hb hby at_223) rfl rfl hr)))))) ?_
    show oG p e below _ (T535.setTop (mkF m 225 #[.val (.long x0), .second, .val (.long x1), .second, .val (.int x2), .val (.int (1 : Int32)), .val (.ref b156_0), .val (.ref b157_0), .val (.ref b156_0), .val (.ref b161_0), .val (.int tn_), .val (.int tl_), .val (.int tn_), .val (.int al_), .val (.ref b468_0), .val (.ref b486_0), .val (.ref b492_0), .val (.ref b506_0), .val (.ref b512), .val (.ref b523), .val (.int (1 : Int32))] [(.ref b506_0), (.ref b492_0), (.ref b523)]))
    have c568 : ¬ ((own_leq (own_ch x0 (0 : Int32)) (own_ch x0 (8 : Int32)) (own_ch x0 (16 : Int32)) tn_ (own_ch x0 (0 : Int32)) (own_ch x0 (8 : Int32)) (own_ch x0 (16 : Int32)) tn_) = (0 : Int32)) := by rw [own_leq_same (own_ch x0 (0 : Int32)) (own_ch x0 (8 : Int32)) (own_ch x0 (16 : Int32)) tn_ (own_ch x0 (0 : Int32)) (own_ch x0 (8 : Int32)) (own_ch x0 (16 : Int32)) tn_ (own_rg c462 c463) (own_rg c464 c465) (own_rg c466 c467) (own_rg c462 c463) (own_rg c464 c465) (own_rg c466 c467) (own_four c460 c461) (own_four c460 c461), own_same_comm]; exact c534
    have c569 : ¬ ((own_leq (own_ch x1 (24 : Int32)) (own_ch x1 (32 : Int32)) (own_ch x1 (40 : Int32)) al_ (own_ch x0 (24 : Int32)) (own_ch x0 (32 : Int32)) (own_ch x0 (40 : Int32)) tl_) = (0 : Int32)) := by rw [own_leq_same (own_ch x1 (24 : Int32)) (own_ch x1 (32 : Int32)) (own_ch x1 (40 : Int32)) al_ (own_ch x0 (24 : Int32)) (own_ch x0 (32 : Int32)) (own_ch x0 (40 : Int32)) tl_ (own_rg c500 c501) (own_rg c502 c503) (own_rg c504 c505) (own_rg c480 c481) (own_rg c482 c483) (own_rg c484 c485) (own_four c498 c499) (own_four c478 c479), own_same_comm]; exact c538
    have f571 := (((((((f468_0.keep K486).keep K492).keep K506).ext E512).keep K521).ext E523).keep K529)
    have f572 := (own_sta_keep ((own_sta_keep ((own_sta_keep f507 K506 all0).ext E512) K521 (allS (own_ns_exa A512) all0)).ext E523) K529 (allS (own_ns_exa A523) all0))
    have f573 := (((((f492_1.keep K506 nin0).ext E512).keep K521 (ninS (Nat.ne_of_lt (Nat.lt_of_lt_of_le (f492_0.keep K506).lt (Nat.le_of_eq g512.symm))) nin0)).ext E523).keep K529 (ninS (Nat.ne_of_lt (Nat.lt_of_lt_of_le (((f492_0.keep K506).ext E512).keep K521).lt (Nat.le_of_eq g523.symm))) nin0))
    have f574 := (((((((f468_1.keep K486 nin0).keep K492 nin0).keep K506 nin0).ext E512).keep K521 (ninS (Nat.ne_of_lt (Nat.lt_of_lt_of_le (((f468_0.keep K486).keep K492).keep K506).lt (Nat.le_of_eq g512.symm))) nin0)).ext E523).keep K529 (ninS (Nat.ne_of_lt (Nat.lt_of_lt_of_le (((((f468_0.keep K486).keep K492).keep K506).ext E512).keep K521).lt (Nat.le_of_eq g523.symm))) nin0))
    have f575 := (((((f492_2.keep K506 nin0).ext E512).keep K521 (ninS (Nat.ne_of_lt (Nat.lt_of_lt_of_le (f492_0.keep K506).lt (Nat.le_of_eq g512.symm))) nin0)).ext E523).keep K529 (ninS (Nat.ne_of_lt (Nat.lt_of_lt_of_le (((f492_0.keep K506).ext E512).keep K521).lt (Nat.le_of_eq g523.symm))) nin0))
    have f576 := (((((((f468_2.keep K486 nin0).keep K492 nin0).keep K506 nin0).ext E512).keep K521 (ninS (Nat.ne_of_lt (Nat.lt_of_lt_of_le (((f468_0.keep K486).keep K492).keep K506).lt (Nat.le_of_eq g512.symm))) nin0)).ext E523).keep K529 (ninS (Nat.ne_of_lt (Nat.lt_of_lt_of_le (((((f468_0.keep K486).keep K492).keep K506).ext E512).keep K521).lt (Nat.le_of_eq g523.symm))) nin0))
    have f577 := (((((f492_3.keep K506 nin0).ext E512).keep K521 (ninS (Nat.ne_of_lt (Nat.lt_of_lt_of_le (f492_3.keep K506 nin0).lt (Nat.le_of_eq g512.symm))) nin0)).ext E523).keep K529 (ninS (Nat.ne_of_lt (Nat.lt_of_lt_of_le (((f492_3.keep K506 nin0).ext E512).keep K521 (ninS (Nat.ne_of_lt (Nat.lt_of_lt_of_le (f492_3.keep K506 nin0).lt (Nat.le_of_eq g512.symm))) nin0)).lt (Nat.le_of_eq g523.symm))) nin0))
    have f578 := (((((((f468_3.keep K486 nin0).keep K492 nin0).keep K506 nin0).ext E512).keep K521 (ninS (Nat.ne_of_lt (Nat.lt_of_lt_of_le (((f468_3.keep K486 nin0).keep K492 nin0).keep K506 nin0).lt (Nat.le_of_eq g512.symm))) nin0)).ext E523).keep K529 (ninS (Nat.ne_of_lt (Nat.lt_of_lt_of_le (((((f468_3.keep K486 nin0).keep K492 nin0).keep K506 nin0).ext E512).keep K521 (ninS (Nat.ne_of_lt (Nat.lt_of_lt_of_le (((f468_3.keep K486 nin0).keep K492 nin0).keep K506 nin0).lt (Nat.le_of_eq g512.symm))) nin0)).lt (Nat.le_of_eq g523.symm))) nin0))
    have f579 := (((((f492_0.keep K506).ext E512).keep K521).ext E523).keep K529)
    have f580 := ((((((f486_0.keep K492).keep K506).ext E512).keep K521).ext E523).keep K529)
    have f581 := ((((f506_1.ext E512).keep K521 (ninS (Nat.ne_of_lt (Nat.lt_of_lt_of_le f506_0.lt (Nat.le_of_eq g512.symm))) nin0)).ext E523).keep K529 (ninS (Nat.ne_of_lt (Nat.lt_of_lt_of_le ((f506_0.ext E512).keep K521).lt (Nat.le_of_eq g523.symm))) nin0))
    have f582 := ((((((f486_1.keep K492 nin0).keep K506 nin0).ext E512).keep K521 (ninS (Nat.ne_of_lt (Nat.lt_of_lt_of_le ((f486_0.keep K492).keep K506).lt (Nat.le_of_eq g512.symm))) nin0)).ext E523).keep K529 (ninS (Nat.ne_of_lt (Nat.lt_of_lt_of_le ((((f486_0.keep K492).keep K506).ext E512).keep K521).lt (Nat.le_of_eq g523.symm))) nin0))
    have f583 := ((((f506_2.ext E512).keep K521 (ninS (Nat.ne_of_lt (Nat.lt_of_lt_of_le f506_0.lt (Nat.le_of_eq g512.symm))) nin0)).ext E523).keep K529 (ninS (Nat.ne_of_lt (Nat.lt_of_lt_of_le ((f506_0.ext E512).keep K521).lt (Nat.le_of_eq g523.symm))) nin0))
    have f584 := ((((((f486_2.keep K492 nin0).keep K506 nin0).ext E512).keep K521 (ninS (Nat.ne_of_lt (Nat.lt_of_lt_of_le ((f486_0.keep K492).keep K506).lt (Nat.le_of_eq g512.symm))) nin0)).ext E523).keep K529 (ninS (Nat.ne_of_lt (Nat.lt_of_lt_of_le ((((f486_0.keep K492).keep K506).ext E512).keep K521).lt (Nat.le_of_eq g523.symm))) nin0))
    have f585 := ((((f506_3.ext E512).keep K521 (ninS (Nat.ne_of_lt (Nat.lt_of_lt_of_le f506_3.lt (Nat.le_of_eq g512.symm))) nin0)).ext E523).keep K529 (ninS (Nat.ne_of_lt (Nat.lt_of_lt_of_le ((f506_3.ext E512).keep K521 (ninS (Nat.ne_of_lt (Nat.lt_of_lt_of_le f506_3.lt (Nat.le_of_eq g512.symm))) nin0)).lt (Nat.le_of_eq g523.symm))) nin0))
    have f586 := ((((((f486_3.keep K492 nin0).keep K506 nin0).ext E512).keep K521 (ninS (Nat.ne_of_lt (Nat.lt_of_lt_of_le ((f486_3.keep K492 nin0).keep K506 nin0).lt (Nat.le_of_eq g512.symm))) nin0)).ext E523).keep K529 (ninS (Nat.ne_of_lt (Nat.lt_of_lt_of_le ((((f486_3.keep K492 nin0).keep K506 nin0).ext E512).keep K521 (ninS (Nat.ne_of_lt (Nat.lt_of_lt_of_le ((f486_3.keep K492 nin0).keep K506 nin0).lt (Nat.le_of_eq g512.symm))) nin0)).lt (Nat.le_of_eq g523.symm))) nin0))
    have f587 := ((((f506_0.ext E512).keep K521).ext E523).keep K529)
    have f588 := (A523.keep K529)
    refine own_cv X535 hx hZ hown (notFace_of_selects (args := #[]) (mvT hZ (hw _ (own_m 52 rfl)))) (hw _ (own_m 49 rfl)) (hw _ (own_m 50 rfl)) (hw _ (own_m 52 rfl)) (hw _ (own_m 51 rfl)) (hw _ (own_m 33 rfl)) (hw _ (own_m 53 rfl)) (by decide) f588 (rm := { frames := 2, cells := 0, slots := 0, locals := 28 }) (rm_admits_41 l Z a0 hw [] b523 b492_0 b506_0 b512 b468_0 i_COMPACT_STRINGS b492_1 b468_1 tn_ (own_ch x0 (0 : Int32)) (own_ch x0 (8 : Int32)) (own_ch x0 (16 : Int32)) kb492_0 kb468_0 b486_0 b506_1 b486_1 al_ (own_ch x1 (24 : Int32)) (own_ch x1 (32 : Int32)) (own_ch x1 (40 : Int32)) kb506_0 tl_ (own_ch x0 (24 : Int32)) (own_ch x0 (32 : Int32)) (own_ch x0 (40 : Int32)) kb486_0 T529.heap n0 Z533 f529_2 f529_1 f571 f572 f573 f574 f575 f576 f577 f578 f579 f529_0 f580 f581 f582 f583 f584 f585 f586 f587 (Ne.symm (Nat.ne_of_lt (Nat.lt_of_lt_of_le (f468_0.keep K486).lt sz492_0))) (Ne.symm (Nat.ne_of_lt (Nat.lt_of_lt_of_le (f486_0.keep K492).lt sz506_0))) hs_COMPACT_STRINGS c460 c461 c568 c498 c499 c478 c479 c569) (by decide) (W := 0) (by decide) (by decide) (by decide) e535 (by rw [hml]; rfl) (argsL := [(.ref b492_0), (.ref b506_0)]) (lenOf own_pd14 rfl) (rest := []) rfl rfl (Nat.le_of_eq rfl) (hb hby at_225) ?_
    intro _ T570 L570 X570 hQ570
    obtain ⟨rfl, N570q, e570⟩ := hQ570
    have N570 := Fr.app N535 N570q
    show oG p e below _ (T570.setTop (mkF m 228 #[.val (.long x0), .second, .val (.long x1), .second, .val (.int x2), .val (.int (1 : Int32)), .val (.ref b156_0), .val (.ref b157_0), .val (.ref b156_0), .val (.ref b161_0), .val (.int tn_), .val (.int tl_), .val (.int tn_), .val (.int al_), .val (.ref b468_0), .val (.ref b486_0), .val (.ref b492_0), .val (.ref b506_0), .val (.ref b512), .val (.ref b523), .val (.int (1 : Int32))] [(.int (1 : Int32))]))
    refine og (fun _ hr => XS.iload X570.here hx rfl (hb hby at_228) rfl (XS.icmpNo X570.here hx rfl (hb hby at_230) rfl (teq (by decide)).2 (XS.iconst X570.here hx rfl (hb hby at_233) (XS.goto X570.here hx rfl (pc0 := 234) (pc' := 238) rfl (hb hby at_234) (by decide) (by decide) hr)))) ?_
    show oG p e below _ (T570.setTop (mkF m 238 #[.val (.long x0), .second, .val (.long x1), .second, .val (.int x2), .val (.int (1 : Int32)), .val (.ref b156_0), .val (.ref b157_0), .val (.ref b156_0), .val (.ref b161_0), .val (.int tn_), .val (.int tl_), .val (.int tn_), .val (.int al_), .val (.ref b468_0), .val (.ref b486_0), .val (.ref b492_0), .val (.ref b506_0), .val (.ref b512), .val (.ref b523), .val (.int (1 : Int32))] [(.int (1 : Int32))]))
    have hk589 := (Nat.le_trans (Nat.le_trans (Nat.le_trans (Nat.le_trans (Nat.le_refl _) E512.1) K521.1) E523.1) K529.1)
    have A590 := A511.trans Ac506
    have A591 := A590.trans (CHr.ext E512 A590.1)
    have sf593 := (Safe.ext E512 A590.1 (Safe.new (Nat.le_of_eq g512.symm)))
    have A592 := A591.trans (CHr.keep K521 (sfS sf593 sf0) A591.1)
    have A594 := A592.trans (CHr.ext E523 A592.1)
    have sf596 := (Safe.ext E523 A592.1 (Safe.new (Nat.le_of_eq g523.symm)))
    have A595 := A594.trans (CHr.keep K529 (sfS sf596 sf0) A594.1)
    exact own_retNW X570 hx hlk Bd.returns hS hk589 hZ hEL hh e570 A595 (t := .boolean) (by simp) (hb hby at_238) (by decide) (by decide) ⟨rfl, N570⟩
  refine og (fun _ hr => XS.ifNo X161.here hx rfl (hb hby at_107) rfl ((if0 _ _).trans (feq c459).1) hr) ?_
  show oG p e below _ (T161.setTop (mkF m 110 #[.val (.long x0), .second, .val (.long x1), .second, .val (.int x2), .val (.int (1 : Int32)), .val (.ref b156_0), .val (.ref b157_0), .val (.ref b156_0), .val (.ref b161_0), .val (.int tn_), .val (.int tl_), .val (.int tn_), .val (.int al_), .unset, .unset, .unset, .unset, .unset, .unset, .unset] []))
  refine og (fun _ hr => XS.aload X161.here hx rfl (hb hby at_110) rfl rfl (XS.astore X161.here hx rfl (hb hby at_112) rfl rfl (l' := #[.val (.long x0), .second, .val (.long x1), .second, .val (.int x2), .val (.int (1 : Int32)), .val (.ref b156_0), .val (.ref b157_0), .val (.ref b156_0), .val (.ref b157_0), .val (.int tn_), .val (.int tl_), .val (.int tn_), .val (.int al_), .unset, .unset, .unset, .unset, .unset, .unset, .unset]) rfl (XS.iload X161.here hx rfl (hb hby at_114) rfl (XS.istore X161.here hx rfl (hb hby at_116) rfl (l' := #[.val (.long x0), .second, .val (.long x1), .second, .val (.int x2), .val (.int (1 : Int32)), .val (.ref b156_0), .val (.ref b157_0), .val (.ref b156_0), .val (.ref b157_0), .val (.int tn_), .val (.int tl_), .val (.int tn_), .val (.int tl_), .unset, .unset, .unset, .unset, .unset, .unset, .unset]) rfl (XS.aload X161.here hx rfl (hb hby at_118) rfl rfl (XS.iload X161.here hx rfl (hb hby at_120) rfl hr)))))) ?_
  show oG p e below _ (T161.setTop (mkF m 122 #[.val (.long x0), .second, .val (.long x1), .second, .val (.int x2), .val (.int (1 : Int32)), .val (.ref b156_0), .val (.ref b157_0), .val (.ref b156_0), .val (.ref b157_0), .val (.int tn_), .val (.int tl_), .val (.int tn_), .val (.int tl_), .unset, .unset, .unset, .unset, .unset, .unset, .unset] [(.int tn_), (.ref b156_0)]))
  have c597 : ¬ (tn_ < (0 : Int32)) := by
    have q0 := rng32 x2
    have q1 := c_mask x2 (1 : Int32) 1 (by decide) (by decide)
    have q2 := c_iushr x2 (9 : Int32) 9 (by decide) (by decide)
    have q3 := c_mask ((x2.toUInt32 >>> ((9 : Int32) &&& 31).toUInt32).toInt32) (1 : Int32) 1 (by decide) (by decide)
    have q4 := c_iushr x2 (10 : Int32) 10 (by decide) (by decide)
    have q5 := c_mask ((x2.toUInt32 >>> ((10 : Int32) &&& 31).toUInt32).toInt32) (1 : Int32) 1 (by decide) (by decide)
    have q6 := c_iushr x2 (1 : Int32) 1 (by decide) (by decide)
    have q7 := c_mask ((x2.toUInt32 >>> ((1 : Int32) &&& 31).toUInt32).toInt32) (3 : Int32) 2 (by decide) (by decide)
    have q8 := congrArg Int32.toInt htn_
    have p0 := c1
    have p1 := c163
    have p2 := c459
    simp only [true_implies, Int32.lt_iff_toInt_lt, ← Int32.toInt_inj, Int32.reduceToInt, Int64.lt_iff_toInt_lt, ← Int64.toInt_inj, Int64.reduceToInt] at q0 q1 q2 q3 q4 q5 q6 q7 q8 p0 p1 p2 ⊢
    omega
  have c598 : ¬ ((3 : Int32) < tn_) := by
    have q0 := rng32 x2
    have q1 := c_mask x2 (1 : Int32) 1 (by decide) (by decide)
    have q2 := c_iushr x2 (9 : Int32) 9 (by decide) (by decide)
    have q3 := c_mask ((x2.toUInt32 >>> ((9 : Int32) &&& 31).toUInt32).toInt32) (1 : Int32) 1 (by decide) (by decide)
    have q4 := c_iushr x2 (10 : Int32) 10 (by decide) (by decide)
    have q5 := c_mask ((x2.toUInt32 >>> ((10 : Int32) &&& 31).toUInt32).toInt32) (1 : Int32) 1 (by decide) (by decide)
    have q6 := c_iushr x2 (1 : Int32) 1 (by decide) (by decide)
    have q7 := c_mask ((x2.toUInt32 >>> ((1 : Int32) &&& 31).toUInt32).toInt32) (3 : Int32) 2 (by decide) (by decide)
    have q8 := congrArg Int32.toInt htn_
    have p0 := c1
    have p1 := c163
    have p2 := c459
    have p3 := c597
    simp only [true_implies, Int32.lt_iff_toInt_lt, ← Int32.toInt_inj, Int32.reduceToInt, Int64.lt_iff_toInt_lt, ← Int64.toInt_inj, Int64.reduceToInt] at q0 q1 q2 q3 q4 q5 q6 q7 q8 p0 p1 p2 p3 ⊢
    omega
  have c599 : ¬ ((own_ch x0 (0 : Int32)) < (0 : Int32)) := by
    have q0 := rng64 x0
    have q1 := own_ch_v x0 (0 : Int32)
    simp only [true_implies, Int32.lt_iff_toInt_lt, ← Int32.toInt_inj, Int32.reduceToInt, Int64.lt_iff_toInt_lt, ← Int64.toInt_inj, Int64.reduceToInt] at q0 q1 ⊢
    omega
  have c600 : ¬ ((255 : Int32) < (own_ch x0 (0 : Int32))) := by
    have q0 := rng64 x0
    have q1 := own_ch_v x0 (0 : Int32)
    have p0 := c599
    simp only [true_implies, Int32.lt_iff_toInt_lt, ← Int32.toInt_inj, Int32.reduceToInt, Int64.lt_iff_toInt_lt, ← Int64.toInt_inj, Int64.reduceToInt] at q0 q1 p0 ⊢
    omega
  have c601 : ¬ ((own_ch x0 (8 : Int32)) < (0 : Int32)) := by
    have q0 := rng64 x0
    have q1 := own_ch_v x0 (0 : Int32)
    have q2 := own_ch_v x0 (8 : Int32)
    have p0 := c599
    have p1 := c600
    simp only [true_implies, Int32.lt_iff_toInt_lt, ← Int32.toInt_inj, Int32.reduceToInt, Int64.lt_iff_toInt_lt, ← Int64.toInt_inj, Int64.reduceToInt] at q0 q1 q2 p0 p1 ⊢
    omega
  have c602 : ¬ ((255 : Int32) < (own_ch x0 (8 : Int32))) := by
    have q0 := rng64 x0
    have q1 := own_ch_v x0 (0 : Int32)
    have q2 := own_ch_v x0 (8 : Int32)
    have p0 := c599
    have p1 := c600
    have p2 := c601
    simp only [true_implies, Int32.lt_iff_toInt_lt, ← Int32.toInt_inj, Int32.reduceToInt, Int64.lt_iff_toInt_lt, ← Int64.toInt_inj, Int64.reduceToInt] at q0 q1 q2 p0 p1 p2 ⊢
    omega
  have c603 : ¬ ((own_ch x0 (16 : Int32)) < (0 : Int32)) := by
    have q0 := rng64 x0
    have q1 := own_ch_v x0 (0 : Int32)
    have q2 := own_ch_v x0 (8 : Int32)
    have q3 := own_ch_v x0 (16 : Int32)
    have p0 := c599
    have p1 := c600
    have p2 := c601
    have p3 := c602
    simp only [true_implies, Int32.lt_iff_toInt_lt, ← Int32.toInt_inj, Int32.reduceToInt, Int64.lt_iff_toInt_lt, ← Int64.toInt_inj, Int64.reduceToInt] at q0 q1 q2 q3 p0 p1 p2 p3 ⊢
    omega
  have c604 : ¬ ((255 : Int32) < (own_ch x0 (16 : Int32))) := by
    have q0 := rng64 x0
    have q1 := own_ch_v x0 (0 : Int32)
    have q2 := own_ch_v x0 (8 : Int32)
    have q3 := own_ch_v x0 (16 : Int32)
    have p0 := c599
    have p1 := c600
    have p2 := c601
    have p3 := c602
    have p4 := c603
    simp only [true_implies, Int32.lt_iff_toInt_lt, ← Int32.toInt_inj, Int32.reduceToInt, Int64.lt_iff_toInt_lt, ← Int64.toInt_inj, Int64.reduceToInt] at q0 q1 q2 q3 p0 p1 p2 p3 p4 ⊢
    omega
  have f606 := (own_sta_keep (own_sta_keep (own_sta_keep (own_sta_keep S_COMPACT_STRINGS K156 all0) K157 all0) K159 all0) K161 all0)
  have f607 := (((f156_1.keep K157 nin0).keep K159 nin0).keep K161 nin0)
  have Z608 := (Nat.le_trans Z162 K161.1)
  have hZo609 := hZ
  have A610 := A0.trans (CHr.keep K156 sf0 A0.1)
  have A611 := A610.trans (CHr.keep K157 sf0 A610.1)
  have A612 := A611.trans (CHr.keep K159 sf0 A611.1)
  have A613 := A612.trans (CHr.keep K161 sf0 A612.1)
  have hk614 := (Nat.le_trans (Nat.le_trans (Nat.le_trans (Nat.le_trans hk K156.1) K157.1) K159.1) K161.1)
  refine own_csW X161 hx hZ hown (hw _ (own_m 14 rfl)) (hw _ (own_m 15 rfl)) (hw _ (own_m 2 rfl)) (hw _ (own_m 16 rfl)) (by decide) (rm := { frames := 4, cells := 6, slots := 12, locals := 66 }) (rm_str l Z a0 hw [] b156_0 kb156_0 tn_ (own_ch x0 (0 : Int32)) (own_ch x0 (8 : Int32)) (own_ch x0 (16 : Int32)) i_COMPACT_STRINGS T161.heap n0 Z608 f606 hs_COMPACT_STRINGS f607 c597 c598 c599 c600 c601 c602 c603 c604) (by decide) (W := 0) (by decide) (by decide) (by decide) rfl hEL A613.1 hS hk614 (by rw [hml]; rfl) (argsL := [(.ref b156_0), (.int tn_)]) (lenOf own_pd10 rfl) (rest := []) rfl rfl (Nat.le_of_eq rfl) (hb hby at_122) ?_
  intro _ T605 L605 X605 hQ605 Ac605 hS hZ hown
  obtain ⟨b605_0, b605_1, kb605_0, rfl, N605q, K605, ge605_0, sz605_0, f605_0, f605_1, f605_2, f605_3⟩ := hQ605
  have N605 := Fr.app N161 N605q
  show oG p e below _ (T605.setTop (mkF m 125 #[.val (.long x0), .second, .val (.long x1), .second, .val (.int x2), .val (.int (1 : Int32)), .val (.ref b156_0), .val (.ref b157_0), .val (.ref b156_0), .val (.ref b157_0), .val (.int tn_), .val (.int tl_), .val (.int tn_), .val (.int tl_), .unset, .unset, .unset, .unset, .unset, .unset, .unset] [(.ref b605_0)]))
  refine og (fun _ hr => XS.astore X605.here hx rfl (hb hby at_125) rfl rfl (l' := #[.val (.long x0), .second, .val (.long x1), .second, .val (.int x2), .val (.int (1 : Int32)), .val (.ref b156_0), .val (.ref b157_0), .val (.ref b156_0), .val (.ref b157_0), .val (.int tn_), .val (.int tl_), .val (.int tn_), .val (.int tl_), .val (.ref b605_0), .unset, .unset, .unset, .unset, .unset, .unset]) rfl (XS.aload X605.here hx rfl (hb hby at_127) rfl rfl (XS.iload X605.here hx rfl (hb hby at_129) rfl hr))) ?_
  show oG p e below _ (T605.setTop (mkF m 131 #[.val (.long x0), .second, .val (.long x1), .second, .val (.int x2), .val (.int (1 : Int32)), .val (.ref b156_0), .val (.ref b157_0), .val (.ref b156_0), .val (.ref b157_0), .val (.int tn_), .val (.int tl_), .val (.int tn_), .val (.int tl_), .val (.ref b605_0), .unset, .unset, .unset, .unset, .unset, .unset] [(.int tl_), (.ref b157_0)]))
  have c615 : ¬ (tl_ < (0 : Int32)) := by
    have q0 := rng32 x2
    have q1 := c_mask x2 (1 : Int32) 1 (by decide) (by decide)
    have q2 := c_iushr x2 (9 : Int32) 9 (by decide) (by decide)
    have q3 := c_mask ((x2.toUInt32 >>> ((9 : Int32) &&& 31).toUInt32).toInt32) (1 : Int32) 1 (by decide) (by decide)
    have q4 := c_iushr x2 (10 : Int32) 10 (by decide) (by decide)
    have q5 := c_mask ((x2.toUInt32 >>> ((10 : Int32) &&& 31).toUInt32).toInt32) (1 : Int32) 1 (by decide) (by decide)
    have q6 := c_iushr x2 (1 : Int32) 1 (by decide) (by decide)
    have q7 := c_mask ((x2.toUInt32 >>> ((1 : Int32) &&& 31).toUInt32).toInt32) (3 : Int32) 2 (by decide) (by decide)
    have q8 := congrArg Int32.toInt htn_
    have q9 := c_iushr x2 (3 : Int32) 3 (by decide) (by decide)
    have q10 := c_mask ((x2.toUInt32 >>> ((3 : Int32) &&& 31).toUInt32).toInt32) (3 : Int32) 2 (by decide) (by decide)
    have q11 := congrArg Int32.toInt htl_
    have p0 := c1
    have p1 := c163
    have p2 := c459
    have p3 := c597
    have p4 := c598
    simp only [true_implies, Int32.lt_iff_toInt_lt, ← Int32.toInt_inj, Int32.reduceToInt, Int64.lt_iff_toInt_lt, ← Int64.toInt_inj, Int64.reduceToInt] at q0 q1 q2 q3 q4 q5 q6 q7 q8 q9 q10 q11 p0 p1 p2 p3 p4 ⊢
    omega
  have c616 : ¬ ((3 : Int32) < tl_) := by
    have q0 := rng32 x2
    have q1 := c_mask x2 (1 : Int32) 1 (by decide) (by decide)
    have q2 := c_iushr x2 (9 : Int32) 9 (by decide) (by decide)
    have q3 := c_mask ((x2.toUInt32 >>> ((9 : Int32) &&& 31).toUInt32).toInt32) (1 : Int32) 1 (by decide) (by decide)
    have q4 := c_iushr x2 (10 : Int32) 10 (by decide) (by decide)
    have q5 := c_mask ((x2.toUInt32 >>> ((10 : Int32) &&& 31).toUInt32).toInt32) (1 : Int32) 1 (by decide) (by decide)
    have q6 := c_iushr x2 (1 : Int32) 1 (by decide) (by decide)
    have q7 := c_mask ((x2.toUInt32 >>> ((1 : Int32) &&& 31).toUInt32).toInt32) (3 : Int32) 2 (by decide) (by decide)
    have q8 := congrArg Int32.toInt htn_
    have q9 := c_iushr x2 (3 : Int32) 3 (by decide) (by decide)
    have q10 := c_mask ((x2.toUInt32 >>> ((3 : Int32) &&& 31).toUInt32).toInt32) (3 : Int32) 2 (by decide) (by decide)
    have q11 := congrArg Int32.toInt htl_
    have p0 := c1
    have p1 := c163
    have p2 := c459
    have p3 := c597
    have p4 := c598
    have p5 := c615
    simp only [true_implies, Int32.lt_iff_toInt_lt, ← Int32.toInt_inj, Int32.reduceToInt, Int64.lt_iff_toInt_lt, ← Int64.toInt_inj, Int64.reduceToInt] at q0 q1 q2 q3 q4 q5 q6 q7 q8 q9 q10 q11 p0 p1 p2 p3 p4 p5 ⊢
    omega
  have c617 : ¬ ((own_ch x0 (24 : Int32)) < (0 : Int32)) := by
    have q0 := rng64 x0
    have q1 := own_ch_v x0 (0 : Int32)
    have q2 := own_ch_v x0 (8 : Int32)
    have q3 := own_ch_v x0 (16 : Int32)
    have q4 := own_ch_v x0 (24 : Int32)
    have p0 := c599
    have p1 := c600
    have p2 := c601
    have p3 := c602
    have p4 := c603
    have p5 := c604
    simp only [true_implies, Int32.lt_iff_toInt_lt, ← Int32.toInt_inj, Int32.reduceToInt, Int64.lt_iff_toInt_lt, ← Int64.toInt_inj, Int64.reduceToInt] at q0 q1 q2 q3 q4 p0 p1 p2 p3 p4 p5 ⊢
    omega
  have c618 : ¬ ((255 : Int32) < (own_ch x0 (24 : Int32))) := by
    have q0 := rng64 x0
    have q1 := own_ch_v x0 (0 : Int32)
    have q2 := own_ch_v x0 (8 : Int32)
    have q3 := own_ch_v x0 (16 : Int32)
    have q4 := own_ch_v x0 (24 : Int32)
    have p0 := c599
    have p1 := c600
    have p2 := c601
    have p3 := c602
    have p4 := c603
    have p5 := c604
    have p6 := c617
    simp only [true_implies, Int32.lt_iff_toInt_lt, ← Int32.toInt_inj, Int32.reduceToInt, Int64.lt_iff_toInt_lt, ← Int64.toInt_inj, Int64.reduceToInt] at q0 q1 q2 q3 q4 p0 p1 p2 p3 p4 p5 p6 ⊢
    omega
  have c619 : ¬ ((own_ch x0 (32 : Int32)) < (0 : Int32)) := by
    have q0 := rng64 x0
    have q1 := own_ch_v x0 (0 : Int32)
    have q2 := own_ch_v x0 (8 : Int32)
    have q3 := own_ch_v x0 (16 : Int32)
    have q4 := own_ch_v x0 (24 : Int32)
    have q5 := own_ch_v x0 (32 : Int32)
    have p0 := c599
    have p1 := c600
    have p2 := c601
    have p3 := c602
    have p4 := c603
    have p5 := c604
    have p6 := c617
    have p7 := c618
    simp only [true_implies, Int32.lt_iff_toInt_lt, ← Int32.toInt_inj, Int32.reduceToInt, Int64.lt_iff_toInt_lt, ← Int64.toInt_inj, Int64.reduceToInt] at q0 q1 q2 q3 q4 q5 p0 p1 p2 p3 p4 p5 p6 p7 ⊢
    omega
  have c620 : ¬ ((255 : Int32) < (own_ch x0 (32 : Int32))) := by
    have q0 := rng64 x0
    have q1 := own_ch_v x0 (0 : Int32)
    have q2 := own_ch_v x0 (8 : Int32)
    have q3 := own_ch_v x0 (16 : Int32)
    have q4 := own_ch_v x0 (24 : Int32)
    have q5 := own_ch_v x0 (32 : Int32)
    have p0 := c599
    have p1 := c600
    have p2 := c601
    have p3 := c602
    have p4 := c603
    have p5 := c604
    have p6 := c617
    have p7 := c618
    have p8 := c619
    simp only [true_implies, Int32.lt_iff_toInt_lt, ← Int32.toInt_inj, Int32.reduceToInt, Int64.lt_iff_toInt_lt, ← Int64.toInt_inj, Int64.reduceToInt] at q0 q1 q2 q3 q4 q5 p0 p1 p2 p3 p4 p5 p6 p7 p8 ⊢
    omega
  have c621 : ¬ ((own_ch x0 (40 : Int32)) < (0 : Int32)) := by
    have q0 := rng64 x0
    have q1 := own_ch_v x0 (0 : Int32)
    have q2 := own_ch_v x0 (8 : Int32)
    have q3 := own_ch_v x0 (16 : Int32)
    have q4 := own_ch_v x0 (24 : Int32)
    have q5 := own_ch_v x0 (32 : Int32)
    have q6 := own_ch_v x0 (40 : Int32)
    have p0 := c599
    have p1 := c600
    have p2 := c601
    have p3 := c602
    have p4 := c603
    have p5 := c604
    have p6 := c617
    have p7 := c618
    have p8 := c619
    have p9 := c620
    simp only [true_implies, Int32.lt_iff_toInt_lt, ← Int32.toInt_inj, Int32.reduceToInt, Int64.lt_iff_toInt_lt, ← Int64.toInt_inj, Int64.reduceToInt] at q0 q1 q2 q3 q4 q5 q6 p0 p1 p2 p3 p4 p5 p6 p7 p8 p9 ⊢
    omega
  have c622 : ¬ ((255 : Int32) < (own_ch x0 (40 : Int32))) := by
    have q0 := rng64 x0
    have q1 := own_ch_v x0 (0 : Int32)
    have q2 := own_ch_v x0 (8 : Int32)
    have q3 := own_ch_v x0 (16 : Int32)
    have q4 := own_ch_v x0 (24 : Int32)
    have q5 := own_ch_v x0 (32 : Int32)
    have q6 := own_ch_v x0 (40 : Int32)
    have p0 := c599
    have p1 := c600
    have p2 := c601
    have p3 := c602
    have p4 := c603
    have p5 := c604
    have p6 := c617
    have p7 := c618
    have p8 := c619
    have p9 := c620
    have p10 := c621
    simp only [true_implies, Int32.lt_iff_toInt_lt, ← Int32.toInt_inj, Int32.reduceToInt, Int64.lt_iff_toInt_lt, ← Int64.toInt_inj, Int64.reduceToInt] at q0 q1 q2 q3 q4 q5 q6 p0 p1 p2 p3 p4 p5 p6 p7 p8 p9 p10 ⊢
    omega
  have f624 := (own_sta_keep f606 K605 all0)
  have f625 := (((f157_1.keep K159 nin0).keep K161 nin0).keep K605 nin0)
  have Z626 := (Nat.le_trans Z608 K605.1)
  have hZo627 := hZ
  have A628 := A613.trans Ac605
  refine own_csW X605 hx hZ hown (hw _ (own_m 14 rfl)) (hw _ (own_m 15 rfl)) (hw _ (own_m 2 rfl)) (hw _ (own_m 16 rfl)) (by decide) (rm := { frames := 4, cells := 6, slots := 12, locals := 66 }) (rm_str l Z a0 hw [] b157_0 kb157_0 tl_ (own_ch x0 (24 : Int32)) (own_ch x0 (32 : Int32)) (own_ch x0 (40 : Int32)) i_COMPACT_STRINGS T605.heap n0 Z626 f624 hs_COMPACT_STRINGS f625 c615 c616 c617 c618 c619 c620 c621 c622) (by decide) (W := 0) (by decide) (by decide) (by decide) rfl hEL A628.1 hS (Nat.le_refl _) (by rw [hml]; rfl) (argsL := [(.ref b157_0), (.int tl_)]) (lenOf own_pd10 rfl) (rest := []) rfl rfl (Nat.le_of_eq rfl) (hb hby at_131) ?_
  intro _ T623 L623 X623 hQ623 Ac623 hS hZ hown
  obtain ⟨b623_0, b623_1, kb623_0, rfl, N623q, K623, ge623_0, sz623_0, f623_0, f623_1, f623_2, f623_3⟩ := hQ623
  have N623 := Fr.app N605 N623q
  show oG p e below _ (T623.setTop (mkF m 134 #[.val (.long x0), .second, .val (.long x1), .second, .val (.int x2), .val (.int (1 : Int32)), .val (.ref b156_0), .val (.ref b157_0), .val (.ref b156_0), .val (.ref b157_0), .val (.int tn_), .val (.int tl_), .val (.int tn_), .val (.int tl_), .val (.ref b605_0), .unset, .unset, .unset, .unset, .unset, .unset] [(.ref b623_0)]))
  refine og (fun _ hr => XS.astore X623.here hx rfl (hb hby at_134) rfl rfl (l' := #[.val (.long x0), .second, .val (.long x1), .second, .val (.int x2), .val (.int (1 : Int32)), .val (.ref b156_0), .val (.ref b157_0), .val (.ref b156_0), .val (.ref b157_0), .val (.int tn_), .val (.int tl_), .val (.int tn_), .val (.int tl_), .val (.ref b605_0), .val (.ref b623_0), .unset, .unset, .unset, .unset, .unset]) rfl (XS.aload X623.here hx rfl (hb hby at_136) rfl rfl (XS.iload X623.here hx rfl (hb hby at_138) rfl hr))) ?_
  show oG p e below _ (T623.setTop (mkF m 140 #[.val (.long x0), .second, .val (.long x1), .second, .val (.int x2), .val (.int (1 : Int32)), .val (.ref b156_0), .val (.ref b157_0), .val (.ref b156_0), .val (.ref b157_0), .val (.int tn_), .val (.int tl_), .val (.int tn_), .val (.int tl_), .val (.ref b605_0), .val (.ref b623_0), .unset, .unset, .unset, .unset, .unset] [(.int tn_), (.ref b156_0)]))
  have f630 := (own_sta_keep f624 K623 all0)
  have f631 := ((f607.keep K605 nin0).keep K623 nin0)
  have Z632 := (Nat.le_trans Z626 K623.1)
  have hZo633 := hZ
  have A634 := A628.trans Ac623
  refine own_csW X623 hx hZ hown (hw _ (own_m 14 rfl)) (hw _ (own_m 15 rfl)) (hw _ (own_m 2 rfl)) (hw _ (own_m 16 rfl)) (by decide) (rm := { frames := 4, cells := 6, slots := 12, locals := 66 }) (rm_str l Z a0 hw [] b156_0 kb156_0 tn_ (own_ch x0 (0 : Int32)) (own_ch x0 (8 : Int32)) (own_ch x0 (16 : Int32)) i_COMPACT_STRINGS T623.heap n0 Z632 f630 hs_COMPACT_STRINGS f631 c597 c598 c599 c600 c601 c602 c603 c604) (by decide) (W := 0) (by decide) (by decide) (by decide) rfl hEL A634.1 hS (Nat.le_refl _) (by rw [hml]; rfl) (argsL := [(.ref b156_0), (.int tn_)]) (lenOf own_pd10 rfl) (rest := []) rfl rfl (Nat.le_of_eq rfl) (hb hby at_140) ?_
  intro _ T629 L629 X629 hQ629 Ac629 hS hZ hown
  obtain ⟨b629_0, b629_1, kb629_0, rfl, N629q, K629, ge629_0, sz629_0, f629_0, f629_1, f629_2, f629_3⟩ := hQ629
  have N629 := Fr.app N623 N629q
  show oG p e below _ (T629.setTop (mkF m 143 #[.val (.long x0), .second, .val (.long x1), .second, .val (.int x2), .val (.int (1 : Int32)), .val (.ref b156_0), .val (.ref b157_0), .val (.ref b156_0), .val (.ref b157_0), .val (.int tn_), .val (.int tl_), .val (.int tn_), .val (.int tl_), .val (.ref b605_0), .val (.ref b623_0), .unset, .unset, .unset, .unset, .unset] [(.ref b629_0)]))
  refine og (fun _ hr => XS.astore X629.here hx rfl (hb hby at_143) rfl rfl (l' := #[.val (.long x0), .second, .val (.long x1), .second, .val (.int x2), .val (.int (1 : Int32)), .val (.ref b156_0), .val (.ref b157_0), .val (.ref b156_0), .val (.ref b157_0), .val (.int tn_), .val (.int tl_), .val (.int tn_), .val (.int tl_), .val (.ref b605_0), .val (.ref b623_0), .val (.ref b629_0), .unset, .unset, .unset, .unset]) rfl (XS.aload X629.here hx rfl (hb hby at_145) rfl rfl (XS.iload X629.here hx rfl (hb hby at_147) rfl hr))) ?_
  show oG p e below _ (T629.setTop (mkF m 149 #[.val (.long x0), .second, .val (.long x1), .second, .val (.int x2), .val (.int (1 : Int32)), .val (.ref b156_0), .val (.ref b157_0), .val (.ref b156_0), .val (.ref b157_0), .val (.int tn_), .val (.int tl_), .val (.int tn_), .val (.int tl_), .val (.ref b605_0), .val (.ref b623_0), .val (.ref b629_0), .unset, .unset, .unset, .unset] [(.int tl_), (.ref b157_0)]))
  have f636 := (own_sta_keep f630 K629 all0)
  have f637 := ((f625.keep K623 nin0).keep K629 nin0)
  have Z638 := (Nat.le_trans Z632 K629.1)
  have hZo639 := hZ
  have A640 := A634.trans Ac629
  refine own_csW X629 hx hZ hown (hw _ (own_m 14 rfl)) (hw _ (own_m 15 rfl)) (hw _ (own_m 2 rfl)) (hw _ (own_m 16 rfl)) (by decide) (rm := { frames := 4, cells := 6, slots := 12, locals := 66 }) (rm_str l Z a0 hw [] b157_0 kb157_0 tl_ (own_ch x0 (24 : Int32)) (own_ch x0 (32 : Int32)) (own_ch x0 (40 : Int32)) i_COMPACT_STRINGS T629.heap n0 Z638 f636 hs_COMPACT_STRINGS f637 c615 c616 c617 c618 c619 c620 c621 c622) (by decide) (W := 0) (by decide) (by decide) (by decide) rfl hEL A640.1 hS (Nat.le_refl _) (by rw [hml]; rfl) (argsL := [(.ref b157_0), (.int tl_)]) (lenOf own_pd10 rfl) (rest := []) rfl rfl (Nat.le_of_eq rfl) (hb hby at_149) ?_
  intro _ T635 L635 X635 hQ635 Ac635 hS hZ hown
  obtain ⟨b635_0, b635_1, kb635_0, rfl, N635q, K635, ge635_0, sz635_0, f635_0, f635_1, f635_2, f635_3⟩ := hQ635
  have N635 := Fr.app N629 N635q
  show oG p e below _ (T635.setTop (mkF m 152 #[.val (.long x0), .second, .val (.long x1), .second, .val (.int x2), .val (.int (1 : Int32)), .val (.ref b156_0), .val (.ref b157_0), .val (.ref b156_0), .val (.ref b157_0), .val (.int tn_), .val (.int tl_), .val (.int tn_), .val (.int tl_), .val (.ref b605_0), .val (.ref b623_0), .val (.ref b629_0), .unset, .unset, .unset, .unset] [(.ref b635_0)]))
  refine og (fun _ hr => XS.astore X635.here hx rfl (hb hby at_152) rfl rfl (l' := #[.val (.long x0), .second, .val (.long x1), .second, .val (.int x2), .val (.int (1 : Int32)), .val (.ref b156_0), .val (.ref b157_0), .val (.ref b156_0), .val (.ref b157_0), .val (.int tn_), .val (.int tl_), .val (.int tn_), .val (.int tl_), .val (.ref b605_0), .val (.ref b623_0), .val (.ref b629_0), .val (.ref b635_0), .unset, .unset, .unset]) rfl hr) ?_
  show oG p e below _ (T635.setTop (mkF m 154 #[.val (.long x0), .second, .val (.long x1), .second, .val (.int x2), .val (.int (1 : Int32)), .val (.ref b156_0), .val (.ref b157_0), .val (.ref b156_0), .val (.ref b157_0), .val (.int tn_), .val (.int tl_), .val (.int tn_), .val (.int tl_), .val (.ref b605_0), .val (.ref b623_0), .val (.ref b629_0), .val (.ref b635_0), .unset, .unset, .unset] []))
  obtain ⟨T641, h641, X641, e641, E641, A641, D641, -, st641⟩ := newO X635 hx hZ hown (hw _ (own_m 70 rfl)) (hw _ (own_m 71 rfl)) (hw _ (own_m 72 rfl)) rfl (g := (mkF m 154 #[.val (.long x0), .second, .val (.long x1), .second, .val (.int x2), .val (.int (1 : Int32)), .val (.ref b156_0), .val (.ref b157_0), .val (.ref b156_0), .val (.ref b157_0), .val (.int tn_), .val (.int tl_), .val (.int tn_), .val (.int tl_), .val (.ref b605_0), .val (.ref b623_0), .val (.ref b629_0), .val (.ref b635_0), .unset, .unset, .unset] [])) rfl (hb hby at_154) (by decide) (by decide)
  obtain ⟨b641, g641⟩ : ∃ z, z = T635.heap.size := ⟨_, rfl⟩
  rw [← g641] at A641 D641 st641
  have Z642 := (Nat.le_trans Z638 K635.1)
  have ge643 : n0 ≤ b641 := Nat.le_trans Z642 (Nat.le_of_eq g641.symm)
  refine og st641 ?_
  have f644 : Fld Z h641 b641 "com/example/ruleweave/ruleweave/CommonPolicySchema$Type" "namespace" "Ljava/lang/String;" .null := D641 (Or.inr (hw _ (own_m 78 rfl))) (ty := (.object "java/lang/String")) (by decide)
  have f645 : Fld Z h641 b641 "com/example/ruleweave/ruleweave/CommonPolicySchema$Type" "name" "Ljava/lang/String;" .null := D641 (Or.inr (hw _ (own_m 80 rfl))) (ty := (.object "java/lang/String")) (by decide)
  have f646 : Fld Z h641 b641 "com/example/ruleweave/ruleweave/CommonPolicySchema$Type" "attributes" "Ljava/util/List;" .null := D641 (Or.inr (hw _ (own_m 82 rfl))) (ty := (.object "java/util/List")) (by decide)
  have f647 : Fld Z h641 b641 "com/example/ruleweave/ruleweave/CommonPolicySchema$Type" "content" "Lcom/example/ruleweave/ruleweave/CommonPolicySchema$Content;" .null := D641 (Or.inr (hw _ (own_m 84 rfl))) (ty := (.object "com/example/ruleweave/ruleweave/CommonPolicySchema$Content")) (by decide)
  have f648 : Fld Z h641 b641 "com/example/ruleweave/ruleweave/CommonPolicySchema$Type" "datatype" "Lcom/example/ruleweave/ruleweave/CommonPolicySchema$Datatype;" .null := D641 (Or.inr (hw _ (own_m 86 rfl))) (ty := (.object "com/example/ruleweave/ruleweave/CommonPolicySchema$Datatype")) (by decide)
  have f649 : Fld Z h641 b641 "com/example/ruleweave/ruleweave/CommonPolicySchema$Type" "model" "Lcom/example/ruleweave/ruleweave/CommonPolicySchema$Model;" .null := D641 (Or.inr (hw _ (own_m 88 rfl))) (ty := (.object "com/example/ruleweave/ruleweave/CommonPolicySchema$Model")) (by decide)
  show oG p e below _ (T641.setTop (mkF m 157 #[.val (.long x0), .second, .val (.long x1), .second, .val (.int x2), .val (.int (1 : Int32)), .val (.ref b156_0), .val (.ref b157_0), .val (.ref b156_0), .val (.ref b157_0), .val (.int tn_), .val (.int tl_), .val (.int tn_), .val (.int tl_), .val (.ref b605_0), .val (.ref b623_0), .val (.ref b629_0), .val (.ref b635_0), .unset, .unset, .unset] [(.ref b641)]))
  refine og (fun _ hr => XS.dup X641.here hx rfl (hb hby at_157) rfl rfl (XS.aconstNull X641.here hx rfl (hb hby at_158) (XS.aconstNull X641.here hx rfl (hb hby at_159) (XS.aconstNull X641.here hx rfl (hb hby at_160) (XS.aconstNull X641.here hx rfl (hb hby at_161) (XS.aconstNull X641.here hx rfl (hb hby at_162) (XS.aconstNull X641.here hx rfl (hb hby at_163) hr))))))) ?_
  show oG p e below _ (T641.setTop (mkF m 164 #[.val (.long x0), .second, .val (.long x1), .second, .val (.int x2), .val (.int (1 : Int32)), .val (.ref b156_0), .val (.ref b157_0), .val (.ref b156_0), .val (.ref b157_0), .val (.int tn_), .val (.int tl_), .val (.int tn_), .val (.int tl_), .val (.ref b605_0), .val (.ref b623_0), .val (.ref b629_0), .val (.ref b635_0), .unset, .unset, .unset] [.null, .null, .null, .null, .null, .null, (.ref b641), (.ref b641)]))
  have Z651 := (Nat.le_trans Z642 E641.1)
  refine own_cp X641 hx hZ hown rfl (hw _ (own_m 73 rfl)) (hw _ (own_m 74 rfl)) (hw _ (own_m 72 rfl)) (hw _ (own_m 75 rfl)) (by decide) (rm := { frames := 2, cells := 0, slots := 0, locals := 24 }) (rm_init_31 l Z a0 hw [] b641 h641 n0 Z651 A641 f644 f645 f646 f647 f648 f649 ge643) (by decide) (W := 1) (by decide) (by decide) (by decide) e641 (by rw [hml]; rfl) (argsL := [.null, .null, .null, .null, .null, .null]) (lenOf own_pd17 rfl) (rest := [(.ref b641)]) rfl rfl (Nat.le_of_eq rfl) (hb hby at_164) ?_
  intro _ T650 L650 X650 hQ650
  obtain ⟨rfl, N650q, K650, f650_0, f650_1, f650_2, f650_3, f650_4, f650_5⟩ := hQ650
  have N650 := Fr.app N635 N650q
  show oG p e below _ (T650.setTop (mkF m 167 #[.val (.long x0), .second, .val (.long x1), .second, .val (.int x2), .val (.int (1 : Int32)), .val (.ref b156_0), .val (.ref b157_0), .val (.ref b156_0), .val (.ref b157_0), .val (.int tn_), .val (.int tl_), .val (.int tn_), .val (.int tl_), .val (.ref b605_0), .val (.ref b623_0), .val (.ref b629_0), .val (.ref b635_0), .unset, .unset, .unset] [(.ref b641)]))
  refine og (fun _ hr => XS.astore X650.here hx rfl (hb hby at_167) rfl rfl (l' := #[.val (.long x0), .second, .val (.long x1), .second, .val (.int x2), .val (.int (1 : Int32)), .val (.ref b156_0), .val (.ref b157_0), .val (.ref b156_0), .val (.ref b157_0), .val (.int tn_), .val (.int tl_), .val (.int tn_), .val (.int tl_), .val (.ref b605_0), .val (.ref b623_0), .val (.ref b629_0), .val (.ref b635_0), .val (.ref b641), .unset, .unset]) rfl hr) ?_
  show oG p e below _ (T650.setTop (mkF m 169 #[.val (.long x0), .second, .val (.long x1), .second, .val (.int x2), .val (.int (1 : Int32)), .val (.ref b156_0), .val (.ref b157_0), .val (.ref b156_0), .val (.ref b157_0), .val (.int tn_), .val (.int tl_), .val (.int tn_), .val (.int tl_), .val (.ref b605_0), .val (.ref b623_0), .val (.ref b629_0), .val (.ref b635_0), .val (.ref b641), .unset, .unset] []))
  obtain ⟨T652, h652, X652, e652, E652, A652, D652, -, st652⟩ := newO X650 hx hZ hown (hw _ (own_m 31 rfl)) (hw _ (own_m 32 rfl)) (hw _ (own_m 33 rfl)) rfl (g := (mkF m 169 #[.val (.long x0), .second, .val (.long x1), .second, .val (.int x2), .val (.int (1 : Int32)), .val (.ref b156_0), .val (.ref b157_0), .val (.ref b156_0), .val (.ref b157_0), .val (.int tn_), .val (.int tl_), .val (.int tn_), .val (.int tl_), .val (.ref b605_0), .val (.ref b623_0), .val (.ref b629_0), .val (.ref b635_0), .val (.ref b641), .unset, .unset] [])) rfl (hb hby at_169) (by decide) (by decide)
  obtain ⟨b652, g652⟩ : ∃ z, z = T650.heap.size := ⟨_, rfl⟩
  rw [← g652] at A652 D652 st652
  have Z653 := (Nat.le_trans Z651 K650.1)
  have ge654 : n0 ≤ b652 := Nat.le_trans Z653 (Nat.le_of_eq g652.symm)
  refine og st652 ?_
  have f655 : Fld Z h652 b652 "com/example/ruleweave/ruleweave/CommonPolicySchema$Term" "namespace" "Ljava/lang/String;" .null := D652 (Or.inr (hw _ (own_m 44 rfl))) (ty := (.object "java/lang/String")) (by decide)
  have f656 : Fld Z h652 b652 "com/example/ruleweave/ruleweave/CommonPolicySchema$Term" "localName" "Ljava/lang/String;" .null := D652 (Or.inr (hw _ (own_m 46 rfl))) (ty := (.object "java/lang/String")) (by decide)
  have f657 : Fld Z h652 b652 "com/example/ruleweave/ruleweave/CommonPolicySchema$Term" "type" "Lcom/example/ruleweave/ruleweave/CommonPolicySchema$Type;" .null := D652 (Or.inr (hw _ (own_m 48 rfl))) (ty := (.object "com/example/ruleweave/ruleweave/CommonPolicySchema$Type")) (by decide)
  show oG p e below _ (T652.setTop (mkF m 172 #[.val (.long x0), .second, .val (.long x1), .second, .val (.int x2), .val (.int (1 : Int32)), .val (.ref b156_0), .val (.ref b157_0), .val (.ref b156_0), .val (.ref b157_0), .val (.int tn_), .val (.int tl_), .val (.int tn_), .val (.int tl_), .val (.ref b605_0), .val (.ref b623_0), .val (.ref b629_0), .val (.ref b635_0), .val (.ref b641), .unset, .unset] [(.ref b652)]))
  refine og (fun _ hr => XS.dup X652.here hx rfl (hb hby at_172) rfl rfl (XS.aload X652.here hx rfl (hb hby at_173) rfl rfl (XS.aload X652.here hx rfl (hb hby at_175) rfl rfl (XS.aload X652.here hx rfl (hb hby at_177) rfl rfl hr)))) ?_
  show oG p e below _ (T652.setTop (mkF m 179 #[.val (.long x0), .second, .val (.long x1), .second, .val (.int x2), .val (.int (1 : Int32)), .val (.ref b156_0), .val (.ref b157_0), .val (.ref b156_0), .val (.ref b157_0), .val (.int tn_), .val (.int tl_), .val (.int tn_), .val (.int tl_), .val (.ref b605_0), .val (.ref b623_0), .val (.ref b629_0), .val (.ref b635_0), .val (.ref b641), .unset, .unset] [(.ref b641), (.ref b623_0), (.ref b605_0), (.ref b652), (.ref b652)]))
  have Z659 := (Nat.le_trans Z653 E652.1)
  refine own_cp X652 hx hZ hown rfl (hw _ (own_m 34 rfl)) (hw _ (own_m 35 rfl)) (hw _ (own_m 33 rfl)) (hw _ (own_m 36 rfl)) (by decide) (rm := { frames := 2, cells := 0, slots := 0, locals := 24 }) (rm_init_32 l Z a0 hw [] b652 b605_0 b623_0 b641 h652 n0 Z659 A652 f655 f656 f657 ge654) (by decide) (W := 1) (by decide) (by decide) (by decide) e652 (by rw [hml]; rfl) (argsL := [(.ref b605_0), (.ref b623_0), (.ref b641)]) (lenOf own_pd12 rfl) (rest := [(.ref b652)]) rfl rfl (Nat.le_of_eq rfl) (hb hby at_179) ?_
  intro _ T658 L658 X658 hQ658
  obtain ⟨rfl, N658q, K658, f658_0, f658_1, f658_2⟩ := hQ658
  have N658 := Fr.app N650 N658q
  show oG p e below _ (T658.setTop (mkF m 182 #[.val (.long x0), .second, .val (.long x1), .second, .val (.int x2), .val (.int (1 : Int32)), .val (.ref b156_0), .val (.ref b157_0), .val (.ref b156_0), .val (.ref b157_0), .val (.int tn_), .val (.int tl_), .val (.int tn_), .val (.int tl_), .val (.ref b605_0), .val (.ref b623_0), .val (.ref b629_0), .val (.ref b635_0), .val (.ref b641), .unset, .unset] [(.ref b652)]))
  refine og (fun _ hr => XS.astore X658.here hx rfl (hb hby at_182) rfl rfl (l' := #[.val (.long x0), .second, .val (.long x1), .second, .val (.int x2), .val (.int (1 : Int32)), .val (.ref b156_0), .val (.ref b157_0), .val (.ref b156_0), .val (.ref b157_0), .val (.int tn_), .val (.int tl_), .val (.int tn_), .val (.int tl_), .val (.ref b605_0), .val (.ref b623_0), .val (.ref b629_0), .val (.ref b635_0), .val (.ref b641), .val (.ref b652), .unset]) rfl (XS.aload X658.here hx rfl (hb hby at_184) rfl rfl (XS.iload X658.here hx rfl (hb hby at_186) rfl (XS.aload X658.here hx rfl (hb hby at_188) rfl rfl (XS.iload X658.here hx rfl (hb hby at_190) rfl hr))))) ?_
  show oG p e below _ (T658.setTop (mkF m 192 #[.val (.long x0), .second, .val (.long x1), .second, .val (.int x2), .val (.int (1 : Int32)), .val (.ref b156_0), .val (.ref b157_0), .val (.ref b156_0), .val (.ref b157_0), .val (.int tn_), .val (.int tl_), .val (.int tn_), .val (.int tl_), .val (.ref b605_0), .val (.ref b623_0), .val (.ref b629_0), .val (.ref b635_0), .val (.ref b641), .val (.ref b652), .unset] [(.int tn_), (.ref b156_0), (.int tn_), (.ref b156_0)]))
  have f661 := ((((((f631.keep K629 nin0).keep K635 nin0).ext E641).keep K650 (ninS (Nat.ne_of_lt (Nat.lt_of_lt_of_le (((((((f156_0.keep K157).keep K159).keep K161).keep K605).keep K623).keep K629).keep K635).lt (Nat.le_of_eq g641.symm))) nin0)).ext E652).keep K658 (ninS (Nat.ne_of_lt (Nat.lt_of_lt_of_le (((((((((f156_0.keep K157).keep K159).keep K161).keep K605).keep K623).keep K629).keep K635).ext E641).keep K650).lt (Nat.le_of_eq g652.symm))) nin0))
  have Z662 := (Nat.le_trans Z659 K658.1)
  refine own_cs X658 hx hZ hown (hw _ (own_m 89 rfl)) (hw _ (own_m 90 rfl)) (hw _ (own_m 2 rfl)) (hw _ (own_m 91 rfl)) (by decide) (rm := { frames := 0, cells := 0, slots := 0, locals := 0 }) (rm_same l Z a0 hw [] b156_0 b156_0 kb156_0 kb156_0 (own_ch x0 (0 : Int32)) (own_ch x0 (8 : Int32)) (own_ch x0 (16 : Int32)) tn_ (own_ch x0 (0 : Int32)) (own_ch x0 (8 : Int32)) (own_ch x0 (16 : Int32)) tn_ T658.heap n0 Z662 f661 f661) (by decide) (W := 0) (by decide) (by decide) (by decide) rfl (by rw [hml]; rfl) (argsL := [(.ref b156_0), (.int tn_), (.ref b156_0), (.int tn_)]) (lenOf own_pd18 rfl) (rest := []) rfl rfl (Nat.le_of_eq rfl) (hb hby at_192) ?_
  intro _ T660 L660 X660 hQ660
  obtain ⟨rfl, N660q, e660⟩ := hQ660
  have N660 := Fr.app N658 N660q
  show oG p e below _ (T660.setTop (mkF m 195 #[.val (.long x0), .second, .val (.long x1), .second, .val (.int x2), .val (.int (1 : Int32)), .val (.ref b156_0), .val (.ref b157_0), .val (.ref b156_0), .val (.ref b157_0), .val (.int tn_), .val (.int tl_), .val (.int tn_), .val (.int tl_), .val (.ref b605_0), .val (.ref b623_0), .val (.ref b629_0), .val (.ref b635_0), .val (.ref b641), .val (.ref b652), .unset] [(.int (own_same (own_ch x0 (0 : Int32)) (own_ch x0 (8 : Int32)) (own_ch x0 (16 : Int32)) tn_ (own_ch x0 (0 : Int32)) (own_ch x0 (8 : Int32)) (own_ch x0 (16 : Int32)) tn_))]))
  have c663 : ¬ ((own_same (own_ch x0 (0 : Int32)) (own_ch x0 (8 : Int32)) (own_ch x0 (16 : Int32)) tn_ (own_ch x0 (0 : Int32)) (own_ch x0 (8 : Int32)) (own_ch x0 (16 : Int32)) tn_) = (0 : Int32)) := by rw [own_same_self _ _ _ _ (own_four c597 c598)]; decide
  refine og (fun _ hr => XS.ifNo X660.here hx rfl (hb hby at_195) rfl ((if0 _ _).trans (feq c663).1) hr) ?_
  show oG p e below _ (T660.setTop (mkF m 198 #[.val (.long x0), .second, .val (.long x1), .second, .val (.int x2), .val (.int (1 : Int32)), .val (.ref b156_0), .val (.ref b157_0), .val (.ref b156_0), .val (.ref b157_0), .val (.int tn_), .val (.int tl_), .val (.int tn_), .val (.int tl_), .val (.ref b605_0), .val (.ref b623_0), .val (.ref b629_0), .val (.ref b635_0), .val (.ref b641), .val (.ref b652), .unset] []))
  refine og (fun _ hr => XS.aload X660.here hx rfl (hb hby at_198) rfl rfl (XS.iload X660.here hx rfl (hb hby at_200) rfl (XS.aload X660.here hx rfl (hb hby at_202) rfl rfl (XS.iload X660.here hx rfl (hb hby at_204) rfl hr)))) ?_
  show oG p e below _ (T660.setTop (mkF m 206 #[.val (.long x0), .second, .val (.long x1), .second, .val (.int x2), .val (.int (1 : Int32)), .val (.ref b156_0), .val (.ref b157_0), .val (.ref b156_0), .val (.ref b157_0), .val (.int tn_), .val (.int tl_), .val (.int tn_), .val (.int tl_), .val (.ref b605_0), .val (.ref b623_0), .val (.ref b629_0), .val (.ref b635_0), .val (.ref b641), .val (.ref b652), .unset] [(.int tl_), (.ref b157_0), (.int tl_), (.ref b157_0)]))
  have f665 := (((((f637.keep K635 nin0).ext E641).keep K650 (ninS (Nat.ne_of_lt (Nat.lt_of_lt_of_le ((((((f157_0.keep K159).keep K161).keep K605).keep K623).keep K629).keep K635).lt (Nat.le_of_eq g641.symm))) nin0)).ext E652).keep K658 (ninS (Nat.ne_of_lt (Nat.lt_of_lt_of_le ((((((((f157_0.keep K159).keep K161).keep K605).keep K623).keep K629).keep K635).ext E641).keep K650).lt (Nat.le_of_eq g652.symm))) nin0))
  refine own_cs X660 hx hZ hown (hw _ (own_m 89 rfl)) (hw _ (own_m 90 rfl)) (hw _ (own_m 2 rfl)) (hw _ (own_m 91 rfl)) (by decide) (rm := { frames := 0, cells := 0, slots := 0, locals := 0 }) (rm_same l Z a0 hw [] b157_0 b157_0 kb157_0 kb157_0 (own_ch x0 (24 : Int32)) (own_ch x0 (32 : Int32)) (own_ch x0 (40 : Int32)) tl_ (own_ch x0 (24 : Int32)) (own_ch x0 (32 : Int32)) (own_ch x0 (40 : Int32)) tl_ T658.heap n0 Z662 f665 f665) (by decide) (W := 0) (by decide) (by decide) (by decide) e660 (by rw [hml]; rfl) (argsL := [(.ref b157_0), (.int tl_), (.ref b157_0), (.int tl_)]) (lenOf own_pd18 rfl) (rest := []) rfl rfl (Nat.le_of_eq rfl) (hb hby at_206) ?_
  intro _ T664 L664 X664 hQ664
  obtain ⟨rfl, N664q, e664⟩ := hQ664
  have N664 := Fr.app N660 N664q
  show oG p e below _ (T664.setTop (mkF m 209 #[.val (.long x0), .second, .val (.long x1), .second, .val (.int x2), .val (.int (1 : Int32)), .val (.ref b156_0), .val (.ref b157_0), .val (.ref b156_0), .val (.ref b157_0), .val (.int tn_), .val (.int tl_), .val (.int tn_), .val (.int tl_), .val (.ref b605_0), .val (.ref b623_0), .val (.ref b629_0), .val (.ref b635_0), .val (.ref b641), .val (.ref b652), .unset] [(.int (own_same (own_ch x0 (24 : Int32)) (own_ch x0 (32 : Int32)) (own_ch x0 (40 : Int32)) tl_ (own_ch x0 (24 : Int32)) (own_ch x0 (32 : Int32)) (own_ch x0 (40 : Int32)) tl_))]))
  have c666 : ¬ ((own_same (own_ch x0 (24 : Int32)) (own_ch x0 (32 : Int32)) (own_ch x0 (40 : Int32)) tl_ (own_ch x0 (24 : Int32)) (own_ch x0 (32 : Int32)) (own_ch x0 (40 : Int32)) tl_) = (0 : Int32)) := by rw [own_same_self _ _ _ _ (own_four c615 c616)]; decide
  refine og (fun _ hr => XS.ifNo X664.here hx rfl (hb hby at_209) rfl ((if0 _ _).trans (feq c666).1) hr) ?_
  show oG p e below _ (T664.setTop (mkF m 212 #[.val (.long x0), .second, .val (.long x1), .second, .val (.int x2), .val (.int (1 : Int32)), .val (.ref b156_0), .val (.ref b157_0), .val (.ref b156_0), .val (.ref b157_0), .val (.int tn_), .val (.int tl_), .val (.int tn_), .val (.int tl_), .val (.ref b605_0), .val (.ref b623_0), .val (.ref b629_0), .val (.ref b635_0), .val (.ref b641), .val (.ref b652), .unset] []))
  refine og (fun _ hr => XS.iconst X664.here hx rfl (hb hby at_212) (XS.goto X664.here hx rfl (pc0 := 213) (pc' := 217) rfl (hb hby at_213) (by decide) (by decide) (XS.istore X664.here hx rfl (hb hby at_217) rfl (l' := #[.val (.long x0), .second, .val (.long x1), .second, .val (.int x2), .val (.int (1 : Int32)), .val (.ref b156_0), .val (.ref b157_0), .val (.ref b156_0), .val (.ref b157_0), .val (.int tn_), .val (.int tl_), .val (.int tn_), .val (.int tl_), .val (.ref b605_0), .val (.ref b623_0), .val (.ref b629_0), .val (.ref b635_0), .val (.ref b641), .val (.ref b652), .val (.int (1 : Int32))]) rfl (XS.aload X664.here hx rfl (hb hby at_219) rfl rfl (XS.aload X664.here hx rfl (hb hby at_221) rfl rfl (XS.aload X664.here hx rfl (hb hby at_223) rfl rfl hr)))))) ?_
  show oG p e below _ (T664.setTop (mkF m 225 #[.val (.long x0), .second, .val (.long x1), .second, .val (.int x2), .val (.int (1 : Int32)), .val (.ref b156_0), .val (.ref b157_0), .val (.ref b156_0), .val (.ref b157_0), .val (.int tn_), .val (.int tl_), .val (.int tn_), .val (.int tl_), .val (.ref b605_0), .val (.ref b623_0), .val (.ref b629_0), .val (.ref b635_0), .val (.ref b641), .val (.ref b652), .val (.int (1 : Int32))] [(.ref b635_0), (.ref b629_0), (.ref b652)]))
  have c667 : ¬ ((own_leq (own_ch x0 (0 : Int32)) (own_ch x0 (8 : Int32)) (own_ch x0 (16 : Int32)) tn_ (own_ch x0 (0 : Int32)) (own_ch x0 (8 : Int32)) (own_ch x0 (16 : Int32)) tn_) = (0 : Int32)) := by rw [own_leq_same (own_ch x0 (0 : Int32)) (own_ch x0 (8 : Int32)) (own_ch x0 (16 : Int32)) tn_ (own_ch x0 (0 : Int32)) (own_ch x0 (8 : Int32)) (own_ch x0 (16 : Int32)) tn_ (own_rg c599 c600) (own_rg c601 c602) (own_rg c603 c604) (own_rg c599 c600) (own_rg c601 c602) (own_rg c603 c604) (own_four c597 c598) (own_four c597 c598), own_same_comm]; exact c663
  have c668 : ¬ ((own_leq (own_ch x0 (24 : Int32)) (own_ch x0 (32 : Int32)) (own_ch x0 (40 : Int32)) tl_ (own_ch x0 (24 : Int32)) (own_ch x0 (32 : Int32)) (own_ch x0 (40 : Int32)) tl_) = (0 : Int32)) := by rw [own_leq_same (own_ch x0 (24 : Int32)) (own_ch x0 (32 : Int32)) (own_ch x0 (40 : Int32)) tl_ (own_ch x0 (24 : Int32)) (own_ch x0 (32 : Int32)) (own_ch x0 (40 : Int32)) tl_ (own_rg c617 c618) (own_rg c619 c620) (own_rg c621 c622) (own_rg c617 c618) (own_rg c619 c620) (own_rg c621 c622) (own_four c615 c616) (own_four c615 c616), own_same_comm]; exact c666
  have f670 := (((((((f605_0.keep K623).keep K629).keep K635).ext E641).keep K650).ext E652).keep K658)
  have f671 := (own_sta_keep ((own_sta_keep ((own_sta_keep f636 K635 all0).ext E641) K650 (allS (own_ns_exa A641) all0)).ext E652) K658 (allS (own_ns_exa A652) all0))
  have f672 := (((((f629_1.keep K635 nin0).ext E641).keep K650 (ninS (Nat.ne_of_lt (Nat.lt_of_lt_of_le (f629_0.keep K635).lt (Nat.le_of_eq g641.symm))) nin0)).ext E652).keep K658 (ninS (Nat.ne_of_lt (Nat.lt_of_lt_of_le (((f629_0.keep K635).ext E641).keep K650).lt (Nat.le_of_eq g652.symm))) nin0))
  have f673 := (((((((f605_1.keep K623 nin0).keep K629 nin0).keep K635 nin0).ext E641).keep K650 (ninS (Nat.ne_of_lt (Nat.lt_of_lt_of_le (((f605_0.keep K623).keep K629).keep K635).lt (Nat.le_of_eq g641.symm))) nin0)).ext E652).keep K658 (ninS (Nat.ne_of_lt (Nat.lt_of_lt_of_le (((((f605_0.keep K623).keep K629).keep K635).ext E641).keep K650).lt (Nat.le_of_eq g652.symm))) nin0))
  have f674 := (((((f629_2.keep K635 nin0).ext E641).keep K650 (ninS (Nat.ne_of_lt (Nat.lt_of_lt_of_le (f629_0.keep K635).lt (Nat.le_of_eq g641.symm))) nin0)).ext E652).keep K658 (ninS (Nat.ne_of_lt (Nat.lt_of_lt_of_le (((f629_0.keep K635).ext E641).keep K650).lt (Nat.le_of_eq g652.symm))) nin0))
  have f675 := (((((((f605_2.keep K623 nin0).keep K629 nin0).keep K635 nin0).ext E641).keep K650 (ninS (Nat.ne_of_lt (Nat.lt_of_lt_of_le (((f605_0.keep K623).keep K629).keep K635).lt (Nat.le_of_eq g641.symm))) nin0)).ext E652).keep K658 (ninS (Nat.ne_of_lt (Nat.lt_of_lt_of_le (((((f605_0.keep K623).keep K629).keep K635).ext E641).keep K650).lt (Nat.le_of_eq g652.symm))) nin0))
  have f676 := (((((f629_3.keep K635 nin0).ext E641).keep K650 (ninS (Nat.ne_of_lt (Nat.lt_of_lt_of_le (f629_3.keep K635 nin0).lt (Nat.le_of_eq g641.symm))) nin0)).ext E652).keep K658 (ninS (Nat.ne_of_lt (Nat.lt_of_lt_of_le (((f629_3.keep K635 nin0).ext E641).keep K650 (ninS (Nat.ne_of_lt (Nat.lt_of_lt_of_le (f629_3.keep K635 nin0).lt (Nat.le_of_eq g641.symm))) nin0)).lt (Nat.le_of_eq g652.symm))) nin0))
  have f677 := (((((((f605_3.keep K623 nin0).keep K629 nin0).keep K635 nin0).ext E641).keep K650 (ninS (Nat.ne_of_lt (Nat.lt_of_lt_of_le (((f605_3.keep K623 nin0).keep K629 nin0).keep K635 nin0).lt (Nat.le_of_eq g641.symm))) nin0)).ext E652).keep K658 (ninS (Nat.ne_of_lt (Nat.lt_of_lt_of_le (((((f605_3.keep K623 nin0).keep K629 nin0).keep K635 nin0).ext E641).keep K650 (ninS (Nat.ne_of_lt (Nat.lt_of_lt_of_le (((f605_3.keep K623 nin0).keep K629 nin0).keep K635 nin0).lt (Nat.le_of_eq g641.symm))) nin0)).lt (Nat.le_of_eq g652.symm))) nin0))
  have f678 := (((((f629_0.keep K635).ext E641).keep K650).ext E652).keep K658)
  have f679 := ((((((f623_0.keep K629).keep K635).ext E641).keep K650).ext E652).keep K658)
  have f680 := ((((f635_1.ext E641).keep K650 (ninS (Nat.ne_of_lt (Nat.lt_of_lt_of_le f635_0.lt (Nat.le_of_eq g641.symm))) nin0)).ext E652).keep K658 (ninS (Nat.ne_of_lt (Nat.lt_of_lt_of_le ((f635_0.ext E641).keep K650).lt (Nat.le_of_eq g652.symm))) nin0))
  have f681 := ((((((f623_1.keep K629 nin0).keep K635 nin0).ext E641).keep K650 (ninS (Nat.ne_of_lt (Nat.lt_of_lt_of_le ((f623_0.keep K629).keep K635).lt (Nat.le_of_eq g641.symm))) nin0)).ext E652).keep K658 (ninS (Nat.ne_of_lt (Nat.lt_of_lt_of_le ((((f623_0.keep K629).keep K635).ext E641).keep K650).lt (Nat.le_of_eq g652.symm))) nin0))
  have f682 := ((((f635_2.ext E641).keep K650 (ninS (Nat.ne_of_lt (Nat.lt_of_lt_of_le f635_0.lt (Nat.le_of_eq g641.symm))) nin0)).ext E652).keep K658 (ninS (Nat.ne_of_lt (Nat.lt_of_lt_of_le ((f635_0.ext E641).keep K650).lt (Nat.le_of_eq g652.symm))) nin0))
  have f683 := ((((((f623_2.keep K629 nin0).keep K635 nin0).ext E641).keep K650 (ninS (Nat.ne_of_lt (Nat.lt_of_lt_of_le ((f623_0.keep K629).keep K635).lt (Nat.le_of_eq g641.symm))) nin0)).ext E652).keep K658 (ninS (Nat.ne_of_lt (Nat.lt_of_lt_of_le ((((f623_0.keep K629).keep K635).ext E641).keep K650).lt (Nat.le_of_eq g652.symm))) nin0))
  have f684 := ((((f635_3.ext E641).keep K650 (ninS (Nat.ne_of_lt (Nat.lt_of_lt_of_le f635_3.lt (Nat.le_of_eq g641.symm))) nin0)).ext E652).keep K658 (ninS (Nat.ne_of_lt (Nat.lt_of_lt_of_le ((f635_3.ext E641).keep K650 (ninS (Nat.ne_of_lt (Nat.lt_of_lt_of_le f635_3.lt (Nat.le_of_eq g641.symm))) nin0)).lt (Nat.le_of_eq g652.symm))) nin0))
  have f685 := ((((((f623_3.keep K629 nin0).keep K635 nin0).ext E641).keep K650 (ninS (Nat.ne_of_lt (Nat.lt_of_lt_of_le ((f623_3.keep K629 nin0).keep K635 nin0).lt (Nat.le_of_eq g641.symm))) nin0)).ext E652).keep K658 (ninS (Nat.ne_of_lt (Nat.lt_of_lt_of_le ((((f623_3.keep K629 nin0).keep K635 nin0).ext E641).keep K650 (ninS (Nat.ne_of_lt (Nat.lt_of_lt_of_le ((f623_3.keep K629 nin0).keep K635 nin0).lt (Nat.le_of_eq g641.symm))) nin0)).lt (Nat.le_of_eq g652.symm))) nin0))
  have f686 := ((((f635_0.ext E641).keep K650).ext E652).keep K658)
  have f687 := (A652.keep K658)
  refine own_cv X664 hx hZ hown (notFace_of_selects (args := #[]) (mvT hZ (hw _ (own_m 52 rfl)))) (hw _ (own_m 49 rfl)) (hw _ (own_m 50 rfl)) (hw _ (own_m 52 rfl)) (hw _ (own_m 51 rfl)) (hw _ (own_m 33 rfl)) (hw _ (own_m 53 rfl)) (by decide) f687 (rm := { frames := 2, cells := 0, slots := 0, locals := 28 }) (rm_admits_42 l Z a0 hw [] b652 b629_0 b635_0 b641 b605_0 i_COMPACT_STRINGS b629_1 b605_1 tn_ (own_ch x0 (0 : Int32)) (own_ch x0 (8 : Int32)) (own_ch x0 (16 : Int32)) kb629_0 kb605_0 b623_0 b635_1 b623_1 tl_ (own_ch x0 (24 : Int32)) (own_ch x0 (32 : Int32)) (own_ch x0 (40 : Int32)) kb635_0 kb623_0 T658.heap n0 Z662 f658_2 f658_1 f670 f671 f672 f673 f674 f675 f676 f677 f678 f658_0 f679 f680 f681 f682 f683 f684 f685 f686 (Ne.symm (Nat.ne_of_lt (Nat.lt_of_lt_of_le (f605_0.keep K623).lt sz629_0))) (Ne.symm (Nat.ne_of_lt (Nat.lt_of_lt_of_le (f623_0.keep K629).lt sz635_0))) hs_COMPACT_STRINGS c597 c598 c667 c615 c616 c668) (by decide) (W := 0) (by decide) (by decide) (by decide) e664 (by rw [hml]; rfl) (argsL := [(.ref b629_0), (.ref b635_0)]) (lenOf own_pd14 rfl) (rest := []) rfl rfl (Nat.le_of_eq rfl) (hb hby at_225) ?_
  intro _ T669 L669 X669 hQ669
  obtain ⟨rfl, N669q, e669⟩ := hQ669
  have N669 := Fr.app N664 N669q
  show oG p e below _ (T669.setTop (mkF m 228 #[.val (.long x0), .second, .val (.long x1), .second, .val (.int x2), .val (.int (1 : Int32)), .val (.ref b156_0), .val (.ref b157_0), .val (.ref b156_0), .val (.ref b157_0), .val (.int tn_), .val (.int tl_), .val (.int tn_), .val (.int tl_), .val (.ref b605_0), .val (.ref b623_0), .val (.ref b629_0), .val (.ref b635_0), .val (.ref b641), .val (.ref b652), .val (.int (1 : Int32))] [(.int (1 : Int32))]))
  refine og (fun _ hr => XS.iload X669.here hx rfl (hb hby at_228) rfl (XS.icmpNo X669.here hx rfl (hb hby at_230) rfl (teq (by decide)).2 (XS.iconst X669.here hx rfl (hb hby at_233) (XS.goto X669.here hx rfl (pc0 := 234) (pc' := 238) rfl (hb hby at_234) (by decide) (by decide) hr)))) ?_
  show oG p e below _ (T669.setTop (mkF m 238 #[.val (.long x0), .second, .val (.long x1), .second, .val (.int x2), .val (.int (1 : Int32)), .val (.ref b156_0), .val (.ref b157_0), .val (.ref b156_0), .val (.ref b157_0), .val (.int tn_), .val (.int tl_), .val (.int tn_), .val (.int tl_), .val (.ref b605_0), .val (.ref b623_0), .val (.ref b629_0), .val (.ref b635_0), .val (.ref b641), .val (.ref b652), .val (.int (1 : Int32))] [(.int (1 : Int32))]))
  have hk688 := (Nat.le_trans (Nat.le_trans (Nat.le_trans (Nat.le_trans (Nat.le_refl _) E641.1) K650.1) E652.1) K658.1)
  have A689 := A640.trans Ac635
  have A690 := A689.trans (CHr.ext E641 A689.1)
  have sf692 := (Safe.ext E641 A689.1 (Safe.new (Nat.le_of_eq g641.symm)))
  have A691 := A690.trans (CHr.keep K650 (sfS sf692 sf0) A690.1)
  have A693 := A691.trans (CHr.ext E652 A691.1)
  have sf695 := (Safe.ext E652 A691.1 (Safe.new (Nat.le_of_eq g652.symm)))
  have A694 := A693.trans (CHr.keep K658 (sfS sf695 sf0) A693.1)
  exact own_retNW X669 hx hlk Bd.returns hS hk688 hZ hEL hh e669 A694 (t := .boolean) (by simp) (hb hby at_238) (by decide) (by decide) ⟨rfl, N669⟩
theorem own_elsub : ∀ p ∈ own_EL, p ∈ consts_1 := by simp [own_EL, consts_1]
set_option maxRecDepth 65536 in
set_option maxHeartbeats 40000000 in
theorem comes_1 {Post : Tables → Env → Array Value → State → Outcome → State → Prop} (hpost : ∀ tb e args s v u, (limb_1_1.after args s (.returned v) u = true ∧ limb_1_2.after args s (.returned v) u = true ∧ True) → FramedW s (.returned v) u (Jvm.fieldLocs frame_1_writes args s ++ Jvm.arrayLocs frame_1_arrays args s ++ Jvm.staticLocs frame_1_statics s) 56 4352 → Post tb e args s (.returned v) u) :
    ArmFor flags0 classFile x code maxLocals ret World_1 tables_1 room_1 Calls_1 rest_1 Pre_1 Post := by
  intro l hfl _ _ p e ha hc hk s m args below hf hA hF happ hP
  obtain ⟨hcalls, hrest, hpre⟩ := hP
  obtain ⟨-, -, -, hnamed, -, -, -, hat⟩ := (Spec.applies_iff hf).mp happ
  obtain ⟨hg, hn⟩ := and_e (Cond.before_iff.mp (show (Jvm.Cond.and given_1 narrow_1).before args s = true from hpre))
  obtain ⟨g1, g2⟩ := and_e hg
  obtain ⟨g3, g4⟩ := and_e g2
  obtain ⟨g5, g6⟩ := and_e g4
  obtain ⟨w0, w1, w2, rfl⟩ : ∃ w0 w1 w2 : Value, args = #[w0, w1, w2] := by
    have hs : args.size = 3 := by simpa [Cond.value, given_1] using g1
    obtain ⟨L⟩ := args
    match L, hs with
    | [w0, w1, w2], _ => exact ⟨w0, w1, w2, rfl⟩
  have hw := fun d (hd : d ∈ tables_1) => atoms_spec (ws := Jvm.Cond.code x code maxLocals ret :: tables_1) hat d (List.mem_cons_of_mem _ hd)
  have hfit : Fit s := fun {y c} hc i hi => by
    obtain ⟨ha, rfl⟩ := Array.getElem?_eq_some_iff.mp hc
    have q := List.all_eq_true.mp ((Array.all_eq_true_iff_forall_mem.mp hF) _ (Array.getElem_mem ha)) i (List.mem_range.mpr hi)
    simpa [Array.getElem?_eq_getElem hi] using q
  obtain ⟨hsets, hown0⟩ := atoms_of _ (rest_1_c_eq ▸ (show rest_1_c.before _ s = true from hrest))
  have hr0 := Cond.before_iff.mp hown0
  obtain ⟨i0, ei0⟩ := isL_v g3
  obtain rfl : w0 = (.long i0) := Option.some.inj ei0
  obtain ⟨i1, ei1⟩ := isL_v g5
  obtain rfl : w1 = (.long i1) := Option.some.inj ei1
  obtain ⟨i2, ei2⟩ := is_v g6
  obtain rfl : w2 = (.int i2) := Option.some.inj ei2
  obtain ⟨i_COMPACT_STRINGS, ei_COMPACT_STRINGS⟩ := is_v (Cond.before_iff.mp (hsets _ (List.mem_of_getElem? (i := 1) rfl)))
  have S_COMPACT_STRINGS := Sta.start ei_COMPACT_STRINGS (Or.inl (hsets _ (List.mem_of_getElem? (i := 0) rfl)))
  have hs_COMPACT_STRINGS : ¬ (i_COMPACT_STRINGS = (0 : Int32)) := gotF (Cond.eq_ints ei_COMPACT_STRINGS (Term.int_eval _)) (not_v (Cond.before_iff.mp (hsets _ (List.mem_of_getElem? (i := 2) rfl))))
  obtain ⟨v_SIOOBE_FORMATTER, ev_SIOOBE_FORMATTER, hv_SIOOBE_FORMATTER⟩ := isR_v (Cond.before_iff.mp (hsets _ (List.mem_of_getElem? (i := 8) rfl)))
  have S_SIOOBE_FORMATTER := Sta.start ev_SIOOBE_FORMATTER (Or.inl (hsets _ (List.mem_of_getElem? (i := 7) rfl)))
  obtain ⟨n, o, h1, h2, h3, _, L, rfl, ⟨rfl, N⟩, -, hq⟩ := rm_law l s _ hw tables_1 i0 i1 i2 i_COMPACT_STRINGS v_SIOOBE_FORMATTER s.heap s.heap.size (Nat.le_refl _) S_COMPACT_STRINGS S_SIOOBE_FORMATTER hs_COMPACT_STRINGS hv_SIOOBE_FORMATTER p e ha hc hk s m _ below hf ((Spec.applies_iff_loose hf).mp happ).1 ⟨rfl, State.Warmed39.refl s, rfl, CHv.start (own_ew hw) (fun p hp => hcalls.1 p (own_elsub p hp)) (hsets _ (List.mem_of_getElem? (i := 2) rfl)) (hw _ (own_m 9 rfl)) (hw _ (own_m 8 rfl))⟩ trivial
  refine ⟨n, _, h1, h2, h3, hpost _ _ _ _ _ _ ⟨Cond.after_iff.mpr rfl, Cond.after_iff.mpr (eq_i res_at (Term.int_eval (1)) rfl), trivial⟩ ⟨hq.1, hq.2.1, hq.2.2.1, (hq.2.2.2.sift fun y hy => Or.inr (N y hy)).mono (by decide) (by decide)⟩⟩
theorem main_1_1 : Claimed_1_1 := comes_1 fun _ _ _ _ _ _ h hF => ⟨h.1, hF⟩
theorem main_1_2 : Claimed_1_2 := comes_1 fun _ _ _ _ _ _ h hF => ⟨h.2.1, hF⟩
end Jvm.Pilot.@@N@@
namespace Jvm.Pilot.@@N@@
open Jvm Jvm.ClassFile Sem Op Lib Jvm.Free Jvm.Stand Jvm.Pilot.@@N@@.Jvm.D
/-! MADE BY PROGRAM (witnessworld.py) out of the Statement's table words and the real class files: 22 classes; the members and pool entries that the words name. The judged class is class 1, her method 1. -/
namespace start1
open Jvm.ClassFile
def u (s : String) : CpInfo := .utf8 (stringToUtf16 s)
/-- a pool by its gaps: so many unusable entries, then the entry; so many at the end -/
def gap : Nat → List CpInfo → List CpInfo
  | 0, r => r
  | n + 1, r => .unusable :: gap n r
def poolList (es : List (Nat × CpInfo)) (last : Nat) : List CpInfo := es.foldr (fun e r => gap e.1 (e.2 :: r)) (gap last [])
def pool (es : List (Nat × CpInfo)) (last : Nat) : Array CpInfo := ⟨poolList es last⟩
def fileOf (pool : Array CpInfo) (this : Nat) (attrs : Array Attribute := #[]) (ms : Array MethodInfo := #[]) (fl : Nat := 33) (sup : Nat := 0) (ifs : Array Nat := #[]) (fds : Array FieldInfo := #[]) : ClassFile where
  minorVersion := 0
  majorVersion := 65
  constantPool := pool
  accessFlags := fl
  thisClass := this
  superClass := sup
  interfaces := ifs
  fields := fds
  methods := ms
  attributes := attrs
def plain (name : String) (sup : Option ClassId) : Class where
  name := name
  kind := .ordinary
  loader := none
  accessFlags := 33
  super := sup
  interfaces := #[]
  cf := none
  fields := #[]
  methods := #[]
  instanceTypes := #[]
  staticTypes := #[]
  resolved := #[]
  callSites := []
  init := .initialized
  statics := none
  mirror := none

def pool0 : Array CpInfo := pool [(5, u "<init>"), (0, u "()V"), (1, .class_ 10), (1, u "java/lang/Object")] 113

def k0c0 : Code := { maxStack := 0, maxLocals := 1, code := object_method_1_code, exceptionTable := #[], attributes := #[] }
def k0m0 : Method := { name := "<init>", desc := "()V", sig := { parameters := [], returnType := none }, accessFlags := 1, code := some k0c0 }
/-- java/lang/Object -/
def k0 : Class := { plain "java/lang/Object" none with
  accessFlags := 33
  interfaces := #[]
  cf := some (fileOf pool0 8 #[] #[{ accessFlags := 1, nameIndex := 5, descriptorIndex := 6, attributes := #[] }] 33 0 #[] #[])
  fields := #[]
  methods := #[k0m0]
  instanceTypes := #[]
  staticTypes := #[]
  resolved := Array.replicate 124 none
  statics := none }

def pool1 : Array CpInfo := pool [(2, .class_ 4), (1, u "java/lang/Object"), (0, u "<init>"), (0, u "()V"), (0, .methodref 8 9), (0, .class_ 10), (0, .nameAndType 11 12), (0, u "com/example/ruleweave/ruleweave/CommonPolicySchemaTermAdmitsPinLaw"), (0, u "chars"), (0, u "(JI)[C"), (0, .methodref 8 14), (0, .nameAndType 15 16), (0, u "str"), (0, u "([CI)Ljava/lang/String;"), (0, .class_ 18), (0, u "com/example/ruleweave/ruleweave/CommonPolicySchema$Type"), (0, .methodref 17 20), (0, .nameAndType 5 21), (0, u "(Ljava/lang/String;Ljava/lang/String;Ljava/util/List;Lcom/example/ruleweave/ruleweave/CommonPolicySchema$Content;Lcom/example/ruleweave/ruleweave/CommonPolicySchema$Datatype;Lcom/example/ruleweave/ruleweave/CommonPolicySchema$Model;)V"), (0, .class_ 23), (0, u "com/example/ruleweave/ruleweave/CommonPolicySchema$Term"), (0, .methodref 22 25), (0, .nameAndType 5 26), (0, u "(Ljava/lang/String;Ljava/lang/String;Lcom/example/ruleweave/ruleweave/CommonPolicySchema$Type;)V"), (0, .methodref 8 28), (0, .nameAndType 29 30), (0, u "same"), (0, u "([CI[CI)Z"), (0, .methodref 22 32), (0, .nameAndType 33 34), (0, u "admits"), (0, u "(Ljava/lang/String;Ljava/lang/String;)Z"), (0, .string 36), (0, u ""), (0, .string 38), (0, u "urn:ietf:params:xml:ns:common-policy"), (0, .long 255), (1, .class_ 42), (0, u "java/lang/String"), (0, .methodref 41 44), (0, .nameAndType 5 45), (0, u "([C)V"), (0, .methodref 41 47), (0, .nameAndType 48 49), (0, u "valueOf"), (0, u "(C)Ljava/lang/String;"), (2, u "law"), (0, u "(JJI)Z")] 19

def k1m0 : Method := { name := "<init>", desc := "()V", sig := { parameters := [], returnType := none }, accessFlags := 2, code := none }
def k1c1 : Code := { maxStack := 8, maxLocals := 21, code := code, exceptionTable := #[], attributes := #[] }
def k1m1 : Method := { name := "law", desc := "(JJI)Z", sig := { parameters := [.long, .long, .int], returnType := some .boolean }, accessFlags := 9, code := some k1c1 }
def k1c2 : Code := { maxStack := 7, maxLocals := 3, code := method_3_code, exceptionTable := #[], attributes := #[] }
def k1m2 : Method := { name := "chars", desc := "(JI)[C", sig := { parameters := [.long, .int], returnType := some (.array .char) }, accessFlags := 10, code := some k1c2 }
def k1c3 : Code := { maxStack := 7, maxLocals := 2, code := method_4_code, exceptionTable := #[], attributes := #[] }
def k1m3 : Method := { name := "str", desc := "([CI)Ljava/lang/String;", sig := { parameters := [(.array .char), .int], returnType := some (.object "java/lang/String") }, accessFlags := 10, code := some k1c3 }
def k1c4 : Code := { maxStack := 3, maxLocals := 4, code := method_5_code, exceptionTable := #[], attributes := #[] }
def k1m4 : Method := { name := "same", desc := "([CI[CI)Z", sig := { parameters := [(.array .char), .int, (.array .char), .int], returnType := some .boolean }, accessFlags := 10, code := some k1c4 }
/-- com/example/ruleweave/ruleweave/CommonPolicySchemaTermAdmitsPinLaw -/
def k1 : Class := { plain "com/example/ruleweave/ruleweave/CommonPolicySchemaTermAdmitsPinLaw" (some 0) with
  accessFlags := 49
  interfaces := #[]
  cf := some (fileOf pool1 8 #[] #[{ accessFlags := 2, nameIndex := 5, descriptorIndex := 6, attributes := #[] }, { accessFlags := 9, nameIndex := 52, descriptorIndex := 53, attributes := #[] }, { accessFlags := 10, nameIndex := 11, descriptorIndex := 12, attributes := #[] }, { accessFlags := 10, nameIndex := 15, descriptorIndex := 16, attributes := #[] }, { accessFlags := 10, nameIndex := 29, descriptorIndex := 30, attributes := #[] }] 49 2 #[] #[])
  fields := #[]
  methods := #[k1m0, k1m1, k1m2, k1m3, k1m4]
  instanceTypes := #[]
  staticTypes := #[]
  resolved := Array.replicate 73 none
  statics := none }

def pool2 : Array CpInfo := pool [(1, .class_ 2), (0, u "java/io/Serializable"), (0, .class_ 4), (0, u "java/lang/Object")] 2

/-- java/io/Serializable -/
def k2 : Class := { plain "java/io/Serializable" (some 0) with
  accessFlags := 1537
  interfaces := #[]
  cf := some (fileOf pool2 1 #[] #[] 1537 3 #[] #[])
  fields := #[]
  methods := #[]
  instanceTypes := #[]
  staticTypes := #[]
  resolved := Array.replicate 7 none
  statics := none }

def pool3 : Array CpInfo := pool [(1, .class_ 2), (0, u "java/lang/Comparable"), (0, .class_ 4), (0, u "java/lang/Object")] 7

/-- java/lang/Comparable -/
def k3 : Class := { plain "java/lang/Comparable" (some 0) with
  accessFlags := 1537
  interfaces := #[]
  cf := some (fileOf pool3 1 #[] #[] 1537 3 #[] #[])
  fields := #[]
  methods := #[]
  instanceTypes := #[]
  staticTypes := #[]
  resolved := Array.replicate 12 none
  statics := none }

def pool4 : Array CpInfo := pool [(2, .class_ 4), (1, u "java/lang/CharSequence"), (42, .class_ 48), (0, u "java/lang/CharSequence$1CodePointIterator"), (10, .class_ 60), (0, u "java/lang/CharSequence$1CharIterator"), (5, .class_ 67), (0, u "java/lang/Object")] 63

/-- java/lang/CharSequence -/
def k4 : Class := { plain "java/lang/CharSequence" (some 0) with
  accessFlags := 1537
  interfaces := #[]
  cf := some (fileOf pool4 2 #[.nestMembers #[47, 59]] #[] 1537 66 #[] #[])
  fields := #[]
  methods := #[]
  instanceTypes := #[]
  staticTypes := #[]
  resolved := Array.replicate 131 none
  statics := none }

def pool5 : Array CpInfo := pool [(1, .class_ 2), (0, u "java/lang/constant/Constable"), (0, .class_ 4), (0, u "java/lang/Object")] 6

/-- java/lang/constant/Constable -/
def k5 : Class := { plain "java/lang/constant/Constable" (some 0) with
  accessFlags := 1537
  interfaces := #[]
  cf := some (fileOf pool5 1 #[] #[] 1537 3 #[] #[])
  fields := #[]
  methods := #[]
  instanceTypes := #[]
  staticTypes := #[]
  resolved := Array.replicate 11 none
  statics := none }

def pool6 : Array CpInfo := pool [(1, .class_ 2), (0, u "java/lang/constant/ConstantDesc"), (0, .class_ 4), (0, u "java/lang/Object")] 32

/-- java/lang/constant/ConstantDesc -/
def k6 : Class := { plain "java/lang/constant/ConstantDesc" (some 0) with
  accessFlags := 1537
  interfaces := #[]
  cf := some (fileOf pool6 1 #[] #[] 1537 3 #[] #[])
  fields := #[]
  methods := #[]
  instanceTypes := #[]
  staticTypes := #[]
  resolved := Array.replicate 37 none
  statics := none }

def pool7 : Array CpInfo := pool [(1, .methodref 2 3), (0, .class_ 4), (0, .nameAndType 5 6), (0, u "java/lang/Object"), (0, u "<init>"), (0, u "()V"), (0, .string 8), (0, u ""), (0, .fieldref 10 11), (0, .class_ 12), (0, .nameAndType 13 14), (0, u "java/lang/String"), (0, u "value"), (0, u "[B"), (0, .fieldref 10 16), (0, .nameAndType 17 18), (0, u "coder"), (0, u "B"), (2, u "hash"), (0, u "I"), (2, u "hashIsZero"), (0, u "Z"), (0, .methodref 10 28), (0, .nameAndType 5 29), (0, u "([CIILjava/lang/Void;)V"), (8, .fieldref 10 39), (0, .nameAndType 40 26), (0, u "COMPACT_STRINGS"), (1, .class_ 44), (1, u "java/lang/StringUTF16"), (0, u "compress"), (1, .methodref 42 48), (0, .nameAndType 49 50), (0, u "coderFromArrayLen"), (0, u "([BI)B"), (2, u "toBytes"), (53, .class_ 109), (1, u "java/lang/StringLatin1"), (32, u "()Z"), (34, .methodref 42 178), (0, .nameAndType 45 179), (0, u "([CII)[B"), (29, .methodref 10 210), (0, .nameAndType 5 211), (0, u "([BB)V"), (157, u "(C)Z"), (171, .methodref 107 542), (0, .nameAndType 543 544), (0, u "equals"), (0, u "([B[B)Z"), (28, u "(Ljava/lang/Object;)Z"), (1, .class_ 576), (0, u "java/lang/CharSequence"), (22, u "CASE_INSENSITIVE_ORDER"), (0, u "Ljava/util/Comparator;"), (91, u "isEmpty"), (89, u "valueOf"), (0, u "(C)Ljava/lang/String;"), (226, u "([C)V"), (4, .methodref 107 1016), (0, .nameAndType 1017 369), (0, u "canEncode"), (0, .methodref 107 1019), (0, .nameAndType 53 1020), (0, u "(C)[B"), (80, u "serialPersistentFields"), (0, u "[Ljava/io/ObjectStreamField;"), (0, .class_ 1104), (0, u "java/lang/String$CaseInsensitiveComparator"), (1, .class_ 1107), (0, u "java/io/Serializable"), (0, .class_ 1109), (0, u "java/lang/Comparable"), (0, .class_ 1111), (0, u "java/lang/constant/Constable"), (0, .class_ 1113), (0, u "java/lang/constant/ConstantDesc"), (2, u "serialVersionUID"), (0, u "J"), (3, u "REPL"), (0, u "C"), (2, u "LATIN1"), (1, u "UTF16")] 323

def k7m0 : Method := { name := "<init>", desc := "()V", sig := { parameters := [], returnType := none }, accessFlags := 1, code := none }
def k7c1 : Code := { maxStack := 5, maxLocals := 2, code := jdk_42_method_3_code, exceptionTable := #[], attributes := #[] }
def k7m1 : Method := { name := "<init>", desc := "([C)V", sig := { parameters := [(.array .char)], returnType := none }, accessFlags := 1, code := some k7c1 }
def k7c2 : Code := { maxStack := 1, maxLocals := 1, code := jdk_42_method_55_code, exceptionTable := #[], attributes := #[] }
def k7m2 : Method := { name := "isEmpty", desc := "()Z", sig := { parameters := [], returnType := some .boolean }, accessFlags := 1, code := some k7c2 }
def k7c3 : Code := { maxStack := 2, maxLocals := 3, code := jdk_42_method_66_code, exceptionTable := #[], attributes := #[] }
def k7m3 : Method := { name := "equals", desc := "(Ljava/lang/Object;)Z", sig := { parameters := [(.object "java/lang/Object")], returnType := some .boolean }, accessFlags := 1, code := some k7c3 }
def k7c4 : Code := { maxStack := 4, maxLocals := 1, code := jdk_42_method_139_code, exceptionTable := #[], attributes := #[] }
def k7m4 : Method := { name := "valueOf", desc := "(C)Ljava/lang/String;", sig := { parameters := [.char], returnType := some (.object "java/lang/String") }, accessFlags := 9, code := some k7c4 }
def k7c5 : Code := { maxStack := 4, maxLocals := 6, code := jdk_42_method_149_code, exceptionTable := #[], attributes := #[] }
def k7m5 : Method := { name := "<init>", desc := "([CIILjava/lang/Void;)V", sig := { parameters := [(.array .char), .int, .int, (.object "java/lang/Void")], returnType := none }, accessFlags := 2, code := some k7c5 }
def k7c6 : Code := { maxStack := 2, maxLocals := 3, code := jdk_42_method_151_code, exceptionTable := #[], attributes := #[] }
def k7m6 : Method := { name := "<init>", desc := "([BB)V", sig := { parameters := [(.array .byte), .byte], returnType := none }, accessFlags := 0, code := some k7c6 }
/-- java/lang/String -/
def k7 : Class := { plain "java/lang/String" (some 0) with
  accessFlags := 49
  interfaces := #[2, 3, 4, 5, 6]
  cf := some (fileOf pool7 10 #[.nestMembers #[1103]] #[{ accessFlags := 1, nameIndex := 5, descriptorIndex := 6, attributes := #[] }, { accessFlags := 1, nameIndex := 5, descriptorIndex := 1010, attributes := #[] }, { accessFlags := 1, nameIndex := 692, descriptorIndex := 142, attributes := #[] }, { accessFlags := 1, nameIndex := 543, descriptorIndex := 573, attributes := #[] }, { accessFlags := 9, nameIndex := 782, descriptorIndex := 783, attributes := #[] }, { accessFlags := 2, nameIndex := 5, descriptorIndex := 29, attributes := #[] }, { accessFlags := 0, nameIndex := 5, descriptorIndex := 211, attributes := #[] }] 49 2 #[1106, 1108, 575, 1110, 1112] #[{ accessFlags := 18, nameIndex := 13, descriptorIndex := 14, attributes := #[] }, { accessFlags := 18, nameIndex := 17, descriptorIndex := 18, attributes := #[] }, { accessFlags := 2, nameIndex := 21, descriptorIndex := 22, attributes := #[] }, { accessFlags := 2, nameIndex := 25, descriptorIndex := 26, attributes := #[] }, { accessFlags := 26, nameIndex := 1116, descriptorIndex := 1117, attributes := #[] }, { accessFlags := 24, nameIndex := 40, descriptorIndex := 26, attributes := #[] }, { accessFlags := 26, nameIndex := 1101, descriptorIndex := 1102, attributes := #[] }, { accessFlags := 26, nameIndex := 1121, descriptorIndex := 1122, attributes := #[] }, { accessFlags := 25, nameIndex := 599, descriptorIndex := 600, attributes := #[] }, { accessFlags := 24, nameIndex := 1125, descriptorIndex := 18, attributes := #[] }, { accessFlags := 24, nameIndex := 1127, descriptorIndex := 18, attributes := #[] }])
  fields := #[{ name := "value", type := (.array .byte), accessFlags := 18, slot := 0, constantValue := 0 }, { name := "coder", type := .byte, accessFlags := 18, slot := 1, constantValue := 0 }, { name := "hash", type := .int, accessFlags := 2, slot := 2, constantValue := 0 }, { name := "hashIsZero", type := .boolean, accessFlags := 2, slot := 3, constantValue := 0 }, { name := "serialVersionUID", type := .long, accessFlags := 26, slot := 0, constantValue := 0 }, { name := "COMPACT_STRINGS", type := .boolean, accessFlags := 24, slot := 1, constantValue := 0 }, { name := "serialPersistentFields", type := (.array (.object "java/io/ObjectStreamField")), accessFlags := 26, slot := 2, constantValue := 0 }, { name := "REPL", type := .char, accessFlags := 26, slot := 3, constantValue := 0 }, { name := "CASE_INSENSITIVE_ORDER", type := (.object "java/util/Comparator"), accessFlags := 25, slot := 4, constantValue := 0 }, { name := "LATIN1", type := .byte, accessFlags := 24, slot := 5, constantValue := 0 }, { name := "UTF16", type := .byte, accessFlags := 24, slot := 6, constantValue := 0 }]
  methods := #[k7m0, k7m1, k7m2, k7m3, k7m4, k7m5, k7m6]
  instanceTypes := #[(.array .byte), .byte, .int, .boolean]
  staticTypes := #[.long, .boolean, (.array (.object "java/io/ObjectStreamField")), .char, (.object "java/util/Comparator"), .byte, .byte]
  resolved := Array.replicate 1451 none
  statics := some 0 }

def pool8 : Array CpInfo := pool [(1, .methodref 2 3), (0, .class_ 4), (0, .nameAndType 5 6), (0, u "java/lang/Object"), (0, u "<init>"), (0, u "()V"), (0, .class_ 8), (0, u "java/lang/Record")] 13

def k8c0 : Code := { maxStack := 1, maxLocals := 1, code := jdk_30_method_1_code, exceptionTable := #[], attributes := #[] }
def k8m0 : Method := { name := "<init>", desc := "()V", sig := { parameters := [], returnType := none }, accessFlags := 4, code := some k8c0 }
/-- java/lang/Record -/
def k8 : Class := { plain "java/lang/Record" (some 0) with
  accessFlags := 1057
  interfaces := #[]
  cf := some (fileOf pool8 7 #[] #[{ accessFlags := 4, nameIndex := 5, descriptorIndex := 6, attributes := #[] }] 1057 2 #[] #[])
  fields := #[]
  methods := #[k8m0]
  instanceTypes := #[]
  staticTypes := #[]
  resolved := Array.replicate 22 none
  statics := none }

def pool9 : Array CpInfo := pool [(1, .methodref 2 3), (0, .class_ 4), (0, .nameAndType 5 6), (0, u "java/lang/Record"), (0, u "<init>"), (0, u "()V"), (0, .fieldref 8 9), (0, .class_ 10), (0, .nameAndType 11 12), (0, u "com/example/ruleweave/ruleweave/CommonPolicySchema$Term"), (0, u "namespace"), (0, u "Ljava/lang/String;"), (0, .fieldref 8 14), (0, .nameAndType 15 12), (0, u "localName"), (0, .fieldref 8 17), (0, .nameAndType 18 19), (0, u "type"), (0, u "Lcom/example/ruleweave/ruleweave/CommonPolicySchema$Type;"), (0, .methodref 21 22), (0, .class_ 23), (0, .nameAndType 24 25), (0, u "java/lang/String"), (0, u "isEmpty"), (0, u "()Z"), (2, .string 29), (0, u "urn:ietf:params:xml:ns:common-policy"), (0, .methodref 21 31), (0, .nameAndType 32 33), (0, u "equals"), (0, u "(Ljava/lang/Object;)Z"), (11, u "(Ljava/lang/String;Ljava/lang/String;Lcom/example/ruleweave/ruleweave/CommonPolicySchema$Type;)V"), (3, u "admits"), (0, u "(Ljava/lang/String;Ljava/lang/String;)Z"), (7, .class_ 59), (0, u "com/example/ruleweave/ruleweave/CommonPolicySchema")] 24

def k9c0 : Code := { maxStack := 2, maxLocals := 4, code := prog_17_method_1_code, exceptionTable := #[], attributes := #[] }
def k9m0 : Method := { name := "<init>", desc := "(Ljava/lang/String;Ljava/lang/String;Lcom/example/ruleweave/ruleweave/CommonPolicySchema$Type;)V", sig := { parameters := [(.object "java/lang/String"), (.object "java/lang/String"), (.object "com/example/ruleweave/ruleweave/CommonPolicySchema$Type")], returnType := none }, accessFlags := 0, code := some k9c0 }
def k9c1 : Code := { maxStack := 2, maxLocals := 3, code := prog_17_method_2_code, exceptionTable := #[], attributes := #[] }
def k9m1 : Method := { name := "admits", desc := "(Ljava/lang/String;Ljava/lang/String;)Z", sig := { parameters := [(.object "java/lang/String"), (.object "java/lang/String")], returnType := some .boolean }, accessFlags := 0, code := some k9c1 }
/-- com/example/ruleweave/ruleweave/CommonPolicySchema$Term -/
def k9 : Class := { plain "com/example/ruleweave/ruleweave/CommonPolicySchema$Term" (some 8) with
  accessFlags := 48
  interfaces := #[]
  cf := some (fileOf pool9 8 #[.nestHost 58] #[{ accessFlags := 0, nameIndex := 5, descriptorIndex := 45, attributes := #[] }, { accessFlags := 0, nameIndex := 49, descriptorIndex := 50, attributes := #[] }] 48 2 #[] #[{ accessFlags := 18, nameIndex := 11, descriptorIndex := 12, attributes := #[] }, { accessFlags := 18, nameIndex := 15, descriptorIndex := 12, attributes := #[] }, { accessFlags := 18, nameIndex := 18, descriptorIndex := 19, attributes := #[] }])
  fields := #[{ name := "namespace", type := (.object "java/lang/String"), accessFlags := 18, slot := 0, constantValue := 0 }, { name := "localName", type := (.object "java/lang/String"), accessFlags := 18, slot := 1, constantValue := 0 }, { name := "type", type := (.object "com/example/ruleweave/ruleweave/CommonPolicySchema$Type"), accessFlags := 18, slot := 2, constantValue := 0 }]
  methods := #[k9m0, k9m1]
  instanceTypes := #[(.object "java/lang/String"), (.object "java/lang/String"), (.object "com/example/ruleweave/ruleweave/CommonPolicySchema$Type")]
  staticTypes := #[]
  resolved := Array.replicate 84 none
  statics := none }

def pool10 : Array CpInfo := pool [(6, .class_ 8), (1, u "java/lang/Object"), (0, u "<init>"), (0, u "()V"), (1, .class_ 14), (1, u "java/lang/StringUTF16"), (31, u "$assertionsDisabled"), (0, u "Z"), (13, u "HI_BYTE_SHIFT"), (0, u "I"), (2, u "LO_BYTE_SHIFT"), (49, .methodref 12 116), (0, .nameAndType 117 118), (0, u "compress"), (0, u "([CI[BII)I"), (3, u "([CII)[B"), (138, u "coderFromArrayLen"), (0, u "([BI)B"), (106, .class_ 371), (1, u "java/lang/StringUTF16$LinesSpliterator"), (58, u "MAX_LENGTH"), (196, .class_ 628), (0, u "java/lang/StringUTF16$CodePointsSpliterator"), (0, .class_ 630), (0, u "java/lang/StringUTF16$CharsSpliterator")] 4

def k10m0 : Method := { name := "<init>", desc := "()V", sig := { parameters := [], returnType := none }, accessFlags := 0, code := none }
def k10c1 : Code := { maxStack := 2, maxLocals := 2, code := jdk_52_method_15_code, exceptionTable := #[], attributes := #[] }
def k10m1 : Method := { name := "coderFromArrayLen", desc := "([BI)B", sig := { parameters := [(.array .byte), .int], returnType := some .byte }, accessFlags := 8, code := some k10c1 }
def k10c2 : Code := { maxStack := 5, maxLocals := 6, code := jdk_52_method_16_code, exceptionTable := #[], attributes := #[] }
def k10m2 : Method := { name := "compress", desc := "([CII)[B", sig := { parameters := [(.array .char), .int, .int], returnType := some (.array .byte) }, accessFlags := 9, code := some k10c2 }
def k10c3 : Code := { maxStack := 3, maxLocals := 7, code := jdk_52_method_21_code, exceptionTable := #[], attributes := #[] }
def k10m3 : Method := { name := "compress", desc := "([CI[BII)I", sig := { parameters := [(.array .char), .int, (.array .byte), .int, .int], returnType := some .int }, accessFlags := 9, code := some k10c3 }
/-- java/lang/StringUTF16 -/
def k10 : Class := { plain "java/lang/StringUTF16" (some 0) with
  accessFlags := 48
  interfaces := #[]
  cf := some (fileOf pool10 12 #[.nestMembers #[627, 629, 369]] #[{ accessFlags := 0, nameIndex := 9, descriptorIndex := 10, attributes := #[] }, { accessFlags := 8, nameIndex := 261, descriptorIndex := 262, attributes := #[] }, { accessFlags := 9, nameIndex := 117, descriptorIndex := 122, attributes := #[] }, { accessFlags := 9, nameIndex := 117, descriptorIndex := 118, attributes := #[] }] 48 6 #[] #[{ accessFlags := 26, nameIndex := 61, descriptorIndex := 62, attributes := #[] }, { accessFlags := 26, nameIndex := 65, descriptorIndex := 62, attributes := #[] }, { accessFlags := 24, nameIndex := 430, descriptorIndex := 62, attributes := #[] }, { accessFlags := 4120, nameIndex := 46, descriptorIndex := 47, attributes := #[] }])
  fields := #[{ name := "HI_BYTE_SHIFT", type := .int, accessFlags := 26, slot := 0, constantValue := 0 }, { name := "LO_BYTE_SHIFT", type := .int, accessFlags := 26, slot := 1, constantValue := 0 }, { name := "MAX_LENGTH", type := .int, accessFlags := 24, slot := 2, constantValue := 0 }, { name := "$assertionsDisabled", type := .boolean, accessFlags := 4120, slot := 3, constantValue := 0 }]
  methods := #[k10m0, k10m1, k10m2, k10m3]
  instanceTypes := #[]
  staticTypes := #[.int, .int, .int, .boolean]
  resolved := Array.replicate 635 none
  statics := none }

def pool11 : Array CpInfo := pool [(1, .methodref 2 3), (0, .class_ 4), (0, .nameAndType 5 6), (0, u "java/lang/Record"), (0, u "<init>"), (0, u "()V"), (0, .fieldref 8 9), (0, .class_ 10), (0, .nameAndType 11 12), (0, u "com/example/ruleweave/ruleweave/CommonPolicySchema$Type"), (0, u "namespace"), (0, u "Ljava/lang/String;"), (0, .fieldref 8 14), (0, .nameAndType 15 12), (0, u "name"), (0, .fieldref 8 17), (0, .nameAndType 18 19), (0, u "attributes"), (0, u "Ljava/util/List;"), (0, .fieldref 8 21), (0, .nameAndType 22 23), (0, u "content"), (0, u "Lcom/example/ruleweave/ruleweave/CommonPolicySchema$Content;"), (0, .fieldref 8 25), (0, .nameAndType 26 27), (0, u "datatype"), (0, u "Lcom/example/ruleweave/ruleweave/CommonPolicySchema$Datatype;"), (0, .fieldref 8 29), (0, .nameAndType 30 31), (0, u "model"), (0, u "Lcom/example/ruleweave/ruleweave/CommonPolicySchema$Model;"), (50, u "(Ljava/lang/String;Ljava/lang/String;Ljava/util/List;Lcom/example/ruleweave/ruleweave/CommonPolicySchema$Content;Lcom/example/ruleweave/ruleweave/CommonPolicySchema$Datatype;Lcom/example/ruleweave/ruleweave/CommonPolicySchema$Model;)V"), (17, .class_ 101), (0, u "com/example/ruleweave/ruleweave/CommonPolicySchema")] 34

def k11c0 : Code := { maxStack := 2, maxLocals := 7, code := prog_18_method_1_code, exceptionTable := #[], attributes := #[] }
def k11m0 : Method := { name := "<init>", desc := "(Ljava/lang/String;Ljava/lang/String;Ljava/util/List;Lcom/example/ruleweave/ruleweave/CommonPolicySchema$Content;Lcom/example/ruleweave/ruleweave/CommonPolicySchema$Datatype;Lcom/example/ruleweave/ruleweave/CommonPolicySchema$Model;)V", sig := { parameters := [(.object "java/lang/String"), (.object "java/lang/String"), (.object "java/util/List"), (.object "com/example/ruleweave/ruleweave/CommonPolicySchema$Content"), (.object "com/example/ruleweave/ruleweave/CommonPolicySchema$Datatype"), (.object "com/example/ruleweave/ruleweave/CommonPolicySchema$Model")], returnType := none }, accessFlags := 0, code := some k11c0 }
/-- com/example/ruleweave/ruleweave/CommonPolicySchema$Type -/
def k11 : Class := { plain "com/example/ruleweave/ruleweave/CommonPolicySchema$Type" (some 8) with
  accessFlags := 48
  interfaces := #[]
  cf := some (fileOf pool11 8 #[.nestHost 100] #[{ accessFlags := 0, nameIndex := 5, descriptorIndex := 82, attributes := #[] }] 48 2 #[] #[{ accessFlags := 18, nameIndex := 11, descriptorIndex := 12, attributes := #[] }, { accessFlags := 18, nameIndex := 15, descriptorIndex := 12, attributes := #[] }, { accessFlags := 18, nameIndex := 18, descriptorIndex := 19, attributes := #[] }, { accessFlags := 18, nameIndex := 22, descriptorIndex := 23, attributes := #[] }, { accessFlags := 18, nameIndex := 26, descriptorIndex := 27, attributes := #[] }, { accessFlags := 18, nameIndex := 30, descriptorIndex := 31, attributes := #[] }])
  fields := #[{ name := "namespace", type := (.object "java/lang/String"), accessFlags := 18, slot := 0, constantValue := 0 }, { name := "name", type := (.object "java/lang/String"), accessFlags := 18, slot := 1, constantValue := 0 }, { name := "attributes", type := (.object "java/util/List"), accessFlags := 18, slot := 2, constantValue := 0 }, { name := "content", type := (.object "com/example/ruleweave/ruleweave/CommonPolicySchema$Content"), accessFlags := 18, slot := 3, constantValue := 0 }, { name := "datatype", type := (.object "com/example/ruleweave/ruleweave/CommonPolicySchema$Datatype"), accessFlags := 18, slot := 4, constantValue := 0 }, { name := "model", type := (.object "com/example/ruleweave/ruleweave/CommonPolicySchema$Model"), accessFlags := 18, slot := 5, constantValue := 0 }]
  methods := #[k11m0]
  instanceTypes := #[(.object "java/lang/String"), (.object "java/lang/String"), (.object "java/util/List"), (.object "com/example/ruleweave/ruleweave/CommonPolicySchema$Content"), (.object "com/example/ruleweave/ruleweave/CommonPolicySchema$Datatype"), (.object "com/example/ruleweave/ruleweave/CommonPolicySchema$Model")]
  staticTypes := #[]
  resolved := Array.replicate 136 none
  statics := none }

def pool12 : Array CpInfo := pool [(4, .class_ 6), (1, u "java/lang/Object"), (0, u "<init>"), (0, u "()V"), (5, .class_ 16), (1, u "java/lang/StringLatin1"), (73, u "canEncode"), (14, u "(C)Z"), (15, u "$assertionsDisabled"), (0, u "Z"), (98, .class_ 223), (1, u "java/lang/StringLatin1$LinesSpliterator"), (57, u "equals"), (0, u "([B[B)Z"), (97, u "toBytes"), (1, u "(C)[B"), (7, .class_ 391), (0, u "java/lang/StringLatin1$CharsSpliterator")] 3

def k12m0 : Method := { name := "<init>", desc := "()V", sig := { parameters := [], returnType := none }, accessFlags := 0, code := none }
def k12c1 : Code := { maxStack := 2, maxLocals := 1, code := jdk_43_method_3_code, exceptionTable := #[], attributes := #[] }
def k12m1 : Method := { name := "canEncode", desc := "(C)Z", sig := { parameters := [.char], returnType := some .boolean }, accessFlags := 9, code := some k12c1 }
def k12c2 : Code := { maxStack := 3, maxLocals := 3, code := jdk_43_method_13_code, exceptionTable := #[], attributes := #[] }
def k12m2 : Method := { name := "equals", desc := "([B[B)Z", sig := { parameters := [(.array .byte), (.array .byte)], returnType := some .boolean }, accessFlags := 9, code := some k12c2 }
def k12c3 : Code := { maxStack := 4, maxLocals := 1, code := jdk_43_method_46_code, exceptionTable := #[], attributes := #[] }
def k12m3 : Method := { name := "toBytes", desc := "(C)[B", sig := { parameters := [.char], returnType := some (.array .byte) }, accessFlags := 9, code := some k12c3 }
/-- java/lang/StringLatin1 -/
def k12 : Class := { plain "java/lang/StringLatin1" (some 0) with
  accessFlags := 48
  interfaces := #[]
  cf := some (fileOf pool12 14 #[.nestMembers #[390, 221]] #[{ accessFlags := 0, nameIndex := 7, descriptorIndex := 8, attributes := #[] }, { accessFlags := 9, nameIndex := 90, descriptorIndex := 105, attributes := #[] }, { accessFlags := 9, nameIndex := 281, descriptorIndex := 282, attributes := #[] }, { accessFlags := 9, nameIndex := 380, descriptorIndex := 382, attributes := #[] }] 48 4 #[] #[{ accessFlags := 4120, nameIndex := 121, descriptorIndex := 122, attributes := #[] }])
  fields := #[{ name := "$assertionsDisabled", type := .boolean, accessFlags := 4120, slot := 0, constantValue := 0 }]
  methods := #[k12m0, k12m1, k12m2, k12m3]
  instanceTypes := #[]
  staticTypes := #[.boolean]
  resolved := Array.replicate 395 none
  statics := none }

def pool13 : Array CpInfo := pool [(2, .class_ 4), (1, u "java/lang/Object"), (0, u "<init>"), (0, u "()V"), (17, .class_ 26), (1, u "jdk/internal/util/Preconditions"), (28, .class_ 56), (0, u "jdk/internal/util/Preconditions$4"), (57, .class_ 115), (0, u "jdk/internal/util/Preconditions$1"), (7, u "SIOOBE_FORMATTER"), (0, u "Ljava/util/function/BiFunction;"), (0, .class_ 126), (0, u "jdk/internal/util/Preconditions$2"), (3, u "AIOOBE_FORMATTER"), (0, .class_ 132), (0, u "jdk/internal/util/Preconditions$3"), (3, u "IOOBE_FORMATTER")] 57

def k13m0 : Method := { name := "<init>", desc := "()V", sig := { parameters := [], returnType := none }, accessFlags := 1, code := none }
/-- jdk/internal/util/Preconditions -/
def k13 : Class := { plain "jdk/internal/util/Preconditions" (some 0) with
  accessFlags := 33
  interfaces := #[]
  cf := some (fileOf pool13 24 #[.nestMembers #[55, 131, 125, 114]] #[{ accessFlags := 1, nameIndex := 5, descriptorIndex := 6, attributes := #[] }] 33 2 #[] #[{ accessFlags := 25, nameIndex := 123, descriptorIndex := 124, attributes := #[] }, { accessFlags := 25, nameIndex := 130, descriptorIndex := 124, attributes := #[] }, { accessFlags := 25, nameIndex := 136, descriptorIndex := 124, attributes := #[] }])
  fields := #[{ name := "SIOOBE_FORMATTER", type := (.object "java/util/function/BiFunction"), accessFlags := 25, slot := 0, constantValue := 0 }, { name := "AIOOBE_FORMATTER", type := (.object "java/util/function/BiFunction"), accessFlags := 25, slot := 1, constantValue := 0 }, { name := "IOOBE_FORMATTER", type := (.object "java/util/function/BiFunction"), accessFlags := 25, slot := 2, constantValue := 0 }]
  methods := #[k13m0]
  instanceTypes := #[]
  staticTypes := #[(.object "java/util/function/BiFunction"), (.object "java/util/function/BiFunction"), (.object "java/util/function/BiFunction")]
  resolved := Array.replicate 194 none
  statics := some 1 }

def pool14 : Array CpInfo := pool [(9, u "<init>"), (6, .class_ 18), (1, u "java/lang/Object"), (0, u "()V"), (1, .class_ 23), (1, u "jdk/internal/util/ArraysSupport"), (0, u "LOG2_ARRAY_LONG_INDEX_SCALE"), (0, u "I"), (2, u "U"), (0, u "Ljdk/internal/misc/Unsafe;"), (8, u "BIG_ENDIAN"), (0, u "Z"), (8, u "LOG2_BYTE_BIT_SIZE"), (4, u "LOG2_ARRAY_INT_INDEX_SCALE"), (54, u "JLA"), (0, u "Ljdk/internal/access/JavaLangAccess;"), (11, u "LOG2_ARRAY_BOOLEAN_INDEX_SCALE"), (9, u "LOG2_ARRAY_BYTE_INDEX_SCALE"), (5, u "LOG2_ARRAY_CHAR_INDEX_SCALE"), (5, u "LOG2_ARRAY_SHORT_INDEX_SCALE"), (18, u "LOG2_ARRAY_FLOAT_INDEX_SCALE"), (24, u "LOG2_ARRAY_DOUBLE_INDEX_SCALE"), (89, u "T_BOOLEAN"), (2, u "T_CHAR"), (1, u "T_FLOAT"), (1, u "T_DOUBLE"), (1, u "T_BYTE"), (1, u "T_SHORT"), (1, u "T_INT"), (1, u "T_LONG"), (1, u "SOFT_MAX_ARRAY_LENGTH")] 83

def k14m0 : Method := { name := "<init>", desc := "()V", sig := { parameters := [], returnType := none }, accessFlags := 2, code := none }
/-- jdk/internal/util/ArraysSupport -/
def k14 : Class := { plain "jdk/internal/util/ArraysSupport" (some 0) with
  accessFlags := 33
  interfaces := #[]
  cf := some (fileOf pool14 21 #[] #[{ accessFlags := 2, nameIndex := 9, descriptorIndex := 19, attributes := #[] }] 33 16 #[] #[{ accessFlags := 24, nameIndex := 28, descriptorIndex := 29, attributes := #[] }, { accessFlags := 26, nameIndex := 38, descriptorIndex := 39, attributes := #[] }, { accessFlags := 25, nameIndex := 121, descriptorIndex := 25, attributes := #[] }, { accessFlags := 25, nameIndex := 131, descriptorIndex := 25, attributes := #[] }, { accessFlags := 25, nameIndex := 137, descriptorIndex := 25, attributes := #[] }, { accessFlags := 25, nameIndex := 143, descriptorIndex := 25, attributes := #[] }, { accessFlags := 25, nameIndex := 53, descriptorIndex := 25, attributes := #[] }, { accessFlags := 25, nameIndex := 24, descriptorIndex := 25, attributes := #[] }, { accessFlags := 25, nameIndex := 162, descriptorIndex := 25, attributes := #[] }, { accessFlags := 25, nameIndex := 187, descriptorIndex := 25, attributes := #[] }, { accessFlags := 26, nameIndex := 48, descriptorIndex := 25, attributes := #[] }, { accessFlags := 25, nameIndex := 277, descriptorIndex := 25, attributes := #[] }, { accessFlags := 25, nameIndex := 280, descriptorIndex := 25, attributes := #[] }, { accessFlags := 25, nameIndex := 282, descriptorIndex := 25, attributes := #[] }, { accessFlags := 25, nameIndex := 284, descriptorIndex := 25, attributes := #[] }, { accessFlags := 25, nameIndex := 286, descriptorIndex := 25, attributes := #[] }, { accessFlags := 25, nameIndex := 288, descriptorIndex := 25, attributes := #[] }, { accessFlags := 25, nameIndex := 290, descriptorIndex := 25, attributes := #[] }, { accessFlags := 25, nameIndex := 292, descriptorIndex := 25, attributes := #[] }, { accessFlags := 26, nameIndex := 108, descriptorIndex := 109, attributes := #[] }, { accessFlags := 25, nameIndex := 294, descriptorIndex := 25, attributes := #[] }])
  fields := #[{ name := "U", type := (.object "jdk/internal/misc/Unsafe"), accessFlags := 24, slot := 0, constantValue := 0 }, { name := "BIG_ENDIAN", type := .boolean, accessFlags := 26, slot := 1, constantValue := 0 }, { name := "LOG2_ARRAY_BOOLEAN_INDEX_SCALE", type := .int, accessFlags := 25, slot := 2, constantValue := 0 }, { name := "LOG2_ARRAY_BYTE_INDEX_SCALE", type := .int, accessFlags := 25, slot := 3, constantValue := 0 }, { name := "LOG2_ARRAY_CHAR_INDEX_SCALE", type := .int, accessFlags := 25, slot := 4, constantValue := 0 }, { name := "LOG2_ARRAY_SHORT_INDEX_SCALE", type := .int, accessFlags := 25, slot := 5, constantValue := 0 }, { name := "LOG2_ARRAY_INT_INDEX_SCALE", type := .int, accessFlags := 25, slot := 6, constantValue := 0 }, { name := "LOG2_ARRAY_LONG_INDEX_SCALE", type := .int, accessFlags := 25, slot := 7, constantValue := 0 }, { name := "LOG2_ARRAY_FLOAT_INDEX_SCALE", type := .int, accessFlags := 25, slot := 8, constantValue := 0 }, { name := "LOG2_ARRAY_DOUBLE_INDEX_SCALE", type := .int, accessFlags := 25, slot := 9, constantValue := 0 }, { name := "LOG2_BYTE_BIT_SIZE", type := .int, accessFlags := 26, slot := 10, constantValue := 0 }, { name := "T_BOOLEAN", type := .int, accessFlags := 25, slot := 11, constantValue := 0 }, { name := "T_CHAR", type := .int, accessFlags := 25, slot := 12, constantValue := 0 }, { name := "T_FLOAT", type := .int, accessFlags := 25, slot := 13, constantValue := 0 }, { name := "T_DOUBLE", type := .int, accessFlags := 25, slot := 14, constantValue := 0 }, { name := "T_BYTE", type := .int, accessFlags := 25, slot := 15, constantValue := 0 }, { name := "T_SHORT", type := .int, accessFlags := 25, slot := 16, constantValue := 0 }, { name := "T_INT", type := .int, accessFlags := 25, slot := 17, constantValue := 0 }, { name := "T_LONG", type := .int, accessFlags := 25, slot := 18, constantValue := 0 }, { name := "JLA", type := (.object "jdk/internal/access/JavaLangAccess"), accessFlags := 26, slot := 19, constantValue := 0 }, { name := "SOFT_MAX_ARRAY_LENGTH", type := .int, accessFlags := 25, slot := 20, constantValue := 0 }]
  methods := #[k14m0]
  instanceTypes := #[]
  staticTypes := #[(.object "jdk/internal/misc/Unsafe"), .boolean, .int, .int, .int, .int, .int, .int, .int, .int, .int, .int, .int, .int, .int, .int, .int, .int, .int, (.object "jdk/internal/access/JavaLangAccess"), .int]
  resolved := Array.replicate 378 none
  statics := none }

def pool15 : Array CpInfo := pool [(1, u "java/lang/Cloneable"), (0, .class_ 1), (0, u "java/lang/Object"), (0, .class_ 3)] 3

/-- java/lang/Cloneable -/
def k15 : Class := { plain "java/lang/Cloneable" (some 0) with
  accessFlags := 1537
  interfaces := #[]
  cf := some (fileOf pool15 2 #[] #[] 1537 4 #[] #[])
  fields := #[]
  methods := #[]
  instanceTypes := #[]
  staticTypes := #[]
  resolved := Array.replicate 8 none
  statics := none }

/-- the primitive byte -/
def k16 : Class := { plain "byte" none with kind := .primitive 'B', accessFlags := 0x411 }
/-- [B -/
def k17 : Class := { plain "[B" (some 0) with kind := .array 16 .byte, interfaces := #[15, 2], accessFlags := 1041 }

/-- the primitive char -/
def k18 : Class := { plain "char" none with kind := .primitive 'C', accessFlags := 0x411 }
/-- [C -/
def k19 : Class := { plain "[C" (some 0) with kind := .array 18 .char, interfaces := #[15, 2], accessFlags := 1041 }

/-- the primitive int -/
def k20 : Class := { plain "int" none with kind := .primitive 'I', accessFlags := 0x411 }
/-- [I -/
def k21 : Class := { plain "[I" (some 0) with kind := .array 20 .int, interfaces := #[15, 2], accessFlags := 1041 }

def heap : Heap := #[{ cls := 7, slots := #[.long 0, .int 1, .null, .int 0, .null, .int 0, .int 0], vm := .statics 7 },
  { cls := 13, slots := #[.null, .null, .null], vm := .statics 13 }]
def classes : Array Class := #[k0, k1, k2, k3, k4, k5, k6, k7, k8, k9, k10, k11, k12, k13, k14, k15, k16, k17, k18, k19, k20, k21]
def interned : List (Array UInt16 × Addr) := []
def slotsUsed : Nat := 10
def theMethod : MethodId := ⟨1, 1⟩
def args0 : Array Value := #[.long 5, .long 5, .int 5]
def aboutOver (below : List Frame) : State where
  vm := { classes := classes, interned := interned.toArray }
  heap := heap
  slotsUsed := slotsUsed
  threads := #[{ frames := .invoking theMethod args0 :: below }]
def below0 : List Frame := [.native { method := ⟨0, 0⟩, args := #[] }]
def about1 : State := aboutOver below0
def p0 : Program := .bare "" "" ""
def e0 : Env := launch0.env 0 0 0
theorem w_frames : about1.frames = Frame.invoking theMethod args0 :: below0 := rfl
set_option maxRecDepth 65536 in
theorem w_args : argsFit about1.vm theMethod args0 = true := by decide +kernel
set_option maxRecDepth 65536 in
theorem w_heap : heapFits about1 = true := by decide +kernel
set_option maxRecDepth 65536 in
theorem w_runnable : about1.curStatus? = some .runnable := by decide +kernel
set_option maxRecDepth 65536 in
theorem w_alone : about1.alone = true := by decide +kernel
set_option maxRecDepth 65536 in
theorem w_named : about1.methodNamed? x = some theMethod := by decide +kernel
set_option maxRecDepth 65536 in
theorem w_hears : about1.hears theMethod below0 = true := by decide +kernel
set_option maxRecDepth 65536 in
theorem w_ripe : about1.ripe theMethod args0 below0 = true := by decide +kernel
theorem w_running : about1.status = .running := rfl
set_option maxRecDepth 65536 in
theorem w_room : about1.hasRoom e0.platform room_1 = true :=
  launch0.hasRoom_least _ room_1 (by decide +kernel) (by decide +kernel) (by decide +kernel) (by decide +kernel) (by decide +kernel) (by decide +kernel)
theorem allAtoms_all (ts : List Jvm.Cond) (a : Array Jvm.Value) (st : Jvm.State) : (allAtoms ts).before a st = ts.all (fun c => c.before a st) := by
  induction ts with
  | nil => rfl
  | cons c t ih =>
    show (Jvm.Cond.and c (allAtoms t)).before a st = _
    rw [Jvm.Cond.before_and, ih, List.all_cons]
def words1 : List Jvm.Cond := Jvm.Cond.code x code maxLocals ret :: tables_1
/-- a 'code' word, met by the world's own term for the bytes: nothing is compared byte by byte -/
theorem code_word {y : MethodName} {bytes : ByteArray} {mx : Nat} {rt : Option FieldType} {a : Array Value} {s : State} {m : MethodId} {meth : Method} {c : Code} (h1 : s.methodNamed? y = some m) (h2 : s.vm.method? m = some meth) (h3 : meth.code = some c) (h4 : c.code = bytes)
    (h5 : (c.maxLocals == mx && c.exceptionTable.isEmpty && decide (c.maxStack ≤ mostOperands) && decide (meth.sig.returnType = rt) && !meth.locks && decide (parseMethodDescriptor y.desc = some meth.sig)) = true) : (Jvm.Cond.code y bytes mx rt).before a s = true := by
  simp only [Bool.and_eq_true, beq_iff_eq, Bool.not_eq_true', decide_eq_true_eq] at h5
  obtain ⟨⟨⟨⟨⟨g1, g2⟩, g3⟩, g4⟩, g5⟩, g6⟩ := h5
  simp [Cond.before, Cond.holds, Cond.value, h1, h2, h3, h4, g1, g2, g3, g4, g5, g6]
def isCode : Jvm.Cond → Bool
  | .code _ _ _ _ => true
  | _ => false
theorem all_split {L : List Jvm.Cond} {P : Jvm.Cond → Bool} (h1 : L.all (fun c => isCode c || P c) = true) (h2 : ∀ c ∈ L.filter isCode, P c = true) : L.all P = true := by
  refine List.all_eq_true.mpr fun c hc => ?_
  have h := List.all_eq_true.mp h1 c hc
  rcases Bool.eq_false_or_eq_true (isCode c) with hi | hi
  · exact h2 c (List.mem_filter.mpr ⟨hc, hi⟩)
  · simpa [hi] using h
set_option maxRecDepth 65536 in
theorem w_c0 : (Jvm.Cond.code x code maxLocals ret).before args0 about1 = true := code_word (m := ⟨1, 1⟩) (meth := k1m1) (c := k1c1) (by decide +kernel) rfl rfl rfl (by decide +kernel)
set_option maxRecDepth 65536 in
theorem w_c1 : (Jvm.Cond.code ({ cls := "com/example/ruleweave/ruleweave/CommonPolicySchemaTermAdmitsPinLaw", name := "chars", desc := "(JI)[C" } : Jvm.MethodName) method_3_code (3 : Nat) (Option.some (Jvm.ClassFile.FieldType.array Jvm.ClassFile.FieldType.char))).before args0 about1 = true := code_word (m := ⟨1, 2⟩) (meth := k1m2) (c := k1c2) (by decide +kernel) rfl rfl rfl (by decide +kernel)
set_option maxRecDepth 65536 in
theorem w_c2 : (Jvm.Cond.code ({ cls := "com/example/ruleweave/ruleweave/CommonPolicySchemaTermAdmitsPinLaw", name := "str", desc := "([CI)Ljava/lang/String;" } : Jvm.MethodName) method_4_code (2 : Nat) (Option.some (Jvm.ClassFile.FieldType.object "java/lang/String"))).before args0 about1 = true := code_word (m := ⟨1, 3⟩) (meth := k1m3) (c := k1c3) (by decide +kernel) rfl rfl rfl (by decide +kernel)
set_option maxRecDepth 65536 in
theorem w_c3 : (Jvm.Cond.code ({ cls := "java/lang/String", name := "<init>", desc := "([C)V" } : Jvm.MethodName) jdk_42_method_3_code (2 : Nat) (Option.none : Option Jvm.ClassFile.FieldType)).before args0 about1 = true := code_word (m := ⟨7, 1⟩) (meth := k7m1) (c := k7c1) (by decide +kernel) rfl rfl rfl (by decide +kernel)
set_option maxRecDepth 65536 in
theorem w_c4 : (Jvm.Cond.code ({ cls := "java/lang/String", name := "<init>", desc := "([CIILjava/lang/Void;)V" } : Jvm.MethodName) jdk_42_method_149_code (6 : Nat) (Option.none : Option Jvm.ClassFile.FieldType)).before args0 about1 = true := code_word (m := ⟨7, 5⟩) (meth := k7m5) (c := k7c5) (by decide +kernel) rfl rfl rfl (by decide +kernel)
set_option maxRecDepth 65536 in
theorem w_c5 : (Jvm.Cond.code ({ cls := "java/lang/Object", name := "<init>", desc := "()V" } : Jvm.MethodName) object_method_1_code (1 : Nat) (Option.none : Option Jvm.ClassFile.FieldType)).before args0 about1 = true := code_word (m := ⟨0, 0⟩) (meth := k0m0) (c := k0c0) (by decide +kernel) rfl rfl rfl (by decide +kernel)
set_option maxRecDepth 65536 in
theorem w_c6 : (Jvm.Cond.code ({ cls := "com/example/ruleweave/ruleweave/CommonPolicySchema$Term", name := "<init>", desc := "(Ljava/lang/String;Ljava/lang/String;Lcom/example/ruleweave/ruleweave/CommonPolicySchema$Type;)V" } : Jvm.MethodName) prog_17_method_1_code (4 : Nat) (Option.none : Option Jvm.ClassFile.FieldType)).before args0 about1 = true := code_word (m := ⟨9, 0⟩) (meth := k9m0) (c := k9c0) (by decide +kernel) rfl rfl rfl (by decide +kernel)
set_option maxRecDepth 65536 in
theorem w_c7 : (Jvm.Cond.code ({ cls := "java/lang/Record", name := "<init>", desc := "()V" } : Jvm.MethodName) jdk_30_method_1_code (1 : Nat) (Option.none : Option Jvm.ClassFile.FieldType)).before args0 about1 = true := code_word (m := ⟨8, 0⟩) (meth := k8m0) (c := k8c0) (by decide +kernel) rfl rfl rfl (by decide +kernel)
set_option maxRecDepth 65536 in
theorem w_c8 : (Jvm.Cond.code ({ cls := "com/example/ruleweave/ruleweave/CommonPolicySchema$Term", name := "admits", desc := "(Ljava/lang/String;Ljava/lang/String;)Z" } : Jvm.MethodName) prog_17_method_2_code (3 : Nat) (Option.some Jvm.ClassFile.FieldType.boolean)).before args0 about1 = true := code_word (m := ⟨9, 1⟩) (meth := k9m1) (c := k9c1) (by decide +kernel) rfl rfl rfl (by decide +kernel)
set_option maxRecDepth 65536 in
theorem w_c9 : (Jvm.Cond.code ({ cls := "java/lang/String", name := "isEmpty", desc := "()Z" } : Jvm.MethodName) jdk_42_method_55_code (1 : Nat) (Option.some Jvm.ClassFile.FieldType.boolean)).before args0 about1 = true := code_word (m := ⟨7, 2⟩) (meth := k7m2) (c := k7c2) (by decide +kernel) rfl rfl rfl (by decide +kernel)
set_option maxRecDepth 65536 in
theorem w_c10 : (Jvm.Cond.code ({ cls := "java/lang/StringUTF16", name := "compress", desc := "([CII)[B" } : Jvm.MethodName) jdk_52_method_16_code (6 : Nat) (Option.some (Jvm.ClassFile.FieldType.array Jvm.ClassFile.FieldType.byte))).before args0 about1 = true := code_word (m := ⟨10, 2⟩) (meth := k10m2) (c := k10c2) (by decide +kernel) rfl rfl rfl (by decide +kernel)
set_option maxRecDepth 65536 in
theorem w_c11 : (Jvm.Cond.code ({ cls := "java/lang/StringUTF16", name := "compress", desc := "([CI[BII)I" } : Jvm.MethodName) jdk_52_method_21_code (7 : Nat) (Option.some Jvm.ClassFile.FieldType.int)).before args0 about1 = true := code_word (m := ⟨10, 3⟩) (meth := k10m3) (c := k10c3) (by decide +kernel) rfl rfl rfl (by decide +kernel)
set_option maxRecDepth 65536 in
theorem w_c12 : (Jvm.Cond.code ({ cls := "java/lang/StringUTF16", name := "coderFromArrayLen", desc := "([BI)B" } : Jvm.MethodName) jdk_52_method_15_code (2 : Nat) (Option.some Jvm.ClassFile.FieldType.byte)).before args0 about1 = true := code_word (m := ⟨10, 1⟩) (meth := k10m1) (c := k10c1) (by decide +kernel) rfl rfl rfl (by decide +kernel)
set_option maxRecDepth 65536 in
theorem w_c13 : (Jvm.Cond.code ({ cls := "com/example/ruleweave/ruleweave/CommonPolicySchema$Type", name := "<init>", desc := "(Ljava/lang/String;Ljava/lang/String;Ljava/util/List;Lcom/example/ruleweave/ruleweave/CommonPolicySchema$Content;Lcom/example/ruleweave/ruleweave/CommonPolicySchema$Datatype;Lcom/example/ruleweave/ruleweave/CommonPolicySchema$Model;)V" } : Jvm.MethodName) prog_18_method_1_code (7 : Nat) (Option.none : Option Jvm.ClassFile.FieldType)).before args0 about1 = true := code_word (m := ⟨11, 0⟩) (meth := k11m0) (c := k11c0) (by decide +kernel) rfl rfl rfl (by decide +kernel)
set_option maxRecDepth 65536 in
theorem w_c14 : (Jvm.Cond.code ({ cls := "com/example/ruleweave/ruleweave/CommonPolicySchemaTermAdmitsPinLaw", name := "same", desc := "([CI[CI)Z" } : Jvm.MethodName) method_5_code (4 : Nat) (Option.some Jvm.ClassFile.FieldType.boolean)).before args0 about1 = true := code_word (m := ⟨1, 4⟩) (meth := k1m4) (c := k1c4) (by decide +kernel) rfl rfl rfl (by decide +kernel)
set_option maxRecDepth 65536 in
theorem w_c15 : (Jvm.Cond.code ({ cls := "java/lang/String", name := "equals", desc := "(Ljava/lang/Object;)Z" } : Jvm.MethodName) jdk_42_method_66_code (3 : Nat) (Option.some Jvm.ClassFile.FieldType.boolean)).before args0 about1 = true := code_word (m := ⟨7, 3⟩) (meth := k7m3) (c := k7c3) (by decide +kernel) rfl rfl rfl (by decide +kernel)
set_option maxRecDepth 65536 in
theorem w_c16 : (Jvm.Cond.code ({ cls := "java/lang/StringLatin1", name := "equals", desc := "([B[B)Z" } : Jvm.MethodName) jdk_43_method_13_code (3 : Nat) (Option.some Jvm.ClassFile.FieldType.boolean)).before args0 about1 = true := code_word (m := ⟨12, 2⟩) (meth := k12m2) (c := k12c2) (by decide +kernel) rfl rfl rfl (by decide +kernel)
set_option maxRecDepth 65536 in
theorem w_c17 : (Jvm.Cond.code ({ cls := "java/lang/String", name := "valueOf", desc := "(C)Ljava/lang/String;" } : Jvm.MethodName) jdk_42_method_139_code (1 : Nat) (Option.some (Jvm.ClassFile.FieldType.object "java/lang/String"))).before args0 about1 = true := code_word (m := ⟨7, 4⟩) (meth := k7m4) (c := k7c4) (by decide +kernel) rfl rfl rfl (by decide +kernel)
set_option maxRecDepth 65536 in
theorem w_c18 : (Jvm.Cond.code ({ cls := "java/lang/StringLatin1", name := "canEncode", desc := "(C)Z" } : Jvm.MethodName) jdk_43_method_3_code (1 : Nat) (Option.some Jvm.ClassFile.FieldType.boolean)).before args0 about1 = true := code_word (m := ⟨12, 1⟩) (meth := k12m1) (c := k12c1) (by decide +kernel) rfl rfl rfl (by decide +kernel)
set_option maxRecDepth 65536 in
theorem w_c19 : (Jvm.Cond.code ({ cls := "java/lang/StringLatin1", name := "toBytes", desc := "(C)[B" } : Jvm.MethodName) jdk_43_method_46_code (1 : Nat) (Option.some (Jvm.ClassFile.FieldType.array Jvm.ClassFile.FieldType.byte))).before args0 about1 = true := code_word (m := ⟨12, 3⟩) (meth := k12m3) (c := k12c3) (by decide +kernel) rfl rfl rfl (by decide +kernel)
set_option maxRecDepth 65536 in
theorem w_c20 : (Jvm.Cond.code ({ cls := "java/lang/String", name := "<init>", desc := "([BB)V" } : Jvm.MethodName) jdk_42_method_151_code (3 : Nat) (Option.none : Option Jvm.ClassFile.FieldType)).before args0 about1 = true := code_word (m := ⟨7, 6⟩) (meth := k7m6) (c := k7c6) (by decide +kernel) rfl rfl rfl (by decide +kernel)
def codes1 : List Jvm.Cond := [Jvm.Cond.code x code maxLocals ret, Jvm.Cond.code ({ cls := "com/example/ruleweave/ruleweave/CommonPolicySchemaTermAdmitsPinLaw", name := "chars", desc := "(JI)[C" } : Jvm.MethodName) method_3_code (3 : Nat) (Option.some (Jvm.ClassFile.FieldType.array Jvm.ClassFile.FieldType.char)), Jvm.Cond.code ({ cls := "com/example/ruleweave/ruleweave/CommonPolicySchemaTermAdmitsPinLaw", name := "str", desc := "([CI)Ljava/lang/String;" } : Jvm.MethodName) method_4_code (2 : Nat) (Option.some (Jvm.ClassFile.FieldType.object "java/lang/String")), Jvm.Cond.code ({ cls := "java/lang/String", name := "<init>", desc := "([C)V" } : Jvm.MethodName) jdk_42_method_3_code (2 : Nat) (Option.none : Option Jvm.ClassFile.FieldType), Jvm.Cond.code ({ cls := "java/lang/String", name := "<init>", desc := "([CIILjava/lang/Void;)V" } : Jvm.MethodName) jdk_42_method_149_code (6 : Nat) (Option.none : Option Jvm.ClassFile.FieldType), Jvm.Cond.code ({ cls := "java/lang/Object", name := "<init>", desc := "()V" } : Jvm.MethodName) object_method_1_code (1 : Nat) (Option.none : Option Jvm.ClassFile.FieldType), Jvm.Cond.code ({ cls := "com/example/ruleweave/ruleweave/CommonPolicySchema$Term", name := "<init>", desc := "(Ljava/lang/String;Ljava/lang/String;Lcom/example/ruleweave/ruleweave/CommonPolicySchema$Type;)V" } : Jvm.MethodName) prog_17_method_1_code (4 : Nat) (Option.none : Option Jvm.ClassFile.FieldType), Jvm.Cond.code ({ cls := "java/lang/Record", name := "<init>", desc := "()V" } : Jvm.MethodName) jdk_30_method_1_code (1 : Nat) (Option.none : Option Jvm.ClassFile.FieldType), Jvm.Cond.code ({ cls := "com/example/ruleweave/ruleweave/CommonPolicySchema$Term", name := "admits", desc := "(Ljava/lang/String;Ljava/lang/String;)Z" } : Jvm.MethodName) prog_17_method_2_code (3 : Nat) (Option.some Jvm.ClassFile.FieldType.boolean), Jvm.Cond.code ({ cls := "java/lang/String", name := "isEmpty", desc := "()Z" } : Jvm.MethodName) jdk_42_method_55_code (1 : Nat) (Option.some Jvm.ClassFile.FieldType.boolean), Jvm.Cond.code ({ cls := "java/lang/StringUTF16", name := "compress", desc := "([CII)[B" } : Jvm.MethodName) jdk_52_method_16_code (6 : Nat) (Option.some (Jvm.ClassFile.FieldType.array Jvm.ClassFile.FieldType.byte)), Jvm.Cond.code ({ cls := "java/lang/StringUTF16", name := "compress", desc := "([CI[BII)I" } : Jvm.MethodName) jdk_52_method_21_code (7 : Nat) (Option.some Jvm.ClassFile.FieldType.int), Jvm.Cond.code ({ cls := "java/lang/StringUTF16", name := "coderFromArrayLen", desc := "([BI)B" } : Jvm.MethodName) jdk_52_method_15_code (2 : Nat) (Option.some Jvm.ClassFile.FieldType.byte), Jvm.Cond.code ({ cls := "com/example/ruleweave/ruleweave/CommonPolicySchema$Type", name := "<init>", desc := "(Ljava/lang/String;Ljava/lang/String;Ljava/util/List;Lcom/example/ruleweave/ruleweave/CommonPolicySchema$Content;Lcom/example/ruleweave/ruleweave/CommonPolicySchema$Datatype;Lcom/example/ruleweave/ruleweave/CommonPolicySchema$Model;)V" } : Jvm.MethodName) prog_18_method_1_code (7 : Nat) (Option.none : Option Jvm.ClassFile.FieldType), Jvm.Cond.code ({ cls := "com/example/ruleweave/ruleweave/CommonPolicySchemaTermAdmitsPinLaw", name := "same", desc := "([CI[CI)Z" } : Jvm.MethodName) method_5_code (4 : Nat) (Option.some Jvm.ClassFile.FieldType.boolean), Jvm.Cond.code ({ cls := "java/lang/String", name := "equals", desc := "(Ljava/lang/Object;)Z" } : Jvm.MethodName) jdk_42_method_66_code (3 : Nat) (Option.some Jvm.ClassFile.FieldType.boolean), Jvm.Cond.code ({ cls := "java/lang/StringLatin1", name := "equals", desc := "([B[B)Z" } : Jvm.MethodName) jdk_43_method_13_code (3 : Nat) (Option.some Jvm.ClassFile.FieldType.boolean), Jvm.Cond.code ({ cls := "java/lang/String", name := "valueOf", desc := "(C)Ljava/lang/String;" } : Jvm.MethodName) jdk_42_method_139_code (1 : Nat) (Option.some (Jvm.ClassFile.FieldType.object "java/lang/String")), Jvm.Cond.code ({ cls := "java/lang/StringLatin1", name := "canEncode", desc := "(C)Z" } : Jvm.MethodName) jdk_43_method_3_code (1 : Nat) (Option.some Jvm.ClassFile.FieldType.boolean), Jvm.Cond.code ({ cls := "java/lang/StringLatin1", name := "toBytes", desc := "(C)[B" } : Jvm.MethodName) jdk_43_method_46_code (1 : Nat) (Option.some (Jvm.ClassFile.FieldType.array Jvm.ClassFile.FieldType.byte)), Jvm.Cond.code ({ cls := "java/lang/String", name := "<init>", desc := "([BB)V" } : Jvm.MethodName) jdk_42_method_151_code (3 : Nat) (Option.none : Option Jvm.ClassFile.FieldType)]
set_option maxRecDepth 65536 in
theorem codes_eq : words1.filter isCode = codes1 := rfl
theorem w_codes : ∀ c ∈ words1.filter isCode, c.before args0 about1 = true := by
  rw [codes_eq]
  intro c hc
  simp only [codes1, List.mem_cons, List.not_mem_nil, or_false] at hc
  rcases hc with rfl | rfl | rfl | rfl | rfl | rfl | rfl | rfl | rfl | rfl | rfl | rfl | rfl | rfl | rfl | rfl | rfl | rfl | rfl | rfl | rfl
  · exact w_c0
  · exact w_c1
  · exact w_c2
  · exact w_c3
  · exact w_c4
  · exact w_c5
  · exact w_c6
  · exact w_c7
  · exact w_c8
  · exact w_c9
  · exact w_c10
  · exact w_c11
  · exact w_c12
  · exact w_c13
  · exact w_c14
  · exact w_c15
  · exact w_c16
  · exact w_c17
  · exact w_c18
  · exact w_c19
  · exact w_c20
set_option maxRecDepth 65536 in
theorem w_t1 : (words1.take 24).all (fun c => isCode c || c.before args0 about1) = true := by decide +kernel
set_option maxRecDepth 65536 in
theorem w_t2 : ((words1.drop 24).take 24).all (fun c => isCode c || c.before args0 about1) = true := by decide +kernel
set_option maxRecDepth 65536 in
theorem w_t3 : (((words1.drop 24).drop 24).take 24).all (fun c => isCode c || c.before args0 about1) = true := by decide +kernel
set_option maxRecDepth 65536 in
theorem w_t4 : ((((words1.drop 24).drop 24).drop 24).take 24).all (fun c => isCode c || c.before args0 about1) = true := by decide +kernel
set_option maxRecDepth 65536 in
theorem w_t5 : ((((words1.drop 24).drop 24).drop 24).drop 24).all (fun c => isCode c || c.before args0 about1) = true := by decide +kernel
theorem w_tables : (allAtoms (Jvm.Cond.code x code maxLocals ret :: tables_1)).before args0 about1 = true := by
  rw [allAtoms_all]
  show words1.all (fun c => c.before args0 about1) = true
  refine all_split ?_ w_codes
  rw [← List.take_append_drop 24 words1, List.all_append, w_t1, ← List.take_append_drop 24 (words1.drop 24), List.all_append, w_t2, ← List.take_append_drop 24 ((words1.drop 24).drop 24), List.all_append, w_t3, ← List.take_append_drop 24 (((words1.drop 24).drop 24).drop 24), List.all_append, w_t4, w_t5]
  rfl
set_option maxRecDepth 65536 in
theorem w_rest : rest_1_c.before args0 about1 = true := by decide +kernel
set_option maxRecDepth 65536 in
theorem w_case : (Jvm.Cond.and given_1 narrow_1).before args0 about1 = true := by decide +kernel
set_option maxRecDepth 65536 in
theorem w_consts : constsHeld consts_1 about1 := Jvm.Lit.constsHeldB_iff.mp (by decide +kernel)
theorem w_applies : (headSpec (Jvm.Cond.code x code maxLocals ret :: tables_1) room_1).applies x e0.platform about1 = true :=
  (Spec.applies_iff w_frames).mpr ⟨w_running, w_runnable, w_alone, w_named, w_hears, w_ripe, w_room, w_tables⟩
theorem atStart : AtStart classFile x code maxLocals ret World_1 tables_1 room_1 Calls_1 rest_1 Pre_1 launch0 p0 e0 about1 theMethod args0 below0 :=
  ⟨lists_1, trivial, launch0.admits_env _ _ _, launch0.least_env, fairChoices_fair.cas, fairChoices_fair.clock, w_frames, w_args, w_heap, w_applies, ⟨w_consts, trivial⟩, w_rest, w_case⟩
end start1
theorem witness_1 : WitnessClaimed_1 := ⟨start1.p0, start1.e0, start1.about1, start1.theMethod, start1.args0, start1.below0, start1.atStart⟩
end Jvm.Pilot.@@N@@
