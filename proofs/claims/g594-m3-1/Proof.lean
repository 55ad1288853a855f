import JvmDerived
import JvmDerived.Pilot.@@N@@Statement
import JvmDerived.Pilot.@@N@@Code
set_option linter.unusedVariables false
set_option linter.unusedSimpArgs false
namespace Jvm.RoadKit
open Sem ClassFile Op Lib Jvm.Stand Jvm.Free Jvm.LawKit
section Own
variable {p : Program} {l : Launch} {e : Env} {R : Room} {s : State} {m : MethodId} {args : Array Value} {below : List Frame} {meth : Method} {c : Code} {T : State} {locs : List Loc} {cells slots : Nat}
/-- from S the run comes to an end of which K holds -/
def oG (p : Program) (e : Env) (below : List Frame) (K : State → Outcome → Prop) (S : State) : Prop := ∃ t o, Steps p.tables e below S t ∧ t.status = .running ∧ Ended t below o ∧ K t o
def own_K (s : State) (Q : Option Value → Heap → List Loc → Prop) (k n : Nat) (t : State) (o : Outcome) : Prop := ∃ v L, o = .returned v ∧ Q v t.heap L ∧ FrameEnd s o t L k n
theorem og {K : State → Outcome → Prop} {S S' : State} (h : ∀ t, Steps p.tables e below S' t → Steps p.tables e below S t) (g : oG p e below K S') : oG p e below K S := by
  obtain ⟨t, o, h1, h2⟩ := g; exact ⟨t, o, h t h1, h2⟩
theorem own_via {K : State → Outcome → Prop} {S S' : State} (h : Steps p.tables e below S S') (g : oG p e below K S') : oG p e below K S := by
  obtain ⟨t, o, h1, h2⟩ := g; exact ⟨t, o, h.trans h1, h2⟩
variable {Q : Option Value → Heap → List Loc → Prop} {k n : Nat}
theorem own_end (X : Stand p l e R s m args below meth c T locs cells slots) {v : Option Value} (hlk : meth.locks = false) (hv : meth.sig.returnType = none → v = none) (hk : cells ≤ k) (hn : slots ≤ n) (hQ : Q v T.heap locs) {S : State}
    (st : ∀ fs, (∀ (f : JFrame) (acts : List Action), f.method = m → f.locked = none → f.entered = [] → (doReturn e (T.setTop f) acts v).1 = T.setFrames fs) → Steps p.tables e below S (T.setFrames fs)) : oG p e below (own_K s Q k n) S := by
  obtain ⟨fs, hr, hrun, hended, hW, hsame⟩ := X.leave hv hlk
  exact ⟨_, _, st fs hr, hrun, hended, v, locs, rfl, hQ, ⟨_, rfl⟩, hW, hsame.mono hk hn⟩
theorem own_ret0 (X : Stand p l e R s m args below meth c T locs cells slots) (hx : p.tables.exec = Jvm.exec) (hlk : meth.locks = false) (hret : meth.sig.returnType = none) {pc : Nat} {Ls : Array Slot} (hd : decode c.code pc = .ok (.return_, 1)) (hk : cells ≤ k) (hn : slots ≤ n) (hQ : Q none T.heap locs) :
    oG p e below (own_K s Q k n) (T.setTop (mkF m pc Ls [])) := own_end X hlk (fun _ => rfl) hk hn hQ fun _ hr => X.returnOut hx hret hd hr
theorem own_retN (X : Stand p l e R s m args below meth c T locs cells slots) (hx : p.tables.exec = Jvm.exec) (hlk : meth.locks = false) {t : FieldType} (hret : meth.sig.returnType = some t) (ht : t = .boolean ∨ t = .byte ∨ t = .char ∨ t = .short) {pc : Nat} {Ls : Array Slot} {z : Int32} {rest : List Value} (hd : decode c.code pc = .ok (.ireturn, 1)) (hk : cells ≤ k) (hn : slots ≤ n) (hQ : Q (some (.int (nar t z))) T.heap locs) :
    oG p e below (own_K s Q k n) (T.setTop (mkF m pc Ls (.int z :: rest))) := own_end X hlk (fun h => by rw [hret] at h; cases h) hk hn hQ fun _ hr => retN X hx hret ht hd hr
theorem own_retI (X : Stand p l e R s m args below meth c T locs cells slots) (hx : p.tables.exec = Jvm.exec) (hlk : meth.locks = false) (hret : meth.sig.returnType = some .int) {pc : Nat} {Ls : Array Slot} {z : Int32} {rest : List Value} (hd : decode c.code pc = .ok (.ireturn, 1)) (hk : cells ≤ k) (hn : slots ≤ n) (hQ : Q (some (.int z)) T.heap locs) :
    oG p e below (own_K s Q k n) (T.setTop (mkF m pc Ls (.int z :: rest))) := own_end X hlk (fun h => by rw [hret] at h; cases h) hk hn hQ fun _ hr => retOut X hx hret rfl (Or.inl ⟨rfl, Or.inl rfl, z, rfl⟩) hd hr
theorem own_retJ (X : Stand p l e R s m args below meth c T locs cells slots) (hx : p.tables.exec = Jvm.exec) (hlk : meth.locks = false) (hret : meth.sig.returnType = some .long) {pc : Nat} {Ls : Array Slot} {z : Int64} {rest : List Value} (hd : decode c.code pc = .ok (.lreturn, 1)) (hk : cells ≤ k) (hn : slots ≤ n) (hQ : Q (some (.long z)) T.heap locs) :
    oG p e below (own_K s Q k n) (T.setTop (mkF m pc Ls (.long z :: rest))) := own_end X hlk (fun h => by rw [hret] at h; cases h) hk hn hQ fun _ hr => retOut X hx hret rfl (Or.inr (Or.inl ⟨rfl, rfl, z, rfl⟩)) hd hr
theorem own_retR (X : Stand p l e R s m args below meth c T locs cells slots) (hx : p.tables.exec = Jvm.exec) (hlk : meth.locks = false) {t : FieldType} (hret : meth.sig.returnType = some t) (ht : t.isReference = true) {pc : Nat} {Ls : Array Slot} {w : Value} {rest : List Value} (hw : w.isRef = true) (hd : decode c.code pc = .ok (.areturn, 1)) (hk : cells ≤ k) (hn : slots ≤ n) (hQ : Q (some w) T.heap locs) :
    oG p e below (own_K s Q k n) (T.setTop (mkF m pc Ls (w :: rest))) := own_end X hlk (fun h => by rw [hret] at h; cases h) hk hn hQ fun _ hr => retOut X hx hret (by cases t <;> first | rfl | cases ht) (Or.inr (Or.inr (Or.inr (Or.inr ⟨rfl, ht, hw⟩)))) hd hr
section Arrays
variable {Z : State} {h : Heap} {a : Addr} {k : ClassId} {ty : FieldType} {z : Int32} {vs : List Value} {dv : Value}
theorem own_iaload {g : JFrame} {target : State} (X : Stand p l e R s m args below meth c T locs cells slots) (hx : p.tables.exec = Jvm.exec) (hZ : Z.Warmed39 s.vm) (eT : T.heap = h) (F : Arv Z h a k .int z vs dv) (j : Int32) (v : Value) (hj : ¬ j < 0 ∧ j < z) (hat : vs.getD j.toNatClampNeg dv = v) (hg : g.method = m) {rest : List Value} (hs : g.stack = .int j :: .ref a :: rest) (hd : decode c.code g.pc = .ok (.iaload, 1))
    (hr : Steps p.tables e below (T.setTop { g with pc := g.pc + 1, stack := v :: rest }) target) : Steps p.tables e below (T.setTop g) target := by
  obtain ⟨cl, A, q, S, N, H, G⟩ := F
  have hi := inb_of S hj
  exact X.iaload hx (j := j) (v := v) (by rw [eT]; exact A.1) (State.isArrayOf_alike hZ.alike A.2.1) A.2.2 hi (Has.at H hi hat) hg hs hd _ hr
theorem own_caload {g : JFrame} {target : State} (X : Stand p l e R s m args below meth c T locs cells slots) (hx : p.tables.exec = Jvm.exec) (hZ : Z.Warmed39 s.vm) (eT : T.heap = h) (F : Arv Z h a k .char z vs dv) (j : Int32) (v : Value) (hj : ¬ j < 0 ∧ j < z) (hat : vs.getD j.toNatClampNeg dv = v) (hg : g.method = m) {rest : List Value} (hs : g.stack = .int j :: .ref a :: rest) (hd : decode c.code g.pc = .ok (.caload, 1))
    (hr : Steps p.tables e below (T.setTop { g with pc := g.pc + 1, stack := v :: rest }) target) : Steps p.tables e below (T.setTop g) target := by
  obtain ⟨cl, A, q, S, N, H, G⟩ := F
  have hi := inb_of S hj
  exact X.caload hx (j := j) (v := v) (by rw [eT]; exact A.1) (State.isArrayOf_alike hZ.alike A.2.1) A.2.2 hi (Has.at H hi hat) hg hs hd _ hr
theorem own_saload {g : JFrame} {target : State} (X : Stand p l e R s m args below meth c T locs cells slots) (hx : p.tables.exec = Jvm.exec) (hZ : Z.Warmed39 s.vm) (eT : T.heap = h) (F : Arv Z h a k .short z vs dv) (j : Int32) (v : Value) (hj : ¬ j < 0 ∧ j < z) (hat : vs.getD j.toNatClampNeg dv = v) (hg : g.method = m) {rest : List Value} (hs : g.stack = .int j :: .ref a :: rest) (hd : decode c.code g.pc = .ok (.saload, 1))
    (hr : Steps p.tables e below (T.setTop { g with pc := g.pc + 1, stack := v :: rest }) target) : Steps p.tables e below (T.setTop g) target := by
  obtain ⟨cl, A, q, S, N, H, G⟩ := F
  have hi := inb_of S hj
  exact X.saload hx (j := j) (v := v) (by rw [eT]; exact A.1) (State.isArrayOf_alike hZ.alike A.2.1) A.2.2 hi (Has.at H hi hat) hg hs hd _ hr
theorem own_baload {g : JFrame} {target : State} (X : Stand p l e R s m args below meth c T locs cells slots) (hx : p.tables.exec = Jvm.exec) (hZ : Z.Warmed39 s.vm) (eT : T.heap = h) (F : Arv Z h a k .byte z vs dv) (j : Int32) (v : Value) (hj : ¬ j < 0 ∧ j < z) (hat : vs.getD j.toNatClampNeg dv = v) (hg : g.method = m) {rest : List Value} (hs : g.stack = .int j :: .ref a :: rest) (hd : decode c.code g.pc = .ok (.baload, 1))
    (hr : Steps p.tables e below (T.setTop { g with pc := g.pc + 1, stack := v :: rest }) target) : Steps p.tables e below (T.setTop g) target := by
  obtain ⟨cl, A, q, S, N, H, G⟩ := F
  have hi := inb_of S hj
  exact X.baloadBytes hx (j := j) (v := v) (by rw [eT]; exact A.1) (State.isArrayOf_alike hZ.alike A.2.1) A.2.2 hi (Has.at H hi hat) hg hs hd _ hr
theorem own_zaload {g : JFrame} {target : State} (X : Stand p l e R s m args below meth c T locs cells slots) (hx : p.tables.exec = Jvm.exec) (hZ : Z.Warmed39 s.vm) (eT : T.heap = h) (F : Arv Z h a k .boolean z vs dv) (j : Int32) (v : Value) (hj : ¬ j < 0 ∧ j < z) (hat : vs.getD j.toNatClampNeg dv = v) (hg : g.method = m) {rest : List Value} (hs : g.stack = .int j :: .ref a :: rest) (hd : decode c.code g.pc = .ok (.baload, 1))
    (hr : Steps p.tables e below (T.setTop { g with pc := g.pc + 1, stack := v :: rest }) target) : Steps p.tables e below (T.setTop g) target := by
  obtain ⟨cl, A, q, S, N, H, G⟩ := F
  have hi := inb_of S hj
  exact X.baloadBooleans hx (j := j) (v := v) (by rw [eT]; exact A.1) (State.isArrayOf_alike hZ.alike A.2.1) A.2.2 hi (Has.at H hi hat) hg hs hd _ hr
theorem own_laload {g : JFrame} {target : State} (X : Stand p l e R s m args below meth c T locs cells slots) (hx : p.tables.exec = Jvm.exec) (hZ : Z.Warmed39 s.vm) (eT : T.heap = h) (F : Arv Z h a k .long z vs dv) (j : Int32) (v : Value) (hj : ¬ j < 0 ∧ j < z) (hat : vs.getD j.toNatClampNeg dv = v) (hg : g.method = m) {rest : List Value} (hs : g.stack = .int j :: .ref a :: rest) (hd : decode c.code g.pc = .ok (.laload, 1))
    (hr : Steps p.tables e below (T.setTop { g with pc := g.pc + 1, stack := v :: rest }) target) : Steps p.tables e below (T.setTop g) target := by
  obtain ⟨cl, A, q, S, N, H, G⟩ := F
  have hi := inb_of S hj
  exact X.laload hx (j := j) (v := v) (by rw [eT]; exact A.1) (State.isArrayOf_alike hZ.alike A.2.1) A.2.2 hi (Has.at H hi hat) hg hs hd _ hr
theorem own_aaload {g : JFrame} {target : State} (X : Stand p l e R s m args below meth c T locs cells slots) (hx : p.tables.exec = Jvm.exec) (hZ : Z.Warmed39 s.vm) (eT : T.heap = h) (F : Arv Z h a k ty z vs dv) (j : Int32) (v : Value) (hj : ¬ j < 0 ∧ j < z) (hat : vs.getD j.toNatClampNeg dv = v) (hty : ty.isReference = true) (hg : g.method = m) {rest : List Value} (hs : g.stack = .int j :: .ref a :: rest) (hd : decode c.code g.pc = .ok (.aaload, 1))
    (hr : Steps p.tables e below (T.setTop { g with pc := g.pc + 1, stack := v :: rest }) target) : Steps p.tables e below (T.setTop g) target := by
  obtain ⟨cl, A, q, S, N, H, G⟩ := F
  have hi := inb_of S hj
  exact X.aaload hx (j := j) (v := v) (by rw [eT]; exact A.1) (State.isArrayOf_alike hZ.alike A.2.1) hty A.2.2 hi (Has.at H hi hat) hg hs hd _ hr
theorem own_alen {g : JFrame} {target : State} (X : Stand p l e R s m args below meth c T locs cells slots) (hx : p.tables.exec = Jvm.exec) (hZ : Z.Warmed39 s.vm) (eT : T.heap = h) (F : Arv Z h a k ty z vs dv) (hg : g.method = m) {rest : List Value} (hs : g.stack = .ref a :: rest) (hd : decode c.code g.pc = .ok (.arraylength, 1))
    (hr : Steps p.tables e below (T.setTop { g with pc := g.pc + 1, stack := .int z :: rest }) target) : Steps p.tables e below (T.setTop g) target := by
  obtain ⟨cl, A, q, S, N, -, -⟩ := F
  exact X.arraylength hx (by rw [eT]; exact A.1) (State.isArrayOf_alike hZ.alike A.2.1) hg hs hd _ (by rw [len_of S N]; exact hr)
theorem own_stI {K : State → Outcome → Prop} {n0 : Nat} (X : Stand p l e R s m args below meth c T locs cells slots) (hx : p.tables.exec = Jvm.exec) (hZ : Z.Warmed39 s.vm) (eT : T.heap = h) (F : Arv Z h a k .int z vs dv) (j : Int32) (x : Int32) (i : Nat) (hj : ¬ j < 0 ∧ j < z) (hi : j.toNatClampNeg = i) (hl : i < vs.length) (vs' : List Value) (hv : vs.set i (.int x) = vs') (N : Fr n0 locs) (ge : n0 ≤ a) {pc : Nat} {Ls : Array Slot} {rest : List Value} (hd : decode c.code pc = .ok (.iastore, 1))
    (kk : ∀ (T' : State) (h' : Heap) (L' : List Loc), Stand p l e R s m args below meth c T' L' cells slots → T'.heap = h' → Wr h h' a i (.int x) → Fr n0 L' → Arv Z h' a k .int z vs' dv → oG p e below K (T'.setTop (mkF m (pc + 1) Ls rest))) : oG p e below K (T.setTop (mkF m pc Ls (.int x :: .int j :: .ref a :: rest))) := by
  obtain ⟨cl, A, q, S, M, H, G⟩ := F
  subst hi; subst hv
  obtain ⟨T', h', X', e', W, st⟩ := stI X hx hZ eT A (j := j) (inb_of S hj) (g := mkF m pc Ls (.int x :: .int j :: .ref a :: rest)) rfl rfl hd
  exact og st (kk T' h' _ X' e' W (Fr.snoc X' N ge) (Arv.set A q S M H G rfl W _ rfl hl))
theorem own_stJ {K : State → Outcome → Prop} {n0 : Nat} (X : Stand p l e R s m args below meth c T locs cells slots) (hx : p.tables.exec = Jvm.exec) (hZ : Z.Warmed39 s.vm) (eT : T.heap = h) (F : Arv Z h a k .long z vs dv) (j : Int32) (x : Int64) (i : Nat) (hj : ¬ j < 0 ∧ j < z) (hi : j.toNatClampNeg = i) (hl : i < vs.length) (vs' : List Value) (hv : vs.set i (.long x) = vs') (N : Fr n0 locs) (ge : n0 ≤ a) {pc : Nat} {Ls : Array Slot} {rest : List Value} (hd : decode c.code pc = .ok (.lastore, 1))
    (kk : ∀ (T' : State) (h' : Heap) (L' : List Loc), Stand p l e R s m args below meth c T' L' cells slots → T'.heap = h' → Wr h h' a i (.long x) → Fr n0 L' → Arv Z h' a k .long z vs' dv → oG p e below K (T'.setTop (mkF m (pc + 1) Ls rest))) : oG p e below K (T.setTop (mkF m pc Ls (.long x :: .int j :: .ref a :: rest))) := by
  obtain ⟨cl, A, q, S, M, H, G⟩ := F
  subst hi; subst hv
  obtain ⟨T', h', X', e', W, st⟩ := stJ X hx hZ eT A (j := j) (inb_of S hj) (g := mkF m pc Ls (.long x :: .int j :: .ref a :: rest)) rfl rfl hd
  exact og st (kk T' h' _ X' e' W (Fr.snoc X' N ge) (Arv.set A q S M H G rfl W _ rfl hl))
theorem own_stB {K : State → Outcome → Prop} {n0 : Nat} (X : Stand p l e R s m args below meth c T locs cells slots) (hx : p.tables.exec = Jvm.exec) (hZ : Z.Warmed39 s.vm) (eT : T.heap = h) (F : Arv Z h a k .byte z vs dv) (j : Int32) (x x' : Int32) (i : Nat) (hj : ¬ j < 0 ∧ j < z) (hi : j.toNatClampNeg = i) (hl : i < vs.length) (hn : nar .byte x = x') (vs' : List Value) (hv : vs.set i (.int x') = vs') (N : Fr n0 locs) (ge : n0 ≤ a) {pc : Nat} {Ls : Array Slot} {rest : List Value} (hd : decode c.code pc = .ok (.bastore, 1))
    (kk : ∀ (T' : State) (h' : Heap) (L' : List Loc), Stand p l e R s m args below meth c T' L' cells slots → T'.heap = h' → Wr h h' a i (.int x') → Fr n0 L' → Arv Z h' a k .byte z vs' dv → oG p e below K (T'.setTop (mkF m (pc + 1) Ls rest))) : oG p e below K (T.setTop (mkF m pc Ls (.int x :: .int j :: .ref a :: rest))) := by
  obtain ⟨cl, A, q, S, M, H, G⟩ := F
  subst hn; subst hi; subst hv
  obtain ⟨T', h', X', e', W, st⟩ := stB X hx hZ eT A (j := j) (inb_of S hj) (g := mkF m pc Ls (.int x :: .int j :: .ref a :: rest)) rfl rfl hd
  exact og st (kk T' h' _ X' e' W (Fr.snoc X' N ge) (Arv.set A q S M H G (fits_nar_byte _) W _ rfl hl))
theorem own_stZ {K : State → Outcome → Prop} {n0 : Nat} (X : Stand p l e R s m args below meth c T locs cells slots) (hx : p.tables.exec = Jvm.exec) (hZ : Z.Warmed39 s.vm) (eT : T.heap = h) (F : Arv Z h a k .boolean z vs dv) (j : Int32) (x x' : Int32) (i : Nat) (hj : ¬ j < 0 ∧ j < z) (hi : j.toNatClampNeg = i) (hl : i < vs.length) (hn : nar .boolean x = x') (vs' : List Value) (hv : vs.set i (.int x') = vs') (N : Fr n0 locs) (ge : n0 ≤ a) {pc : Nat} {Ls : Array Slot} {rest : List Value} (hd : decode c.code pc = .ok (.bastore, 1))
    (kk : ∀ (T' : State) (h' : Heap) (L' : List Loc), Stand p l e R s m args below meth c T' L' cells slots → T'.heap = h' → Wr h h' a i (.int x') → Fr n0 L' → Arv Z h' a k .boolean z vs' dv → oG p e below K (T'.setTop (mkF m (pc + 1) Ls rest))) : oG p e below K (T.setTop (mkF m pc Ls (.int x :: .int j :: .ref a :: rest))) := by
  obtain ⟨cl, A, q, S, M, H, G⟩ := F
  subst hn; subst hi; subst hv
  obtain ⟨T', h', X', e', W, st⟩ := stZ X hx hZ eT A (j := j) (inb_of S hj) (g := mkF m pc Ls (.int x :: .int j :: .ref a :: rest)) rfl rfl hd
  exact og st (kk T' h' _ X' e' W (Fr.snoc X' N ge) (Arv.set A q S M H G (fits_nar_bool _) W _ rfl hl))
theorem own_stC {K : State → Outcome → Prop} {n0 : Nat} (X : Stand p l e R s m args below meth c T locs cells slots) (hx : p.tables.exec = Jvm.exec) (hZ : Z.Warmed39 s.vm) (eT : T.heap = h) (F : Arv Z h a k .char z vs dv) (j : Int32) (x x' : Int32) (i : Nat) (hj : ¬ j < 0 ∧ j < z) (hi : j.toNatClampNeg = i) (hl : i < vs.length) (hn : nar .char x = x') (vs' : List Value) (hv : vs.set i (.int x') = vs') (N : Fr n0 locs) (ge : n0 ≤ a) {pc : Nat} {Ls : Array Slot} {rest : List Value} (hd : decode c.code pc = .ok (.castore, 1))
    (kk : ∀ (T' : State) (h' : Heap) (L' : List Loc), Stand p l e R s m args below meth c T' L' cells slots → T'.heap = h' → Wr h h' a i (.int x') → Fr n0 L' → Arv Z h' a k .char z vs' dv → oG p e below K (T'.setTop (mkF m (pc + 1) Ls rest))) : oG p e below K (T.setTop (mkF m pc Ls (.int x :: .int j :: .ref a :: rest))) := by
  obtain ⟨cl, A, q, S, M, H, G⟩ := F
  subst hn; subst hi; subst hv
  obtain ⟨T', h', X', e', W, st⟩ := stC X hx hZ eT A (j := j) (inb_of S hj) (g := mkF m pc Ls (.int x :: .int j :: .ref a :: rest)) rfl rfl hd
  exact og st (kk T' h' _ X' e' W (Fr.snoc X' N ge) (Arv.set A q S M H G (fits_nar_char _) W _ rfl hl))
theorem own_stS {K : State → Outcome → Prop} {n0 : Nat} (X : Stand p l e R s m args below meth c T locs cells slots) (hx : p.tables.exec = Jvm.exec) (hZ : Z.Warmed39 s.vm) (eT : T.heap = h) (F : Arv Z h a k .short z vs dv) (j : Int32) (x x' : Int32) (i : Nat) (hj : ¬ j < 0 ∧ j < z) (hi : j.toNatClampNeg = i) (hl : i < vs.length) (hn : nar .short x = x') (vs' : List Value) (hv : vs.set i (.int x') = vs') (N : Fr n0 locs) (ge : n0 ≤ a) {pc : Nat} {Ls : Array Slot} {rest : List Value} (hd : decode c.code pc = .ok (.sastore, 1))
    (kk : ∀ (T' : State) (h' : Heap) (L' : List Loc), Stand p l e R s m args below meth c T' L' cells slots → T'.heap = h' → Wr h h' a i (.int x') → Fr n0 L' → Arv Z h' a k .short z vs' dv → oG p e below K (T'.setTop (mkF m (pc + 1) Ls rest))) : oG p e below K (T.setTop (mkF m pc Ls (.int x :: .int j :: .ref a :: rest))) := by
  obtain ⟨cl, A, q, S, M, H, G⟩ := F
  subst hn; subst hi; subst hv
  obtain ⟨T', h', X', e', W, st⟩ := stS X hx hZ eT A (j := j) (inb_of S hj) (g := mkF m pc Ls (.int x :: .int j :: .ref a :: rest)) rfl rfl hd
  exact og st (kk T' h' _ X' e' W (Fr.snoc X' N ge) (Arv.set A q S M H G (fits_nar_short _) W _ rfl hl))
theorem own_stR {K : State → Outcome → Prop} {n0 : Nat} (X : Stand p l e R s m args below meth c T locs cells slots) (hx : p.tables.exec = Jvm.exec) (hZ : Z.Warmed39 s.vm) (eT : T.heap = h) (F : Arv Z h a k ty z vs dv) (j : Int32) (v : Value) (i : Nat) (hj : ¬ j < 0 ∧ j < z) (hi : j.toNatClampNeg = i) (hl : i < vs.length) (sto : ∀ cl : Cell, Arr Z h a cl ty → cl.cls = k → Sto Z h a v) (hty : ty.isReference = true) (vs' : List Value) (hv : vs.set i v = vs') (N : Fr n0 locs) (ge : n0 ≤ a) {pc : Nat} {Ls : Array Slot} {rest : List Value} (hd : decode c.code pc = .ok (.aastore, 1))
    (kk : ∀ (T' : State) (h' : Heap) (L' : List Loc), Stand p l e R s m args below meth c T' L' cells slots → T'.heap = h' → Wr h h' a i v → Fr n0 L' → Arv Z h' a k ty z vs' dv → oG p e below K (T'.setTop (mkF m (pc + 1) Ls rest))) : oG p e below K (T.setTop (mkF m pc Ls (v :: .int j :: .ref a :: rest))) := by
  obtain ⟨cl, A, q, S, M, H, G⟩ := F
  subst hi; subst hv
  have so := sto cl A q
  obtain ⟨T', h', X', e', W, st⟩ := stR X hx hZ eT A (j := j) (inb_of S hj) hty so (g := mkF m pc Ls (v :: .int j :: .ref a :: rest)) rfl rfl hd
  have fv : fits ty v = true := by
    rcases so with rfl | ⟨_, _, _, _, _, _, _, y, _, _, _, _, rfl, _⟩ <;> cases ty <;> first | rfl | cases hty
  exact og st (kk T' h' _ X' e' W (Fr.snoc X' N ge) (Arv.set A q S M H G fv W _ rfl hl))
end Arrays
section Calls
variable {own : String} {index : Nat} {y z : MethodName} {bytes : ByteArray} {maxL : Nat} {ret : Option FieldType} {rm : Room} {W : Nat} {as' : Array Value} {Z : State} {a0 : Array Value} {h : Heap} {K : State → Outcome → Prop} {pc : Nat} {Ls : Array Slot} {argsL rest stk : List Value} {C : String} {b : Addr}
theorem own_cs (X : Stand p l e R s m args below meth c T locs cells slots) (hx : p.tables.exec = Jvm.exec) (hZ : Z.Warmed39 s.vm) (hown : s.vm.findClass own = some m.cls) (w1 : (Cond.methodLink own index y).before a0 Z = true) (w2 : (Cond.static y).before a0 Z = true) (w3 : (Cond.initialized y.cls).before a0 Z = true) (w4 : (Cond.code y bytes maxL ret).before a0 Z = true)
    (hy : y.cls ≠ "java/lang/invoke/MethodHandle" ∧ y.cls ≠ "java/lang/invoke/VarHandle")
    (hM : MetFree l y (head1 [Cond.code y bytes maxL ret] rm) (fun a U => a = as' ∧ Z.Warmed39 U.vm ∧ U.heap = h) (fun _ _ _ _ _ => True) (fun _ U o U' => ∃ v L, o = .returned v ∧ Q v U'.heap L ∧ FrameEnd U o U' L rm.cells rm.slots))
    (hf : rm.frames + 1 ≤ R.frames) (hl : W + (maxL + 11) + rm.locals ≤ R.locals) (hc : cells + rm.cells ≤ R.cells) (hs : slots + rm.slots ≤ R.slots) (eT : T.heap = h) (hsz : Ls.size = c.maxLocals) (hlen : ∀ sig, parseMethodDescriptor y.desc = some sig → argsL.length = sig.parameters.length)
    (hst : stk = argsL.reverse ++ rest) (has : argsL.toArray = as') (hW : (rest.map fun v => v.category).sum ≤ W) (hd : decode c.code pc = .ok (.invokestatic index, 3))
    (k : ∀ (v : Option Value) (T' : State) (L : List Loc), Stand p l e R s m args below meth c T' (locs ++ L) (cells + rm.cells) (slots + rm.slots) → Q v T'.heap L → oG p e below K (T'.setTop (mkF m (pc + 3) Ls (v.toList ++ rest)))) : oG p e below K (T.setTop (mkF m pc Ls stk)) := by
  obtain ⟨v, _, ⟨T', L', k', n'⟩, -, X', ⟨L, hQ, h1, h2, h3⟩, st⟩ := Jvm.LawKit.callS X hx (y := y) hown (mvT hZ w1) (mvT hZ w2) (mvT hZ w3) (mvT hZ w4) hy (backOf (W := W) hM hZ w4 w3 hf hl) (g := mkF m pc Ls stk) rfl hsz (argsL := argsL) (rest := rest) hlen hst (by show 2 * 0 + _ ≤ _; simpa using hW) hd (fun _ _ => ⟨has, eT, hc, hs⟩)
  dsimp only [Pt.U, Pt.locs, Pt.cells, Pt.slots] at X' h1 h2 h3 st hQ
  subst h1 h2 h3
  exact og st (k v T' L X' hQ)
theorem own_cp (X : Stand p l e R s m args below meth c T locs cells slots) (hx : p.tables.exec = Jvm.exec) (hZ : Z.Warmed39 s.vm) (hown : s.vm.findClass own = some m.cls) (hy1 : y.name = "<init>") (w1 : (Cond.methodLink own index y).before a0 Z = true) (w2 : (Cond.instanceMethod y).before a0 Z = true) (w3 : (Cond.initialized y.cls).before a0 Z = true) (w4 : (Cond.code y bytes maxL none).before a0 Z = true)
    (hy : y.cls ≠ "java/lang/invoke/MethodHandle" ∧ y.cls ≠ "java/lang/invoke/VarHandle")
    (hM : MetFree l y (head1 [Cond.code y bytes maxL none] rm) (fun a U => a = as' ∧ Z.Warmed39 U.vm ∧ U.heap = h) (fun _ _ _ _ _ => True) (fun _ U o U' => ∃ v L, o = .returned v ∧ Q v U'.heap L ∧ FrameEnd U o U' L rm.cells rm.slots))
    (hf : rm.frames + 1 ≤ R.frames) (hl : W + (maxL + 11) + rm.locals ≤ R.locals) (hc : cells + rm.cells ≤ R.cells) (hs : slots + rm.slots ≤ R.slots) (eT : T.heap = h) (hsz : Ls.size = c.maxLocals) (hlen : ∀ sig, parseMethodDescriptor y.desc = some sig → argsL.length = sig.parameters.length)
    (hst : stk = argsL.reverse ++ .ref b :: rest) (has : (.ref b :: argsL).toArray = as') (hW : (rest.map fun v => v.category).sum ≤ W) (hd : decode c.code pc = .ok (.invokespecial index, 3))
    (k : ∀ (v : Option Value) (T' : State) (L : List Loc), Stand p l e R s m args below meth c T' (locs ++ L) (cells + rm.cells) (slots + rm.slots) → Q v T'.heap L → oG p e below K (T'.setTop (mkF m (pc + 3) Ls (v.toList ++ rest)))) : oG p e below K (T.setTop (mkF m pc Ls stk)) := by
  obtain ⟨v, _, ⟨T', L', k', n'⟩, -, X', ⟨L, hQ, h1, h2, h3⟩, st⟩ := X.specialBack hx (y := y) hy1 hown (mvT hZ w1) (mvT hZ w2) (mvT hZ w4) hy (backOf (W := W) hM hZ w4 w3 hf hl) (g := mkF m pc Ls stk) rfl hsz (Steps.refl _) (a := b) (argsL := argsL) (rest := rest) hlen hst (by show 2 * 0 + _ ≤ _; simpa using hW) hd (fun _ _ => ⟨has, eT, hc, hs⟩)
  dsimp only [Pt.U, Pt.locs, Pt.cells, Pt.slots] at X' h1 h2 h3 st hQ
  subst h1 h2 h3
  exact own_via st (k v T' L X' hQ)
theorem own_cv (X : Stand p l e R s m args below meth c T locs cells slots) (hx : p.tables.exec = Jvm.exec) (hZ : Z.Warmed39 s.vm) (hown : s.vm.findClass own = some m.cls) (nf : NotFace s y) (w1 : (Cond.methodLink own index y).before a0 Z = true) (w2 : (Cond.declares y).before a0 Z = true) (w5 : (Cond.selects C y z).before a0 Z = true) (w6 : (Cond.instanceMethod z).before a0 Z = true) (w3 : (Cond.initialized z.cls).before a0 Z = true) (w4 : (Cond.code z bytes maxL ret).before a0 Z = true)
    (hy : y.cls ≠ "java/lang/invoke/MethodHandle" ∧ y.cls ≠ "java/lang/invoke/VarHandle") (E : Exa Z h b C)
    (hM : MetFree l z (head1 [Cond.code z bytes maxL ret] rm) (fun a U => a = as' ∧ Z.Warmed39 U.vm ∧ U.heap = h) (fun _ _ _ _ _ => True) (fun _ U o U' => ∃ v L, o = .returned v ∧ Q v U'.heap L ∧ FrameEnd U o U' L rm.cells rm.slots))
    (hf : rm.frames + 1 ≤ R.frames) (hl : W + (maxL + 11) + rm.locals ≤ R.locals) (hc : cells + rm.cells ≤ R.cells) (hs : slots + rm.slots ≤ R.slots) (eT : T.heap = h) (hsz : Ls.size = c.maxLocals) (hlen : ∀ sig, parseMethodDescriptor y.desc = some sig → argsL.length = sig.parameters.length)
    (hst : stk = argsL.reverse ++ .ref b :: rest) (has : (.ref b :: argsL).toArray = as') (hW : (rest.map fun v => v.category).sum ≤ W) (hd : decode c.code pc = .ok (.invokevirtual index, 3))
    (k : ∀ (v : Option Value) (T' : State) (L : List Loc), Stand p l e R s m args below meth c T' (locs ++ L) (cells + rm.cells) (slots + rm.slots) → Q v T'.heap L → oG p e below K (T'.setTop (mkF m (pc + 3) Ls (v.toList ++ rest)))) : oG p e below K (T.setTop (mkF m pc Ls stk)) := by
  obtain ⟨cq, kq, qa, qb, qc⟩ := isOf hZ eT E
  obtain ⟨v, _, ⟨T', L', k', n'⟩, -, X', ⟨L, hQ, h1, h2, h3⟩, st⟩ := X.virtualBack hx (y := y) (z := z) hown (mvT hZ w1) (mvT hZ w2) nf (mvT hZ w5) (mvT hZ w6) hy (backOf (W := W) hM hZ w4 w3 hf hl) qa qc (g := mkF m pc Ls stk) rfl hsz (Steps.refl _) (argsL := argsL) (rest := rest) hlen hst (by show 2 * 0 + _ ≤ _; simpa using hW) hd (fun _ _ => ⟨has, eT, hc, hs⟩)
  dsimp only [Pt.U, Pt.locs, Pt.cells, Pt.slots] at X' h1 h2 h3 st hQ
  subst h1 h2 h3
  exact own_via st (k v T' L X' hQ)
theorem own_cq (X : Stand p l e R s m args below meth c T locs cells slots) (hx : p.tables.exec = Jvm.exec) (hZ : Z.Warmed39 s.vm) (hown : s.vm.findClass own = some m.cls) (w1 : (Cond.methodLink own index y).before a0 Z = true) (w6 : (Cond.instanceMethod y).before a0 Z = true) (w5 : (Cond.selects y.cls y y).before a0 Z = true) (w7 : (Cond.privateMethod y).before a0 Z = true) (w3 : (Cond.initialized y.cls).before a0 Z = true) (w4 : (Cond.code y bytes maxL ret).before a0 Z = true)
    (hy : y.cls ≠ "java/lang/invoke/MethodHandle" ∧ y.cls ≠ "java/lang/invoke/VarHandle") (E : Exa Z h b C)
    (hM : MetFree l y (head1 [Cond.code y bytes maxL ret] rm) (fun a U => a = as' ∧ Z.Warmed39 U.vm ∧ U.heap = h) (fun _ _ _ _ _ => True) (fun _ U o U' => ∃ v L, o = .returned v ∧ Q v U'.heap L ∧ FrameEnd U o U' L rm.cells rm.slots))
    (hf : rm.frames + 1 ≤ R.frames) (hl : W + (maxL + 11) + rm.locals ≤ R.locals) (hc : cells + rm.cells ≤ R.cells) (hs : slots + rm.slots ≤ R.slots) (eT : T.heap = h) (hsz : Ls.size = c.maxLocals) (hlen : ∀ sig, parseMethodDescriptor y.desc = some sig → argsL.length = sig.parameters.length)
    (hst : stk = argsL.reverse ++ .ref b :: rest) (has : (.ref b :: argsL).toArray = as') (hW : (rest.map fun v => v.category).sum ≤ W) (hd : decode c.code pc = .ok (.invokevirtual index, 3))
    (k : ∀ (v : Option Value) (T' : State) (L : List Loc), Stand p l e R s m args below meth c T' (locs ++ L) (cells + rm.cells) (slots + rm.slots) → Q v T'.heap L → oG p e below K (T'.setTop (mkF m (pc + 3) Ls (v.toList ++ rest)))) : oG p e below K (T.setTop (mkF m pc Ls stk)) := by
  obtain ⟨cq, q1, q2⟩ := E.cell
  obtain ⟨v, _, ⟨T', L', k', n'⟩, -, X', ⟨L, hQ, h1, h2, h3⟩, st⟩ := X.privateBack hx (y := y) hown (mvT hZ w1) (mvT hZ w6) (mvT hZ w5) (Cond.privateMethod_at (mvP hZ w7 (args := #[]))) (mvT hZ w4) hy (backOf (W := W) hM hZ w4 w3 hf hl) (g := mkF m pc Ls stk) rfl hsz (Steps.refl _) (a := b) (by rw [eT]; exact q1) q2 (argsL := argsL) (rest := rest) hlen hst (by show 2 * 0 + _ ≤ _; simpa using hW) hd (fun _ _ => ⟨has, eT, hc, hs⟩)
  dsimp only [Pt.U, Pt.locs, Pt.cells, Pt.slots] at X' h1 h2 h3 st hQ
  subst h1 h2 h3
  exact own_via st (k v T' L X' hQ)
theorem own_cu {owner : String} (X : Stand p l e R s m args below meth c T locs cells slots) (hx : p.tables.exec = Jvm.exec) (hZ : Z.Warmed39 s.vm) (hown : s.vm.findClass own = some m.cls) (w1 : (Cond.methodLink own index y).before a0 Z = true) (w8 : (Cond.sameMethod y.cls owner y.name y.desc).before a0 Z = true) (w2 : (Cond.declares ⟨owner, y.name, y.desc⟩).before a0 Z = true) (w5 : (Cond.selects C y z).before a0 Z = true) (w6 : (Cond.instanceMethod z).before a0 Z = true) (w3 : (Cond.initialized z.cls).before a0 Z = true) (w4 : (Cond.code z bytes maxL ret).before a0 Z = true)
    (hy : owner ≠ "java/lang/invoke/MethodHandle" ∧ owner ≠ "java/lang/invoke/VarHandle") (E : Exa Z h b C)
    (hM : MetFree l z (head1 [Cond.code z bytes maxL ret] rm) (fun a U => a = as' ∧ Z.Warmed39 U.vm ∧ U.heap = h) (fun _ _ _ _ _ => True) (fun _ U o U' => ∃ v L, o = .returned v ∧ Q v U'.heap L ∧ FrameEnd U o U' L rm.cells rm.slots))
    (hf : rm.frames + 1 ≤ R.frames) (hl : W + (maxL + 11) + rm.locals ≤ R.locals) (hc : cells + rm.cells ≤ R.cells) (hs : slots + rm.slots ≤ R.slots) (eT : T.heap = h) (hsz : Ls.size = c.maxLocals) (hlen : ∀ sig, parseMethodDescriptor y.desc = some sig → argsL.length = sig.parameters.length)
    (hst : stk = argsL.reverse ++ .ref b :: rest) (has : (.ref b :: argsL).toArray = as') (hW : (rest.map fun v => v.category).sum ≤ W) (hd : decode c.code pc = .ok (.invokevirtual index, 3))
    (k : ∀ (v : Option Value) (T' : State) (L : List Loc), Stand p l e R s m args below meth c T' (locs ++ L) (cells + rm.cells) (slots + rm.slots) → Q v T'.heap L → oG p e below K (T'.setTop (mkF m (pc + 3) Ls (v.toList ++ rest)))) : oG p e below K (T.setTop (mkF m pc Ls stk)) := by
  obtain ⟨cq, kq, qa, qb, qc⟩ := isOf hZ eT E
  obtain ⟨v, _, ⟨T', L', k', n'⟩, -, X', ⟨L, hQ, h1, h2, h3⟩, st⟩ := X.virtualBackUp hx (x := y) (y := z) (owner := owner) hown (mvT hZ w1) (mvT hZ w8) (mvT hZ w2) hy (mvT hZ w5) (mvT hZ w6) (backOf (W := W) hM hZ w4 w3 hf hl) qa qc (g := mkF m pc Ls stk) rfl hsz (Steps.refl _) (argsL := argsL) (rest := rest) hlen hst (by show 2 * 0 + _ ≤ _; simpa using hW) hd (fun _ _ => ⟨has, eT, hc, hs⟩)
  dsimp only [Pt.U, Pt.locs, Pt.cells, Pt.slots] at X' h1 h2 h3 st hQ
  subst h1 h2 h3
  exact own_via st (k v T' L X' hQ)
end Calls
theorem own_fld_eq {Z : State} {h : Heap} {a : Addr} {C n d : String} {v w : Value} (F : Fld Z h a C n d v) (G : Fld Z h a C n d w) : v = w := Classical.byContradiction fun q => Fld.ne F G q rfl
theorem own_nsroot {Z : State} {a0 : Array Value} {O K : String} {n : Nat} (w : (Cond.noSuperclass O).before a0 Z = true) (wk : (Cond.instantiable K n).before a0 Z = true) (hn : O ≠ K) : NS Z O K := by
  obtain ⟨c, k, h1, h2, h3, -, -⟩ := Cond.noSuperclass_spec w
  obtain ⟨t, kt, g1, -⟩ := Cond.instantiable_spec wk
  have ne := ids_ne h1 g1 hn
  refine ⟨c, t, h1, g1, fun fuel => ?_⟩
  cases fuel with
  | zero => rfl
  | succ f => simp [Vm.isSubclassAux, ne, h2, h3]
theorem own_nsno {Z : State} {a0 : Array Value} {C S K : String} {n : Nat} (w : (Cond.superclass C S).before a0 Z = true) (wk : (Cond.instantiable K n).before a0 Z = true) (nn : NS Z C K) (hn : C ≠ K) : ∃ c t, Z.vm.findClass C = some c ∧ Z.vm.findClass K = some t ∧ Z.vm.assignable c t = false := by
  obtain ⟨c, t, h0, g0, n3⟩ := nn
  obtain ⟨p, k, kp, h1, h2, h3, h4, h5, -, h7⟩ := Cond.superclass_spec h0 w
  obtain ⟨t', kt, g1, g2, g5, g6, -⟩ := Cond.instantiable_spec wk
  cases g0.symm.trans g1
  have g7 : kt.isInterface = false := by simp only [Bool.or_eq_false_iff] at g6; exact g6.1
  have ne := ids_ne h0 g0 hn
  refine ⟨c, t, h0, g0, ?_⟩
  show Z.vm.assignableAux (255 + 1) c t = false
  simp [Vm.assignableAux, ne, h2, g2, h5, g5, g7, Vm.isSubclass, n3]
theorem own_arv_ne {Z : State} {h : Heap} {a b : Addr} {k1 k2 : ClassId} {t1 t2 : FieldType} {z1 z2 : Int32} {v1 v2 : List Value} {d1 d2 : Value} (A : Arv Z h a k1 t1 z1 v1 d1) (B : Arv Z h b k2 t2 z2 v2 d2) (q : ¬ z1 = z2) : a ≠ b := by
  refine arv_ne A B (Or.inl fun e => q ?_)
  obtain ⟨_, -, -, -, n1, -⟩ := A
  obtain ⟨_, -, -, -, n2, -⟩ := B
  simp only [Int32.lt_iff_toInt_lt, Int32.reduceToInt, Int32.toNatClampNeg] at n1 n2 e
  apply Int32.toInt_inj.mp
  omega
theorem own_ns_exa {Z : State} {h : Heap} {a : Addr} {C : String} (F : Exa Z h a C) : ∀ cell : Cell, h[a]? = some cell → cell.vm.isStatics = false := fun cell hc => by
  obtain ⟨c, _, h1, -, -, h4, -⟩ := F; cases h1.symm.trans hc; exact h4
theorem own_ns_arv {Z : State} {h : Heap} {a : Addr} {k : ClassId} {ty : FieldType} {z : Int32} {vs : List Value} {dv : Value} (F : Arv Z h a k ty z vs dv) : ∀ cell : Cell, h[a]? = some cell → cell.vm.isStatics = false := fun cell hc => by
  obtain ⟨c, A, -⟩ := F; cases A.1.symm.trans hc; exact A.plain
theorem own_sta_keep {Z : State} {h h' : Heap} {C f d : String} {v : Value} {ws : List Addr} (F : Sta Z h C f d v) (K : Keep h h' ws) (q : ∀ x ∈ ws, ∀ cell : Cell, h[x]? = some cell → cell.vm.isStatics = false) : Sta Z h' C f d v := by
  obtain ⟨cf, i, k, fl, st, cell, h1, h2, h3, h4, h5, h6, h7⟩ := F
  exact ⟨cf, i, k, fl, st, cell, h1, h2, h3, h4, K.2.1 _ _ h5 (fun hm => by rw [q _ hm _ h5] at h6; cases h6), h6, h7⟩
section Wide
variable {vm0 : Vm} {Z : State} {a0 : Array Value} {EL : List (String × Nat)} {h h0 : Heap}
def own_KW (Z : State) (EL : List (String × Nat)) (s : State) (Q : Option Value → Heap → List Loc → Prop) (k n : Nat) (t : State) (o : Outcome) : Prop := ∃ v L, o = .returned v ∧ Q v t.heap L ∧ CHr Z EL s.vm s.heap t.vm t.heap ∧ ReturnedEndW s o t L k n
theorem own_endW (X : Stand p l e R (s.setVm vm0) m args below meth c T locs cells slots) {v : Option Value} (hlk : meth.locks = false) (hv : meth.sig.returnType = none → v = none) {k0 : Nat} (hS : s.Since vm0 k0) (hk0 : k0 ≤ h.size) (hZ : Z.Warmed39 vm0) (hEL : EW Z a0 EL) (hh : s.heap = h0) (eT : T.heap = h) (A : CHr Z EL s.vm h0 vm0 h) (hk : cells ≤ k) (hn : slots ≤ n) (hQ : Q v T.heap locs) {S : State}
    (st : ∀ fs, (∀ (f : JFrame) (acts : List Action), f.method = m → f.locked = none → f.entered = [] → (doReturn e (T.setTop f) acts v).1 = T.setFrames fs) → Steps p.tables e below S (T.setFrames fs)) : oG p e below (own_KW Z EL s Q k n) S := by
  subst hh eT
  obtain ⟨fs, hr, hrun, hended, hW⟩ := X.leaveW hS hk0 hv hlk
  exact ⟨_, _, st fs hr, hrun, hended, v, locs, rfl, hQ, (show CHr Z EL s.vm s.heap T.vm T.heap from A.trans (CHv.at X hZ hEL A.1)), hW.1, hW.2.1, hW.2.2.1, hW.2.2.2.mono hk hn⟩
theorem own_ret0W (X : Stand p l e R (s.setVm vm0) m args below meth c T locs cells slots) (hx : p.tables.exec = Jvm.exec) (hlk : meth.locks = false) (hret : meth.sig.returnType = none) {k0 : Nat} (hS : s.Since vm0 k0) (hk0 : k0 ≤ h.size) (hZ : Z.Warmed39 vm0) (hEL : EW Z a0 EL) (hh : s.heap = h0) (eT : T.heap = h) (A : CHr Z EL s.vm h0 vm0 h) {pc : Nat} {Ls : Array Slot} (hd : decode c.code pc = .ok (.return_, 1)) (hk : cells ≤ k) (hn : slots ≤ n) (hQ : Q none T.heap locs) :
    oG p e below (own_KW Z EL s Q k n) (T.setTop (mkF m pc Ls [])) := own_endW X hlk (fun _ => rfl) hS hk0 hZ hEL hh eT A hk hn hQ fun _ hr => X.returnOut hx hret hd hr
theorem own_retNW (X : Stand p l e R (s.setVm vm0) m args below meth c T locs cells slots) (hx : p.tables.exec = Jvm.exec) {t : FieldType} (hlk : meth.locks = false) (hret : meth.sig.returnType = some t) {k0 : Nat} (hS : s.Since vm0 k0) (hk0 : k0 ≤ h.size) (hZ : Z.Warmed39 vm0) (hEL : EW Z a0 EL) (hh : s.heap = h0) (eT : T.heap = h) (A : CHr Z EL s.vm h0 vm0 h) (ht : t = .boolean ∨ t = .byte ∨ t = .char ∨ t = .short) {pc : Nat} {Ls : Array Slot} {z : Int32} {rest : List Value} (hd : decode c.code pc = .ok (.ireturn, 1)) (hk : cells ≤ k) (hn : slots ≤ n) (hQ : Q (some (.int (nar t z))) T.heap locs) :
    oG p e below (own_KW Z EL s Q k n) (T.setTop (mkF m pc Ls (.int z :: rest))) := own_endW X hlk (fun h => by rw [hret] at h; cases h) hS hk0 hZ hEL hh eT A hk hn hQ fun _ hr => retN X hx hret ht hd hr
theorem own_retIW (X : Stand p l e R (s.setVm vm0) m args below meth c T locs cells slots) (hx : p.tables.exec = Jvm.exec) (hlk : meth.locks = false) (hret : meth.sig.returnType = some .int) {k0 : Nat} (hS : s.Since vm0 k0) (hk0 : k0 ≤ h.size) (hZ : Z.Warmed39 vm0) (hEL : EW Z a0 EL) (hh : s.heap = h0) (eT : T.heap = h) (A : CHr Z EL s.vm h0 vm0 h) {pc : Nat} {Ls : Array Slot} {z : Int32} {rest : List Value} (hd : decode c.code pc = .ok (.ireturn, 1)) (hk : cells ≤ k) (hn : slots ≤ n) (hQ : Q (some (.int z)) T.heap locs) :
    oG p e below (own_KW Z EL s Q k n) (T.setTop (mkF m pc Ls (.int z :: rest))) := own_endW X hlk (fun h => by rw [hret] at h; cases h) hS hk0 hZ hEL hh eT A hk hn hQ fun _ hr => retOut X hx hret rfl (Or.inl ⟨rfl, Or.inl rfl, z, rfl⟩) hd hr
theorem own_retJW (X : Stand p l e R (s.setVm vm0) m args below meth c T locs cells slots) (hx : p.tables.exec = Jvm.exec) (hlk : meth.locks = false) (hret : meth.sig.returnType = some .long) {k0 : Nat} (hS : s.Since vm0 k0) (hk0 : k0 ≤ h.size) (hZ : Z.Warmed39 vm0) (hEL : EW Z a0 EL) (hh : s.heap = h0) (eT : T.heap = h) (A : CHr Z EL s.vm h0 vm0 h) {pc : Nat} {Ls : Array Slot} {z : Int64} {rest : List Value} (hd : decode c.code pc = .ok (.lreturn, 1)) (hk : cells ≤ k) (hn : slots ≤ n) (hQ : Q (some (.long z)) T.heap locs) :
    oG p e below (own_KW Z EL s Q k n) (T.setTop (mkF m pc Ls (.long z :: rest))) := own_endW X hlk (fun h => by rw [hret] at h; cases h) hS hk0 hZ hEL hh eT A hk hn hQ fun _ hr => retOut X hx hret rfl (Or.inr (Or.inl ⟨rfl, rfl, z, rfl⟩)) hd hr
theorem own_retRW (X : Stand p l e R (s.setVm vm0) m args below meth c T locs cells slots) (hx : p.tables.exec = Jvm.exec) {t : FieldType} (hlk : meth.locks = false) (hret : meth.sig.returnType = some t) {k0 : Nat} (hS : s.Since vm0 k0) (hk0 : k0 ≤ h.size) (hZ : Z.Warmed39 vm0) (hEL : EW Z a0 EL) (hh : s.heap = h0) (eT : T.heap = h) (A : CHr Z EL s.vm h0 vm0 h) (ht : t.isReference = true) {pc : Nat} {Ls : Array Slot} {w : Value} {rest : List Value} (hw : w.isRef = true) (hd : decode c.code pc = .ok (.areturn, 1)) (hk : cells ≤ k) (hn : slots ≤ n) (hQ : Q (some w) T.heap locs) :
    oG p e below (own_KW Z EL s Q k n) (T.setTop (mkF m pc Ls (w :: rest))) := own_endW X hlk (fun h => by rw [hret] at h; cases h) hS hk0 hZ hEL hh eT A hk hn hQ fun _ hr => retOut X hx hret (by cases t <;> first | rfl | cases ht) (Or.inr (Or.inr (Or.inr (Or.inr ⟨rfl, ht, hw⟩)))) hd hr
variable {own : String} {index : Nat} {y z : MethodName} {bytes : ByteArray} {maxL : Nat} {ret : Option FieldType} {rm : Room} {W : Nat} {as' : Array Value} {K : State → Outcome → Prop} {pc : Nat} {Ls : Array Slot} {argsL rest stk : List Value} {C : String} {b : Addr}
theorem own_csW (X : Stand p l e R (s.setVm vm0) m args below meth c T locs cells slots) (hx : p.tables.exec = Jvm.exec) (hZ : Z.Warmed39 vm0) (hown : vm0.findClass own = some m.cls) (w1 : (Cond.methodLink own index y).before a0 Z = true) (w2 : (Cond.static y).before a0 Z = true) (w3 : (Cond.initialized y.cls).before a0 Z = true) (w4 : (Cond.code y bytes maxL ret).before a0 Z = true)
    (hy : y.cls ≠ "java/lang/invoke/MethodHandle" ∧ y.cls ≠ "java/lang/invoke/VarHandle")
    (hM : MetFree l y (head1 [Cond.code y bytes maxL ret] rm) (fun a U => a = as' ∧ Z.Warmed39 U.vm ∧ U.heap = h ∧ CHv Z EL U.vm h) (fun _ _ _ _ _ => True) (fun _ U o U' => ∃ v L, o = .returned v ∧ Q v U'.heap L ∧ CHr Z EL U.vm U.heap U'.vm U'.heap ∧ ReturnedEndW U o U' L rm.cells rm.slots))
    (hf : rm.frames + 1 ≤ R.frames) (hl : W + (maxL + 11) + rm.locals ≤ R.locals) (hc : cells + rm.cells ≤ R.cells) (hs : slots + rm.slots ≤ R.slots) (eT : T.heap = h) (hEL : EW Z a0 EL) (H : CHv Z EL vm0 h) {k0 : Nat} (hS : s.Since vm0 k0) (hk : k0 ≤ h.size) (hsz : Ls.size = c.maxLocals) (hlen : ∀ sig, parseMethodDescriptor y.desc = some sig → argsL.length = sig.parameters.length)
    (hst : stk = argsL.reverse ++ rest) (has : argsL.toArray = as') (hW : (rest.map fun v => v.category).sum ≤ W) (hd : decode c.code pc = .ok (.invokestatic index, 3))
    (k : ∀ (v : Option Value) (T' : State) (L : List Loc), Stand p l e R (s.setVm T'.vm) m args below meth c T' (locs ++ L) (cells + rm.cells) (slots + rm.slots) → Q v T'.heap L → CHr Z EL vm0 h T'.vm T'.heap → s.Since T'.vm T'.heap.size → Z.Warmed39 T'.vm → T'.vm.findClass own = some m.cls → oG p e below K (T'.setTop (mkF m (pc + 3) Ls (v.toList ++ rest)))) : oG p e below K (T.setTop (mkF m pc Ls stk)) := by
  obtain ⟨v, _, ⟨T', L', k', n'⟩, -, X', hS', hg, ⟨L, hQ, h1, h2, h3, hA⟩, st⟩ := callSS X hx (y := y) hown (mvT (s := s.setVm vm0) hZ w1) (mvT (s := s.setVm vm0) hZ w2) (mvT (s := s.setVm vm0) hZ w3) (mvT (s := s.setVm vm0) hZ w4) hy (backOfSH (W := W) hM hZ w4 w3 hf hl hEL H) (g := mkF m pc Ls stk) rfl hsz (argsL := argsL) (rest := rest) hlen hst (by show 2 * 0 + _ ≤ _; simpa using hW) hd (fun _ _ => ⟨has, eT, hc, hs⟩)
  dsimp only [Pt.U, Pt.locs, Pt.cells, Pt.slots] at X' h1 h2 h3 st hQ hS' hg hA
  subst h1 h2 h3
  subst eT
  exact own_via st (k v T' L X' hQ hA (foldS hS hk hS' hg) (State.Warmed39.trans (t := s.setVm vm0) hZ hS'.1) (by rw [hS'.1.alike.findClass]; exact hown))
theorem own_cpW (X : Stand p l e R (s.setVm vm0) m args below meth c T locs cells slots) (hx : p.tables.exec = Jvm.exec) (hZ : Z.Warmed39 vm0) (hown : vm0.findClass own = some m.cls) (hy1 : y.name = "<init>") (w1 : (Cond.methodLink own index y).before a0 Z = true) (w2 : (Cond.instanceMethod y).before a0 Z = true) (w3 : (Cond.initialized y.cls).before a0 Z = true) (w4 : (Cond.code y bytes maxL none).before a0 Z = true)
    (hy : y.cls ≠ "java/lang/invoke/MethodHandle" ∧ y.cls ≠ "java/lang/invoke/VarHandle")
    (hM : MetFree l y (head1 [Cond.code y bytes maxL none] rm) (fun a U => a = as' ∧ Z.Warmed39 U.vm ∧ U.heap = h ∧ CHv Z EL U.vm h) (fun _ _ _ _ _ => True) (fun _ U o U' => ∃ v L, o = .returned v ∧ Q v U'.heap L ∧ CHr Z EL U.vm U.heap U'.vm U'.heap ∧ ReturnedEndW U o U' L rm.cells rm.slots))
    (hf : rm.frames + 1 ≤ R.frames) (hl : W + (maxL + 11) + rm.locals ≤ R.locals) (hc : cells + rm.cells ≤ R.cells) (hs : slots + rm.slots ≤ R.slots) (eT : T.heap = h) (hEL : EW Z a0 EL) (H : CHv Z EL vm0 h) {k0 : Nat} (hS : s.Since vm0 k0) (hk : k0 ≤ h.size) (hsz : Ls.size = c.maxLocals) (hlen : ∀ sig, parseMethodDescriptor y.desc = some sig → argsL.length = sig.parameters.length)
    (hst : stk = argsL.reverse ++ .ref b :: rest) (has : (.ref b :: argsL).toArray = as') (hW : (rest.map fun v => v.category).sum ≤ W) (hd : decode c.code pc = .ok (.invokespecial index, 3))
    (k : ∀ (v : Option Value) (T' : State) (L : List Loc), Stand p l e R (s.setVm T'.vm) m args below meth c T' (locs ++ L) (cells + rm.cells) (slots + rm.slots) → Q v T'.heap L → CHr Z EL vm0 h T'.vm T'.heap → s.Since T'.vm T'.heap.size → Z.Warmed39 T'.vm → T'.vm.findClass own = some m.cls → oG p e below K (T'.setTop (mkF m (pc + 3) Ls (v.toList ++ rest)))) : oG p e below K (T.setTop (mkF m pc Ls stk)) := by
  obtain ⟨v, _, ⟨T', L', k', n'⟩, -, X', hS', hg, ⟨L, hQ, h1, h2, h3, hA⟩, st⟩ := X.specialBackS hx (y := y) hy1 hown (mvT (s := s.setVm vm0) hZ w1) (mvT (s := s.setVm vm0) hZ w2) (mvT (s := s.setVm vm0) hZ w4) hy (backOfSH (W := W) hM hZ w4 w3 hf hl hEL H) (g := mkF m pc Ls stk) rfl hsz (Steps.refl _) (a := b) (argsL := argsL) (rest := rest) hlen hst (by show 2 * 0 + _ ≤ _; simpa using hW) hd (fun _ _ => ⟨has, eT, hc, hs⟩)
  dsimp only [Pt.U, Pt.locs, Pt.cells, Pt.slots] at X' h1 h2 h3 st hQ hS' hg hA
  subst h1 h2 h3
  subst eT
  exact own_via st (k v T' L X' hQ hA (foldS hS hk hS' hg) (State.Warmed39.trans (t := s.setVm vm0) hZ hS'.1) (by rw [hS'.1.alike.findClass]; exact hown))
theorem own_cvW (X : Stand p l e R (s.setVm vm0) m args below meth c T locs cells slots) (hx : p.tables.exec = Jvm.exec) (hZ : Z.Warmed39 vm0) (hown : vm0.findClass own = some m.cls) (nf : NotFace (s.setVm vm0) y) (w1 : (Cond.methodLink own index y).before a0 Z = true) (w2 : (Cond.declares y).before a0 Z = true) (w5 : (Cond.selects C y z).before a0 Z = true) (w6 : (Cond.instanceMethod z).before a0 Z = true) (w3 : (Cond.initialized z.cls).before a0 Z = true) (w4 : (Cond.code z bytes maxL ret).before a0 Z = true)
    (hy : y.cls ≠ "java/lang/invoke/MethodHandle" ∧ y.cls ≠ "java/lang/invoke/VarHandle") (E : Exa Z h b C)
    (hM : MetFree l z (head1 [Cond.code z bytes maxL ret] rm) (fun a U => a = as' ∧ Z.Warmed39 U.vm ∧ U.heap = h ∧ CHv Z EL U.vm h) (fun _ _ _ _ _ => True) (fun _ U o U' => ∃ v L, o = .returned v ∧ Q v U'.heap L ∧ CHr Z EL U.vm U.heap U'.vm U'.heap ∧ ReturnedEndW U o U' L rm.cells rm.slots))
    (hf : rm.frames + 1 ≤ R.frames) (hl : W + (maxL + 11) + rm.locals ≤ R.locals) (hc : cells + rm.cells ≤ R.cells) (hs : slots + rm.slots ≤ R.slots) (eT : T.heap = h) (hEL : EW Z a0 EL) (H : CHv Z EL vm0 h) {k0 : Nat} (hS : s.Since vm0 k0) (hk : k0 ≤ h.size) (hsz : Ls.size = c.maxLocals) (hlen : ∀ sig, parseMethodDescriptor y.desc = some sig → argsL.length = sig.parameters.length)
    (hst : stk = argsL.reverse ++ .ref b :: rest) (has : (.ref b :: argsL).toArray = as') (hW : (rest.map fun v => v.category).sum ≤ W) (hd : decode c.code pc = .ok (.invokevirtual index, 3))
    (k : ∀ (v : Option Value) (T' : State) (L : List Loc), Stand p l e R (s.setVm T'.vm) m args below meth c T' (locs ++ L) (cells + rm.cells) (slots + rm.slots) → Q v T'.heap L → CHr Z EL vm0 h T'.vm T'.heap → s.Since T'.vm T'.heap.size → Z.Warmed39 T'.vm → T'.vm.findClass own = some m.cls → oG p e below K (T'.setTop (mkF m (pc + 3) Ls (v.toList ++ rest)))) : oG p e below K (T.setTop (mkF m pc Ls stk)) := by
  obtain ⟨cq, kq, qa, qb, qc⟩ := isOf (s := s.setVm vm0) hZ eT E
  obtain ⟨v, _, ⟨T', L', k', n'⟩, -, X', hS', hg, ⟨L, hQ, h1, h2, h3, hA⟩, st⟩ := X.virtualBackS hx (y := y) (z := z) hown (mvT (s := s.setVm vm0) hZ w1) (mvT (s := s.setVm vm0) hZ w2) nf (mvT (s := s.setVm vm0) hZ w5) (mvT (s := s.setVm vm0) hZ w6) hy (backOfSH (W := W) hM hZ w4 w3 hf hl hEL H) qa qc (g := mkF m pc Ls stk) rfl hsz (Steps.refl _) (argsL := argsL) (rest := rest) hlen hst (by show 2 * 0 + _ ≤ _; simpa using hW) hd (fun _ _ => ⟨has, eT, hc, hs⟩)
  dsimp only [Pt.U, Pt.locs, Pt.cells, Pt.slots] at X' h1 h2 h3 st hQ hS' hg hA
  subst h1 h2 h3
  subst eT
  exact own_via st (k v T' L X' hQ hA (foldS hS hk hS' hg) (State.Warmed39.trans (t := s.setVm vm0) hZ hS'.1) (by rw [hS'.1.alike.findClass]; exact hown))
/-- a String whose array isn't laid yet is nobody's constant -/
theorem own_safe_null {vm : Vm} {a : Addr} (hal : Z.vm.Alike vm) (E : Exa Z h a "java/lang/String") (F : Fld Z h a "java/lang/String" "value" "[B" .null) : Safe Z EL vm h a := fun B => by
  obtain ⟨p, -, u, a', -, q, rfl, G, r⟩ := B
  obtain ⟨cS, ⟨⟨s1, -, -, ⟨cv, kv, iv, s4, -⟩, -, -, -, s8, -⟩, -⟩, -, hB, -⟩ := id G
  have hd := G.hd
  rcases r with rfl | rfl
  · obtain ⟨cell, cf, k, i, f, h1, h2, -, -, -, -, h7⟩ := F
    cases h1.symm.trans s1
    obtain ⟨k', e3, -⟩ := State.fieldFound?_setVm (s := Z) hal h2
    have e4 := (show (Wst Z vm h).fieldFound? _ _ _ = _ from e3).symm.trans s4
    simp only [Option.some.injEq, Prod.mk.injEq] at e4
    rw [e4.2.2.2, s8] at h7
    cases h7
  · obtain ⟨cell, k, h1, h2, -⟩ := E
    cases h1.symm.trans hd
    have h3 : vm.findClass "[B" = some q.SA.cls := hB
    rw [hal.findClass] at h3
    obtain ⟨k1, a1, a2⟩ := Vm.findClass_spec h2
    obtain ⟨k2, b1, b2⟩ := Vm.findClass_spec h3
    cases a1.symm.trans b1
    exact absurd (a2.symm.trans b2) (by decide)
end Wide
end Own
end Jvm.RoadKit
/- laws to paste: Road.lenW, Road.chN (cut by pick.py; bodies as the Statement names them) -/
namespace Jvm.Pilot.@@N@@
namespace StrChars
open Jvm Sem ClassFile Op Lib Jvm.Stand Jvm.Free.XT Jvm.Free.ALB Jvm.Free.JM Jvm.Free
open Jvm.Lib.Cold (StaticIs)
/-- the byte that i2b leaves of a char -/
def lo8 (x : Int32) : Int32 := x.toInt8.toInt32
def U16 : String := "java/lang/StringUTF16"
namespace Cmp5
def yN : MethodName := ⟨"java/lang/StringUTF16", "compress", "([CI[BII)I"⟩
abbrev yB : ByteArray := jdk_52_method_21_code
end Cmp5
namespace Cmp3
def yN : MethodName := ⟨"java/lang/StringUTF16", "compress", "([CII)[B"⟩
abbrev yB : ByteArray := jdk_52_method_16_code
end Cmp3
namespace CodL
def yN : MethodName := ⟨"java/lang/StringUTF16", "coderFromArrayLen", "([BI)B"⟩
abbrev yB : ByteArray := jdk_52_method_15_code
end CodL
namespace New4
def yN : MethodName := ⟨"java/lang/String", "<init>", "([CIILjava/lang/Void;)V"⟩
abbrev yB : ByteArray := jdk_42_method_149_code
end New4
namespace New1
def yN : MethodName := ⟨"java/lang/String", "<init>", "([C)V"⟩
abbrev yB : ByteArray := jdk_42_method_3_code
end New1
/-- the byte, read back as charAt reads it, is the char -/
theorem lo8_mask {x : Int32} (h0 : ¬ x < 0) (h1 : ¬ 255 < x) : lo8 x &&& 255 = x := by
  have t : ∀ k : Fin 256, lo8 (Int32.ofNat k.val) &&& 255 = Int32.ofNat k.val := by decide +kernel
  rw [Int32.lt_iff_toInt_lt] at h0 h1
  have e0 : (0 : Int32).toInt = 0 := rfl
  have e1 : (255 : Int32).toInt = 255 := rfl
  obtain ⟨k, hk⟩ : ∃ k : Nat, x.toInt = k := ⟨x.toInt.toNat, by omega⟩
  have hx : x = Int32.ofNat k := Int32.toInt_inj.mp (by rw [hk, Int32.toInt_ofNat_small (by omega)])
  rw [hx]
  exact t ⟨k, by omega⟩
end StrChars
namespace StrChars.Road
open Jvm Sem ClassFile Op Lib Jvm.Stand Jvm.Free Jvm.Free.XT
open Jvm.Lib.Cold (StaticIs)
abbrev ST : String := "java/lang/String"
/-- every table word that New1's law asks, flat -/
abbrev words : List Jvm.Cond := [.code New1.yN New1.yB 2 none, .initialized ST, .methodLink ST 27 New4.yN, .instanceMethod New4.yN,
  .code New4.yN New4.yB 6 none, .fieldLink ST 38 ST "COMPACT_STRINGS" "Z", .laysFinal ST ST "value" "[B", .fieldLink ST 9 ST "value" "[B", .laysFinal ST ST "coder" "B", .fieldLink ST 15 ST "coder" "B",
  .methodLink ST 1 Lib.objectInit, .instanceMethod Lib.objectInit, .code Lib.objectInit ⟨#[0xb1]⟩ 1 none, .methodLink ST 177 Cmp3.yN, .static Cmp3.yN, .methodLink ST 47 CodL.yN, .static CodL.yN,
  .code Cmp3.yN Cmp3.yB 6 (some (.array .byte)), .initialized U16, .arrayClass .byte, .methodLink U16 115 Cmp5.yN, .static Cmp5.yN, .code Cmp5.yN Cmp5.yB 7 (some .int), .code CodL.yN CodL.yB 2 (some .byte)]
end StrChars.Road
namespace StrChars
open Jvm Sem ClassFile Op Lib Jvm.Stand Jvm.Free.XT Jvm.Free.ALB Jvm.Free.JM Jvm.Free
open Jvm.Lib.Cold (StaticIs)
def hi8 (x : Int32) : Int32 := lo8 (x >>> ((8 : Int32) &&& 31))
/-- what StringUTF16.getChar makes of two bytes -/
def pairCh (u v : Int32) : Int32 := (((u &&& 255) <<< ((0 : Int32) &&& 31)) ||| ((v &&& 255) <<< ((8 : Int32) &&& 31))).toUInt32.toUInt16.toUInt32.toInt32
theorem shr0 (c : Int32) : c >>> ((0 : Int32) &&& 31) = c := by
  have e : ((0 : Int32) &&& 31) = 0 := by decide
  rw [e]
  apply Int32.toBitVec_inj.mp
  rw [Int32.toBitVec_shiftRight]
  have e1 : ((0 : Int32).toBitVec.smod 32) = 0#32 := by decide
  rw [e1, BitVec.sshiftRight_eq']
  exact BitVec.sshiftRight_zero
theorem lo8_and (x : Int32) : (lo8 x &&& 255).toBitVec.toNat = x.toBitVec.toNat % 256 := by
  have h : (lo8 x).toBitVec = (x.toBitVec.signExtend 8).signExtend 32 := by rw [lo8, Int8.toBitVec_toInt32, Int32.toBitVec_toInt8]
  rw [Int32.toBitVec_and, BitVec.toNat_and, h]
  have e : ((x.toBitVec.signExtend 8).signExtend 32).toNat % 256 = x.toBitVec.toNat % 256 := by
    rw [BitVec.toNat_signExtend]
    have hlt := x.toBitVec.isLt
    simp only [BitVec.toNat_setWidth, BitVec.toNat_signExtend]
    split <;> split <;> omega
  rw [← e]
  exact Nat.and_two_pow_sub_one_eq_mod _ 8
theorem pair_says {c : Int32} (h0 : ¬ c < 0) (h1 : ¬ 65535 < c) : pairCh (lo8 c) (hi8 c) = c := by
  rw [Int32.lt_iff_toInt_lt] at h0 h1
  have e0 : (0 : Int32).toInt = 0 := rfl
  have e1 : (65535 : Int32).toInt = 65535 := rfl
  have hc : c.toInt = c.toBitVec.toNat := by
    have := c.toBitVec.isLt
    have e : c.toInt = c.toBitVec.toInt := rfl
    rw [e] at h0 h1
    rw [e]
    rw [BitVec.toInt_eq_toNat_cond] at h0 h1 ⊢
    split at h0 <;> split <;> omega
  have hn : c.toBitVec.toNat < 65536 := by omega
  have a1 := lo8_and c
  have a2 : (hi8 c &&& 255).toBitVec.toNat = c.toBitVec.toNat / 256 := by
    rw [hi8, lo8_and]
    have e : ((8 : Int32) &&& 31) = 8 := by decide
    rw [e, Int32.toBitVec_shiftRight]
    have e2 : ((8 : Int32).toBitVec.smod 32) = 8#32 := by decide
    rw [e2, BitVec.sshiftRight_eq', BitVec.toNat_sshiftRight_of_msb_false (by rw [BitVec.msb_eq_false_iff_two_mul_lt]; omega)]
    show c.toBitVec.toNat >>> 8 % 256 = _
    rw [Nat.shiftRight_eq_div_pow]
    omega
  unfold pairCh
  apply Int32.toBitVec_inj.mp
  apply BitVec.eq_of_toNat_eq
  have f0 : ((0 : Int32) &&& 31) = 0 := by decide
  have f8 : ((8 : Int32) &&& 31) = 8 := by decide
  rw [f0, f8]
  have g : (((lo8 c &&& 255) <<< (0 : Int32)) ||| ((hi8 c &&& 255) <<< (8 : Int32))).toBitVec.toNat = c.toBitVec.toNat := by
    rw [Int32.toBitVec_or, Int32.toBitVec_shiftLeft, Int32.toBitVec_shiftLeft]
    have s0 : ((0 : Int32).toBitVec.smod 32) = 0#32 := by decide
    have s8 : ((8 : Int32).toBitVec.smod 32) = 8#32 := by decide
    rw [s0, s8, BitVec.toNat_or]
    simp only [BitVec.shiftLeft_eq', BitVec.toNat_shiftLeft, a1, a2]
    show (c.toBitVec.toNat % 256) <<< 0 % 2 ^ 32 ||| (c.toBitVec.toNat / 256) <<< 8 % 2 ^ 32 = _
    rw [Nat.shiftLeft_zero, Nat.mod_eq_of_lt (show c.toBitVec.toNat % 256 < 2 ^ 32 by omega), Nat.mod_eq_of_lt (show (c.toBitVec.toNat / 256) <<< 8 < 2 ^ 32 by rw [Nat.shiftLeft_eq]; omega), Nat.or_comm, ← Nat.shiftLeft_add_eq_or_of_lt (by omega), Nat.shiftLeft_eq]
    omega
  show BitVec.toNat (((((lo8 c &&& 255) <<< (0 : Int32)) ||| ((hi8 c &&& 255) <<< (8 : Int32))).toBitVec.setWidth 16).setWidth 32) = _
  rw [BitVec.toNat_setWidth, BitVec.toNat_setWidth, g]
  omega
end StrChars
namespace StrChars
open Jvm Sem ClassFile Op Lib Jvm.Stand Jvm.Free.XT Jvm.Free.ALB Jvm.Free.JM Jvm.Free
open Jvm.Lib.Cold (StaticIs)
theorem shr1 {n : Nat} (h : 2 * n < 2 ^ 31) : Int32.ofNat (2 * n) >>> ((1 : Int32) &&& 31) = Int32.ofNat n := by
  have e : ((1 : Int32) &&& 31) = 1 := by decide
  rw [e]
  apply Int32.toBitVec_inj.mp
  rw [Int32.toBitVec_shiftRight]
  have e1 : ((1 : Int32).toBitVec.smod 32) = 1#32 := by decide
  have hm : (BitVec.ofNat 32 (2 * n)).toNat = 2 * n := by rw [BitVec.toNat_ofNat, Nat.mod_eq_of_lt (by omega)]
  rw [e1, BitVec.sshiftRight_eq']
  apply BitVec.eq_of_toNat_eq
  show ((BitVec.ofNat 32 (2 * n)).sshiftRight 1).toNat = (BitVec.ofNat 32 n).toNat
  rw [BitVec.toNat_sshiftRight_of_msb_false (by rw [BitVec.msb_eq_false_iff_two_mul_lt, hm]; omega), hm, BitVec.toNat_ofNat, Nat.shiftRight_eq_div_pow]
  omega
/-- charAt's cast of a byte read back -/
def chr8 (u : Int32) : Int32 := (u &&& 255).toUInt32.toUInt16.toUInt32.toInt32
theorem chr8_lo8 {c : Int32} (h0 : ¬ c < 0) (h1 : ¬ 255 < c) : chr8 (lo8 c) = c := by
  have t : ∀ k : Fin 256, (Int32.ofNat k.val).toUInt32.toUInt16.toUInt32.toInt32 = Int32.ofNat k.val := by decide +kernel
  unfold chr8
  rw [lo8_mask h0 h1]
  rw [Int32.lt_iff_toInt_lt] at h0 h1
  have e0 : (0 : Int32).toInt = 0 := rfl
  have e1 : (255 : Int32).toInt = 255 := rfl
  obtain ⟨k, hk⟩ : ∃ k : Nat, c.toInt = k := ⟨c.toInt.toNat, by omega⟩
  have hx : c = Int32.ofNat k := Int32.toInt_inj.mp (by rw [hk, Int32.toInt_ofNat_small (by omega)])
  rw [hx]
  exact t ⟨k, by omega⟩
theorem narrow_ch {c : Int32} (h0 : ¬ c < 0) (h1 : ¬ 65535 < c) : narrow .char (.int c) = .int c := by
  have q : narrow .char (.int (pairCh (lo8 c) (hi8 c))) = .int (pairCh (lo8 c) (hi8 c)) := narrow_c _
  rwa [pair_says h0 h1] at q
/-- the array's cell V codes the n chars f 0 .. f (n - 1) by the coder cd, as the JDK does: coder 1 just where some char is above 255 -/
def Cod (cd : Int32) (n : Nat) (f : Nat → Int32) (V : Cell) : Prop := (cd = 0 ∧ V.slots.size = n ∧ ∀ j, j < n → V.slots[j]? = some (.int (lo8 (f j))) ∧ ¬ 255 < f j) ∨ (cd = 1 ∧ V.slots.size = 2 * n ∧ (∀ j, j < n → V.slots[2 * j]? = some (.int (lo8 (f j))) ∧ V.slots[2 * j + 1]? = some (.int (hi8 (f j)))) ∧ ∃ j, j < n ∧ 255 < f j)
theorem Cod.cd {cd : Int32} {n : Nat} {f : Nat → Int32} {V : Cell} (h : Cod cd n f V) : cd = 0 ∨ cd = 1 := h.imp (fun q => q.1) fun q => q.1
theorem Cod.len {cd : Int32} {n : Nat} {f : Nat → Int32} {V : Cell} (h : Cod cd n f V) (hs : V.slots.size < 2 ^ 31) : Int32.ofNat V.slots.size >>> (cd &&& 31) = Int32.ofNat n := by
  rcases h with ⟨rfl, h, -⟩ | ⟨rfl, h, -⟩
  · rw [shr0, h]
  · rw [h, shr1 (by omega)]
/-- **x is a String of the n chars f 0 .. f (n - 1)**, Latin-1 or UTF-16; its array at t has the cell V -/
def Txt (x t : Addr) (V : Cell) (cd : Int32) (n : Nat) (f : Nat → Int32) (U : State) : Prop := Exact "java/lang/String" x U ∧ Has x "java/lang/String" "value" "[B" (.ref t) U ∧ Has x "java/lang/String" "coder" "B" (.int cd) U ∧ XT.Arr .byte t V U ∧ Cod cd n f V ∧ ∀ j, j < n → ¬ f j < 0 ∧ ¬ 65535 < f j
theorem Txt.mv {x t : Addr} {V : Cell} {cd : Int32} {n : Nat} {f : Nat → Int32} {U U' : State} (h : Txt x t V cd n f U) (hal : U.vm.Alike U'.vm) (hh : U'.heap = U.heap) : Txt x t V cd n f U' := ⟨h.1.mv hal hh, h.2.1.mv hal hh, h.2.2.1.mv hal hh, h.2.2.2.1.mv hal hh, h.2.2.2.2⟩
namespace Cdr
def yN : MethodName := ⟨"java/lang/String", "coder", "()B"⟩
abbrev yB : ByteArray := jdk_42_method_152_code
theorem d0 : decode yB 0 = .ok (.getstatic 38, 3) := by decide +kernel
theorem d3 : decode yB 3 = .ok (.ifCond (.eq) 10, 3) := by decide +kernel
theorem d6 : decode yB 6 = .ok (.aload_n 0, 1) := by decide +kernel
theorem d7 : decode yB 7 = .ok (.getfield 15, 3) := by decide +kernel
theorem d10 : decode yB 10 = .ok (.goto 4, 3) := by decide +kernel
theorem d14 : decode yB 14 = .ok (.ireturn, 1) := by decide +kernel
def site : List Cond := [.fieldLink "java/lang/String" 38 "java/lang/String" "COMPACT_STRINGS" "Z", .fieldLink "java/lang/String" 15 "java/lang/String" "coder" "B"]
def tab : Cond := tabOf yN yB 1 (some .byte) site
def P (x : Addr) (cd z : Int32) (args : Array Value) (s : State) : Prop := args = #[.ref x] ∧ Has x "java/lang/String" "coder" "B" (.int cd) s ∧ (cd = 0 ∨ cd = 1) ∧ StaticIs s "java/lang/String" "COMPACT_STRINGS" "Z" (.int z) ∧ ¬ z = 0
def E (cd : Int32) (r : Option Value) (s u : State) : Prop := XT.PureE (some (.int cd)) r s u
theorem law (l : Launch) (x : Addr) (cd z : Int32) : Law l yN 1 0 0 0 yB 1 (some .byte) site (P x cd z) (E cd) [] 0 0 := by
  refine Law.of_walk (plainFor_of_name (by decide +kernel)) (by decide +kernel) (by decide +kernel) (by decide) (fun _ _ h => by rw [h.1]; rfl) (fun _ U U' hal hh h => ⟨h.1, h.2.1.mv hal hh, h.2.2.1, h.2.2.2.1.there hal hh, h.2.2.2.2⟩) (fun r U U' V V' h1 hal h2 h => XT.PureE.mv r U U' V V' h1 hal h2 h) ?_
  intro p e s m args below meth c s₁ X0 hexec hbytes hml hret hlk hnm hown hh0 W hP
  obtain ⟨rfl, hx, hc, s1, hz⟩ := hP
  have c1 : Steps p.tables e below (s₁.setTop (entryFrame m #[.ref x] 1)) (s₁.setTop (mkF m 0 #[.val (.ref x)] [])) := entry rfl
  obtain ⟨T2, X2, q2, st2⟩ := X0.sget hexec hown (wk W (.fieldLink "java/lang/String" 38 "java/lang/String" "COMPACT_STRINGS" "Z")) s1 (fun _ _ h => by rw [hh0]; exact h) (g := (mkF m 0 #[.val (.ref x)] [])) rfl (hb hbytes d0)
  have hh2 := q2.trans hh0
  have c3 : Steps p.tables e below (s₁.setTop (entryFrame m #[.ref x] 1)) (T2.setTop (mkF m 7 #[.val (.ref x)] [.ref x])) := (c1.trans (st2 _ (Steps.refl _))).trans (by
    refine XS.ifNo X2.here hexec rfl (hb hbytes d3) rfl (i0_eq_f hz) ?_
    refine XS.aloadN X2.here hexec rfl (hb hbytes d6) rfl rfl ?_
    exact Steps.refl _)
  obtain ⟨T4, X4, q4, st4⟩ := X2.hget hexec hown (wk W (.fieldLink "java/lang/String" 15 "java/lang/String" "coder" "B")) (hx.mv X2.warmed.alike hh2) (g := (mkF m 7 #[.val (.ref x)] [.ref x])) rfl (rest := []) rfl (hb hbytes d7)
  have c5 : Steps p.tables e below (s₁.setTop (entryFrame m #[.ref x] 1)) (T4.setTop (mkF m 14 #[.val (.ref x)] [.int cd])) := (c3.trans (st4 _ (Steps.refl _))).trans (by
    refine XS.goto X4.here hexec rfl (pc0 := 10) rfl (hb hbytes d10) (by decide) rfl ?_
    exact Steps.refl _)
  exact ⟨T4, some (.int cd), _, _, _, X4, rfl, rfl, rfl, (fun h => by cases h), ⟨rfl, q4.trans hh2⟩, fun fs hl => c5.trans (X4.ireturnOut hexec hret (by rcases hc with rfl | rfl <;> rfl) (Or.inr (Or.inr (Or.inl rfl))) (hb hbytes d14) hl)⟩
end Cdr
namespace Len
def yN : MethodName := ⟨"java/lang/String", "length", "()I"⟩
abbrev yB : ByteArray := jdk_42_method_54_code
theorem d0 : decode yB 0 = .ok (.aload_n 0, 1) := by decide +kernel
theorem d1 : decode yB 1 = .ok (.getfield 9, 3) := by decide +kernel
theorem d4 : decode yB 4 = .ok (.arraylength, 1) := by decide +kernel
theorem d5 : decode yB 5 = .ok (.aload_n 0, 1) := by decide +kernel
theorem d6 : decode yB 6 = .ok (.invokevirtual 335, 3) := by decide +kernel
theorem d9 : decode yB 9 = .ok (.ishr, 1) := by decide +kernel
theorem d10 : decode yB 10 = .ok (.ireturn, 1) := by decide +kernel
def site : List Cond := [.fieldLink "java/lang/String" 9 "java/lang/String" "value" "[B", Cdr.tab] ++ virtW "java/lang/String" 335 "java/lang/String" Cdr.yN Cdr.yN
def tab : Cond := tabOf yN yB 1 (some .int) site
def P (x t : Addr) (V : Cell) (cd : Int32) (n : Nat) (f : Nat → Int32) (z : Int32) (args : Array Value) (s : State) : Prop := args = #[.ref x] ∧ Txt x t V cd n f s ∧ StaticIs s "java/lang/String" "COMPACT_STRINGS" "Z" (.int z) ∧ ¬ z = 0
def E (n : Nat) (r : Option Value) (s u : State) : Prop := XT.PureE (some (.int (Int32.ofNat n))) r s u
/-- length() of a String of n chars, in either coding -/
theorem law (l : Launch) (x t : Addr) (V : Cell) (cd : Int32) (n : Nat) (f : Nat → Int32) (z : Int32) : Law l yN 1 0 1 13 yB 1 (some .int) site (P x t V cd n f z) (E n) [] 0 0 := by
  refine Law.of_walk (plainFor_of_name (by decide +kernel)) (by decide +kernel) (by decide +kernel) (by decide) (fun _ _ h => by rw [h.1]; rfl) (fun _ U U' hal hh h => ⟨h.1, h.2.1.mv hal hh, h.2.2.1.there hal hh, h.2.2.2⟩) (fun r U U' V V' h1 hal h2 h => XT.PureE.mv r U U' V V' h1 hal h2 h) ?_
  intro p e s m args below meth c s₁ X0 hexec hbytes hml hret hlk hnm hown hh0 W hP
  obtain ⟨rfl, hx, s1, hz⟩ := hP
  have v31 := hx.2.2.2.1.2.2.2
  have c1 : Steps p.tables e below (s₁.setTop (entryFrame m #[.ref x] 1)) (s₁.setTop (mkF m 1 #[.val (.ref x)] [.ref x])) := Steps.trans (entry rfl) (by
    show Steps p.tables e below (s₁.setTop (mkF m 0 #[.val (.ref x)] [])) _
    refine XS.aloadN X0.here hexec rfl (hb hbytes d0) rfl rfl ?_
    exact Steps.refl _)
  obtain ⟨T2, X2, q2, st2⟩ := X0.hget hexec hown (wk W (.fieldLink "java/lang/String" 9 "java/lang/String" "value" "[B")) (hx.mv X0.warmed.alike hh0).2.1 (g := (mkF m 1 #[.val (.ref x)] [.ref x])) rfl (rest := []) rfl (hb hbytes d1)
  have hh2 := q2.trans hh0
  have hx2 := hx.mv X2.warmed.alike hh2
  have c3 : Steps p.tables e below (s₁.setTop (entryFrame m #[.ref x] 1)) (T2.setTop (mkF m 6 #[.val (.ref x)] [.ref x, .int (Int32.ofNat V.slots.size)])) := (c1.trans (st2 _ (Steps.refl _))).trans (by
    refine X2.alen hexec hx2.2.2.2.1 rfl rfl (hb hbytes d4) ?_
    refine XS.aloadN X2.here hexec rfl (hb hbytes d5) rfl rfl ?_
    exact Steps.refl _)
  obtain ⟨v4, T4, X4, E4, g4⟩ := X2.callV hexec (Cdr.law l x cd z) hown (wks W (virtW "java/lang/String" 335 "java/lang/String" Cdr.yN Cdr.yN)) rfl (by decide) (wk W Cdr.tab) (W := 1) (Nat.le_of_ble_eq_true rfl) (Nat.le_of_ble_eq_true rfl) (Nat.le_refl _) (Nat.le_refl _) (hx2.1.fc X2.warmed.alike) hx2.1.is (g := (mkF m 6 #[.val (.ref x)] [.ref x, .int (Int32.ofNat V.slots.size)])) rfl (by rw [hml]; rfl) c3 (argsL := []) (rest := [.int (Int32.ofNat V.slots.size)]) rfl rfl (by show 2 * 0 + (1 + 0) ≤ _; decide) (hb hbytes d6) (⟨rfl, hx2.2.2.1, hx.2.2.2.2.1.cd, s1.there X2.warmed.alike hh2, hz⟩)
  obtain ⟨rfl, q4⟩ := E4
  have c5 : Steps p.tables e below (s₁.setTop (entryFrame m #[.ref x] 1)) (T4.setTop (mkF m 10 #[.val (.ref x)] [.int (Int32.ofNat V.slots.size >>> (cd &&& 31))])) := Steps.trans g4 (by
    refine ishr X4.here hexec rfl (hb hbytes d9) rfl ?_
    exact Steps.refl _)
  rw [hx.2.2.2.2.1.len v31] at c5
  exact ⟨T4, some (.int (Int32.ofNat n)), _, _, _, X4, rfl, rfl, rfl, (fun h => by cases h), ⟨rfl, q4.trans hh2⟩, fun fs hl => c5.trans (X4.ireturnOut hexec hret rfl (Or.inl rfl) (hb hbytes d10) hl)⟩
theorem pays {l : Launch} {R : Room} {p : Program} {e : Env} {below : List Frame} {s : State} {sargs : Array Value} {len W : Nat} (x t : Addr) (V : Cell) (cd : Int32) (n : Nat) (f : Nat → Int32) (z : Int32) (htab : tab.before sargs s = true) (hfr : 2 ≤ R.frames) (hlo : W + 25 ≤ R.locals) :
    Back l R p e below s sargs yN len W (fun A₁ a₁ => A₁.cells + 0 ≤ R.cells ∧ A₁.slots + 0 ≤ R.slots ∧ P x t V cd n f z a₁ A₁.U) (fun A₁ _ v₁ B₁ => E n v₁ A₁.U B₁.U ∧ B₁.locs = A₁.locs ++ [] ∧ B₁.cells = A₁.cells + 0 ∧ B₁.slots = A₁.slots + 0) :=
  (law l x t V cd n f z).pays htab hfr (by omega)
end Len
namespace IsL
def yN : MethodName := ⟨"java/lang/String", "isLatin1", "()Z"⟩
abbrev yB : ByteArray := jdk_42_method_154_code
theorem d0 : decode yB 0 = .ok (.getstatic 38, 3) := by decide +kernel
theorem d3 : decode yB 3 = .ok (.ifCond (.eq) 14, 3) := by decide +kernel
theorem d6 : decode yB 6 = .ok (.aload_n 0, 1) := by decide +kernel
theorem d7 : decode yB 7 = .ok (.getfield 15, 3) := by decide +kernel
theorem d10 : decode yB 10 = .ok (.ifCond (.ne) 7, 3) := by decide +kernel
theorem d13 : decode yB 13 = .ok (.iconst 1, 1) := by decide +kernel
theorem d14 : decode yB 14 = .ok (.goto 4, 3) := by decide +kernel
theorem d17 : decode yB 17 = .ok (.iconst 0, 1) := by decide +kernel
theorem d18 : decode yB 18 = .ok (.ireturn, 1) := by decide +kernel
def site : List Cond := [.fieldLink "java/lang/String" 38 "java/lang/String" "COMPACT_STRINGS" "Z", .fieldLink "java/lang/String" 15 "java/lang/String" "coder" "B"]
def tab : Cond := tabOf yN yB 1 (some .boolean) site
def P (x : Addr) (cd z : Int32) (args : Array Value) (s : State) : Prop := args = #[.ref x] ∧ Has x "java/lang/String" "coder" "B" (.int cd) s ∧ (cd = 0 ∨ cd = 1) ∧ StaticIs s "java/lang/String" "COMPACT_STRINGS" "Z" (.int z) ∧ ¬ z = 0
def E (cd : Int32) (r : Option Value) (s u : State) : Prop := XT.PureE (some (.int (1 - cd))) r s u
theorem law (l : Launch) (x : Addr) (cd z : Int32) : Law l yN 1 0 0 0 yB 1 (some .boolean) site (P x cd z) (E cd) [] 0 0 := by
  refine Law.of_walk (plainFor_of_name (by decide +kernel)) (by decide +kernel) (by decide +kernel) (by decide) (fun _ _ h => by rw [h.1]; rfl) (fun _ U U' hal hh h => ⟨h.1, h.2.1.mv hal hh, h.2.2.1, h.2.2.2.1.there hal hh, h.2.2.2.2⟩) (fun r U U' V V' h1 hal h2 h => XT.PureE.mv r U U' V V' h1 hal h2 h) ?_
  intro p e s m args below meth c s₁ X0 hexec hbytes hml hret hlk hnm hown hh0 W hP
  obtain ⟨rfl, hx, hc, s1, hz⟩ := hP
  have c1 : Steps p.tables e below (s₁.setTop (entryFrame m #[.ref x] 1)) (s₁.setTop (mkF m 0 #[.val (.ref x)] [])) := entry rfl
  obtain ⟨T2, X2, q2, st2⟩ := X0.sget hexec hown (wk W (.fieldLink "java/lang/String" 38 "java/lang/String" "COMPACT_STRINGS" "Z")) s1 (fun _ _ h => by rw [hh0]; exact h) (g := (mkF m 0 #[.val (.ref x)] [])) rfl (hb hbytes d0)
  have hh2 := q2.trans hh0
  have c3 : Steps p.tables e below (s₁.setTop (entryFrame m #[.ref x] 1)) (T2.setTop (mkF m 7 #[.val (.ref x)] [.ref x])) := (c1.trans (st2 _ (Steps.refl _))).trans (by
    refine XS.ifNo X2.here hexec rfl (hb hbytes d3) rfl (i0_eq_f hz) ?_
    refine XS.aloadN X2.here hexec rfl (hb hbytes d6) rfl rfl ?_
    exact Steps.refl _)
  obtain ⟨T4, X4, q4, st4⟩ := X2.hget hexec hown (wk W (.fieldLink "java/lang/String" 15 "java/lang/String" "coder" "B")) (hx.mv X2.warmed.alike hh2) (g := (mkF m 7 #[.val (.ref x)] [.ref x])) rfl (rest := []) rfl (hb hbytes d7)
  have c5 : Steps p.tables e below (s₁.setTop (entryFrame m #[.ref x] 1)) (T4.setTop (mkF m 10 #[.val (.ref x)] [.int cd])) := c3.trans (st4 _ (Steps.refl _))
  have c6 : Steps p.tables e below (s₁.setTop (entryFrame m #[.ref x] 1)) (T4.setTop (mkF m 18 #[.val (.ref x)] [.int (1 - cd)])) := by
    rcases hc with rfl | rfl
    · exact c5.trans (by
        refine XS.ifNo X4.here hexec rfl (hb hbytes d10) rfl (i0_ne_f rfl) ?_
        refine iconstV X4.here hexec rfl 1 (hb hbytes d13) (by decide) ?_
        refine XS.goto X4.here hexec rfl (pc0 := 14) rfl (hb hbytes d14) (by decide) rfl ?_
        exact Steps.refl _)
    · exact c5.trans (by
        refine XS.ifYes X4.here hexec rfl (pc0 := 10) rfl (hb hbytes d10) rfl (i0_ne_t (by decide)) (by decide) rfl ?_
        refine iconstV X4.here hexec rfl 0 (hb hbytes d17) (by decide) ?_
        exact Steps.refl _)
  exact ⟨T4, some (.int (1 - cd)), _, _, _, X4, rfl, rfl, rfl, (fun h => by cases h), ⟨rfl, q4.trans hh2⟩, fun fs hl => c6.trans (X4.ireturnOut hexec hret (by rcases hc with rfl | rfl <;> rfl) (Or.inr (Or.inl rfl)) (hb hbytes d18) hl)⟩
end IsL
namespace LChA
def yN : MethodName := ⟨"java/lang/StringLatin1", "charAt", "([BI)C"⟩
abbrev yB : ByteArray := jdk_43_method_2_code
theorem d0 : decode yB 0 = .ok (.iload_n 1, 1) := by decide +kernel
theorem d1 : decode yB 1 = .ok (.aload_n 0, 1) := by decide +kernel
theorem d2 : decode yB 2 = .ok (.arraylength, 1) := by decide +kernel
theorem d3 : decode yB 3 = .ok (.invokestatic 9, 3) := by decide +kernel
theorem d6 : decode yB 6 = .ok (.aload_n 0, 1) := by decide +kernel
theorem d7 : decode yB 7 = .ok (.iload_n 1, 1) := by decide +kernel
theorem d8 : decode yB 8 = .ok (.baload, 1) := by decide +kernel
theorem d9 : decode yB 9 = .ok (.sipush 255, 3) := by decide +kernel
theorem d12 : decode yB 12 = .ok (.iand, 1) := by decide +kernel
theorem d13 : decode yB 13 = .ok (.i2c, 1) := by decide +kernel
theorem d14 : decode yB 14 = .ok (.ireturn, 1) := by decide +kernel
def site : List Cond := [JO.Str_checkIndex.tab] ++ staticW "java/lang/StringLatin1" 9 JO.Str_checkIndex.yN
def tab : Cond := tabOf yN yB 2 (some .char) site
def P (t : Addr) (V : Cell) (i : Nat) (u : Int32) (fm : Value) (args : Array Value) (s : State) : Prop := args = #[.ref t, .int (Int32.ofNat i)] ∧ XT.Arr .byte t V s ∧ V.slots[i]? = some (.int u) ∧ (StaticIs s "jdk/internal/util/Preconditions" "SIOOBE_FORMATTER" "Ljava/util/function/BiFunction;" fm ∧ fm.isRef = true)
def E (u : Int32) (r : Option Value) (s w : State) : Prop := XT.PureE (some (.int (chr8 u))) r s w
theorem law (l : Launch) (t : Addr) (V : Cell) (i : Nat) (u : Int32) (fm : Value) : Law l yN 2 2 2 27 yB 2 (some .char) site (P t V i u fm) (E u) [] 0 0 := by
  refine Law.of_walk (plainFor_of_name (by decide +kernel)) (by decide +kernel) (by decide +kernel) (by decide) (fun _ _ h => by rw [h.1]; rfl) (fun _ U U' hal hh h => ⟨h.1, h.2.1.mv hal hh, h.2.2.1, h.2.2.2.1.there hal hh, h.2.2.2.2⟩) (fun r U U' V V' h1 hal h2 h => XT.PureE.mv r U U' V V' h1 hal h2 h) ?_
  intro p e s m args below meth c s₁ X0 hexec hbytes hml hret hlk hnm hown hh0 W hP
  obtain ⟨rfl, hV, hu, s1, rf⟩ := hP
  have v31 := hV.2.2.2
  have hi : i < V.slots.size := (Array.getElem?_eq_some_iff.mp hu).1
  have c1 : Steps p.tables e below (s₁.setTop (entryFrame m #[.ref t, .int (Int32.ofNat i)] 2)) (s₁.setTop (mkF m 0 #[.val (.ref t), .val (.int (Int32.ofNat i))] [])) := entry rfl
  have c2 : Steps p.tables e below (s₁.setTop (entryFrame m #[.ref t, .int (Int32.ofNat i)] 2)) (s₁.setTop (mkF m 3 #[.val (.ref t), .val (.int (Int32.ofNat i))] [.int (Int32.ofNat V.slots.size), .int (Int32.ofNat i)])) := c1.trans (by
    refine XS.iloadN X0.here hexec rfl (hb hbytes d0) rfl ?_
    refine XS.aloadN X0.here hexec rfl (hb hbytes d1) rfl rfl ?_
    refine X0.alen hexec (hV.mv X0.warmed.alike hh0) rfl rfl (hb hbytes d2) ?_
    exact Steps.refl _)
  obtain ⟨v3, T3, X3, E3, g3⟩ := X0.callS hexec (JO.Str_checkIndex.law l (Int32.ofNat i) (Int32.ofNat V.slots.size) fm) hown (wks W (staticW "java/lang/StringLatin1" 9 JO.Str_checkIndex.yN)) (wk W JO.Str_checkIndex.tab) (W := 0) (Nat.le_of_ble_eq_true rfl) (Nat.le_of_ble_eq_true rfl) (Nat.le_refl _) (Nat.le_refl _) (g := (mkF m 3 #[.val (.ref t), .val (.int (Int32.ofNat i))] [.int (Int32.ofNat V.slots.size), .int (Int32.ofNat i)])) rfl (by rw [hml]; rfl) c2 (argsL := [.int (Int32.ofNat i), .int (Int32.ofNat V.slots.size)]) (rest := []) rfl rfl (by show 2 * 0 + 0 ≤ _; decide) (hb hbytes d3) (⟨rfl, rf, s1.there X0.warmed.alike hh0, Int32.ofNat_not_neg (by omega), lt32 v31 hi⟩)
  obtain ⟨rfl, q3⟩ := E3
  have hh3 := q3.trans hh0
  have c4 : Steps p.tables e below (s₁.setTop (entryFrame m #[.ref t, .int (Int32.ofNat i)] 2)) (T3.setTop (mkF m 14 #[.val (.ref t), .val (.int (Int32.ofNat i))] [.int (chr8 u)])) := Steps.trans g3 (by
    refine XS.aloadN X3.here hexec rfl (hb hbytes d6) rfl rfl ?_
    refine XS.iloadN X3.here hexec rfl (hb hbytes d7) rfl ?_
    refine X3.aget hexec (hV.mv X3.warmed.alike hh3) rfl hu rfl rfl (hb hbytes d8) ?_
    refine sipushV X3.here hexec rfl 255 (hb hbytes d9) (by decide) ?_
    refine XS.iand X3.here hexec rfl (hb hbytes d12) rfl ?_
    refine i2c X3.here hexec rfl (hb hbytes d13) rfl ?_
    exact Steps.refl _)
  exact ⟨T3, some (.int (chr8 u)), _, _, _, X3, rfl, rfl, rfl, (fun h => by cases h), ⟨rfl, hh3⟩, fun fs hl => c4.trans (X3.ireturnOut hexec hret (narrow_c _) (Or.inr (Or.inr (Or.inr (Or.inl rfl)))) (hb hbytes d14) hl)⟩
end LChA
end StrChars
namespace StrChars.Road
open Jvm Sem ClassFile Op Lib Jvm.Stand Jvm.Free Jvm.Free.XT
open Jvm.Lib.Cold (StaticIs)
theorem consq {a : Array Value} {s : State} {c : Jvm.Cond} {L : List Jvm.Cond} (h0 : c.before a s = true) (h : ∀ w ∈ L, w.before a s = true) : ∀ w ∈ c :: L, w.before a s = true := fun w hw => (List.mem_cons.mp hw).elim (fun e => e ▸ h0) (h w)
/-- the words of String.length(), either coding -/
abbrev wordsLen : List Jvm.Cond := [.code Len.yN Len.yB 1 (some .int), .initialized ST, .fieldLink ST 9 ST "value" "[B", .fieldLink ST 38 ST "COMPACT_STRINGS" "Z", .fieldLink ST 15 ST "coder" "B", .code Cdr.yN Cdr.yB 1 (some .byte), .methodLink ST 335 Cdr.yN, .declares Cdr.yN, .selects ST Cdr.yN Cdr.yN, .instanceMethod Cdr.yN]
theorem tabLen_of {a : Array Value} {s : State} (h : ∀ w ∈ wordsLen, w.before a s = true) : Len.tab.before a s = true := by
  have hc : Cdr.tab.before a s = true := unparts (wk h (.code Cdr.yN Cdr.yB 1 (some .byte))) (wks h (.initialized Cdr.yN.cls :: Cdr.site))
  have q := consq hc h
  exact unparts (wk q (.code Len.yN Len.yB 1 (some .int))) (wks q (.initialized Len.yN.cls :: Len.site))
theorem movedLen {Z s : State} {a0 args : Array Value} (hZ : Z.Warmed39 s.vm) (hw : ∀ d ∈ wordsLen, d.before a0 Z = true) : ∀ d ∈ wordsLen, d.before args s = true := fun d hd => by
  have q := hw d hd
  have t : ∀ d ∈ wordsLen, d = .arrayClass .byte ∨ (d.onTables && d.keepsFace) = true := by decide +kernel
  rcases t d hd with rfl | t
  · exact RoadKit.mvA hZ q
  · exact RoadKit.mv hZ q t
/-- the bytes of the chars cs, low before high -/
def wideBytes : List Int32 → List Value
  | [] => []
  | c :: cs => .int (lo8 c) :: .int (hi8 c) :: wideBytes cs
theorem wide_lo (d : Value) : ∀ (cs : List Int32) (j : Nat), j < cs.length → (wideBytes cs).getD (2 * j) d = .int (lo8 (cs.getD j 0))
  | [], j, h => absurd h (Nat.not_lt_zero j)
  | c :: cs, 0, _ => rfl
  | c :: cs, j + 1, h => by
    have q := wide_lo d cs j (by simpa using h)
    rw [show 2 * (j + 1) = 2 * j + 1 + 1 from by omega]
    simpa [wideBytes] using q
theorem wide_hi (d : Value) : ∀ (cs : List Int32) (j : Nat), j < cs.length → (wideBytes cs).getD (2 * j + 1) d = .int (hi8 (cs.getD j 0))
  | [], j, h => absurd h (Nat.not_lt_zero j)
  | c :: cs, 0, _ => rfl
  | c :: cs, j + 1, h => by
    have q := wide_hi d cs j (by simpa using h)
    rw [show 2 * (j + 1) + 1 = 2 * j + 1 + 1 + 1 from by omega]
    simpa [wideBytes] using q
theorem low_at (d : Value) (cs : List Int32) (j : Nat) (h : j < cs.length) : (cs.map fun c => Value.int (lo8 c)).getD j d = .int (lo8 (cs.getD j 0)) := by
  simp [List.getD_eq_getElem?_getD, h]
/-- an array of N2 bytes vs codes the chars cs by the coder cd -/
def CodA (cs : List Int32) (cd N2 : Int32) (vs : List Value) : Prop := (cd = 0 ∧ N2 = Int32.ofNat cs.length ∧ vs = (cs.map fun c => Value.int (lo8 c)) ∧ ∀ c ∈ cs, ¬ 255 < c) ∨ (cd = 1 ∧ N2 = Int32.ofNat (2 * cs.length) ∧ vs = wideBytes cs ∧ ∃ c ∈ cs, 255 < c)
theorem CodA.cod {cs : List Int32} {cd N2 : Int32} {vs : List Value} {V : Cell} (h : CodA cs cd N2 vs) (hn : 2 * cs.length < 2 ^ 31) (hs : V.slots.size = N2.toNatClampNeg) (hv : RoadKit.Has V vs (.int 0)) : Cod cd cs.length (fun j => cs.getD j 0) V := by
  rcases h with ⟨rfl, rfl, rfl, h⟩ | ⟨rfl, rfl, rfl, c, hc, hw⟩
  · rw [n32 (by omega)] at hs
    exact Or.inl ⟨rfl, hs, fun j hj => ⟨by rw [hv j (by omega), low_at _ _ _ hj], by
      have e : cs.getD j 0 = cs[j] := by simp [List.getD_eq_getElem?_getD, hj]
      show ¬ 255 < cs.getD j 0
      rw [e]; exact h _ (List.getElem_mem _)⟩⟩
  · rw [n32 (by omega)] at hs
    obtain ⟨j, hj, rfl⟩ := List.getElem_of_mem hc
    exact Or.inr ⟨rfl, hs, fun j hj => ⟨by rw [hv _ (by omega), wide_lo _ _ _ hj], by rw [hv _ (by omega), wide_hi _ _ _ hj]⟩, j, hj, by
      have e : cs.getD j 0 = cs[j] := by simp [List.getD_eq_getElem?_getD, hj]
      show 255 < cs.getD j 0
      rw [e]; exact hw⟩
/-- an object of exactly java/lang/String, its two fields found: as the laws ask it -/
theorem strObj {Z U : State} {a0 : Array Value} {kI : Nat} (wi : (Jvm.Cond.instantiable ST kI).before a0 Z = true) (al : Z.vm.Alike U.vm) {x : Addr} {v0 c0 : Value} (E : RoadKit.Exa Z U.heap x ST) (V : RoadKit.Fld Z U.heap x ST "value" "[B" v0) (C : RoadKit.Fld Z U.heap x ST "coder" "B" c0) :
    ∃ (D : Cell) (fV fC : Field), Blank ST x D U ∧ Found ST "value" "[B" fV U ∧ Found ST "coder" "B" fC U ∧ D.slots[fV.slot]? = some v0 ∧ D.slots[fC.slot]? = some c0 ∧ RoadKit.slotOf Z ST "value" "[B" = fV.slot ∧ RoadKit.slotOf Z ST "coder" "B" = fC.slot := by
  obtain ⟨D, cfV, kV, iV, fV, hD, gV, stV, knV, obV, asV, slV⟩ := V
  obtain ⟨D', cfC, kC, iC, fC, hD', gC, stC, -, -, asC, slC⟩ := C
  cases hD.symm.trans hD'
  obtain ⟨D2, kD, e1, e2, e3, e4, e5⟩ := E
  cases hD.symm.trans e1
  obtain ⟨c2, k2, i1, i2, i3, -⟩ := Cond.instantiable_spec wi
  cases e2.symm.trans i1
  cases e3.symm.trans i2
  obtain ⟨kU, u1, u2⟩ := al.2.2 _ _ e3
  exact ⟨D, fV, fC, ⟨hD, ⟨knV, fun q hq => by rw [hq] at obV; cases obV⟩, by rw [al.findClass]; exact e2, kU, u1, by rw [u2]; exact i3, by rw [u2]; exact e5 i3⟩, ⟨SBG.found_only al ⟨cfV, kV, iV, gV⟩, stV⟩, ⟨SBG.found_only al ⟨cfC, kC, iC, gC⟩, stC⟩, slV, slC, by simp [RoadKit.slotOf, gV], by simp [RoadKit.slotOf, gC]⟩
theorem sta_is {Z U : State} (al : Z.vm.Alike U.vm) {C n d : String} {v : Value} (S : RoadKit.Sta Z U.heap C n d v) : StaticIs U C n d v := by
  obtain ⟨cfS, iS, kS, fS, st, cS, t1, t2, t3, t4, t5, t6, t7⟩ := S
  exact StaticIs.there (s := { Z with heap := U.heap }) ⟨cfS, iS, kS, fS, st, cS, t1, t2, t3, t4, t5, (fun q => by rw [q] at t6; cases t6), t7⟩ al rfl
/-- **length() OF SUCH A STRING** -/
theorem lenW {p : Program} {l : Launch} {e : Env} {R : Room} {s : State} {args : Array Value} {below : List Frame} {len W : Nat} {Z : State} {a0 : Array Value} {h : Heap} (hZ : Z.Warmed39 s.vm) (hw : ∀ d ∈ wordsLen, d.before a0 Z = true) {kI : Nat} (wi : (Jvm.Cond.instantiable ST kI).before a0 Z = true)
    {x t : Addr} {kb : ClassId} {cs : List Int32} {cd N2 z : Int32} {vs : List Value} (E : RoadKit.Exa Z h x ST) (V : RoadKit.Fld Z h x ST "value" "[B" (.ref t)) (C : RoadKit.Fld Z h x ST "coder" "B" (.int cd)) (K : RoadKit.Arv Z h t kb .byte N2 vs (.int 0)) (hc : CodA cs cd N2 vs) (hb : ∀ c ∈ cs, ¬ c < 0 ∧ ¬ (65535 : Int32) < c)
    (S : RoadKit.Sta Z h ST "COMPACT_STRINGS" "Z" (.int z)) (hz : ¬ z = 0) (l2 : cs.length ≤ 4000) (hfr : 2 ≤ R.frames) (hlo : W + 25 ≤ R.locals) :
    Back l R p e below s args (⟨"java/lang/String", "length", "()I"⟩ : MethodName) len W (fun P a => a = #[.ref x] ∧ P.U.heap = h ∧ P.cells + 0 ≤ R.cells ∧ P.slots + 0 ≤ R.slots)
      (fun P _ v B => ∃ L, (v = some (.int (Int32.ofNat cs.length)) ∧ L = [] ∧ B.U.heap = h) ∧ B.locs = P.locs ++ L ∧ B.cells = P.cells + 0 ∧ B.slots = P.slots + 0) := by
  obtain ⟨A, K1, K2, K3, K4, K5, K6⟩ := K
  have hcod := hc.cod (by omega) K3 K5
  intro m meth c P g ig mk a X hg hsize hdg hW hn hp'
  obtain ⟨rfl, rfl, r1, r2⟩ := hp'
  have al : Z.vm.Alike P.U.vm := hZ.alike.trans X.warmed.alike
  obtain ⟨D, fV, fC, hB, F1, F2, g1, g2, -, -⟩ := strObj wi al E V C
  have hx : Txt x t A cd cs.length (fun j => cs.getD j 0) P.U := ⟨⟨_, hB.2.2.1, D, hB.1, rfl, by cases q : D.vm <;> first | rfl | exact absurd q (hB.2.1.2 _)⟩, Has.of hB F1 g1, Has.of hB F2 g2, ⟨K1.1, State.isArrayOf_alike al K1.2.1, K1.2.2, by rcases hcod with ⟨-, q, -⟩ | ⟨-, q, -⟩ <;> omega⟩, hcod, fun j hj => by
    have e : cs.getD j 0 = cs[j] := by simp [List.getD_eq_getElem?_getD, hj]
    show ¬ cs.getD j 0 < 0 ∧ ¬ 65535 < cs.getD j 0
    rw [e]; exact hb _ (List.getElem_mem _)⟩
  obtain ⟨v, B, X', ⟨⟨hv, hh⟩, hl, hk, hs⟩, st⟩ := Len.pays x t A cd cs.length (fun j => cs.getD j 0) z (tabLen_of (movedLen hZ hw)) hfr hlo m meth c P g ig mk _ X hg hsize hdg hW hn ⟨r1, r2, rfl, hx, sta_is al S, hz⟩
  exact ⟨v, B, X', ⟨[], ⟨hv, rfl, hh⟩, hl, hk, hs⟩, st⟩
end StrChars.Road
namespace StrChars.Road
open Jvm Sem ClassFile Op Lib Jvm.Stand Jvm.Free Jvm.Free.XT
open Jvm.Lib.Cold (StaticIs)
/-- the road's facts of a String, as the laws ask it -/
theorem txt_of {Z U : State} {a0 : Array Value} {kI : Nat} (wi : (Jvm.Cond.instantiable ST kI).before a0 Z = true) (al : Z.vm.Alike U.vm) {x t : Addr} {kb : ClassId} {cs : List Int32} {cd N2 : Int32} {vs : List Value} (E : RoadKit.Exa Z U.heap x ST) (V : RoadKit.Fld Z U.heap x ST "value" "[B" (.ref t)) (C : RoadKit.Fld Z U.heap x ST "coder" "B" (.int cd)) (K : RoadKit.Arv Z U.heap t kb .byte N2 vs (.int 0)) (hc : CodA cs cd N2 vs) (hb : ∀ c ∈ cs, ¬ c < 0 ∧ ¬ (65535 : Int32) < c) (l2 : cs.length ≤ 4000) :
    ∃ A, Txt x t A cd cs.length (fun j => cs.getD j 0) U := by
  obtain ⟨A, K1, K2, K3, K4, K5, K6⟩ := K
  have hcod := hc.cod (by omega) K3 K5
  obtain ⟨D, fV, fC, hB, F1, F2, g1, g2, -, -⟩ := strObj wi al E V C
  exact ⟨A, ⟨_, hB.2.2.1, D, hB.1, rfl, by cases q : D.vm <;> first | rfl | exact absurd q (hB.2.1.2 _)⟩, Has.of hB F1 g1, Has.of hB F2 g2, ⟨K1.1, State.isArrayOf_alike al K1.2.1, K1.2.2, by rcases hcod with ⟨-, q, -⟩ | ⟨-, q, -⟩ <;> omega⟩, hcod, fun j hj => by
    have e : cs.getD j 0 = cs[j] := by simp [List.getD_eq_getElem?_getD, hj]
    show ¬ cs.getD j 0 < 0 ∧ ¬ 65535 < cs.getD j 0
    rw [e]; exact hb _ (List.getElem_mem _)⟩
end StrChars.Road
namespace StrChars
open Jvm Sem ClassFile Op Lib Jvm.Stand Jvm.Free.XT Jvm.Free.ALB Jvm.Free.JM Jvm.Free
open Jvm.Lib.Cold (StaticIs)
namespace ChN
def yN : MethodName := ⟨"java/lang/String", "charAt", "(I)C"⟩
abbrev yB : ByteArray := jdk_42_method_56_code
theorem d0 : decode yB 0 = .ok (.aload_n 0, 1) := by decide +kernel
theorem d1 : decode yB 1 = .ok (.invokevirtual 492, 3) := by decide +kernel
theorem d4 : decode yB 4 = .ok (.ifCond (.eq) 12, 3) := by decide +kernel
theorem d7 : decode yB 7 = .ok (.aload_n 0, 1) := by decide +kernel
theorem d8 : decode yB 8 = .ok (.getfield 9, 3) := by decide +kernel
theorem d11 : decode yB 11 = .ok (.iload_n 1, 1) := by decide +kernel
theorem d12 : decode yB 12 = .ok (.invokestatic 495, 3) := by decide +kernel
theorem d15 : decode yB 15 = .ok (.ireturn, 1) := by decide +kernel
def site : List Cond := [.fieldLink "java/lang/String" 9 "java/lang/String" "value" "[B", IsL.tab, LChA.tab] ++ virtW "java/lang/String" 492 "java/lang/String" IsL.yN IsL.yN ++ staticW "java/lang/String" 495 LChA.yN
def tab : Cond := tabOf yN yB 2 (some .char) site
def P (x t : Addr) (V : Cell) (n : Nat) (f : Nat → Int32) (z : Int32) (fm : Value) (i : Nat) (args : Array Value) (s : State) : Prop := args = #[.ref x, .int (Int32.ofNat i)] ∧ Txt x t V 0 n f s ∧ i < n ∧ StaticIs s "java/lang/String" "COMPACT_STRINGS" "Z" (.int z) ∧ ¬ z = 0 ∧ StaticIs s "jdk/internal/util/Preconditions" "SIOOBE_FORMATTER" "Ljava/util/function/BiFunction;" fm ∧ fm.isRef = true
def E (f : Nat → Int32) (i : Nat) (r : Option Value) (s u : State) : Prop := XT.PureE (some (.int (f i))) r s u
/-- charAt(i) of a Latin-1 String of n chars, i < n: f i -/
theorem law (l : Launch) (x t : Addr) (V : Cell) (n : Nat) (f : Nat → Int32) (z : Int32) (fm : Value) (i : Nat) : Law l yN 2 1 3 40 yB 2 (some .char) site (P x t V n f z fm i) (E f i) [] 0 0 := by
  refine Law.of_walk (plainFor_of_name (by decide +kernel)) (by decide +kernel) (by decide +kernel) (by decide) (fun _ _ h => by rw [h.1]; rfl) (fun _ U U' hal hh h => ⟨h.1, h.2.1.mv hal hh, h.2.2.1, h.2.2.2.1.there hal hh, h.2.2.2.2.1, h.2.2.2.2.2.1.there hal hh, h.2.2.2.2.2.2⟩) (fun r U U' V V' h1 hal h2 h => XT.PureE.mv r U U' V V' h1 hal h2 h) ?_
  intro p e s m args below meth c s₁ X0 hexec hbytes hml hret hlk hnm hown hh0 W hP
  obtain ⟨rfl, hx, hi, s1, hz, s3, rf⟩ := hP
  have v31 := hx.2.2.2.1.2.2.2
  have hr := hx.2.2.2.2.2 i hi
  have hx0 := hx.mv X0.warmed.alike hh0
  have c1 : Steps p.tables e below (s₁.setTop (entryFrame m #[.ref x, .int (Int32.ofNat i)] 2)) (s₁.setTop (mkF m 1 #[.val (.ref x), .val (.int (Int32.ofNat i))] [.ref x])) := Steps.trans (entry rfl) (by
    show Steps p.tables e below (s₁.setTop (mkF m 0 #[.val (.ref x), .val (.int (Int32.ofNat i))] [])) _
    refine XS.aloadN X0.here hexec rfl (hb hbytes d0) rfl rfl ?_
    exact Steps.refl _)
  obtain ⟨v2, T2, X2, E2, g2⟩ := X0.callV hexec (IsL.law l x 0 z) hown (wks W (virtW "java/lang/String" 492 "java/lang/String" IsL.yN IsL.yN)) rfl (by decide) (wk W IsL.tab) (W := 0) (Nat.le_of_ble_eq_true rfl) (Nat.le_of_ble_eq_true rfl) (Nat.le_refl _) (Nat.le_refl _) (hx0.1.fc X0.warmed.alike) hx0.1.is (g := (mkF m 1 #[.val (.ref x), .val (.int (Int32.ofNat i))] [.ref x])) rfl (by rw [hml]; rfl) c1 (argsL := []) (rest := []) rfl rfl (by show 2 * 0 + 0 ≤ _; decide) (hb hbytes d1) (⟨rfl, hx0.2.2.1, hx.2.2.2.2.1.cd, s1.there X0.warmed.alike hh0, hz⟩)
  obtain ⟨rfl, q2⟩ := E2
  have hh2 := q2.trans hh0
  have hx2 := hx.mv X2.warmed.alike hh2
  obtain ⟨-, k1, k2⟩ | ⟨k0, -⟩ := hx.2.2.2.2.1
  · have c3 : Steps p.tables e below (s₁.setTop (entryFrame m #[.ref x, .int (Int32.ofNat i)] 2)) (T2.setTop (mkF m 8 #[.val (.ref x), .val (.int (Int32.ofNat i))] [.ref x])) := Steps.trans g2 (by
      refine XS.ifNo X2.here hexec rfl (hb hbytes d4) rfl (i0_eq_f (by decide)) ?_
      refine XS.aloadN X2.here hexec rfl (hb hbytes d7) rfl rfl ?_
      exact Steps.refl _)
    obtain ⟨T4, X4, q4, st4⟩ := X2.hget hexec hown (wk W (.fieldLink "java/lang/String" 9 "java/lang/String" "value" "[B")) hx2.2.1 (g := (mkF m 8 #[.val (.ref x), .val (.int (Int32.ofNat i))] [.ref x])) rfl (rest := []) rfl (hb hbytes d8)
    have hh4 := q4.trans hh2
    have c5 : Steps p.tables e below (s₁.setTop (entryFrame m #[.ref x, .int (Int32.ofNat i)] 2)) (T4.setTop (mkF m 12 #[.val (.ref x), .val (.int (Int32.ofNat i))] [.int (Int32.ofNat i), .ref t])) := (c3.trans (st4 _ (Steps.refl _))).trans (by
      refine XS.iloadN X4.here hexec rfl (hb hbytes d11) rfl ?_
      exact Steps.refl _)
    obtain ⟨v6, T6, X6, E6, g6⟩ := X4.callS hexec (LChA.law l t V i (lo8 (f i)) fm) hown (wks W (staticW "java/lang/String" 495 LChA.yN)) (wk W LChA.tab) (W := 0) (Nat.le_of_ble_eq_true rfl) (Nat.le_of_ble_eq_true rfl) (Nat.le_refl _) (Nat.le_refl _) (g := (mkF m 12 #[.val (.ref x), .val (.int (Int32.ofNat i))] [.int (Int32.ofNat i), .ref t])) rfl (by rw [hml]; rfl) c5 (argsL := [.ref t, .int (Int32.ofNat i)]) (rest := []) rfl rfl (by show 2 * 0 + 0 ≤ _; decide) (hb hbytes d12) (⟨rfl, hx.2.2.2.1.mv X4.warmed.alike hh4, (k2 i hi).1, s3.there X4.warmed.alike hh4, rf⟩)
    obtain ⟨rfl, q6⟩ := E6
    rw [chr8_lo8 hr.1 (k2 i hi).2] at g6
    exact ⟨T6, some (.int (f i)), _, _, _, X6, rfl, rfl, rfl, (fun h => by cases h), ⟨rfl, q6.trans hh4⟩, fun fs hl => Steps.trans g6 (X6.ireturnOut hexec hret (narrow_ch hr.1 hr.2) (Or.inr (Or.inr (Or.inr (Or.inl rfl)))) (hb hbytes d15) hl)⟩
  · exact absurd k0 (by decide)
theorem pays {l : Launch} {R : Room} {p : Program} {e : Env} {below : List Frame} {s : State} {sargs : Array Value} {len W : Nat} (x t : Addr) (V : Cell) (n : Nat) (f : Nat → Int32) (z : Int32) (fm : Value) (i : Nat) (htab : tab.before sargs s = true) (hfr : 4 ≤ R.frames) (hlo : W + 53 ≤ R.locals) :
    Back l R p e below s sargs yN len W (fun A₁ a₁ => A₁.cells + 0 ≤ R.cells ∧ A₁.slots + 0 ≤ R.slots ∧ P x t V n f z fm i a₁ A₁.U) (fun A₁ _ v₁ B₁ => E f i v₁ A₁.U B₁.U ∧ B₁.locs = A₁.locs ++ [] ∧ B₁.cells = A₁.cells + 0 ∧ B₁.slots = A₁.slots + 0) :=
  (law l x t V n f z fm i).pays htab hfr (by omega)
end ChN
end StrChars
namespace StrChars.Road
open Jvm Sem ClassFile Op Lib Jvm.Stand Jvm.Free Jvm.Free.XT
open Jvm.Lib.Cold (StaticIs)
/-- the words of String.charAt(int), the Latin-1 road alone -/
abbrev wordsChN : List Jvm.Cond := [.code ChN.yN ChN.yB 2 (some .char), .initialized ST, .fieldLink ST 9 ST "value" "[B", .fieldLink ST 38 ST "COMPACT_STRINGS" "Z", .fieldLink ST 15 ST "coder" "B", .code IsL.yN IsL.yB 1 (some .boolean), .methodLink ST 492 IsL.yN, .declares IsL.yN, .selects ST IsL.yN IsL.yN, .instanceMethod IsL.yN,
  .methodLink ST 495 LChA.yN, .static LChA.yN, .code LChA.yN LChA.yB 2 (some .char), .initialized "java/lang/StringLatin1", .methodLink "java/lang/StringLatin1" 9 JO.Str_checkIndex.yN, .static JO.Str_checkIndex.yN, .code JO.Str_checkIndex.yN JO.Str_checkIndex.yB 2 none,
  .fieldLink ST 1053 "jdk/internal/util/Preconditions" "SIOOBE_FORMATTER" "Ljava/util/function/BiFunction;", .methodLink ST 1059 JC.PreCheck.yN, .static JC.PreCheck.yN, .code JC.PreCheck.yN JC.PreCheck.yB 3 (some .int), .initialized "jdk/internal/util/Preconditions"]
theorem tabChN_of {a : Array Value} {s : State} (h : ∀ w ∈ wordsChN, w.before a s = true) : ChN.tab.before a s = true := by
  have hp : JC.PreCheck.tab.before a s = true := unparts (wk h (.code JC.PreCheck.yN JC.PreCheck.yB 3 (some .int))) (wks h (.initialized JC.PreCheck.yN.cls :: JC.PreCheck.site))
  have qk := consq hp h
  have hk : JO.Str_checkIndex.tab.before a s = true := unparts (wk qk (.code JO.Str_checkIndex.yN JO.Str_checkIndex.yB 2 none)) (wks qk (.initialized JO.Str_checkIndex.yN.cls :: JO.Str_checkIndex.site))
  have ql := consq hk h
  have hl : LChA.tab.before a s = true := unparts (wk ql (.code LChA.yN LChA.yB 2 (some .char))) (wks ql (.initialized LChA.yN.cls :: LChA.site))
  have hi : IsL.tab.before a s = true := unparts (wk h (.code IsL.yN IsL.yB 1 (some .boolean))) (wks h (.initialized IsL.yN.cls :: IsL.site))
  have q := consq hi (consq hl h)
  exact unparts (wk q (.code ChN.yN ChN.yB 2 (some .char))) (wks q (.initialized ChN.yN.cls :: ChN.site))
theorem movedChN {Z s : State} {a0 args : Array Value} (hZ : Z.Warmed39 s.vm) (hw : ∀ d ∈ wordsChN, d.before a0 Z = true) : ∀ d ∈ wordsChN, d.before args s = true := fun d hd => by
  have t : ∀ d ∈ wordsChN, (d.onTables && d.keepsFace) = true := by decide +kernel
  exact RoadKit.mv hZ (hw d hd) (t d hd)
/-- **charAt(i) OF A LATIN-1 STRING**, i < n: the char -/
theorem chN {p : Program} {l : Launch} {e : Env} {R : Room} {s : State} {args : Array Value} {below : List Frame} {len W : Nat} {Z : State} {a0 : Array Value} {h : Heap} (hZ : Z.Warmed39 s.vm) (hw : ∀ d ∈ wordsChN, d.before a0 Z = true) {kI : Nat} (wi : (Jvm.Cond.instantiable ST kI).before a0 Z = true)
    {x t : Addr} {kb : ClassId} {cs : List Int32} {N2 z : Int32} {vs : List Value} {fm : Value} {i : Nat} {j : Int32} (E : RoadKit.Exa Z h x ST) (V : RoadKit.Fld Z h x ST "value" "[B" (.ref t)) (C : RoadKit.Fld Z h x ST "coder" "B" (.int 0)) (K : RoadKit.Arv Z h t kb .byte N2 vs (.int 0)) (hc : CodA cs 0 N2 vs) (hb : ∀ c ∈ cs, ¬ c < 0 ∧ ¬ (65535 : Int32) < c)
    (S : RoadKit.Sta Z h ST "COMPACT_STRINGS" "Z" (.int z)) (hz : ¬ z = 0) (F : RoadKit.Sta Z h "jdk/internal/util/Preconditions" "SIOOBE_FORMATTER" "Ljava/util/function/BiFunction;" fm) (rf : fm.isRef = true) (l2 : cs.length ≤ 4000) (hi : i < cs.length) (hj : j = Int32.ofNat i) (hfr : 4 ≤ R.frames) (hlo : W + 53 ≤ R.locals) :
    Back l R p e below s args (⟨"java/lang/String", "charAt", "(I)C"⟩ : MethodName) len W (fun P a => a = #[.ref x, .int j] ∧ P.U.heap = h ∧ P.cells + 0 ≤ R.cells ∧ P.slots + 0 ≤ R.slots)
      (fun P _ v B => ∃ L, (v = some (.int (cs.getD i 0)) ∧ L = [] ∧ B.U.heap = h) ∧ B.locs = P.locs ++ L ∧ B.cells = P.cells + 0 ∧ B.slots = P.slots + 0) := by
  subst hj
  intro m meth c P g ig mk a X hg hsize hdg hW hn hp'
  obtain ⟨rfl, rfl, r1, r2⟩ := hp'
  have al : Z.vm.Alike P.U.vm := hZ.alike.trans X.warmed.alike
  obtain ⟨A, hx⟩ := txt_of wi al E V C K hc hb l2
  obtain ⟨v, B, X', ⟨⟨hv, hh⟩, hl, hk, hs⟩, st⟩ := ChN.pays x t A cs.length (fun j => cs.getD j 0) z fm i (tabChN_of (movedChN hZ hw)) hfr hlo m meth c P g ig mk _ X hg hsize hdg hW hn ⟨r1, r2, rfl, hx, hi, sta_is al S, hz, sta_is al F, rf⟩
  exact ⟨v, B, X', ⟨[], ⟨hv, rfl, hh⟩, hl, hk, hs⟩, st⟩
end StrChars.Road
end Jvm.Pilot.@@N@@
namespace Jvm.Pilot.@@N@@
open Jvm Jvm.ClassFile Sem Op Lib Jvm.Free Jvm.Stand Jvm.LawKit Jvm.RoadKit Bundle Jvm.Pilot.@@N@@.Jvm.D
theorem own_m (i : Nat) {d : Jvm.Cond} (h : tables_1[i]? = some d) : d ∈ tables_1 := List.mem_of_getElem? h
theorem own_eq_int {args : Array Value} {s first : State} {o : Option Outcome} {idx : List Nat} {t : Term} {k : Int32} (h : (Cond.eq t (.int k)).value args first o s idx = some true) : t.eval args first o idx s = some (.int k) := by
  obtain ⟨x, y, h1, h2, h3, h4⟩ := cmp_v (r := true) (Or.inl h)
  have e2 : y = .int k := (Option.some.inj h2).symm
  subst e2
  obtain ⟨z, rfl⟩ := h4
  have q := h
  simp only [Cond.value, h1, h2] at q
  have : z = k := by simpa using q
  rw [h1, this]
theorem own_eq_ref {args : Array Value} {s first : State} {o : Option Outcome} {idx : List Nat} {t u : Term} {a : Addr} (hu : u.eval args first o idx s = some (.ref a)) (h : (Cond.eq t u).value args first o s idx = some true) : t.eval args first o idx s = some (.ref a) := by
  obtain ⟨x, y, h1, h2, h3, h4⟩ := cmp_v (r := true) (Or.inl h)
  cases hu.symm.trans h2
  have q := h
  simp only [Cond.value, h1, h2] at q
  cases x <;> simp [Kin, Value.isRef] at h3 h4 q ⊢
  rw [h1, q]
def own_EL : List (String × Nat) := [("java/lang/String", 7), ("java/lang/StringLatin1", 151)]
theorem own_ew {Z : State} {a0 : Array Value} (hw : ∀ d ∈ tables_1, d.before a0 Z = true) : EW Z a0 own_EL := (EW.cons (hw _ (own_m 22 rfl)) (by decide) (EW.cons (hw _ (own_m 126 rfl)) (by decide) EW.nil))
theorem own_ws {Z : State} {a0 : Array Value} (hw : ∀ d ∈ tables_1, d.before a0 Z = true) : ∀ a ∈ Bundle.stringAtoms, a.before a0 Z = true := fun d hd => by
  simp only [Bundle.stringAtoms, List.mem_cons, List.not_mem_nil, or_false] at hd
  rcases hd with rfl | rfl | rfl | rfl | rfl | rfl | rfl
  · exact hw _ (own_m 11 rfl)
  · exact hw _ (own_m 10 rfl)
  · exact hw _ (own_m 23 rfl)
  · exact hw _ (own_m 24 rfl)
  · exact hw _ (own_m 25 rfl)
  · exact hw _ (own_m 26 rfl)
  · exact hw _ (own_m 27 rfl)
theorem own_pd0 : parseMethodDescriptor "()I" = some ⟨[], some .int⟩ := by decide +kernel
theorem own_pd1 : parseMethodDescriptor "(I)C" = some ⟨[.int], some .char⟩ := by decide +kernel
def own_same (a b : List Int32) : Int32 := if a = b then 1 else 0
theorem own_same_t {a b : List Int32} (h : a = b) : own_same a b = 1 := if_pos h
theorem own_same_f {a b : List Int32} (h : ¬ a = b) : own_same a b = 0 := if_neg h
theorem own_same_len {a b : List Int32} (h : a.length ≠ b.length) : own_same a b = 0 := own_same_f fun q => h (congrArg List.length q)
theorem own_same_hd {x y : Int32} {a b : List Int32} (h : x ≠ y) : own_same (x :: a) (y :: b) = 0 := own_same_f fun q => h (List.cons.inj q).1
theorem own_lc {c : Int32} {cs : List Int32} (h : ¬ c < 0 ∧ ¬ (255 : Int32) < c) (t : ∀ d ∈ cs, ¬ d < 0 ∧ ¬ (255 : Int32) < d) : ∀ d ∈ c :: cs, ¬ d < 0 ∧ ¬ (255 : Int32) < d := fun d hd => by
  rcases List.mem_cons.mp hd with rfl | hd
  · exact h
  · exact t d hd
theorem own_ln : ∀ d ∈ ([] : List Int32), ¬ d < 0 ∧ ¬ (255 : Int32) < d := fun d hd => by cases hd
theorem own_up {cs : List Int32} (hp : ∀ d ∈ cs, ¬ d < 0 ∧ ¬ (255 : Int32) < d) : ∀ d ∈ cs, ¬ d < 0 ∧ ¬ (65535 : Int32) < d := fun d hd => ⟨(hp d hd).1, fun q => (hp d hd).2 (by simp only [Int32.lt_iff_toInt_lt, Int32.reduceToInt] at *; omega)⟩
section OwnStr
variable {p : Program} {l : Launch} {e : Env} {R : Room} {s : State} {m : MethodId} {args : Array Value} {below : List Frame} {meth : Method} {c : Code} {T : State} {locs : List Loc} {cells slots : Nat} {Z : State} {a0 : Array Value} {h : Heap} {own : String} {index kI W pc : Nat} {Ls : Array Slot} {rest : List Value} {KK : State → Outcome → Prop}
theorem own_subL : ∀ d ∈ StrChars.Road.wordsLen, d ∈ tables_1 := by decide +kernel
theorem own_lens (X : Stand p l e R s m args below meth c T locs cells slots) (hx : p.tables.exec = Jvm.exec) (hZ : Z.Warmed39 s.vm) (hown : s.vm.findClass own = some m.cls) (hw : ∀ d ∈ tables_1, d.before a0 Z = true)
    (w1 : (Cond.methodLink own index (⟨"java/lang/String", "length", "()I"⟩ : MethodName)).before a0 Z = true) (w2 : (Cond.declares (⟨"java/lang/String", "length", "()I"⟩ : MethodName)).before a0 Z = true) (w5 : (Cond.selects "java/lang/String" (⟨"java/lang/String", "length", "()I"⟩ : MethodName) (⟨"java/lang/String", "length", "()I"⟩ : MethodName)).before a0 Z = true) (w6 : (Cond.instanceMethod (⟨"java/lang/String", "length", "()I"⟩ : MethodName)).before a0 Z = true) (wi : (Cond.instantiable "java/lang/String" kI).before a0 Z = true)
    {x t : Addr} {kb1 : ClassId} (cs : List Int32) {cd1 N1 : Int32} {vs1 : List Value} (E1 : Exa Z h x "java/lang/String") (V1 : Fld Z h x "java/lang/String" "value" "[B" (.ref t)) (C1 : Fld Z h x "java/lang/String" "coder" "B" (.int cd1)) (K1 : Arv Z h t kb1 .byte N1 vs1 (.int 0)) (hc1 : StrChars.Road.CodA cs cd1 N1 vs1) (hb1 : ∀ c ∈ cs, ¬ c < 0 ∧ ¬ (65535 : Int32) < c) (l1 : cs.length ≤ 4000)
    {z : Int32} (S : Sta Z h "java/lang/String" "COMPACT_STRINGS" "Z" (.int z)) (hz : ¬ z = 0) (hfr : 2 ≤ R.frames) (hlo : W + 25 ≤ R.locals) (hcc : cells ≤ R.cells) (hss : slots ≤ R.slots) (eT : T.heap = h) (hsz : Ls.size = c.maxLocals) (hW : (rest.map fun v => v.category).sum ≤ W) (hd : decode c.code pc = .ok (.invokevirtual index, 3))
    (k : ∀ (T' : State), Stand p l e R s m args below meth c T' locs cells slots → T'.heap = h → oG p e below KK (T'.setTop (mkF m (pc + 3) Ls (.int (Int32.ofNat cs.length) :: rest)))) :
    oG p e below KK (T.setTop (mkF m pc Ls (.ref x :: rest))) := by
  obtain ⟨cq, kq, qa, qb, qc⟩ := isOf hZ eT E1
  obtain ⟨v, _, ⟨T', L', k', n'⟩, -, X', ⟨L, hQ, h1, h2, h3⟩, st⟩ := X.virtualBack hx (y := (⟨"java/lang/String", "length", "()I"⟩ : MethodName)) (z := (⟨"java/lang/String", "length", "()I"⟩ : MethodName)) hown (mvT hZ w1) (mvT hZ w2) (notFace_of_selects (args := #[]) (mvT hZ w5)) (mvT hZ w5) (mvT hZ w6) (by decide) (StrChars.Road.lenW (W := W) hZ (fun d hd => hw d (own_subL d hd)) wi E1 V1 C1 K1 hc1 hb1 S hz l1 hfr hlo) qa qc (g := mkF m pc Ls (.ref x :: rest)) rfl hsz (Steps.refl _) (argsL := []) (rest := rest) (lenOf own_pd0 rfl) rfl (by show 2 * 0 + _ ≤ _; simpa using hW) hd (fun _ _ => ⟨rfl, eT, hcc, hss⟩)
  dsimp only [Pt.U, Pt.locs, Pt.cells, Pt.slots] at X' h1 h2 h3 st hQ
  obtain ⟨rfl, rfl, hh⟩ := hQ
  rw [List.append_nil] at h1
  subst h1 h2 h3
  exact own_via st (k T' X' hh)
theorem own_subC : ∀ d ∈ StrChars.Road.wordsChN, d ∈ tables_1 := by decide +kernel
theorem own_chs (X : Stand p l e R s m args below meth c T locs cells slots) (hx : p.tables.exec = Jvm.exec) (hZ : Z.Warmed39 s.vm) (hown : s.vm.findClass own = some m.cls) (hw : ∀ d ∈ tables_1, d.before a0 Z = true)
    (w1 : (Cond.methodLink own index (⟨"java/lang/String", "charAt", "(I)C"⟩ : MethodName)).before a0 Z = true) (w2 : (Cond.declares (⟨"java/lang/String", "charAt", "(I)C"⟩ : MethodName)).before a0 Z = true) (w5 : (Cond.selects "java/lang/String" (⟨"java/lang/String", "charAt", "(I)C"⟩ : MethodName) (⟨"java/lang/String", "charAt", "(I)C"⟩ : MethodName)).before a0 Z = true) (w6 : (Cond.instanceMethod (⟨"java/lang/String", "charAt", "(I)C"⟩ : MethodName)).before a0 Z = true) (wi : (Cond.instantiable "java/lang/String" kI).before a0 Z = true)
    {x t : Addr} {kb : ClassId} (cs : List Int32) {N2 z : Int32} {vs : List Value} {fm : Value} (i : Nat) {j : Int32} (E1 : Exa Z h x "java/lang/String") (V1 : Fld Z h x "java/lang/String" "value" "[B" (.ref t)) (C1 : Fld Z h x "java/lang/String" "coder" "B" (.int 0)) (K1 : Arv Z h t kb .byte N2 vs (.int 0)) (hc1 : StrChars.Road.CodA cs 0 N2 vs) (hb1 : ∀ c ∈ cs, ¬ c < 0 ∧ ¬ (65535 : Int32) < c)
    (S : Sta Z h "java/lang/String" "COMPACT_STRINGS" "Z" (.int z)) (hz : ¬ z = 0) (F : Sta Z h "jdk/internal/util/Preconditions" "SIOOBE_FORMATTER" "Ljava/util/function/BiFunction;" fm) (rf : fm.isRef = true) (l1 : cs.length ≤ 4000) (hi : i < cs.length) (hj : j = Int32.ofNat i) (hfr : 4 ≤ R.frames) (hlo : W + 53 ≤ R.locals) (hcc : cells ≤ R.cells) (hss : slots ≤ R.slots) (eT : T.heap = h) (hsz : Ls.size = c.maxLocals) (hW : (rest.map fun v => v.category).sum ≤ W) (hd : decode c.code pc = .ok (.invokevirtual index, 3))
    (k : ∀ (T' : State), Stand p l e R s m args below meth c T' locs cells slots → T'.heap = h → oG p e below KK (T'.setTop (mkF m (pc + 3) Ls (.int (cs.getD i 0) :: rest)))) :
    oG p e below KK (T.setTop (mkF m pc Ls (.int j :: .ref x :: rest))) := by
  obtain ⟨cq, kq, qa, qb, qc⟩ := isOf hZ eT E1
  obtain ⟨v, _, ⟨T', L', k', n'⟩, -, X', ⟨L, hQ, h1, h2, h3⟩, st⟩ := X.virtualBack hx (y := (⟨"java/lang/String", "charAt", "(I)C"⟩ : MethodName)) (z := (⟨"java/lang/String", "charAt", "(I)C"⟩ : MethodName)) hown (mvT hZ w1) (mvT hZ w2) (notFace_of_selects (args := #[]) (mvT hZ w5)) (mvT hZ w5) (mvT hZ w6) (by decide) (StrChars.Road.chN (W := W) hZ (fun d hd => hw d (own_subC d hd)) wi E1 V1 C1 K1 hc1 hb1 S hz F rf l1 hi hj hfr hlo) qa qc (g := mkF m pc Ls (.int j :: .ref x :: rest)) rfl hsz (Steps.refl _) (argsL := [.int j]) (rest := rest) (lenOf own_pd1 rfl) rfl (by show 2 * 0 + _ ≤ _; simpa using hW) hd (fun _ _ => ⟨rfl, eT, hcc, hss⟩)
  dsimp only [Pt.U, Pt.locs, Pt.cells, Pt.slots] at X' h1 h2 h3 st hQ
  obtain ⟨rfl, rfl, hh⟩ := hQ
  rw [List.append_nil] at h1
  subst h1 h2 h3
  exact own_via st (k T' X' hh)
end OwnStr
/-- the char c lies at index i of the bytes vs (nn of them), low before high -/
def own_pc (vs : List Value) (nn i : Int32) (j : Nat) (c : Int32) : Prop := ¬ (i <<< ((1 : Int32) &&& 31)) < 0 ∧ (i <<< ((1 : Int32) &&& 31)) < nn ∧ ¬ ((i <<< ((1 : Int32) &&& 31)) + (1 : Int32)) < 0 ∧ ((i <<< ((1 : Int32) &&& 31)) + (1 : Int32)) < nn ∧ (i <<< ((1 : Int32) &&& 31)).toNatClampNeg = j ∧ ((i <<< ((1 : Int32) &&& 31)) + (1 : Int32)).toNatClampNeg = j + 1 ∧ vs.getD j (.int (0 : Int32)) = .int (StrChars.lo8 c) ∧ vs.getD (j + 1) (.int (0 : Int32)) = .int (StrChars.hi8 c) ∧ ¬ c < 0 ∧ ¬ (65535 : Int32) < c
theorem own_nch {c : Int32} (h0 : ¬ c < 0) (h1 : ¬ (65535 : Int32) < c) : nar .char c = c := by
  apply Int32.toInt_inj.mp
  have q := (show ((nar .char c).toInt - c.toInt) % 65536 = 0 ∧ 0 ≤ (nar .char c).toInt ∧ (nar .char c).toInt < 65536 from c_i2c c)
  simp only [Int32.lt_iff_toInt_lt, Int32.reduceToInt] at *; omega
theorem own_gcf {c : Int32} (h0 : ¬ c < 0) (h1 : ¬ (65535 : Int32) < c) : nar .char ((((StrChars.lo8 c &&& (255 : Int32)) <<< ((0 : Int32) &&& 31)) ||| ((StrChars.hi8 c &&& (255 : Int32)) <<< ((8 : Int32) &&& 31))).toUInt32.toUInt16.toUInt32.toInt32) = c := by
  have e : ((((StrChars.lo8 c &&& (255 : Int32)) <<< ((0 : Int32) &&& 31)) ||| ((StrChars.hi8 c &&& (255 : Int32)) <<< ((8 : Int32) &&& 31))).toUInt32.toUInt16.toUInt32.toInt32) = c := StrChars.pair_says h0 h1
  rw [e]; exact own_nch h0 h1
theorem own_sh0 (c : Int32) : c >>> ((0 : Int32) &&& 31) = c := by
  apply Int32.toInt_inj.mp
  rw [c_ishr c (0 : Int32) 0 (by decide)]; simp
theorem dc33_0 : decode jdk_52_method_5_code 0 = .ok (.getstatic 44, 3) := by decide +kernel
theorem dc33_3 : decode jdk_52_method_5_code 3 = .ok (.ifCond .ne 25, 3) := by decide +kernel
theorem dc33_28 : decode jdk_52_method_5_code 28 = .ok (.iload_n 1, 1) := by decide +kernel
theorem dc33_29 : decode jdk_52_method_5_code 29 = .ok (.iconst 1, 1) := by decide +kernel
theorem dc33_30 : decode jdk_52_method_5_code 30 = .ok (.ishl, 1) := by decide +kernel
theorem dc33_31 : decode jdk_52_method_5_code 31 = .ok (.istore_n 1, 1) := by decide +kernel
theorem dc33_32 : decode jdk_52_method_5_code 32 = .ok (.aload_n 0, 1) := by decide +kernel
theorem dc33_33 : decode jdk_52_method_5_code 33 = .ok (.iload_n 1, 1) := by decide +kernel
theorem dc33_34 : decode jdk_52_method_5_code 34 = .ok (.iinc 1 1, 3) := by decide +kernel
theorem dc33_37 : decode jdk_52_method_5_code 37 = .ok (.baload, 1) := by decide +kernel
theorem dc33_38 : decode jdk_52_method_5_code 38 = .ok (.sipush 255, 3) := by decide +kernel
theorem dc33_41 : decode jdk_52_method_5_code 41 = .ok (.iand, 1) := by decide +kernel
theorem dc33_42 : decode jdk_52_method_5_code 42 = .ok (.getstatic 59, 3) := by decide +kernel
theorem dc33_45 : decode jdk_52_method_5_code 45 = .ok (.ishl, 1) := by decide +kernel
theorem dc33_46 : decode jdk_52_method_5_code 46 = .ok (.aload_n 0, 1) := by decide +kernel
theorem dc33_47 : decode jdk_52_method_5_code 47 = .ok (.iload_n 1, 1) := by decide +kernel
theorem dc33_48 : decode jdk_52_method_5_code 48 = .ok (.baload, 1) := by decide +kernel
theorem dc33_49 : decode jdk_52_method_5_code 49 = .ok (.sipush 255, 3) := by decide +kernel
theorem dc33_52 : decode jdk_52_method_5_code 52 = .ok (.iand, 1) := by decide +kernel
theorem dc33_53 : decode jdk_52_method_5_code 53 = .ok (.getstatic 63, 3) := by decide +kernel
theorem dc33_56 : decode jdk_52_method_5_code 56 = .ok (.ishl, 1) := by decide +kernel
theorem dc33_57 : decode jdk_52_method_5_code 57 = .ok (.ior, 1) := by decide +kernel
theorem dc33_58 : decode jdk_52_method_5_code 58 = .ok (.i2c, 1) := by decide +kernel
theorem dc33_59 : decode jdk_52_method_5_code 59 = .ok (.ireturn, 1) := by decide +kernel
theorem own_pn_java_lang_StringUTF16 : plainName "java/lang/StringUTF16" = true := by first | (simp [plainName, overriddenIn]; done) | decide +kernel
def Q_gc (Z : State) (c_ : Int32) (h0 : Heap) (n0 : Nat) (v : Option Value) (h : Heap) (L : List Loc) : Prop := v = some (.int c_) ∧ Fr n0 L ∧ h = h0
set_option maxRecDepth 65536 in
set_option maxHeartbeats 40000000 in
theorem rm_gc (l : Launch) (Z : State) (a0 : Array Value) (hw : ∀ d ∈ tables_1, d.before a0 Z = true) (ws : List Jvm.Cond) (t_ : Addr) (kt_ : ClassId) (nn_ : Int32) (vs_ : List Value) (i_ : Int32) (j_ : Nat) (c_ : Int32) (h0 : Heap) (n0 : Nat) (Z0 : n0 ≤ h0.size) (Kt_ : Arv Z h0 t_ kt_ .byte nn_ vs_ (.int (0 : Int32))) (hpc_ : own_pc vs_ nn_ i_ j_ c_) (S__assertionsDisabled : Sta Z h0 "java/lang/StringUTF16" "$assertionsDisabled" "Z" (.int (1 : Int32))) (S_HI_BYTE_SHIFT : Sta Z h0 "java/lang/StringUTF16" "HI_BYTE_SHIFT" "I" (.int (0 : Int32))) (S_LO_BYTE_SHIFT : Sta Z h0 "java/lang/StringUTF16" "LO_BYTE_SHIFT" "I" (.int (8 : Int32))) :
    MetFree l (⟨"java/lang/StringUTF16", "getChar", "([BI)C"⟩ : MethodName) (head1 (Jvm.Cond.code (⟨"java/lang/StringUTF16", "getChar", "([BI)C"⟩ : MethodName) jdk_52_method_5_code 2 (some .char) :: ws) ({ frames := 0, cells := 0, slots := 0, locals := 0 } : Room)) (fun aA U => aA = #[(.ref t_), (.int i_)] ∧ Z.Warmed39 U.vm ∧ U.heap = h0) (fun _ _ _ _ _ => True) (fun _ U o U' => ∃ v L, o = .returned v ∧ Q_gc Z c_ h0 n0 v U'.heap L ∧ FrameEnd U o U' L ({ frames := 0, cells := 0, slots := 0, locals := 0 } : Room).cells ({ frames := 0, cells := 0, slots := 0, locals := 0 } : Room).slots) := by
  refine MetFree.of_bodySF (plainFor_of_name own_pn_java_lang_StringUTF16) hisR ?_
  intro p e s m args below meth c s₁ Bd hml0 hP hK
  obtain ⟨rfl, hZ, hh⟩ := hP
  have hx := Bd.exec
  have hby := Bd.bytes
  have hlk : meth.locks = false := BodyLoose.notSynchronized Bd
  have hml : c.maxLocals = 2 := hml0
  have hown : s.vm.findClass "java/lang/StringUTF16" = some m.cls := findClass_of_methodNamed Bd.named
  have hnm := (name_of_methodNamed Bd.named Bd.method).1
  have X0 : Stand p l e ({ frames := 0, cells := 0, slots := 0, locals := 0 } : Room) s m #[(.ref t_), (.int i_)] below meth c s₁ [] 0 0 := Stand.of_body Bd
  have e0 : s₁.heap = h0 := by rw [← hh, Bd.state]; rfl
  have N0 := Fr.nil n0
  show oG p e below (own_K s (Q_gc Z c_ h0 n0) ({ frames := 0, cells := 0, slots := 0, locals := 0 } : Room).cells ({ frames := 0, cells := 0, slots := 0, locals := 0 } : Room).slots) (s₁.setTop (entryFrame m #[(.ref t_), (.int i_)] 2))
  rw [(by first | (simp [entryFrame, mkF, argsToLocals, Value.category]; done) | rfl : entryFrame m #[(.ref t_), (.int i_)] 2 = mkF m 0 #[.val (.ref t_), .val (.int i_)] [])]
  show oG p e below _ (s₁.setTop (mkF m 0 #[.val (.ref t_), .val (.int i_)] []))
  obtain ⟨T1, X1, e1, st1⟩ := getS2 X0 hx hZ hown (host := "") (Or.inl (hw _ (own_m 140 rfl))) Via.refl e0 S__assertionsDisabled (g := (mkF m 0 #[.val (.ref t_), .val (.int i_)] [])) rfl (hb hby dc33_0)
  refine og st1 ?_
  show oG p e below _ (T1.setTop (mkF m 3 #[.val (.ref t_), .val (.int i_)] [(.int (1 : Int32))]))
  refine og (fun _ hr => XS.ifYes X1.here hx rfl (pc0 := 3) (pc' := 28) rfl (hb hby dc33_3) rfl ((if0 _ _).trans (feq (by decide)).2) (by decide) (by decide) (XS.iloadN X1.here hx rfl (hb hby dc33_28) rfl (XS.iconst X1.here hx rfl (hb hby dc33_29) (XS.ishl X1.here hx rfl (hb hby dc33_30) rfl (XS.istoreN X1.here hx rfl (hb hby dc33_31) rfl (l' := #[.val (.ref t_), .val (.int (i_ <<< ((1 : Int32) &&& 31)))]) rfl (XS.aloadN X1.here hx rfl (hb hby dc33_32) rfl rfl (XS.iloadN X1.here hx rfl (hb hby dc33_33) rfl (XS.iinc X1.here hx rfl (hb hby dc33_34) rfl (l' := #[.val (.ref t_), .val (.int ((i_ <<< ((1 : Int32) &&& 31)) + (1 : Int32)))]) rfl (own_baload X1 hx hZ e1 Kt_ (i_ <<< ((1 : Int32) &&& 31)) (.int (StrChars.lo8 c_)) ⟨hpc_.1, hpc_.2.1⟩ (by rw [hpc_.2.2.2.2.1]; exact hpc_.2.2.2.2.2.2.1) rfl rfl (hb hby dc33_37) (XS.sipush X1.here hx rfl (hb hby dc33_38) (XS.iand X1.here hx rfl (hb hby dc33_41) rfl hr))))))))))) ?_
  show oG p e below _ (T1.setTop (mkF m 42 #[.val (.ref t_), .val (.int ((i_ <<< ((1 : Int32) &&& 31)) + (1 : Int32)))] [(.int ((StrChars.lo8 c_) &&& (255 : Int32)))]))
  obtain ⟨T2, X2, e2, st2⟩ := getS2 X1 hx hZ hown (host := "") (Or.inl (hw _ (own_m 141 rfl))) Via.refl e1 S_HI_BYTE_SHIFT (g := (mkF m 42 #[.val (.ref t_), .val (.int ((i_ <<< ((1 : Int32) &&& 31)) + (1 : Int32)))] [(.int ((StrChars.lo8 c_) &&& (255 : Int32)))])) rfl (hb hby dc33_42)
  refine og st2 ?_
  show oG p e below _ (T2.setTop (mkF m 45 #[.val (.ref t_), .val (.int ((i_ <<< ((1 : Int32) &&& 31)) + (1 : Int32)))] [(.int (0 : Int32)), (.int ((StrChars.lo8 c_) &&& (255 : Int32)))]))
  refine og (fun _ hr => XS.ishl X2.here hx rfl (hb hby dc33_45) rfl (XS.aloadN X2.here hx rfl (hb hby dc33_46) rfl rfl (XS.iloadN X2.here hx rfl (hb hby dc33_47) rfl (own_baload X2 hx hZ e2 Kt_ ((i_ <<< ((1 : Int32) &&& 31)) + (1 : Int32)) (.int (StrChars.hi8 c_)) ⟨hpc_.2.2.1, hpc_.2.2.2.1⟩ (by rw [hpc_.2.2.2.2.2.1]; exact hpc_.2.2.2.2.2.2.2.1) rfl rfl (hb hby dc33_48) (XS.sipush X2.here hx rfl (hb hby dc33_49) (XS.iand X2.here hx rfl (hb hby dc33_52) rfl hr)))))) ?_
  show oG p e below _ (T2.setTop (mkF m 53 #[.val (.ref t_), .val (.int ((i_ <<< ((1 : Int32) &&& 31)) + (1 : Int32)))] [(.int ((StrChars.hi8 c_) &&& (255 : Int32))), (.int (((StrChars.lo8 c_) &&& (255 : Int32)) <<< ((0 : Int32) &&& 31)))]))
  obtain ⟨T3, X3, e3, st3⟩ := getS2 X2 hx hZ hown (host := "") (Or.inl (hw _ (own_m 142 rfl))) Via.refl e2 S_LO_BYTE_SHIFT (g := (mkF m 53 #[.val (.ref t_), .val (.int ((i_ <<< ((1 : Int32) &&& 31)) + (1 : Int32)))] [(.int ((StrChars.hi8 c_) &&& (255 : Int32))), (.int (((StrChars.lo8 c_) &&& (255 : Int32)) <<< ((0 : Int32) &&& 31)))])) rfl (hb hby dc33_53)
  refine og st3 ?_
  show oG p e below _ (T3.setTop (mkF m 56 #[.val (.ref t_), .val (.int ((i_ <<< ((1 : Int32) &&& 31)) + (1 : Int32)))] [(.int (8 : Int32)), (.int ((StrChars.hi8 c_) &&& (255 : Int32))), (.int (((StrChars.lo8 c_) &&& (255 : Int32)) <<< ((0 : Int32) &&& 31)))]))
  refine og (fun _ hr => XS.ishl X3.here hx rfl (hb hby dc33_56) rfl (XS.ior X3.here hx rfl (hb hby dc33_57) rfl (XS.i2c X3.here hx rfl (hb hby dc33_58) rfl hr))) ?_
  show oG p e below _ (T3.setTop (mkF m 59 #[.val (.ref t_), .val (.int ((i_ <<< ((1 : Int32) &&& 31)) + (1 : Int32)))] [(.int (((((StrChars.lo8 c_) &&& (255 : Int32)) <<< ((0 : Int32) &&& 31)) ||| (((StrChars.hi8 c_) &&& (255 : Int32)) <<< ((8 : Int32) &&& 31))).toUInt32.toUInt16.toUInt32.toInt32))]))
  exact own_retN X3 hx hlk Bd.returns (t := .char) (by simp) (hb hby dc33_59) (by decide) (by decide) ⟨(congrArg (fun q => some (Value.int q)) (own_gcf hpc_.2.2.2.2.2.2.2.2.1 hpc_.2.2.2.2.2.2.2.2.2)), N0, e3⟩
theorem dc32_0 : decode jdk_52_method_4_code 0 = .ok (.getstatic 44, 3) := by decide +kernel
theorem dc32_3 : decode jdk_52_method_4_code 3 = .ok (.ifCond .ne 25, 3) := by decide +kernel
theorem dc32_28 : decode jdk_52_method_4_code 28 = .ok (.iload_n 1, 1) := by decide +kernel
theorem dc32_29 : decode jdk_52_method_4_code 29 = .ok (.iconst 1, 1) := by decide +kernel
theorem dc32_30 : decode jdk_52_method_4_code 30 = .ok (.ishl, 1) := by decide +kernel
theorem dc32_31 : decode jdk_52_method_4_code 31 = .ok (.istore_n 1, 1) := by decide +kernel
theorem dc32_32 : decode jdk_52_method_4_code 32 = .ok (.aload_n 0, 1) := by decide +kernel
theorem dc32_33 : decode jdk_52_method_4_code 33 = .ok (.iload_n 1, 1) := by decide +kernel
theorem dc32_34 : decode jdk_52_method_4_code 34 = .ok (.iinc 1 1, 3) := by decide +kernel
theorem dc32_37 : decode jdk_52_method_4_code 37 = .ok (.iload_n 2, 1) := by decide +kernel
theorem dc32_38 : decode jdk_52_method_4_code 38 = .ok (.getstatic 59, 3) := by decide +kernel
theorem dc32_41 : decode jdk_52_method_4_code 41 = .ok (.ishr, 1) := by decide +kernel
theorem dc32_42 : decode jdk_52_method_4_code 42 = .ok (.i2b, 1) := by decide +kernel
theorem dc32_43 : decode jdk_52_method_4_code 43 = .ok (.bastore, 1) := by decide +kernel
theorem dc32_44 : decode jdk_52_method_4_code 44 = .ok (.aload_n 0, 1) := by decide +kernel
theorem dc32_45 : decode jdk_52_method_4_code 45 = .ok (.iload_n 1, 1) := by decide +kernel
theorem dc32_46 : decode jdk_52_method_4_code 46 = .ok (.iload_n 2, 1) := by decide +kernel
theorem dc32_47 : decode jdk_52_method_4_code 47 = .ok (.getstatic 63, 3) := by decide +kernel
theorem dc32_50 : decode jdk_52_method_4_code 50 = .ok (.ishr, 1) := by decide +kernel
theorem dc32_51 : decode jdk_52_method_4_code 51 = .ok (.i2b, 1) := by decide +kernel
theorem dc32_52 : decode jdk_52_method_4_code 52 = .ok (.bastore, 1) := by decide +kernel
theorem dc32_53 : decode jdk_52_method_4_code 53 = .ok (.return_, 1) := by decide +kernel
def Q_pc (Z : State) (t_ : Addr) (kt_ : ClassId) (nn_ : Int32) (vs_ : List Value) (j_ : Nat) (k_ : Nat) (c_ : Int32) (h0 : Heap) (n0 : Nat) (v : Option Value) (h : Heap) (L : List Loc) : Prop := v = none ∧ Fr n0 L ∧ Keep h0 h [t_] ∧ Arv Z h t_ kt_ .byte nn_ ((vs_.set j_ (.int (StrChars.lo8 c_))).set k_ (.int (StrChars.hi8 c_))) (.int (0 : Int32))
set_option maxRecDepth 65536 in
set_option maxHeartbeats 40000000 in
theorem rm_pc (l : Launch) (Z : State) (a0 : Array Value) (hw : ∀ d ∈ tables_1, d.before a0 Z = true) (ws : List Jvm.Cond) (t_ : Addr) (kt_ : ClassId) (nn_ : Int32) (vs_ : List Value) (i_ : Int32) (j_ : Nat) (k_ : Nat) (c_ : Int32) (h0 : Heap) (n0 : Nat) (Z0 : n0 ≤ h0.size) (Kt_ : Arv Z h0 t_ kt_ .byte nn_ vs_ (.int (0 : Int32))) (hj_ : (i_ <<< ((1 : Int32) &&& 31)).toNatClampNeg = j_) (hk_ : ((i_ <<< ((1 : Int32) &&& 31)) + (1 : Int32)).toNatClampNeg = k_) (hl_ : j_ < vs_.length) (hm_ : k_ < vs_.length) (get_ : n0 ≤ t_) (S__assertionsDisabled : Sta Z h0 "java/lang/StringUTF16" "$assertionsDisabled" "Z" (.int (1 : Int32))) (S_HI_BYTE_SHIFT : Sta Z h0 "java/lang/StringUTF16" "HI_BYTE_SHIFT" "I" (.int (0 : Int32))) (S_LO_BYTE_SHIFT : Sta Z h0 "java/lang/StringUTF16" "LO_BYTE_SHIFT" "I" (.int (8 : Int32))) (hp0 : ¬ ((i_ <<< ((1 : Int32) &&& 31)) < (0 : Int32))) (hp1 : (i_ <<< ((1 : Int32) &&& 31)) < nn_) (hp2 : ¬ (((i_ <<< ((1 : Int32) &&& 31)) + (1 : Int32)) < (0 : Int32))) (hp3 : ((i_ <<< ((1 : Int32) &&& 31)) + (1 : Int32)) < nn_) :
    MetFree l (⟨"java/lang/StringUTF16", "putChar", "([BII)V"⟩ : MethodName) (head1 (Jvm.Cond.code (⟨"java/lang/StringUTF16", "putChar", "([BII)V"⟩ : MethodName) jdk_52_method_4_code 3 none :: ws) ({ frames := 0, cells := 0, slots := 0, locals := 0 } : Room)) (fun aA U => aA = #[(.ref t_), (.int i_), (.int c_)] ∧ Z.Warmed39 U.vm ∧ U.heap = h0) (fun _ _ _ _ _ => True) (fun _ U o U' => ∃ v L, o = .returned v ∧ Q_pc Z t_ kt_ nn_ vs_ j_ k_ c_ h0 n0 v U'.heap L ∧ FrameEnd U o U' L ({ frames := 0, cells := 0, slots := 0, locals := 0 } : Room).cells ({ frames := 0, cells := 0, slots := 0, locals := 0 } : Room).slots) := by
  refine MetFree.of_bodySF (plainFor_of_name own_pn_java_lang_StringUTF16) hisR ?_
  intro p e s m args below meth c s₁ Bd hml0 hP hK
  obtain ⟨rfl, hZ, hh⟩ := hP
  have hx := Bd.exec
  have hby := Bd.bytes
  have hlk : meth.locks = false := BodyLoose.notSynchronized Bd
  have hml : c.maxLocals = 3 := hml0
  have hown : s.vm.findClass "java/lang/StringUTF16" = some m.cls := findClass_of_methodNamed Bd.named
  have hnm := (name_of_methodNamed Bd.named Bd.method).1
  have X0 : Stand p l e ({ frames := 0, cells := 0, slots := 0, locals := 0 } : Room) s m #[(.ref t_), (.int i_), (.int c_)] below meth c s₁ [] 0 0 := Stand.of_body Bd
  have e0 : s₁.heap = h0 := by rw [← hh, Bd.state]; rfl
  have N0 := Fr.nil n0
  have K0 : Keep h0 h0 [t_] := Keep.refl _ _
  show oG p e below (own_K s (Q_pc Z t_ kt_ nn_ vs_ j_ k_ c_ h0 n0) ({ frames := 0, cells := 0, slots := 0, locals := 0 } : Room).cells ({ frames := 0, cells := 0, slots := 0, locals := 0 } : Room).slots) (s₁.setTop (entryFrame m #[(.ref t_), (.int i_), (.int c_)] 3))
  rw [(by first | (simp [entryFrame, mkF, argsToLocals, Value.category]; done) | rfl : entryFrame m #[(.ref t_), (.int i_), (.int c_)] 3 = mkF m 0 #[.val (.ref t_), .val (.int i_), .val (.int c_)] [])]
  show oG p e below _ (s₁.setTop (mkF m 0 #[.val (.ref t_), .val (.int i_), .val (.int c_)] []))
  obtain ⟨T1, X1, e1, st1⟩ := getS2 X0 hx hZ hown (host := "") (Or.inl (hw _ (own_m 140 rfl))) Via.refl e0 S__assertionsDisabled (g := (mkF m 0 #[.val (.ref t_), .val (.int i_), .val (.int c_)] [])) rfl (hb hby dc32_0)
  refine og st1 ?_
  show oG p e below _ (T1.setTop (mkF m 3 #[.val (.ref t_), .val (.int i_), .val (.int c_)] [(.int (1 : Int32))]))
  refine og (fun _ hr => XS.ifYes X1.here hx rfl (pc0 := 3) (pc' := 28) rfl (hb hby dc32_3) rfl ((if0 _ _).trans (feq (by decide)).2) (by decide) (by decide) (XS.iloadN X1.here hx rfl (hb hby dc32_28) rfl (XS.iconst X1.here hx rfl (hb hby dc32_29) (XS.ishl X1.here hx rfl (hb hby dc32_30) rfl (XS.istoreN X1.here hx rfl (hb hby dc32_31) rfl (l' := #[.val (.ref t_), .val (.int (i_ <<< ((1 : Int32) &&& 31))), .val (.int c_)]) rfl (XS.aloadN X1.here hx rfl (hb hby dc32_32) rfl rfl (XS.iloadN X1.here hx rfl (hb hby dc32_33) rfl (XS.iinc X1.here hx rfl (hb hby dc32_34) rfl (l' := #[.val (.ref t_), .val (.int ((i_ <<< ((1 : Int32) &&& 31)) + (1 : Int32))), .val (.int c_)]) rfl (XS.iloadN X1.here hx rfl (hb hby dc32_37) rfl hr))))))))) ?_
  show oG p e below _ (T1.setTop (mkF m 38 #[.val (.ref t_), .val (.int ((i_ <<< ((1 : Int32) &&& 31)) + (1 : Int32))), .val (.int c_)] [(.int c_), (.int (i_ <<< ((1 : Int32) &&& 31))), (.ref t_)]))
  obtain ⟨T2, X2, e2, st2⟩ := getS2 X1 hx hZ hown (host := "") (Or.inl (hw _ (own_m 141 rfl))) Via.refl e1 S_HI_BYTE_SHIFT (g := (mkF m 38 #[.val (.ref t_), .val (.int ((i_ <<< ((1 : Int32) &&& 31)) + (1 : Int32))), .val (.int c_)] [(.int c_), (.int (i_ <<< ((1 : Int32) &&& 31))), (.ref t_)])) rfl (hb hby dc32_38)
  refine og st2 ?_
  show oG p e below _ (T2.setTop (mkF m 41 #[.val (.ref t_), .val (.int ((i_ <<< ((1 : Int32) &&& 31)) + (1 : Int32))), .val (.int c_)] [(.int (0 : Int32)), (.int c_), (.int (i_ <<< ((1 : Int32) &&& 31))), (.ref t_)]))
  refine og (fun _ hr => XS.ishr X2.here hx rfl (hb hby dc32_41) rfl (XS.i2b X2.here hx rfl (hb hby dc32_42) rfl hr)) ?_
  show oG p e below _ (T2.setTop (mkF m 43 #[.val (.ref t_), .val (.int ((i_ <<< ((1 : Int32) &&& 31)) + (1 : Int32))), .val (.int c_)] [(.int ((c_ >>> ((0 : Int32) &&& 31)).toInt8.toInt32)), (.int (i_ <<< ((1 : Int32) &&& 31))), (.ref t_)]))
  have c4 : (nar .byte ((c_ >>> ((0 : Int32) &&& 31)).toInt8.toInt32)) = ((c_ >>> ((0 : Int32) &&& 31)).toInt8.toInt32) := by
    have q0 := rng32 c_
    have q1 := c_ishr c_ (0 : Int32) 0 (by decide)
    have q2 := c_i2b (c_ >>> ((0 : Int32) &&& 31))
    have q3 := (show ((nar .byte ((c_ >>> ((0 : Int32) &&& 31)).toInt8.toInt32)).toInt - ((c_ >>> ((0 : Int32) &&& 31)).toInt8.toInt32).toInt) % 256 = 0 ∧ -128 ≤ (nar .byte ((c_ >>> ((0 : Int32) &&& 31)).toInt8.toInt32)).toInt ∧ (nar .byte ((c_ >>> ((0 : Int32) &&& 31)).toInt8.toInt32)).toInt < 128 from c_i2b ((c_ >>> ((0 : Int32) &&& 31)).toInt8.toInt32))
    simp only [true_implies, Int32.lt_iff_toInt_lt, ← Int32.toInt_inj, Int32.reduceToInt, Int64.lt_iff_toInt_lt, ← Int64.toInt_inj, Int64.reduceToInt] at q0 q1 q2 q3 ⊢
    omega
  refine own_stB X2 hx hZ e2 Kt_ (i_ <<< ((1 : Int32) &&& 31)) ((c_ >>> ((0 : Int32) &&& 31)).toInt8.toInt32) ((c_ >>> ((0 : Int32) &&& 31)).toInt8.toInt32) ((i_ <<< ((1 : Int32) &&& 31))).toNatClampNeg ⟨hp0, hp1⟩ rfl (by rw [hj_]; exact hl_) c4 (vs_.set ((i_ <<< ((1 : Int32) &&& 31))).toNatClampNeg (.int ((c_ >>> ((0 : Int32) &&& 31)).toInt8.toInt32))) rfl N0 get_ (hb hby dc32_43) ?_
  intro T3 h3 L3 X3 e3 W3 N3 f3
  show oG p e below _ (T3.setTop (mkF m 44 #[.val (.ref t_), .val (.int ((i_ <<< ((1 : Int32) &&& 31)) + (1 : Int32))), .val (.int c_)] []))
  refine og (fun _ hr => XS.aloadN X3.here hx rfl (hb hby dc32_44) rfl rfl (XS.iloadN X3.here hx rfl (hb hby dc32_45) rfl (XS.iloadN X3.here hx rfl (hb hby dc32_46) rfl hr))) ?_
  show oG p e below _ (T3.setTop (mkF m 47 #[.val (.ref t_), .val (.int ((i_ <<< ((1 : Int32) &&& 31)) + (1 : Int32))), .val (.int c_)] [(.int c_), (.int ((i_ <<< ((1 : Int32) &&& 31)) + (1 : Int32))), (.ref t_)]))
  have f5 := (S_LO_BYTE_SHIFT.wr W3)
  obtain ⟨T6, X6, e6, st6⟩ := getS2 X3 hx hZ hown (host := "") (Or.inl (hw _ (own_m 142 rfl))) Via.refl e3 f5 (g := (mkF m 47 #[.val (.ref t_), .val (.int ((i_ <<< ((1 : Int32) &&& 31)) + (1 : Int32))), .val (.int c_)] [(.int c_), (.int ((i_ <<< ((1 : Int32) &&& 31)) + (1 : Int32))), (.ref t_)])) rfl (hb hby dc32_47)
  refine og st6 ?_
  show oG p e below _ (T6.setTop (mkF m 50 #[.val (.ref t_), .val (.int ((i_ <<< ((1 : Int32) &&& 31)) + (1 : Int32))), .val (.int c_)] [(.int (8 : Int32)), (.int c_), (.int ((i_ <<< ((1 : Int32) &&& 31)) + (1 : Int32))), (.ref t_)]))
  refine og (fun _ hr => XS.ishr X6.here hx rfl (hb hby dc32_50) rfl (XS.i2b X6.here hx rfl (hb hby dc32_51) rfl hr)) ?_
  show oG p e below _ (T6.setTop (mkF m 52 #[.val (.ref t_), .val (.int ((i_ <<< ((1 : Int32) &&& 31)) + (1 : Int32))), .val (.int c_)] [(.int ((c_ >>> ((8 : Int32) &&& 31)).toInt8.toInt32)), (.int ((i_ <<< ((1 : Int32) &&& 31)) + (1 : Int32))), (.ref t_)]))
  have c8 : (nar .byte ((c_ >>> ((8 : Int32) &&& 31)).toInt8.toInt32)) = ((c_ >>> ((8 : Int32) &&& 31)).toInt8.toInt32) := by
    have q0 := rng32 c_
    have q1 := c_ishr c_ (0 : Int32) 0 (by decide)
    have q2 := c_i2b (c_ >>> ((0 : Int32) &&& 31))
    have q3 := (show ((nar .byte ((c_ >>> ((0 : Int32) &&& 31)).toInt8.toInt32)).toInt - ((c_ >>> ((0 : Int32) &&& 31)).toInt8.toInt32).toInt) % 256 = 0 ∧ -128 ≤ (nar .byte ((c_ >>> ((0 : Int32) &&& 31)).toInt8.toInt32)).toInt ∧ (nar .byte ((c_ >>> ((0 : Int32) &&& 31)).toInt8.toInt32)).toInt < 128 from c_i2b ((c_ >>> ((0 : Int32) &&& 31)).toInt8.toInt32))
    have q4 := c_ishr c_ (8 : Int32) 8 (by decide)
    have q5 := c_i2b (c_ >>> ((8 : Int32) &&& 31))
    have q6 := (show ((nar .byte ((c_ >>> ((8 : Int32) &&& 31)).toInt8.toInt32)).toInt - ((c_ >>> ((8 : Int32) &&& 31)).toInt8.toInt32).toInt) % 256 = 0 ∧ -128 ≤ (nar .byte ((c_ >>> ((8 : Int32) &&& 31)).toInt8.toInt32)).toInt ∧ (nar .byte ((c_ >>> ((8 : Int32) &&& 31)).toInt8.toInt32)).toInt < 128 from c_i2b ((c_ >>> ((8 : Int32) &&& 31)).toInt8.toInt32))
    have p0 := c4
    simp only [true_implies, Int32.lt_iff_toInt_lt, ← Int32.toInt_inj, Int32.reduceToInt, Int64.lt_iff_toInt_lt, ← Int64.toInt_inj, Int64.reduceToInt] at q0 q1 q2 q3 q4 q5 q6 p0 ⊢
    omega
  refine own_stB X6 hx hZ e6 f3 ((i_ <<< ((1 : Int32) &&& 31)) + (1 : Int32)) ((c_ >>> ((8 : Int32) &&& 31)).toInt8.toInt32) ((c_ >>> ((8 : Int32) &&& 31)).toInt8.toInt32) (((i_ <<< ((1 : Int32) &&& 31)) + (1 : Int32))).toNatClampNeg ⟨hp2, hp3⟩ rfl (by rw [List.length_set, hk_]; exact hm_) c8 ((vs_.set ((i_ <<< ((1 : Int32) &&& 31))).toNatClampNeg (.int ((c_ >>> ((0 : Int32) &&& 31)).toInt8.toInt32))).set (((i_ <<< ((1 : Int32) &&& 31)) + (1 : Int32))).toNatClampNeg (.int ((c_ >>> ((8 : Int32) &&& 31)).toInt8.toInt32))) rfl N3 get_ (hb hby dc32_52) ?_
  intro T7 h7 L7 X7 e7 W7 N7 f7
  show oG p e below _ (T7.setTop (mkF m 53 #[.val (.ref t_), .val (.int ((i_ <<< ((1 : Int32) &&& 31)) + (1 : Int32))), .val (.int c_)] []))
  have f9 : Arv Z h7 t_ kt_ .byte nn_ ((vs_.set j_ (.int (StrChars.lo8 c_))).set k_ (.int (StrChars.hi8 c_))) (.int (0 : Int32)) := by have q := f7; rw [own_sh0, hj_, hk_] at q; exact q
  have K10 := ((K0.wr W3 (Or.inl (List.mem_of_getElem? (i := 0) rfl))).wr W7 (Or.inl (List.mem_of_getElem? (i := 0) rfl)))
  exact own_ret0 X7 hx hlk Bd.returns (hb hby dc32_53) (by decide) (by decide) (by rw [e7]; exact ⟨rfl, N7, K10, f9⟩)
theorem own_ltt {a b : Nat} {x y : Int32} (hx : Int32.ofNat a = x) (hy : Int32.ofNat b = y) (h : a < b) (hb : b ≤ 5) : x < y := by
  subst hx hy
  have h1 : b = 1 ∨ b = 2 ∨ b = 3 ∨ b = 4 ∨ b = 5 := by omega
  have h2 : a = 0 ∨ a = 1 ∨ a = 2 ∨ a = 3 ∨ a = 4 := by omega
  rcases h1 with rfl | rfl | rfl | rfl | rfl <;> rcases h2 with rfl | rfl | rfl | rfl | rfl <;> first | decide | omega
theorem own_ltf {a b : Nat} {x y : Int32} (hx : Int32.ofNat a = x) (hy : Int32.ofNat b = y) (h : ¬ a < b) (ha : a ≤ 5) : ¬ x < y := by
  subst hx hy
  have h1 : b = 0 ∨ b = 1 ∨ b = 2 ∨ b = 3 ∨ b = 4 ∨ b = 5 := by omega
  have h2 : a = 0 ∨ a = 1 ∨ a = 2 ∨ a = 3 ∨ a = 4 ∨ a = 5 := by omega
  rcases h1 with rfl | rfl | rfl | rfl | rfl | rfl <;> rcases h2 with rfl | rfl | rfl | rfl | rfl | rfl <;> first | decide | omega
theorem own_neg {a : Nat} {x : Int32} (hx : Int32.ofNat a = x) (ha : a ≤ 5) : ¬ x < 0 := own_ltf hx (show Int32.ofNat 0 = 0 from rfl) (Nat.not_lt_zero a) ha
theorem own_tn {a : Nat} {x : Int32} (hx : Int32.ofNat a = x) (ha : a ≤ 5) : x.toNatClampNeg = a := by
  subst hx
  have h2 : a = 0 ∨ a = 1 ∨ a = 2 ∨ a = 3 ∨ a = 4 ∨ a = 5 := by omega
  rcases h2 with rfl | rfl | rfl | rfl | rfl | rfl <;> decide
theorem own_inc {a : Nat} {x : Int32} (hx : Int32.ofNat a = x) : Int32.ofNat (a + 1) = x + (1 : Int32) := by subst hx; exact Int32.ofNat_add a 1
theorem own_cat {vc : List Value} {cs : List Int32} {i : Nat} {x : Int32} {d : Value} (hv : vc = cs.map Value.int) (hi : i < cs.length) (hx : Int32.ofNat i = x) (hl : cs.length ≤ 5) : vc.getD x.toNatClampNeg d = .int (cs.getD i 0) := by
  rw [own_tn hx (by omega), hv]; simp [List.getD_eq_getElem?_getD, hi]
def own_sub (cs : List Int32) (b k : Nat) : List Int32 := (List.range k).map fun i => cs.getD (b + i) 0
def own_subv (vs : List Value) (f k : Nat) : List Value := (List.range k).map fun i => vs.getD (f + i) (.int (0 : Int32))
theorem own_sub_len (cs : List Int32) (b k : Nat) : (own_sub cs b k).length = k := by simp [own_sub]
theorem own_sub_get {cs : List Int32} {b k i : Nat} (h : i < k) : (own_sub cs b k).getD i 0 = cs.getD (b + i) 0 := by
  simp [own_sub, List.getD_eq_getElem?_getD, h]
theorem own_sub_all (cs : List Int32) : own_sub cs 0 cs.length = cs := by
  apply List.ext_getElem
  · simp [own_sub]
  · intro k h1 h2; simp [own_sub, List.getD_eq_getElem?_getD, h2]
theorem own_sub_succ (cs : List Int32) (b k : Nat) : own_sub cs b (k + 1) = cs.getD b 0 :: own_sub cs (b + 1) k := by
  unfold own_sub
  rw [List.range_succ_eq_map, List.map_cons, List.map_map, Nat.add_zero]
  exact congrArg (cs.getD b 0 :: ·) (List.map_congr_left fun i _ => by show cs.getD (b + (i + 1)) 0 = _; rw [show b + (i + 1) = b + 1 + i from by omega])
theorem own_subv_succ (vs : List Value) (b k : Nat) : own_subv vs b (k + 1) = vs.getD b (.int (0 : Int32)) :: own_subv vs (b + 1) k := by
  unfold own_subv
  rw [List.range_succ_eq_map, List.map_cons, List.map_map, Nat.add_zero]
  exact congrArg (vs.getD b (.int (0 : Int32)) :: ·) (List.map_congr_left fun i _ => by show vs.getD (b + (i + 1)) _ = _; rw [show b + (i + 1) = b + 1 + i from by omega])
theorem own_subl (cs : List Int32) : ∀ (k b : Nat), b + k ≤ cs.length → own_subv (cs.map fun c => Value.int (StrChars.lo8 c)) b k = ((own_sub cs b k).map fun c => Value.int (StrChars.lo8 c))
  | 0, _, _ => rfl
  | k + 1, b, h => by rw [own_subv_succ, own_sub_succ, List.map_cons, own_subl cs k (b + 1) (by omega), StrChars.Road.low_at _ cs b (by omega)]
theorem own_subw (cs : List Int32) : ∀ (k b : Nat), b + k ≤ cs.length → own_subv (StrChars.Road.wideBytes cs) (2 * b) (2 * k) = StrChars.Road.wideBytes (own_sub cs b k)
  | 0, _, _ => rfl
  | k + 1, b, h => by
    rw [show 2 * (k + 1) = 2 * k + 1 + 1 from by omega, own_subv_succ, own_subv_succ, own_sub_succ, StrChars.Road.wide_lo _ cs b (by omega), StrChars.Road.wide_hi _ cs b (by omega), show 2 * b + 1 + 1 = 2 * (b + 1) from by omega, own_subw cs k (b + 1) (by omega)]
    rfl
theorem own_sub_mem {cs : List Int32} {b k : Nat} (h : b + k ≤ cs.length) {P : Int32 → Prop} (hp : ∀ c ∈ cs, P c) : ∀ c ∈ own_sub cs b k, P c := fun c hc => by
  obtain ⟨i, hi, rfl⟩ := List.mem_map.mp hc
  have hi' := List.mem_range.mp hi
  have hm : cs.getD (b + i) 0 ∈ cs := by rw [List.getD_eq_getElem?_getD, List.getElem?_eq_getElem (show b + i < cs.length from by omega)]; exact List.getElem_mem _
  exact hp _ hm
theorem own_get_mem {cs : List Int32} {i : Nat} (h : i < cs.length) : cs.getD i 0 ∈ cs := by rw [List.getD_eq_getElem?_getD, List.getElem?_eq_getElem h]; exact List.getElem_mem _
def own_fill (cs : List Int32) (b i n : Nat) : List Value := (List.range n).map fun k => if k < i then .int (StrChars.lo8 (cs.getD (b + k) 0)) else .int (0 : Int32)
theorem own_fill_len (cs : List Int32) (b i n : Nat) : (own_fill cs b i n).length = n := by simp [own_fill]
theorem own_fill0 (cs : List Int32) (b n : Nat) : List.replicate n (Value.int (0 : Int32)) = own_fill cs b 0 n := by
  apply List.ext_getElem
  · simp [own_fill]
  · intro k h1 h2; simp [own_fill]
theorem own_fill_set {cs : List Int32} {b i n : Nat} (h : i < n) : (own_fill cs b i n).set i (.int (StrChars.lo8 (cs.getD (b + i) 0))) = own_fill cs b (i + 1) n := by
  apply List.ext_getElem
  · simp [own_fill]
  · intro k h1 h2
    simp only [own_fill, List.getElem_set, List.getElem_map, List.getElem_range]
    by_cases hk : i = k
    · subst hk; rw [if_pos rfl, if_pos (Nat.lt_succ_self i)]
    · rw [if_neg hk]
      by_cases q : k < i
      · rw [if_pos q, if_pos (by omega)]
      · rw [if_neg q, if_neg (by omega)]
theorem own_fill_full (cs : List Int32) (b n : Nat) : own_fill cs b n n = ((own_sub cs b n).map fun c => Value.int (StrChars.lo8 c)) := by
  unfold own_fill own_sub
  rw [List.map_map]
  exact List.map_congr_left fun k hk => if_pos (List.mem_range.mp hk)
theorem own_cbk {len bN kN : Nat} {nn b k : Int32} (hN : nn = Int32.ofNat (2 * len)) (hb : Int32.ofNat bN = b) (hk : Int32.ofNat kN = k) (hl : len ≤ 5) (h : bN + kN ≤ len) : ¬ ((((nn >>> ((1 : Int32) &&& 31)) ||| b) ||| k)) < 0 ∧ ¬ ((nn >>> ((1 : Int32) &&& 31)) - b) < k ∧ Int32.ofNat (2 * bN) = (b <<< ((1 : Int32) &&& 31)) ∧ Int32.ofNat (2 * (bN + kN)) = ((b + k) <<< ((1 : Int32) &&& 31)) ∧ ¬ (b + k) < 0 ∧ (b + k) < (1073741823 : Int32) := by
  subst hN hb hk
  have h0 : len = 0 ∨ len = 1 ∨ len = 2 ∨ len = 3 ∨ len = 4 ∨ len = 5 := by omega
  have h1 : bN = 0 ∨ bN = 1 ∨ bN = 2 ∨ bN = 3 ∨ bN = 4 ∨ bN = 5 := by omega
  have h2 : kN = 0 ∨ kN = 1 ∨ kN = 2 ∨ kN = 3 ∨ kN = 4 ∨ kN = 5 := by omega
  rcases h0 with rfl | rfl | rfl | rfl | rfl | rfl <;> rcases h1 with rfl | rfl | rfl | rfl | rfl | rfl <;> rcases h2 with rfl | rfl | rfl | rfl | rfl | rfl <;> first | (exfalso; omega) | decide
theorem own_cpb {fN gN nN : Nat} {f g nn : Int32} (hf : Int32.ofNat fN = f) (hg : Int32.ofNat gN = g) (hn : Int32.ofNat nN = nn) (h1 : fN ≤ gN) (h2 : gN ≤ nN) (h3 : nN ≤ 10) : ¬ f < 0 ∧ ¬ g < f ∧ ¬ (g - f) < 0 ∧ (g - f).toNatClampNeg = gN - fN ∧ Int32.ofNat (gN - fN) = g - f ∧ f.toNatClampNeg = fN ∧ nn.toNatClampNeg = nN ∧ ¬ (nn - f) < (g - f) ∧ (f = 0 → fN = 0) ∧ (g = nn → gN = nN) := by
  have e : ∀ {a : Nat} {x : Int32}, Int32.ofNat a = x → a ≤ 10 → x.toInt = a := fun {a x} hx ha => by
    subst hx
    have h : a = 0 ∨ a = 1 ∨ a = 2 ∨ a = 3 ∨ a = 4 ∨ a = 5 ∨ a = 6 ∨ a = 7 ∨ a = 8 ∨ a = 9 ∨ a = 10 := by omega
    rcases h with rfl | rfl | rfl | rfl | rfl | rfl | rfl | rfl | rfl | rfl | rfl <;> decide
  have ef := e hf (by omega); have eg := e hg (by omega); have en := e hn h3; have ed := e (a := gN - fN) rfl (by omega)
  have d1 := c_isub g f; have d2 := c_isub nn f; have r1 := rng32 (g - f); have r2 := rng32 (nn - f)
  refine ⟨?_, ?_, ?_, ?_, ?_, ?_, ?_, ?_, ?_, ?_⟩
  · simp only [Int32.lt_iff_toInt_lt, Int32.reduceToInt]; omega
  · simp only [Int32.lt_iff_toInt_lt, Int32.reduceToInt]; omega
  · simp only [Int32.lt_iff_toInt_lt, Int32.reduceToInt]; omega
  · simp only [Int32.toNatClampNeg]; omega
  · apply Int32.toInt_inj.mp; omega
  · simp only [Int32.toNatClampNeg]; omega
  · simp only [Int32.toNatClampNeg]; omega
  · simp only [Int32.lt_iff_toInt_lt]; omega
  · intro q; rw [q] at ef; simp only [Int32.reduceToInt] at ef; omega
  · intro q; rw [q] at eg; omega
theorem own_pcw {cs : List Int32} {N2 j : Int32} {vs : List Value} {i jj : Nat} (hN : N2 = Int32.ofNat (2 * cs.length)) (hv : vs = StrChars.Road.wideBytes cs) (hb : ∀ c ∈ cs, ¬ c < 0 ∧ ¬ (65535 : Int32) < c) (hl : cs.length ≤ 5) (hi : i < cs.length) (hj : Int32.ofNat i = j) (hjj : jj = 2 * i) : own_pc vs N2 j jj (cs.getD i 0) ∧ ¬ j < 0 ∧ j < (N2 >>> ((1 : Int32) &&& 31)) := by
  subst hj hv hN hjj
  have hm : cs.getD i 0 ∈ cs := by rw [List.getD_eq_getElem?_getD, List.getElem?_eq_getElem hi]; exact List.getElem_mem _
  have g := hb _ hm
  have w1 := StrChars.Road.wide_lo (.int (0 : Int32)) cs i hi
  have w2 := StrChars.Road.wide_hi (.int (0 : Int32)) cs i hi
  have hn' : cs.length = 1 ∨ cs.length = 2 ∨ cs.length = 3 ∨ cs.length = 4 ∨ cs.length = 5 := by omega
  have hi' : i = 0 ∨ i = 1 ∨ i = 2 ∨ i = 3 ∨ i = 4 := by omega
  refine ⟨⟨?_, ?_, ?_, ?_, ?_, ?_, w1, w2, g.1, g.2⟩, ?_, ?_⟩
  all_goals (clear w1 w2 g hm hb; revert hi hl; generalize cs.length = n at *; intro hl hi; rcases hi' with rfl | rfl | rfl | rfl | rfl <;> rcases hn' with rfl | rfl | rfl | rfl | rfl <;> first | decide | omega)
theorem own_put {len i : Nat} {nn x : Int32} (hN : nn = Int32.ofNat (2 * len)) (hl : len ≤ 5) (hi : i < len) (hx : Int32.ofNat i = x) : ¬ (x <<< ((1 : Int32) &&& 31)) < 0 ∧ (x <<< ((1 : Int32) &&& 31)) < nn ∧ ¬ ((x <<< ((1 : Int32) &&& 31)) + (1 : Int32)) < 0 ∧ ((x <<< ((1 : Int32) &&& 31)) + (1 : Int32)) < nn ∧ (x <<< ((1 : Int32) &&& 31)).toNatClampNeg = 2 * i ∧ ((x <<< ((1 : Int32) &&& 31)) + (1 : Int32)).toNatClampNeg = 2 * i + 1 := by
  subst hN hx
  have hn' : len = 1 ∨ len = 2 ∨ len = 3 ∨ len = 4 ∨ len = 5 := by omega
  have hi' : i = 0 ∨ i = 1 ∨ i = 2 ∨ i = 3 ∨ i = 4 := by omega
  rcases hn' with rfl | rfl | rfl | rfl | rfl <;> rcases hi' with rfl | rfl | rfl | rfl | rfl <;> first | (exfalso; omega) | decide
def own_wf (cs : List Int32) (i n : Nat) : List Value := (List.range (2 * n)).map fun k => if k < 2 * i then (if k % 2 = 0 then .int (StrChars.lo8 (cs.getD (k / 2) 0)) else .int (StrChars.hi8 (cs.getD (k / 2) 0))) else .int (0 : Int32)
theorem own_wf_len (cs : List Int32) (i n : Nat) : (own_wf cs i n).length = 2 * n := by simp [own_wf]
theorem own_wf0 (cs : List Int32) (n : Nat) : List.replicate (2 * n) (Value.int (0 : Int32)) = own_wf cs 0 n := by
  apply List.ext_getElem
  · simp [own_wf]
  · intro k h1 h2; simp [own_wf]
theorem own_wf_set {cs : List Int32} {i n : Nat} (h : i < n) : ((own_wf cs i n).set (2 * i) (.int (StrChars.lo8 (cs.getD i 0)))).set (2 * i + 1) (.int (StrChars.hi8 (cs.getD i 0))) = own_wf cs (i + 1) n := by
  apply List.ext_getElem
  · simp [own_wf]
  · intro k h1 h2
    simp only [own_wf, List.getElem_set, List.getElem_map, List.getElem_range]
    by_cases q1 : 2 * i + 1 = k
    · rw [if_pos q1, if_pos (by omega), if_neg (by omega), show k / 2 = i from by omega]
    · rw [if_neg q1]
      by_cases q2 : 2 * i = k
      · rw [if_pos q2, if_pos (by omega), if_pos (by omega), show k / 2 = i from by omega]
      · rw [if_neg q2]
        by_cases q3 : k < 2 * i
        · rw [if_pos q3, if_pos (show k < 2 * (i + 1) from by omega)]
        · rw [if_neg q3, if_neg (show ¬ k < 2 * (i + 1) from by omega)]
theorem own_wf_full (cs : List Int32) : own_wf cs cs.length cs.length = StrChars.Road.wideBytes cs := by
  have e := own_subw cs cs.length 0 (by omega)
  rw [own_sub_all] at e
  rw [← e]
  unfold own_wf own_subv
  refine List.map_congr_left fun k hk => ?_
  have hk' := List.mem_range.mp hk
  rw [if_pos hk', show 2 * 0 + k = k from by omega]
  by_cases q : k % 2 = 0
  · rw [if_pos q]; have := StrChars.Road.wide_lo (.int (0 : Int32)) cs (k / 2) (by omega); rw [show 2 * (k / 2) = k from by omega] at this; exact this.symm
  · rw [if_neg q]; have := StrChars.Road.wide_hi (.int (0 : Int32)) cs (k / 2) (by omega); rw [show 2 * (k / 2) + 1 = k from by omega] at this; exact this.symm
theorem dc14_0 : decode jdk_52_method_21_code 0 = .ok (.iconst 0, 1) := by decide +kernel
theorem dc14_1 : decode jdk_52_method_21_code 1 = .ok (.istore 5, 2) := by decide +kernel
theorem dc14_3 : decode jdk_52_method_21_code 3 = .ok (.iload 5, 2) := by decide +kernel
theorem dc14_5 : decode jdk_52_method_21_code 5 = .ok (.iload 4, 2) := by decide +kernel
theorem dc14_7 : decode jdk_52_method_21_code 7 = .ok (.if_icmp .ge 37, 3) := by decide +kernel
theorem dc14_44 : decode jdk_52_method_21_code 44 = .ok (.iload 4, 2) := by decide +kernel
theorem dc14_46 : decode jdk_52_method_21_code 46 = .ok (.ireturn, 1) := by decide +kernel
theorem dc14_10 : decode jdk_52_method_21_code 10 = .ok (.aload_n 0, 1) := by decide +kernel
theorem dc14_11 : decode jdk_52_method_21_code 11 = .ok (.iload_n 1, 1) := by decide +kernel
theorem dc14_12 : decode jdk_52_method_21_code 12 = .ok (.caload, 1) := by decide +kernel
theorem dc14_13 : decode jdk_52_method_21_code 13 = .ok (.istore 6, 2) := by decide +kernel
theorem dc14_15 : decode jdk_52_method_21_code 15 = .ok (.iload 6, 2) := by decide +kernel
theorem dc14_17 : decode jdk_52_method_21_code 17 = .ok (.sipush 255, 3) := by decide +kernel
theorem dc14_20 : decode jdk_52_method_21_code 20 = .ok (.if_icmp .le 6, 3) := by decide +kernel
theorem dc14_23 : decode jdk_52_method_21_code 23 = .ok (.iload 5, 2) := by decide +kernel
theorem dc14_25 : decode jdk_52_method_21_code 25 = .ok (.ireturn, 1) := by decide +kernel
theorem dc14_26 : decode jdk_52_method_21_code 26 = .ok (.aload_n 2, 1) := by decide +kernel
theorem dc14_27 : decode jdk_52_method_21_code 27 = .ok (.iload_n 3, 1) := by decide +kernel
theorem dc14_28 : decode jdk_52_method_21_code 28 = .ok (.iload 6, 2) := by decide +kernel
theorem dc14_30 : decode jdk_52_method_21_code 30 = .ok (.i2b, 1) := by decide +kernel
theorem dc14_31 : decode jdk_52_method_21_code 31 = .ok (.bastore, 1) := by decide +kernel
theorem dc14_32 : decode jdk_52_method_21_code 32 = .ok (.iinc 1 1, 3) := by decide +kernel
theorem dc14_35 : decode jdk_52_method_21_code 35 = .ok (.iinc 3 1, 3) := by decide +kernel
theorem dc14_38 : decode jdk_52_method_21_code 38 = .ok (.iinc 5 1, 3) := by decide +kernel
theorem dc14_41 : decode jdk_52_method_21_code 41 = .ok (.goto (-38), 3) := by decide +kernel
def Q_cw (Z : State) (n_ : Int32) (cs_ : List Int32) (da_ : Addr) (kd_ : ClassId) (h0 : Heap) (n0 : Nat) (v : Option Value) (h : Heap) (L : List Loc) : Prop := (∃ (iN : Nat), v = some (.int (Int32.ofNat iN)) ∧ Fr n0 L ∧ Keep h0 h [da_] ∧ Arv Z h da_ kd_ .byte n_ (own_fill cs_ 0 iN cs_.length) (.int (0 : Int32)) ∧ iN ≤ cs_.length ∧ (∀ k, k < iN → ¬ (255 : Int32) < cs_.getD (0 + k) 0) ∧ (iN < cs_.length → (255 : Int32) < cs_.getD (0 + iN) 0))
set_option maxRecDepth 65536 in
set_option maxHeartbeats 40000000 in
theorem rm_cw (l : Launch) (Z : State) (a0 : Array Value) (hw : ∀ d ∈ tables_1, d.before a0 Z = true) (ws : List Jvm.Cond) (sa_ : Addr) (ks_ : ClassId) (n_ : Int32) (cs_ : List Int32) (vc_ : List Value) (da_ : Addr) (kd_ : ClassId) (h0 : Heap) (n0 : Nat) (Z0 : n0 ≤ h0.size) (Ks_ : Arv Z h0 sa_ ks_ .char n_ vc_ (.int (0 : Int32))) (hvc_ : vc_ = cs_.map Value.int) (hn_ : Int32.ofNat cs_.length = n_) (hl5_ : cs_.length ≤ 5) (Kd_ : Arv Z h0 da_ kd_ .byte n_ (own_fill cs_ 0 0 cs_.length) (.int (0 : Int32))) (nsd_ : sa_ ≠ da_) (ged_ : n0 ≤ da_) :
    MetFree l (⟨"java/lang/StringUTF16", "compress", "([CI[BII)I"⟩ : MethodName) (head1 (Jvm.Cond.code (⟨"java/lang/StringUTF16", "compress", "([CI[BII)I"⟩ : MethodName) jdk_52_method_21_code 7 (some .int) :: ws) ({ frames := 0, cells := 0, slots := 0, locals := 0 } : Room)) (fun aA U => aA = #[(.ref sa_), (.int (0 : Int32)), (.ref da_), (.int (0 : Int32)), (.int n_)] ∧ Z.Warmed39 U.vm ∧ U.heap = h0) (fun _ _ _ _ _ => True) (fun _ U o U' => ∃ v L, o = .returned v ∧ Q_cw Z n_ cs_ da_ kd_ h0 n0 v U'.heap L ∧ FrameEnd U o U' L ({ frames := 0, cells := 0, slots := 0, locals := 0 } : Room).cells ({ frames := 0, cells := 0, slots := 0, locals := 0 } : Room).slots) := by
  refine MetFree.of_bodySF (plainFor_of_name own_pn_java_lang_StringUTF16) hisR ?_
  intro p e s m args below meth c s₁ Bd hml0 hP hK
  obtain ⟨rfl, hZ, hh⟩ := hP
  have hx := Bd.exec
  have hby := Bd.bytes
  have hlk : meth.locks = false := BodyLoose.notSynchronized Bd
  have hml : c.maxLocals = 7 := hml0
  have hown : s.vm.findClass "java/lang/StringUTF16" = some m.cls := findClass_of_methodNamed Bd.named
  have hnm := (name_of_methodNamed Bd.named Bd.method).1
  have X0 : Stand p l e ({ frames := 0, cells := 0, slots := 0, locals := 0 } : Room) s m #[(.ref sa_), (.int (0 : Int32)), (.ref da_), (.int (0 : Int32)), (.int n_)] below meth c s₁ [] 0 0 := Stand.of_body Bd
  have e0 : s₁.heap = h0 := by rw [← hh, Bd.state]; rfl
  have N0 := Fr.nil n0
  have K0 : Keep h0 h0 [da_] := Keep.refl _ _
  show oG p e below (own_K s (Q_cw Z n_ cs_ da_ kd_ h0 n0) ({ frames := 0, cells := 0, slots := 0, locals := 0 } : Room).cells ({ frames := 0, cells := 0, slots := 0, locals := 0 } : Room).slots) (s₁.setTop (entryFrame m #[(.ref sa_), (.int (0 : Int32)), (.ref da_), (.int (0 : Int32)), (.int n_)] 7))
  rw [(by first | (simp [entryFrame, mkF, argsToLocals, Value.category]; done) | rfl : entryFrame m #[(.ref sa_), (.int (0 : Int32)), (.ref da_), (.int (0 : Int32)), (.int n_)] 7 = mkF m 0 #[.val (.ref sa_), .val (.int (0 : Int32)), .val (.ref da_), .val (.int (0 : Int32)), .val (.int n_), .unset, .unset] [])]
  show oG p e below _ (s₁.setTop (mkF m 0 #[.val (.ref sa_), .val (.int (0 : Int32)), .val (.ref da_), .val (.int (0 : Int32)), .val (.int n_), .unset, .unset] []))
  refine og (fun _ hr => XS.iconst X0.here hx rfl (hb hby dc14_0) (XS.istore X0.here hx rfl (hb hby dc14_1) rfl (l' := #[.val (.ref sa_), .val (.int (0 : Int32)), .val (.ref da_), .val (.int (0 : Int32)), .val (.int n_), .val (.int (0 : Int32)), .unset]) rfl hr)) ?_
  show oG p e below _ (s₁.setTop (mkF m 3 #[.val (.ref sa_), .val (.int (0 : Int32)), .val (.ref da_), .val (.int (0 : Int32)), .val (.int n_), .val (.int (0 : Int32)), .unset] []))
  have lp_ : ∀ (r_ : Nat) (i_ : Nat) (x_ : Int32) (sl_ : Slot) (Tl : State) (Ll : List Loc) (hl : Heap), (Int32.ofNat i_ = x_) → (i_ + r_ = cs_.length) → (∀ k, k < i_ → ¬ (255 : Int32) < cs_.getD (0 + k) 0) → (sl_ = .unset ∨ ∃ w, sl_ = .val w ∧ w.category = 1) → Stand p l e ({ frames := 0, cells := 0, slots := 0, locals := 0 } : Room) s m #[(.ref sa_), (.int (0 : Int32)), (.ref da_), (.int (0 : Int32)), (.int n_)] below meth c Tl Ll 0 0 → Fr n0 Ll → (Tl.heap = hl) → (Keep h0 hl [da_]) → (Arv Z hl da_ kd_ .byte n_ (own_fill cs_ 0 i_ cs_.length) (.int (0 : Int32))) → oG p e below (own_K s (Q_cw Z n_ cs_ da_ kd_ h0 n0) ({ frames := 0, cells := 0, slots := 0, locals := 0 } : Room).cells ({ frames := 0, cells := 0, slots := 0, locals := 0 } : Room).slots) (Tl.setTop (mkF m 3 #[.val (.ref sa_), .val (.int x_), .val (.ref da_), .val (.int x_), .val (.int n_), .val (.int x_), sl_] [])) := by
    intro r_
    induction r_ with
    | zero =>
      intro i_ x_ sl_ Tl Ll hl hi_ hr_ hp_ hz_ Xl Nl el Kl Al_
      have hlt_ : ¬ (x_ < n_) := own_ltf hi_ hn_ (by omega) (by omega)
      show oG p e below _ (Tl.setTop (mkF m 3 #[.val (.ref sa_), .val (.int x_), .val (.ref da_), .val (.int x_), .val (.int n_), .val (.int x_), sl_] []))
      refine og (fun _ hr => XS.iload Xl.here hx rfl (hb hby dc14_3) rfl (XS.iload Xl.here hx rfl (hb hby dc14_5) rfl hr)) ?_
      show oG p e below _ (Tl.setTop (mkF m 7 #[.val (.ref sa_), .val (.int x_), .val (.ref da_), .val (.int x_), .val (.int n_), .val (.int x_), sl_] [(.int n_), (.int x_)]))
      refine og (fun _ hr => XS.icmpYes Xl.here hx rfl (pc0 := 7) (pc' := 44) rfl (hb hby dc14_7) rfl (flt hlt_).2.1 (by decide) (by decide) hr) ?_
      show oG p e below _ (Tl.setTop (mkF m 44 #[.val (.ref sa_), .val (.int x_), .val (.ref da_), .val (.int x_), .val (.int n_), .val (.int x_), sl_] []))
      refine og (fun _ hr => XS.iload Xl.here hx rfl (hb hby dc14_44) rfl hr) ?_
      show oG p e below _ (Tl.setTop (mkF m 46 #[.val (.ref sa_), .val (.int x_), .val (.ref da_), .val (.int x_), .val (.int n_), .val (.int x_), sl_] [(.int n_)]))
      have K1 := (K0.trans Kl (allS (Or.inl (List.mem_of_getElem? (i := 0) rfl)) all0))
      exact own_retI Xl hx hlk Bd.returns (hb hby dc14_46) (by decide) (by decide) (by rw [el]; exact ⟨cs_.length, (by rw [hn_]), Nl, K1, (by have q := Al_; rw [show i_ = cs_.length from by omega] at q; exact q), (Nat.le_refl _), (fun k hk => hp_ k (by omega)), (fun q => absurd q (Nat.lt_irrefl _))⟩)
    | succ r_ ih =>
      intro i_ x_ sl_ Tl Ll hl hi_ hr_ hp_ hz_ Xl Nl el Kl Al_
      have hlt_ : x_ < n_ := own_ltt hi_ hn_ (by omega) hl5_
      have hnx_ : ¬ x_ < 0 := own_neg hi_ (by omega)
      show oG p e below _ (Tl.setTop (mkF m 3 #[.val (.ref sa_), .val (.int x_), .val (.ref da_), .val (.int x_), .val (.int n_), .val (.int x_), sl_] []))
      refine og (fun _ hr => XS.iload Xl.here hx rfl (hb hby dc14_3) rfl (XS.iload Xl.here hx rfl (hb hby dc14_5) rfl hr)) ?_
      show oG p e below _ (Tl.setTop (mkF m 7 #[.val (.ref sa_), .val (.int x_), .val (.ref da_), .val (.int x_), .val (.int n_), .val (.int x_), sl_] [(.int n_), (.int x_)]))
      refine og (fun _ hr => XS.icmpNo Xl.here hx rfl (hb hby dc14_7) rfl (tlt hlt_).2.1 hr) ?_
      show oG p e below _ (Tl.setTop (mkF m 10 #[.val (.ref sa_), .val (.int x_), .val (.ref da_), .val (.int x_), .val (.int n_), .val (.int x_), sl_] []))
      have f2 := (Ks_.keep Kl (ninS nsd_ nin0))
      refine og (fun _ hr => XS.aloadN Xl.here hx rfl (hb hby dc14_10) rfl rfl (XS.iloadN Xl.here hx rfl (hb hby dc14_11) rfl (own_caload Xl hx hZ el f2 x_ (.int (cs_.getD (0 + i_) 0)) ⟨hnx_, hlt_⟩ (own_cat hvc_ (show 0 + i_ < cs_.length from by omega) (by rw [Nat.zero_add]; exact hi_) hl5_) rfl rfl (hb hby dc14_12) (XS.istoreS Xl.here hx rfl (hb hby dc14_13) rfl rfl hz_ (XS.iload Xl.here hx rfl (hb hby dc14_15) rfl (XS.sipush Xl.here hx rfl (hb hby dc14_17) hr)))))) ?_
      show oG p e below _ (Tl.setTop (mkF m 20 #[.val (.ref sa_), .val (.int x_), .val (.ref da_), .val (.int x_), .val (.int n_), .val (.int x_), .val (.int (cs_.getD (0 + i_) 0))] [(.int (255 : Int32)), (.int (cs_.getD (0 + i_) 0))]))
      rcases Classical.em ((255 : Int32) < (cs_.getD (0 + i_) 0)) with c3 | c3
      · skip
        refine og (fun _ hr => XS.icmpNo Xl.here hx rfl (hb hby dc14_20) rfl (tlt c3).2.2.2 hr) ?_
        show oG p e below _ (Tl.setTop (mkF m 23 #[.val (.ref sa_), .val (.int x_), .val (.ref da_), .val (.int x_), .val (.int n_), .val (.int x_), .val (.int (cs_.getD (0 + i_) 0))] []))
        refine og (fun _ hr => XS.iload Xl.here hx rfl (hb hby dc14_23) rfl hr) ?_
        show oG p e below _ (Tl.setTop (mkF m 25 #[.val (.ref sa_), .val (.int x_), .val (.ref da_), .val (.int x_), .val (.int n_), .val (.int x_), .val (.int (cs_.getD (0 + i_) 0))] [(.int x_)]))
        have K4 := (K0.trans Kl (allS (Or.inl (List.mem_of_getElem? (i := 0) rfl)) all0))
        exact own_retI Xl hx hlk Bd.returns (hb hby dc14_25) (by decide) (by decide) (by rw [el]; exact ⟨i_, (by rw [hi_]), Nl, K4, Al_, (by omega), hp_, (fun _ => c3)⟩)
      refine og (fun _ hr => XS.icmpYes Xl.here hx rfl (pc0 := 20) (pc' := 26) rfl (hb hby dc14_20) rfl (flt c3).2.2.2 (by decide) (by decide) hr) ?_
      show oG p e below _ (Tl.setTop (mkF m 26 #[.val (.ref sa_), .val (.int x_), .val (.ref da_), .val (.int x_), .val (.int n_), .val (.int x_), .val (.int (cs_.getD (0 + i_) 0))] []))
      refine og (fun _ hr => XS.aloadN Xl.here hx rfl (hb hby dc14_26) rfl rfl (XS.iloadN Xl.here hx rfl (hb hby dc14_27) rfl (XS.iload Xl.here hx rfl (hb hby dc14_28) rfl (XS.i2b Xl.here hx rfl (hb hby dc14_30) rfl hr)))) ?_
      show oG p e below _ (Tl.setTop (mkF m 31 #[.val (.ref sa_), .val (.int x_), .val (.ref da_), .val (.int x_), .val (.int n_), .val (.int x_), .val (.int (cs_.getD (0 + i_) 0))] [(.int ((cs_.getD (0 + i_) 0).toInt8.toInt32)), (.int x_), (.ref da_)]))
      have c6 : (nar .byte ((cs_.getD (0 + i_) 0).toInt8.toInt32)) = ((cs_.getD (0 + i_) 0).toInt8.toInt32) := by
        have q0 := rng32 (cs_.getD (0 + i_) 0)
        have q1 := c_i2b (cs_.getD (0 + i_) 0)
        have q2 := (show ((nar .byte ((cs_.getD (0 + i_) 0).toInt8.toInt32)).toInt - ((cs_.getD (0 + i_) 0).toInt8.toInt32).toInt) % 256 = 0 ∧ -128 ≤ (nar .byte ((cs_.getD (0 + i_) 0).toInt8.toInt32)).toInt ∧ (nar .byte ((cs_.getD (0 + i_) 0).toInt8.toInt32)).toInt < 128 from c_i2b ((cs_.getD (0 + i_) 0).toInt8.toInt32))
        have p0 := c3
        simp only [true_implies, Int32.lt_iff_toInt_lt, ← Int32.toInt_inj, Int32.reduceToInt, Int64.lt_iff_toInt_lt, ← Int64.toInt_inj, Int64.reduceToInt] at q0 q1 q2 p0 ⊢
        omega
      refine own_stB Xl hx hZ el Al_ x_ ((cs_.getD (0 + i_) 0).toInt8.toInt32) ((cs_.getD (0 + i_) 0).toInt8.toInt32) (x_).toNatClampNeg ⟨hnx_, hlt_⟩ rfl (by rw [own_tn hi_ (by omega), own_fill_len]; omega) c6 ((own_fill cs_ 0 i_ cs_.length).set (x_).toNatClampNeg (.int ((cs_.getD (0 + i_) 0).toInt8.toInt32))) rfl Nl ged_ (hb hby dc14_31) ?_
      intro T5 h5 L5 X5 e5 W5 N5 f5
      show oG p e below _ (T5.setTop (mkF m 32 #[.val (.ref sa_), .val (.int x_), .val (.ref da_), .val (.int x_), .val (.int n_), .val (.int x_), .val (.int (cs_.getD (0 + i_) 0))] []))
      refine og (fun _ hr => XS.iinc X5.here hx rfl (hb hby dc14_32) rfl (l' := #[.val (.ref sa_), .val (.int (x_ + (1 : Int32))), .val (.ref da_), .val (.int x_), .val (.int n_), .val (.int x_), .val (.int (cs_.getD (0 + i_) 0))]) rfl (XS.iinc X5.here hx rfl (hb hby dc14_35) rfl (l' := #[.val (.ref sa_), .val (.int (x_ + (1 : Int32))), .val (.ref da_), .val (.int (x_ + (1 : Int32))), .val (.int n_), .val (.int x_), .val (.int (cs_.getD (0 + i_) 0))]) rfl (XS.iinc X5.here hx rfl (hb hby dc14_38) rfl (l' := #[.val (.ref sa_), .val (.int (x_ + (1 : Int32))), .val (.ref da_), .val (.int (x_ + (1 : Int32))), .val (.int n_), .val (.int (x_ + (1 : Int32))), .val (.int (cs_.getD (0 + i_) 0))]) rfl (XS.goto X5.here hx rfl (pc0 := 41) (pc' := 3) rfl (hb hby dc14_41) (by decide) (by decide) hr)))) ?_
      show oG p e below _ (T5.setTop (mkF m 3 #[.val (.ref sa_), .val (.int (x_ + (1 : Int32))), .val (.ref da_), .val (.int (x_ + (1 : Int32))), .val (.int n_), .val (.int (x_ + (1 : Int32))), .val (.int (cs_.getD (0 + i_) 0))] []))
      have f7 : Arv Z h5 da_ kd_ .byte n_ (own_fill cs_ 0 (i_ + 1) cs_.length) (.int (0 : Int32)) := by
        have q : Arv Z h5 da_ kd_ .byte n_ ((own_fill cs_ 0 i_ cs_.length).set i_ (.int (StrChars.lo8 (cs_.getD (0 + i_) 0)))) (.int (0 : Int32)) := by have q := f5; rw [own_tn hi_ (by omega)] at q; exact q
        rw [own_fill_set (by omega)] at q; exact q
      exact ih (i_ + 1) (x_ + (1 : Int32)) _ T5 _ h5 (own_inc hi_) (by omega) (fun k hk => by rcases Nat.lt_or_eq_of_le (Nat.le_of_lt_succ hk) with q | rfl; exact hp_ k q; exact c3) (Or.inr ⟨_, rfl, rfl⟩) X5 N5 e5 (Kl.wr W5 (Or.inl (List.mem_of_getElem? (i := 0) rfl))) f7
  exact lp_ cs_.length 0 (0 : Int32) .unset s₁ _ h0 rfl (by omega) (fun k hk => absurd hk (Nat.not_lt_zero k)) (Or.inl rfl) X0 N0 e0 (Keep.refl _ _) Kd_
theorem dc31_0 : decode jdk_52_method_3_code 0 = .ok (.iload_n 0, 1) := by decide +kernel
theorem dc31_1 : decode jdk_52_method_3_code 1 = .ok (.ifCond .ge 11, 3) := by decide +kernel
theorem dc31_12 : decode jdk_52_method_3_code 12 = .ok (.iload_n 0, 1) := by decide +kernel
theorem dc31_13 : decode jdk_52_method_3_code 13 = .ok (.ldc 20, 2) := by decide +kernel
theorem dc31_15 : decode jdk_52_method_3_code 15 = .ok (.if_icmp .lt 40, 3) := by decide +kernel
theorem dc31_55 : decode jdk_52_method_3_code 55 = .ok (.iload_n 0, 1) := by decide +kernel
theorem dc31_56 : decode jdk_52_method_3_code 56 = .ok (.iconst 1, 1) := by decide +kernel
theorem dc31_57 : decode jdk_52_method_3_code 57 = .ok (.ishl, 1) := by decide +kernel
theorem dc31_58 : decode jdk_52_method_3_code 58 = .ok (.ireturn, 1) := by decide +kernel
def Q_nb (Z : State) (x_ : Int32) (h0 : Heap) (n0 : Nat) (v : Option Value) (h : Heap) (L : List Loc) : Prop := v = some (.int (x_ <<< ((1 : Int32) &&& 31))) ∧ Fr n0 L ∧ h = h0
set_option maxRecDepth 65536 in
set_option maxHeartbeats 40000000 in
theorem rm_nb (l : Launch) (Z : State) (a0 : Array Value) (hw : ∀ d ∈ tables_1, d.before a0 Z = true) (ws : List Jvm.Cond) (x_ : Int32) (h0 : Heap) (n0 : Nat) (Z0 : n0 ≤ h0.size) (hx0 : ¬ (x_ < (0 : Int32))) (hx1 : x_ < (1073741823 : Int32)) :
    MetFree l (⟨"java/lang/StringUTF16", "newBytesLength", "(I)I"⟩ : MethodName) (head1 (Jvm.Cond.code (⟨"java/lang/StringUTF16", "newBytesLength", "(I)I"⟩ : MethodName) jdk_52_method_3_code 1 (some .int) :: ws) ({ frames := 0, cells := 0, slots := 0, locals := 0 } : Room)) (fun aA U => aA = #[(.int x_)] ∧ Z.Warmed39 U.vm ∧ U.heap = h0) (fun _ _ _ _ _ => True) (fun _ U o U' => ∃ v L, o = .returned v ∧ Q_nb Z x_ h0 n0 v U'.heap L ∧ FrameEnd U o U' L ({ frames := 0, cells := 0, slots := 0, locals := 0 } : Room).cells ({ frames := 0, cells := 0, slots := 0, locals := 0 } : Room).slots) := by
  refine MetFree.of_bodySF (plainFor_of_name own_pn_java_lang_StringUTF16) hisR ?_
  intro p e s m args below meth c s₁ Bd hml0 hP hK
  obtain ⟨rfl, hZ, hh⟩ := hP
  have hx := Bd.exec
  have hby := Bd.bytes
  have hlk : meth.locks = false := BodyLoose.notSynchronized Bd
  have hml : c.maxLocals = 1 := hml0
  have hown : s.vm.findClass "java/lang/StringUTF16" = some m.cls := findClass_of_methodNamed Bd.named
  have hnm := (name_of_methodNamed Bd.named Bd.method).1
  have X0 : Stand p l e ({ frames := 0, cells := 0, slots := 0, locals := 0 } : Room) s m #[(.int x_)] below meth c s₁ [] 0 0 := Stand.of_body Bd
  have e0 : s₁.heap = h0 := by rw [← hh, Bd.state]; rfl
  have N0 := Fr.nil n0
  show oG p e below (own_K s (Q_nb Z x_ h0 n0) ({ frames := 0, cells := 0, slots := 0, locals := 0 } : Room).cells ({ frames := 0, cells := 0, slots := 0, locals := 0 } : Room).slots) (s₁.setTop (entryFrame m #[(.int x_)] 1))
  rw [(by first | (simp [entryFrame, mkF, argsToLocals, Value.category]; done) | rfl : entryFrame m #[(.int x_)] 1 = mkF m 0 #[.val (.int x_)] [])]
  show oG p e below _ (s₁.setTop (mkF m 0 #[.val (.int x_)] []))
  refine og (fun _ hr => XS.iloadN X0.here hx rfl (hb hby dc31_0) rfl hr) ?_
  show oG p e below _ (s₁.setTop (mkF m 1 #[.val (.int x_)] [(.int x_)]))
  refine og (fun _ hr => XS.ifYes X0.here hx rfl (pc0 := 1) (pc' := 12) rfl (hb hby dc31_1) rfl ((if0 _ _).trans (flt hx0).2.1) (by decide) (by decide) hr) ?_
  show oG p e below _ (s₁.setTop (mkF m 12 #[.val (.int x_)] []))
  refine og (fun _ hr => XS.iloadN X0.here hx rfl (hb hby dc31_12) rfl hr) ?_
  show oG p e below _ (s₁.setTop (mkF m 13 #[.val (.int x_)] [(.int x_)]))
  refine og (X0.ldcInt hx hown (mvT hZ (hw _ (own_m 136 rfl))) rfl (hb hby dc31_13)) ?_
  show oG p e below _ (s₁.setTop (mkF m 15 #[.val (.int x_)] [(.int (1073741823 : Int32)), (.int x_)]))
  refine og (fun _ hr => XS.icmpYes X0.here hx rfl (pc0 := 15) (pc' := 55) rfl (hb hby dc31_15) rfl (tlt hx1).1 (by decide) (by decide) hr) ?_
  show oG p e below _ (s₁.setTop (mkF m 55 #[.val (.int x_)] []))
  refine og (fun _ hr => XS.iloadN X0.here hx rfl (hb hby dc31_55) rfl (XS.iconst X0.here hx rfl (hb hby dc31_56) (XS.ishl X0.here hx rfl (hb hby dc31_57) rfl hr))) ?_
  show oG p e below _ (s₁.setTop (mkF m 58 #[.val (.int x_)] [(.int (x_ <<< ((1 : Int32) &&& 31)))]))
  exact own_retI X0 hx hlk Bd.returns (hb hby dc31_58) (by decide) (by decide) ⟨rfl, N0, e0⟩
theorem own_nbf {len : Nat} {n : Int32} (hn : Int32.ofNat len = n) (hl : len ≤ 5) : ¬ n < 0 ∧ n < (1073741823 : Int32) ∧ ¬ (n <<< ((1 : Int32) &&& 31)) < 0 ∧ (n <<< ((1 : Int32) &&& 31)).toNatClampNeg = 2 * len ∧ (n <<< ((1 : Int32) &&& 31)) = Int32.ofNat (2 * len) := by
  subst hn
  have h : len = 0 ∨ len = 1 ∨ len = 2 ∨ len = 3 ∨ len = 4 ∨ len = 5 := by omega
  rcases h with rfl | rfl | rfl | rfl | rfl | rfl <;> decide
theorem dc30_0 : decode jdk_52_method_2_code 0 = .ok (.iload_n 0, 1) := by decide +kernel
theorem dc30_1 : decode jdk_52_method_2_code 1 = .ok (.invokestatic 11, 3) := by decide +kernel
theorem own_pd2 : parseMethodDescriptor "(I)I" = some ⟨[.int], some .int⟩ := by decide +kernel
theorem dc30_4 : decode jdk_52_method_2_code 4 = .ok (.newarray .byte, 2) := by decide +kernel
theorem dc30_6 : decode jdk_52_method_2_code 6 = .ok (.areturn, 1) := by decide +kernel
def Q_nbf (Z : State) (cs_ : List Int32) (h0 : Heap) (n0 : Nat) (v : Option Value) (h : Heap) (L : List Loc) : Prop := (∃ (a : Addr) (k : ClassId), v = some (.ref a) ∧ Fr n0 L ∧ Keep h0 h [] ∧ n0 ≤ a ∧ h0.size ≤ a ∧ Exa Z h a "[B" ∧ Arv Z h a k .byte (Int32.ofNat (2 * cs_.length)) (own_wf cs_ 0 cs_.length) (.int (0 : Int32)))
set_option maxRecDepth 65536 in
set_option maxHeartbeats 40000000 in
theorem rm_nbf (l : Launch) (Z : State) (a0 : Array Value) (hw : ∀ d ∈ tables_1, d.before a0 Z = true) (ws : List Jvm.Cond) (n_ : Int32) (cs_ : List Int32) (h0 : Heap) (n0 : Nat) (Z0 : n0 ≤ h0.size) (hn_ : Int32.ofNat cs_.length = n_) (hl5_ : cs_.length ≤ 5) :
    MetFree l (⟨"java/lang/StringUTF16", "newBytesFor", "(I)[B"⟩ : MethodName) (head1 (Jvm.Cond.code (⟨"java/lang/StringUTF16", "newBytesFor", "(I)[B"⟩ : MethodName) jdk_52_method_2_code 1 (some (.array .byte)) :: ws) ({ frames := 1, cells := 1, slots := 10, locals := 12 } : Room)) (fun aA U => aA = #[(.int n_)] ∧ Z.Warmed39 U.vm ∧ U.heap = h0) (fun _ _ _ _ _ => True) (fun _ U o U' => ∃ v L, o = .returned v ∧ Q_nbf Z cs_ h0 n0 v U'.heap L ∧ FrameEnd U o U' L ({ frames := 1, cells := 1, slots := 10, locals := 12 } : Room).cells ({ frames := 1, cells := 1, slots := 10, locals := 12 } : Room).slots) := by
  refine MetFree.of_bodySF (plainFor_of_name own_pn_java_lang_StringUTF16) hisR ?_
  intro p e s m args below meth c s₁ Bd hml0 hP hK
  obtain ⟨rfl, hZ, hh⟩ := hP
  have hx := Bd.exec
  have hby := Bd.bytes
  have hlk : meth.locks = false := BodyLoose.notSynchronized Bd
  have hml : c.maxLocals = 1 := hml0
  have hown : s.vm.findClass "java/lang/StringUTF16" = some m.cls := findClass_of_methodNamed Bd.named
  have hnm := (name_of_methodNamed Bd.named Bd.method).1
  have X0 : Stand p l e ({ frames := 1, cells := 1, slots := 10, locals := 12 } : Room) s m #[(.int n_)] below meth c s₁ [] 0 0 := Stand.of_body Bd
  have e0 : s₁.heap = h0 := by rw [← hh, Bd.state]; rfl
  have N0 := Fr.nil n0
  have hq_ := own_nbf hn_ hl5_
  have hn0_ : ¬ (n_ < (0 : Int32)) := hq_.1
  have hn1_ : n_ < (1073741823 : Int32) := hq_.2.1
  have K0 : Keep h0 h0 [] := Keep.refl _ _
  show oG p e below (own_K s (Q_nbf Z cs_ h0 n0) ({ frames := 1, cells := 1, slots := 10, locals := 12 } : Room).cells ({ frames := 1, cells := 1, slots := 10, locals := 12 } : Room).slots) (s₁.setTop (entryFrame m #[(.int n_)] 1))
  rw [(by first | (simp [entryFrame, mkF, argsToLocals, Value.category]; done) | rfl : entryFrame m #[(.int n_)] 1 = mkF m 0 #[.val (.int n_)] [])]
  show oG p e below _ (s₁.setTop (mkF m 0 #[.val (.int n_)] []))
  refine og (fun _ hr => XS.iloadN X0.here hx rfl (hb hby dc30_0) rfl hr) ?_
  show oG p e below _ (s₁.setTop (mkF m 1 #[.val (.int n_)] [(.int n_)]))
  refine own_cs X0 hx hZ hown (hw _ (own_m 133 rfl)) (hw _ (own_m 134 rfl)) (hw _ (own_m 66 rfl)) (hw _ (own_m 135 rfl)) (by decide) (rm := { frames := 0, cells := 0, slots := 0, locals := 0 }) (rm_nb l Z a0 hw [] n_ h0 n0 Z0 hn0_ hn1_) (by decide) (W := 0) (by decide) (by decide) (by decide) e0 (by rw [hml]; rfl) (argsL := [(.int n_)]) (lenOf own_pd2 rfl) (rest := []) rfl rfl (Nat.le_of_eq rfl) (hb hby dc30_1) ?_
  intro _ T1 L1 X1 hQ1
  obtain ⟨rfl, N1q, e1⟩ := hQ1
  have N1 := Fr.app N0 N1q
  show oG p e below _ (T1.setTop (mkF m 4 #[.val (.int n_)] [(.int (n_ <<< ((1 : Int32) &&& 31)))]))
  obtain ⟨T2, h2, k2, X2, e2, E2, A2, EA2, st2⟩ := newPE X1 hx hZ (hw _ (own_m 23 rfl)) e1 (g := (mkF m 4 #[.val (.int n_)] [(.int (n_ <<< ((1 : Int32) &&& 31)))])) rfl (hb hby dc30_4) rfl hq_.2.2.1 (cap := 10) (by rw [hq_.2.2.2.1]; omega) (by decide) (by decide) (by decide) (ad := "[B") (by decide)
  obtain ⟨b2, g2⟩ : ∃ z, z = h0.size := ⟨_, rfl⟩
  rw [← g2] at A2 EA2 st2
  have ge3 : n0 ≤ b2 := Nat.le_trans Z0 (Nat.le_of_eq g2.symm)
  have sz4 : h0.size ≤ b2 := Nat.le_trans K0.1 (Nat.le_of_eq g2.symm)
  refine og st2 ?_
  have f5 : Arv Z h2 b2 k2 .byte (n_ <<< ((1 : Int32) &&& 31)) (List.replicate ((n_ <<< ((1 : Int32) &&& 31))).toNatClampNeg (.int (0 : Int32))) (.int (0 : Int32)) := (Arv.new A2 hq_.2.2.1).pad (pad_rep [] (.int (0 : Int32)) _)
  show oG p e below _ (T2.setTop (mkF m 6 #[.val (.int n_)] [(.ref b2)]))
  have K6 := (K0.ext E2)
  exact own_retR X2 hx hlk Bd.returns rfl rfl (hb hby dc30_6) (by decide) (by decide) (by rw [e2]; exact ⟨b2, k2, rfl, N1, K6, ge3, sz4, EA2, (by have q := f5; rw [hq_.2.2.2.1, own_wf0 cs_ cs_.length, hq_.2.2.2.2] at q; exact q)⟩)
theorem dc29_0 : decode jdk_52_method_14_code 0 = .ok (.iload_n 2, 1) := by decide +kernel
theorem dc29_1 : decode jdk_52_method_14_code 1 = .ok (.invokestatic 107, 3) := by decide +kernel
theorem own_pd3 : parseMethodDescriptor "(I)[B" = some ⟨[.int], some (.array .byte)⟩ := by decide +kernel
theorem dc29_4 : decode jdk_52_method_14_code 4 = .ok (.astore_n 3, 1) := by decide +kernel
theorem dc29_5 : decode jdk_52_method_14_code 5 = .ok (.iconst 0, 1) := by decide +kernel
theorem dc29_6 : decode jdk_52_method_14_code 6 = .ok (.istore 4, 2) := by decide +kernel
theorem dc29_8 : decode jdk_52_method_14_code 8 = .ok (.iload 4, 2) := by decide +kernel
theorem dc29_10 : decode jdk_52_method_14_code 10 = .ok (.iload_n 2, 1) := by decide +kernel
theorem dc29_11 : decode jdk_52_method_14_code 11 = .ok (.if_icmp .ge 21, 3) := by decide +kernel
theorem dc29_32 : decode jdk_52_method_14_code 32 = .ok (.aload_n 3, 1) := by decide +kernel
theorem dc29_33 : decode jdk_52_method_14_code 33 = .ok (.areturn, 1) := by decide +kernel
theorem dc29_14 : decode jdk_52_method_14_code 14 = .ok (.aload_n 3, 1) := by decide +kernel
theorem dc29_15 : decode jdk_52_method_14_code 15 = .ok (.iload 4, 2) := by decide +kernel
theorem dc29_17 : decode jdk_52_method_14_code 17 = .ok (.aload_n 0, 1) := by decide +kernel
theorem dc29_18 : decode jdk_52_method_14_code 18 = .ok (.iload_n 1, 1) := by decide +kernel
theorem dc29_19 : decode jdk_52_method_14_code 19 = .ok (.caload, 1) := by decide +kernel
theorem dc29_20 : decode jdk_52_method_14_code 20 = .ok (.invokestatic 111, 3) := by decide +kernel
theorem own_pd4 : parseMethodDescriptor "([BII)V" = some ⟨[(.array .byte), .int, .int], none⟩ := by decide +kernel
theorem dc29_23 : decode jdk_52_method_14_code 23 = .ok (.iinc 1 1, 3) := by decide +kernel
theorem dc29_26 : decode jdk_52_method_14_code 26 = .ok (.iinc 4 1, 3) := by decide +kernel
theorem dc29_29 : decode jdk_52_method_14_code 29 = .ok (.goto (-21), 3) := by decide +kernel
def Q_tb (Z : State) (cs_ : List Int32) (h0 : Heap) (n0 : Nat) (v : Option Value) (h : Heap) (L : List Loc) : Prop := (∃ (a : Addr) (k : ClassId), v = some (.ref a) ∧ Fr n0 L ∧ Keep h0 h [] ∧ n0 ≤ a ∧ h0.size ≤ a ∧ Exa Z h a "[B" ∧ Arv Z h a k .byte (Int32.ofNat (2 * cs_.length)) (StrChars.Road.wideBytes cs_) (.int (0 : Int32)))
set_option maxRecDepth 65536 in
set_option maxHeartbeats 40000000 in
theorem rm_tb (l : Launch) (Z : State) (a0 : Array Value) (hw : ∀ d ∈ tables_1, d.before a0 Z = true) (ws : List Jvm.Cond) (sa_ : Addr) (ks_ : ClassId) (n_ : Int32) (cs_ : List Int32) (vc_ : List Value) (h0 : Heap) (n0 : Nat) (Z0 : n0 ≤ h0.size) (Ks_ : Arv Z h0 sa_ ks_ .char n_ vc_ (.int (0 : Int32))) (hvc_ : vc_ = cs_.map Value.int) (hn_ : Int32.ofNat cs_.length = n_) (hl5_ : cs_.length ≤ 5) (S__assertionsDisabled : Sta Z h0 "java/lang/StringUTF16" "$assertionsDisabled" "Z" (.int (1 : Int32))) (S_HI_BYTE_SHIFT : Sta Z h0 "java/lang/StringUTF16" "HI_BYTE_SHIFT" "I" (.int (0 : Int32))) (S_LO_BYTE_SHIFT : Sta Z h0 "java/lang/StringUTF16" "LO_BYTE_SHIFT" "I" (.int (8 : Int32))) :
    MetFree l (⟨"java/lang/StringUTF16", "toBytes", "([CII)[B"⟩ : MethodName) (head1 (Jvm.Cond.code (⟨"java/lang/StringUTF16", "toBytes", "([CII)[B"⟩ : MethodName) jdk_52_method_14_code 5 (some (.array .byte)) :: ws) ({ frames := 2, cells := 1, slots := 10, locals := 24 } : Room)) (fun aA U => aA = #[(.ref sa_), (.int (0 : Int32)), (.int n_)] ∧ Z.Warmed39 U.vm ∧ U.heap = h0) (fun _ _ _ _ _ => True) (fun _ U o U' => ∃ v L, o = .returned v ∧ Q_tb Z cs_ h0 n0 v U'.heap L ∧ FrameEnd U o U' L ({ frames := 2, cells := 1, slots := 10, locals := 24 } : Room).cells ({ frames := 2, cells := 1, slots := 10, locals := 24 } : Room).slots) := by
  refine MetFree.of_bodySF (plainFor_of_name own_pn_java_lang_StringUTF16) hisR ?_
  intro p e s m args below meth c s₁ Bd hml0 hP hK
  obtain ⟨rfl, hZ, hh⟩ := hP
  have hx := Bd.exec
  have hby := Bd.bytes
  have hlk : meth.locks = false := BodyLoose.notSynchronized Bd
  have hml : c.maxLocals = 5 := hml0
  have hown : s.vm.findClass "java/lang/StringUTF16" = some m.cls := findClass_of_methodNamed Bd.named
  have hnm := (name_of_methodNamed Bd.named Bd.method).1
  have X0 : Stand p l e ({ frames := 2, cells := 1, slots := 10, locals := 24 } : Room) s m #[(.ref sa_), (.int (0 : Int32)), (.int n_)] below meth c s₁ [] 0 0 := Stand.of_body Bd
  have e0 : s₁.heap = h0 := by rw [← hh, Bd.state]; rfl
  have N0 := Fr.nil n0
  have K0 : Keep h0 h0 [] := Keep.refl _ _
  show oG p e below (own_K s (Q_tb Z cs_ h0 n0) ({ frames := 2, cells := 1, slots := 10, locals := 24 } : Room).cells ({ frames := 2, cells := 1, slots := 10, locals := 24 } : Room).slots) (s₁.setTop (entryFrame m #[(.ref sa_), (.int (0 : Int32)), (.int n_)] 5))
  rw [(by first | (simp [entryFrame, mkF, argsToLocals, Value.category]; done) | rfl : entryFrame m #[(.ref sa_), (.int (0 : Int32)), (.int n_)] 5 = mkF m 0 #[.val (.ref sa_), .val (.int (0 : Int32)), .val (.int n_), .unset, .unset] [])]
  show oG p e below _ (s₁.setTop (mkF m 0 #[.val (.ref sa_), .val (.int (0 : Int32)), .val (.int n_), .unset, .unset] []))
  refine og (fun _ hr => XS.iloadN X0.here hx rfl (hb hby dc29_0) rfl hr) ?_
  show oG p e below _ (s₁.setTop (mkF m 1 #[.val (.ref sa_), .val (.int (0 : Int32)), .val (.int n_), .unset, .unset] [(.int n_)]))
  refine own_cs X0 hx hZ hown (hw _ (own_m 130 rfl)) (hw _ (own_m 131 rfl)) (hw _ (own_m 66 rfl)) (hw _ (own_m 132 rfl)) (by decide) (rm := { frames := 1, cells := 1, slots := 10, locals := 12 }) (rm_nbf l Z a0 hw [] n_ cs_ h0 n0 Z0 hn_ hl5_) (by decide) (W := 0) (by decide) (by decide) (by decide) e0 (by rw [hml]; rfl) (argsL := [(.int n_)]) (lenOf own_pd3 rfl) (rest := []) rfl rfl (Nat.le_of_eq rfl) (hb hby dc29_1) ?_
  intro _ T1 L1 X1 hQ1
  obtain ⟨b1_0, kb1_0, rfl, N1q, K1, ge1_0, sz1_0, f1_0, f1_1⟩ := hQ1
  have N1 := Fr.app N0 N1q
  have sz2 : h0.size ≤ b1_0 := Nat.le_trans K0.1 sz1_0
  show oG p e below _ (T1.setTop (mkF m 4 #[.val (.ref sa_), .val (.int (0 : Int32)), .val (.int n_), .unset, .unset] [(.ref b1_0)]))
  refine og (fun _ hr => XS.astoreN X1.here hx rfl (hb hby dc29_4) rfl rfl (l' := #[.val (.ref sa_), .val (.int (0 : Int32)), .val (.int n_), .val (.ref b1_0), .unset]) rfl (XS.iconst X1.here hx rfl (hb hby dc29_5) (XS.istore X1.here hx rfl (hb hby dc29_6) rfl (l' := #[.val (.ref sa_), .val (.int (0 : Int32)), .val (.int n_), .val (.ref b1_0), .val (.int (0 : Int32))]) rfl hr))) ?_
  show oG p e below _ (T1.setTop (mkF m 8 #[.val (.ref sa_), .val (.int (0 : Int32)), .val (.int n_), .val (.ref b1_0), .val (.int (0 : Int32))] []))
  have lp_ : ∀ (r_ : Nat) (i_ : Nat) (x_ : Int32) (Tl : State) (Ll : List Loc) (hl : Heap), (Int32.ofNat i_ = x_) → (i_ + r_ = cs_.length) → Stand p l e ({ frames := 2, cells := 1, slots := 10, locals := 24 } : Room) s m #[(.ref sa_), (.int (0 : Int32)), (.int n_)] below meth c Tl Ll 1 10 → Fr n0 Ll → (Tl.heap = hl) → (Keep T1.heap hl [b1_0]) → (Arv Z hl b1_0 kb1_0 .byte (Int32.ofNat (2 * cs_.length)) (own_wf cs_ i_ cs_.length) (.int (0 : Int32))) → oG p e below (own_K s (Q_tb Z cs_ h0 n0) ({ frames := 2, cells := 1, slots := 10, locals := 24 } : Room).cells ({ frames := 2, cells := 1, slots := 10, locals := 24 } : Room).slots) (Tl.setTop (mkF m 8 #[.val (.ref sa_), .val (.int x_), .val (.int n_), .val (.ref b1_0), .val (.int x_)] [])) := by
    intro r_
    induction r_ with
    | zero =>
      intro i_ x_ Tl Ll hl hi_ hr_ Xl Nl el Kl Al_
      have hlt_ : ¬ (x_ < n_) := own_ltf hi_ hn_ (by omega) (by omega)
      show oG p e below _ (Tl.setTop (mkF m 8 #[.val (.ref sa_), .val (.int x_), .val (.int n_), .val (.ref b1_0), .val (.int x_)] []))
      refine og (fun _ hr => XS.iload Xl.here hx rfl (hb hby dc29_8) rfl (XS.iloadN Xl.here hx rfl (hb hby dc29_10) rfl hr)) ?_
      show oG p e below _ (Tl.setTop (mkF m 11 #[.val (.ref sa_), .val (.int x_), .val (.int n_), .val (.ref b1_0), .val (.int x_)] [(.int n_), (.int x_)]))
      refine og (fun _ hr => XS.icmpYes Xl.here hx rfl (pc0 := 11) (pc' := 32) rfl (hb hby dc29_11) rfl (flt hlt_).2.1 (by decide) (by decide) hr) ?_
      show oG p e below _ (Tl.setTop (mkF m 32 #[.val (.ref sa_), .val (.int x_), .val (.int n_), .val (.ref b1_0), .val (.int x_)] []))
      refine og (fun _ hr => XS.aloadN Xl.here hx rfl (hb hby dc29_32) rfl rfl hr) ?_
      show oG p e below _ (Tl.setTop (mkF m 33 #[.val (.ref sa_), .val (.int x_), .val (.int n_), .val (.ref b1_0), .val (.int x_)] [(.ref b1_0)]))
      have f3 := (f1_0.keep Kl)
      have K4 := ((K0.trans K1 all0).trans Kl (allS (Or.inr sz2) all0))
      exact own_retR Xl hx hlk Bd.returns rfl rfl (hb hby dc29_33) (by decide) (by decide) (by rw [el]; exact ⟨b1_0, kb1_0, rfl, Nl, K4, ge1_0, sz2, f3, (by have q := Al_; rw [show i_ = cs_.length from by omega, own_wf_full] at q; exact q)⟩)
    | succ r_ ih =>
      intro i_ x_ Tl Ll hl hi_ hr_ Xl Nl el Kl Al_
      have hlt_ : x_ < n_ := own_ltt hi_ hn_ (by omega) hl5_
      have hnx_ : ¬ x_ < 0 := own_neg hi_ (by omega)
      have hu_ := own_put (nn := (Int32.ofNat (2 * cs_.length))) rfl hl5_ (show i_ < cs_.length from by omega) hi_
      show oG p e below _ (Tl.setTop (mkF m 8 #[.val (.ref sa_), .val (.int x_), .val (.int n_), .val (.ref b1_0), .val (.int x_)] []))
      refine og (fun _ hr => XS.iload Xl.here hx rfl (hb hby dc29_8) rfl (XS.iloadN Xl.here hx rfl (hb hby dc29_10) rfl hr)) ?_
      show oG p e below _ (Tl.setTop (mkF m 11 #[.val (.ref sa_), .val (.int x_), .val (.int n_), .val (.ref b1_0), .val (.int x_)] [(.int n_), (.int x_)]))
      refine og (fun _ hr => XS.icmpNo Xl.here hx rfl (hb hby dc29_11) rfl (tlt hlt_).2.1 hr) ?_
      show oG p e below _ (Tl.setTop (mkF m 14 #[.val (.ref sa_), .val (.int x_), .val (.int n_), .val (.ref b1_0), .val (.int x_)] []))
      have f5 := ((Ks_.keep K1 nin0).keep Kl (ninS (Nat.ne_of_lt (Nat.lt_of_lt_of_le Ks_.lt sz1_0)) nin0))
      refine og (fun _ hr => XS.aloadN Xl.here hx rfl (hb hby dc29_14) rfl rfl (XS.iload Xl.here hx rfl (hb hby dc29_15) rfl (XS.aloadN Xl.here hx rfl (hb hby dc29_17) rfl rfl (XS.iloadN Xl.here hx rfl (hb hby dc29_18) rfl (own_caload Xl hx hZ el f5 x_ (.int (cs_.getD i_ 0)) ⟨hnx_, hlt_⟩ (own_cat hvc_ (by omega) hi_ hl5_) rfl rfl (hb hby dc29_19) hr))))) ?_
      show oG p e below _ (Tl.setTop (mkF m 20 #[.val (.ref sa_), .val (.int x_), .val (.int n_), .val (.ref b1_0), .val (.int x_)] [(.int (cs_.getD i_ 0)), (.int x_), (.ref b1_0)]))
      have f7 := (own_sta_keep (own_sta_keep S__assertionsDisabled K1 all0) Kl (allS (own_ns_arv f1_1) all0))
      have f8 := (own_sta_keep (own_sta_keep S_HI_BYTE_SHIFT K1 all0) Kl (allS (own_ns_arv f1_1) all0))
      have f9 := (own_sta_keep (own_sta_keep S_LO_BYTE_SHIFT K1 all0) Kl (allS (own_ns_arv f1_1) all0))
      have Z10 := (Nat.le_trans (Nat.le_trans Z0 K1.1) Kl.1)
      refine own_cs Xl hx hZ hown (hw _ (own_m 137 rfl)) (hw _ (own_m 138 rfl)) (hw _ (own_m 66 rfl)) (hw _ (own_m 139 rfl)) (by decide) (rm := { frames := 0, cells := 0, slots := 0, locals := 0 }) (rm_pc l Z a0 hw [] b1_0 kb1_0 (Int32.ofNat (2 * cs_.length)) (own_wf cs_ i_ cs_.length) x_ (2 * i_) (2 * i_ + 1) (cs_.getD i_ 0) hl n0 Z10 Al_ hu_.2.2.2.2.1 hu_.2.2.2.2.2 (by rw [own_wf_len]; omega) (by rw [own_wf_len]; omega) ge1_0 f7 f8 f9 hu_.1 hu_.2.1 hu_.2.2.1 hu_.2.2.2.1) (by decide) (W := 0) (by decide) (by decide) (by decide) el (by rw [hml]; rfl) (argsL := [(.ref b1_0), (.int x_), (.int (cs_.getD i_ 0))]) (lenOf own_pd4 rfl) (rest := []) rfl rfl (Nat.le_of_eq rfl) (hb hby dc29_20) ?_
      intro _ T6 L6 X6 hQ6
      have f11 := (f1_0.keep Kl)
      obtain ⟨rfl, N6q, K6, f6_0⟩ := hQ6
      have N6 := Fr.app Nl N6q
      have f12 : Arv Z T6.heap b1_0 kb1_0 .byte (Int32.ofNat (2 * cs_.length)) (own_wf cs_ (i_ + 1) cs_.length) (.int (0 : Int32)) := by have q := f6_0; rw [own_wf_set (by omega)] at q; exact q
      show oG p e below _ (T6.setTop (mkF m 23 #[.val (.ref sa_), .val (.int x_), .val (.int n_), .val (.ref b1_0), .val (.int x_)] []))
      refine og (fun _ hr => XS.iinc X6.here hx rfl (hb hby dc29_23) rfl (l' := #[.val (.ref sa_), .val (.int (x_ + (1 : Int32))), .val (.int n_), .val (.ref b1_0), .val (.int x_)]) rfl (XS.iinc X6.here hx rfl (hb hby dc29_26) rfl (l' := #[.val (.ref sa_), .val (.int (x_ + (1 : Int32))), .val (.int n_), .val (.ref b1_0), .val (.int (x_ + (1 : Int32)))]) rfl (XS.goto X6.here hx rfl (pc0 := 29) (pc' := 8) rfl (hb hby dc29_29) (by decide) (by decide) hr))) ?_
      show oG p e below _ (T6.setTop (mkF m 8 #[.val (.ref sa_), .val (.int (x_ + (1 : Int32))), .val (.int n_), .val (.ref b1_0), .val (.int (x_ + (1 : Int32)))] []))
      exact ih (i_ + 1) (x_ + (1 : Int32)) T6 _ T6.heap (own_inc hi_) (by omega) X6 N6 rfl (Kl.trans K6 (allS (Or.inl (List.mem_of_getElem? (i := 0) rfl)) all0)) f12
  exact lp_ cs_.length 0 (0 : Int32) T1 _ T1.heap rfl (by omega) X1 N1 rfl (Keep.refl _ _) f1_1
theorem dc13_0 : decode jdk_52_method_16_code 0 = .ok (.iload_n 2, 1) := by decide +kernel
theorem dc13_1 : decode jdk_52_method_16_code 1 = .ok (.newarray .byte, 2) := by decide +kernel
theorem dc13_3 : decode jdk_52_method_16_code 3 = .ok (.astore_n 3, 1) := by decide +kernel
theorem dc13_4 : decode jdk_52_method_16_code 4 = .ok (.aload_n 0, 1) := by decide +kernel
theorem dc13_5 : decode jdk_52_method_16_code 5 = .ok (.iload_n 1, 1) := by decide +kernel
theorem dc13_6 : decode jdk_52_method_16_code 6 = .ok (.aload_n 3, 1) := by decide +kernel
theorem dc13_7 : decode jdk_52_method_16_code 7 = .ok (.iconst 0, 1) := by decide +kernel
theorem dc13_8 : decode jdk_52_method_16_code 8 = .ok (.iload_n 2, 1) := by decide +kernel
theorem dc13_9 : decode jdk_52_method_16_code 9 = .ok (.invokestatic 115, 3) := by decide +kernel
theorem own_pd5 : parseMethodDescriptor "([CI[BII)I" = some ⟨[(.array .char), .int, (.array .byte), .int, .int], some .int⟩ := by decide +kernel
theorem dc13_12 : decode jdk_52_method_16_code 12 = .ok (.istore 4, 2) := by decide +kernel
theorem dc13_14 : decode jdk_52_method_16_code 14 = .ok (.iload 4, 2) := by decide +kernel
theorem dc13_16 : decode jdk_52_method_16_code 16 = .ok (.iload_n 2, 1) := by decide +kernel
theorem dc13_17 : decode jdk_52_method_16_code 17 = .ok (.if_icmp .eq 40, 3) := by decide +kernel
theorem dc13_57 : decode jdk_52_method_16_code 57 = .ok (.aload_n 3, 1) := by decide +kernel
theorem dc13_58 : decode jdk_52_method_16_code 58 = .ok (.areturn, 1) := by decide +kernel
theorem dc13_20 : decode jdk_52_method_16_code 20 = .ok (.aload_n 0, 1) := by decide +kernel
theorem dc13_21 : decode jdk_52_method_16_code 21 = .ok (.iload_n 1, 1) := by decide +kernel
theorem dc13_22 : decode jdk_52_method_16_code 22 = .ok (.iload_n 2, 1) := by decide +kernel
theorem dc13_23 : decode jdk_52_method_16_code 23 = .ok (.invokestatic 119, 3) := by decide +kernel
theorem own_pd6 : parseMethodDescriptor "([CII)[B" = some ⟨[(.array .char), .int, .int], some (.array .byte)⟩ := by decide +kernel
theorem dc13_26 : decode jdk_52_method_16_code 26 = .ok (.astore 5, 2) := by decide +kernel
theorem dc13_28 : decode jdk_52_method_16_code 28 = .ok (.aload 5, 2) := by decide +kernel
theorem dc13_30 : decode jdk_52_method_16_code 30 = .ok (.iload 4, 2) := by decide +kernel
theorem dc13_32 : decode jdk_52_method_16_code 32 = .ok (.invokestatic 71, 3) := by decide +kernel
theorem own_pd7 : parseMethodDescriptor "([BI)C" = some ⟨[(.array .byte), .int], some .char⟩ := by decide +kernel
theorem dc13_35 : decode jdk_52_method_16_code 35 = .ok (.sipush 255, 3) := by decide +kernel
theorem dc13_38 : decode jdk_52_method_16_code 38 = .ok (.if_icmp .gt 16, 3) := by decide +kernel
theorem dc13_54 : decode jdk_52_method_16_code 54 = .ok (.aload 5, 2) := by decide +kernel
theorem dc13_56 : decode jdk_52_method_16_code 56 = .ok (.areturn, 1) := by decide +kernel
def Q_cx (Z : State) (cs_ : List Int32) (h0 : Heap) (n0 : Nat) (v : Option Value) (h : Heap) (L : List Loc) : Prop := (∃ (a : Addr) (k : ClassId) (cd N : Int32) (vs : List Value), v = some (.ref a) ∧ Fr n0 L ∧ Keep h0 h [] ∧ n0 ≤ a ∧ h0.size ≤ a ∧ Exa Z h a "[B" ∧ Arv Z h a k .byte N vs (.int (0 : Int32)) ∧ StrChars.Road.CodA cs_ cd N vs)
set_option maxRecDepth 65536 in
set_option maxHeartbeats 40000000 in
theorem rm_cx (l : Launch) (Z : State) (a0 : Array Value) (hw : ∀ d ∈ tables_1, d.before a0 Z = true) (ws : List Jvm.Cond) (sa_ : Addr) (ks_ : ClassId) (n_ : Int32) (cs_ : List Int32) (vc_ : List Value) (h0 : Heap) (n0 : Nat) (Z0 : n0 ≤ h0.size) (Ks_ : Arv Z h0 sa_ ks_ .char n_ vc_ (.int (0 : Int32))) (hvc_ : vc_ = cs_.map Value.int) (hn_ : Int32.ofNat cs_.length = n_) (hl5_ : cs_.length ≤ 5) (hbc_ : ∀ c ∈ cs_, ¬ c < 0 ∧ ¬ (65535 : Int32) < c) (S__assertionsDisabled : Sta Z h0 "java/lang/StringUTF16" "$assertionsDisabled" "Z" (.int (1 : Int32))) (S_HI_BYTE_SHIFT : Sta Z h0 "java/lang/StringUTF16" "HI_BYTE_SHIFT" "I" (.int (0 : Int32))) (S_LO_BYTE_SHIFT : Sta Z h0 "java/lang/StringUTF16" "LO_BYTE_SHIFT" "I" (.int (8 : Int32))) :
    MetFree l (⟨"java/lang/StringUTF16", "compress", "([CII)[B"⟩ : MethodName) (head1 (Jvm.Cond.code (⟨"java/lang/StringUTF16", "compress", "([CII)[B"⟩ : MethodName) jdk_52_method_16_code 6 (some (.array .byte)) :: ws) ({ frames := 3, cells := 2, slots := 15, locals := 40 } : Room)) (fun aA U => aA = #[(.ref sa_), (.int (0 : Int32)), (.int n_)] ∧ Z.Warmed39 U.vm ∧ U.heap = h0) (fun _ _ _ _ _ => True) (fun _ U o U' => ∃ v L, o = .returned v ∧ Q_cx Z cs_ h0 n0 v U'.heap L ∧ FrameEnd U o U' L ({ frames := 3, cells := 2, slots := 15, locals := 40 } : Room).cells ({ frames := 3, cells := 2, slots := 15, locals := 40 } : Room).slots) := by
  refine MetFree.of_bodySF (plainFor_of_name own_pn_java_lang_StringUTF16) hisR ?_
  intro p e s m args below meth c s₁ Bd hml0 hP hK
  obtain ⟨rfl, hZ, hh⟩ := hP
  have hx := Bd.exec
  have hby := Bd.bytes
  have hlk : meth.locks = false := BodyLoose.notSynchronized Bd
  have hml : c.maxLocals = 6 := hml0
  have hown : s.vm.findClass "java/lang/StringUTF16" = some m.cls := findClass_of_methodNamed Bd.named
  have hnm := (name_of_methodNamed Bd.named Bd.method).1
  have X0 : Stand p l e ({ frames := 3, cells := 2, slots := 15, locals := 40 } : Room) s m #[(.ref sa_), (.int (0 : Int32)), (.int n_)] below meth c s₁ [] 0 0 := Stand.of_body Bd
  have e0 : s₁.heap = h0 := by rw [← hh, Bd.state]; rfl
  have N0 := Fr.nil n0
  have K0 : Keep h0 h0 [] := Keep.refl _ _
  show oG p e below (own_K s (Q_cx Z cs_ h0 n0) ({ frames := 3, cells := 2, slots := 15, locals := 40 } : Room).cells ({ frames := 3, cells := 2, slots := 15, locals := 40 } : Room).slots) (s₁.setTop (entryFrame m #[(.ref sa_), (.int (0 : Int32)), (.int n_)] 6))
  rw [(by first | (simp [entryFrame, mkF, argsToLocals, Value.category]; done) | rfl : entryFrame m #[(.ref sa_), (.int (0 : Int32)), (.int n_)] 6 = mkF m 0 #[.val (.ref sa_), .val (.int (0 : Int32)), .val (.int n_), .unset, .unset, .unset] [])]
  show oG p e below _ (s₁.setTop (mkF m 0 #[.val (.ref sa_), .val (.int (0 : Int32)), .val (.int n_), .unset, .unset, .unset] []))
  refine og (fun _ hr => XS.iloadN X0.here hx rfl (hb hby dc13_0) rfl hr) ?_
  show oG p e below _ (s₁.setTop (mkF m 1 #[.val (.ref sa_), .val (.int (0 : Int32)), .val (.int n_), .unset, .unset, .unset] [(.int n_)]))
  obtain ⟨T1, h1, k1, X1, e1, E1, A1, EA1, st1⟩ := newPE X0 hx hZ (hw _ (own_m 23 rfl)) e0 (g := (mkF m 1 #[.val (.ref sa_), .val (.int (0 : Int32)), .val (.int n_), .unset, .unset, .unset] [(.int n_)])) rfl (hb hby dc13_1) rfl (own_neg hn_ hl5_) (cap := 5) (by rw [own_tn hn_ hl5_]; exact hl5_) (by decide) (by decide) (by decide) (ad := "[B") (by decide)
  obtain ⟨b1, g1⟩ : ∃ z, z = h0.size := ⟨_, rfl⟩
  rw [← g1] at A1 EA1 st1
  have ge2 : n0 ≤ b1 := Nat.le_trans Z0 (Nat.le_of_eq g1.symm)
  have sz3 : h0.size ≤ b1 := Nat.le_trans K0.1 (Nat.le_of_eq g1.symm)
  refine og st1 ?_
  have f4 : Arv Z h1 b1 k1 .byte n_ (List.replicate (n_).toNatClampNeg (.int (0 : Int32))) (.int (0 : Int32)) := (Arv.new A1 (own_neg hn_ hl5_)).pad (pad_rep [] (.int (0 : Int32)) _)
  show oG p e below _ (T1.setTop (mkF m 3 #[.val (.ref sa_), .val (.int (0 : Int32)), .val (.int n_), .unset, .unset, .unset] [(.ref b1)]))
  have f5 : Arv Z h1 b1 k1 .byte n_ (own_fill cs_ 0 0 cs_.length) (.int (0 : Int32)) := by have q := f4; rw [own_tn hn_ hl5_, own_fill0 cs_ 0 cs_.length] at q; exact q
  refine og (fun _ hr => XS.astoreN X1.here hx rfl (hb hby dc13_3) rfl rfl (l' := #[.val (.ref sa_), .val (.int (0 : Int32)), .val (.int n_), .val (.ref b1), .unset, .unset]) rfl (XS.aloadN X1.here hx rfl (hb hby dc13_4) rfl rfl (XS.iloadN X1.here hx rfl (hb hby dc13_5) rfl (XS.aloadN X1.here hx rfl (hb hby dc13_6) rfl rfl (XS.iconst X1.here hx rfl (hb hby dc13_7) (XS.iloadN X1.here hx rfl (hb hby dc13_8) rfl hr)))))) ?_
  show oG p e below _ (T1.setTop (mkF m 9 #[.val (.ref sa_), .val (.int (0 : Int32)), .val (.int n_), .val (.ref b1), .unset, .unset] [(.int n_), (.int (0 : Int32)), (.ref b1), (.int (0 : Int32)), (.ref sa_)]))
  have f7 := (Ks_.ext E1)
  have Z8 := (Nat.le_trans Z0 E1.1)
  refine own_cs X1 hx hZ hown (hw _ (own_m 68 rfl)) (hw _ (own_m 69 rfl)) (hw _ (own_m 66 rfl)) (hw _ (own_m 70 rfl)) (by decide) (rm := { frames := 0, cells := 0, slots := 0, locals := 0 }) (rm_cw l Z a0 hw [] sa_ ks_ n_ cs_ vc_ b1 k1 h1 n0 Z8 f7 hvc_ hn_ hl5_ f5 (Nat.ne_of_lt (Nat.lt_of_lt_of_le Ks_.lt (Nat.le_of_eq g1.symm))) ge2) (by decide) (W := 0) (by decide) (by decide) (by decide) e1 (by rw [hml]; rfl) (argsL := [(.ref sa_), (.int (0 : Int32)), (.ref b1), (.int (0 : Int32)), (.int n_)]) (lenOf own_pd5 rfl) (rest := []) rfl rfl (Nat.le_of_eq rfl) (hb hby dc13_9) ?_
  intro _ T6 L6 X6 hQ6
  obtain ⟨w6_0, rfl, N6q, K6, f6_0, hx6_0, hx6_1, hx6_2⟩ := hQ6
  have N6 := Fr.app N0 N6q
  show oG p e below _ (T6.setTop (mkF m 12 #[.val (.ref sa_), .val (.int (0 : Int32)), .val (.int n_), .val (.ref b1), .unset, .unset] [(.int (Int32.ofNat w6_0))]))
  refine og (fun _ hr => XS.istore X6.here hx rfl (hb hby dc13_12) rfl (l' := #[.val (.ref sa_), .val (.int (0 : Int32)), .val (.int n_), .val (.ref b1), .val (.int (Int32.ofNat w6_0)), .unset]) rfl (XS.iload X6.here hx rfl (hb hby dc13_14) rfl (XS.iloadN X6.here hx rfl (hb hby dc13_16) rfl hr))) ?_
  show oG p e below _ (T6.setTop (mkF m 17 #[.val (.ref sa_), .val (.int (0 : Int32)), .val (.int n_), .val (.ref b1), .val (.int (Int32.ofNat w6_0)), .unset] [(.int n_), (.int (Int32.ofNat w6_0))]))
  rcases Classical.em ((Int32.ofNat w6_0) = n_) with c9 | c9
  · skip
    refine og (fun _ hr => XS.icmpYes X6.here hx rfl (pc0 := 17) (pc' := 57) rfl (hb hby dc13_17) rfl (teq c9).1 (by decide) (by decide) hr) ?_
    show oG p e below _ (T6.setTop (mkF m 57 #[.val (.ref sa_), .val (.int (0 : Int32)), .val (.int n_), .val (.ref b1), .val (.int (Int32.ofNat w6_0)), .unset] []))
    refine og (fun _ hr => XS.aloadN X6.here hx rfl (hb hby dc13_57) rfl rfl hr) ?_
    show oG p e below _ (T6.setTop (mkF m 58 #[.val (.ref sa_), .val (.int (0 : Int32)), .val (.int n_), .val (.ref b1), .val (.int (Int32.ofNat w6_0)), .unset] [(.ref b1)]))
    have f10 := (EA1.keep K6)
    have ew12 : w6_0 = cs_.length := (own_tn c9 (by omega)).symm.trans (own_tn hn_ hl5_)
    have f13 : Arv Z T6.heap b1 k1 .byte n_ (cs_.map fun c => Value.int (StrChars.lo8 c)) (.int (0 : Int32)) := by have q := f6_0; rw [ew12, own_fill_full, own_sub_all] at q; exact q
    have hc11 : StrChars.Road.CodA cs_ (0 : Int32) n_ (cs_.map fun c => Value.int (StrChars.lo8 c)) := Or.inl ⟨rfl, hn_.symm, rfl, fun c hc => by obtain ⟨i, hi, rfl⟩ := List.getElem_of_mem hc; have q := hx6_1 i (by omega); rw [Nat.zero_add, List.getD_eq_getElem?_getD, List.getElem?_eq_getElem hi] at q; exact q⟩
    have K14 := ((K0.ext E1).trans K6 (allS (Or.inr sz3) all0))
    exact own_retR X6 hx hlk Bd.returns rfl rfl (hb hby dc13_58) (by decide) (by decide) (by exact ⟨b1, k1, (0 : Int32), n_, (cs_.map fun c => Value.int (StrChars.lo8 c)), rfl, N6, K14, ge2, sz3, f10, f13, hc11⟩)
  refine og (fun _ hr => XS.icmpNo X6.here hx rfl (hb hby dc13_17) rfl (feq c9).1 hr) ?_
  show oG p e below _ (T6.setTop (mkF m 20 #[.val (.ref sa_), .val (.int (0 : Int32)), .val (.int n_), .val (.ref b1), .val (.int (Int32.ofNat w6_0)), .unset] []))
  refine og (fun _ hr => XS.aloadN X6.here hx rfl (hb hby dc13_20) rfl rfl (XS.iloadN X6.here hx rfl (hb hby dc13_21) rfl (XS.iloadN X6.here hx rfl (hb hby dc13_22) rfl hr))) ?_
  show oG p e below _ (T6.setTop (mkF m 23 #[.val (.ref sa_), .val (.int (0 : Int32)), .val (.int n_), .val (.ref b1), .val (.int (Int32.ofNat w6_0)), .unset] [(.int n_), (.int (0 : Int32)), (.ref sa_)]))
  have f16 := (f7.keep K6 (ninS (Nat.ne_of_lt (Nat.lt_of_lt_of_le Ks_.lt (Nat.le_of_eq g1.symm))) nin0))
  have f17 := (own_sta_keep (S__assertionsDisabled.ext E1) K6 (allS (own_ns_exa EA1) all0))
  have f18 := (own_sta_keep (S_HI_BYTE_SHIFT.ext E1) K6 (allS (own_ns_exa EA1) all0))
  have f19 := (own_sta_keep (S_LO_BYTE_SHIFT.ext E1) K6 (allS (own_ns_exa EA1) all0))
  have Z20 := (Nat.le_trans Z8 K6.1)
  refine own_cs X6 hx hZ hown (hw _ (own_m 127 rfl)) (hw _ (own_m 128 rfl)) (hw _ (own_m 66 rfl)) (hw _ (own_m 129 rfl)) (by decide) (rm := { frames := 2, cells := 1, slots := 10, locals := 24 }) (rm_tb l Z a0 hw [] sa_ ks_ n_ cs_ vc_ T6.heap n0 Z20 f16 hvc_ hn_ hl5_ f17 f18 f19) (by decide) (W := 0) (by decide) (by decide) (by decide) rfl (by rw [hml]; rfl) (argsL := [(.ref sa_), (.int (0 : Int32)), (.int n_)]) (lenOf own_pd6 rfl) (rest := []) rfl rfl (Nat.le_of_eq rfl) (hb hby dc13_23) ?_
  intro _ T15 L15 X15 hQ15
  obtain ⟨b15_0, kb15_0, rfl, N15q, K15, ge15_0, sz15_0, f15_0, f15_1⟩ := hQ15
  have N15 := Fr.app N6 N15q
  have K22 := ((K0.ext E1).trans K6 (allS (Or.inr sz3) all0))
  have sz21 : h0.size ≤ b15_0 := Nat.le_trans K22.1 sz15_0
  show oG p e below _ (T15.setTop (mkF m 26 #[.val (.ref sa_), .val (.int (0 : Int32)), .val (.int n_), .val (.ref b1), .val (.int (Int32.ofNat w6_0)), .unset] [(.ref b15_0)]))
  have hlt23 : w6_0 < cs_.length := by rcases Nat.lt_or_eq_of_le hx6_0 with q | q; exact q; exact absurd (by rw [q]; exact hn_) c9
  have h25524 : (255 : Int32) < (cs_.getD w6_0 0) := by have q := hx6_2 hlt23; rw [Nat.zero_add] at q; exact q
  refine og (fun _ hr => XS.astore X15.here hx rfl (hb hby dc13_26) rfl rfl (l' := #[.val (.ref sa_), .val (.int (0 : Int32)), .val (.int n_), .val (.ref b1), .val (.int (Int32.ofNat w6_0)), .val (.ref b15_0)]) rfl (XS.aload X15.here hx rfl (hb hby dc13_28) rfl rfl (XS.iload X15.here hx rfl (hb hby dc13_30) rfl hr))) ?_
  show oG p e below _ (T15.setTop (mkF m 32 #[.val (.ref sa_), .val (.int (0 : Int32)), .val (.int n_), .val (.ref b1), .val (.int (Int32.ofNat w6_0)), .val (.ref b15_0)] [(.int (Int32.ofNat w6_0)), (.ref b15_0)]))
  have f26 := (own_sta_keep f17 K15 all0)
  have f27 := (own_sta_keep f18 K15 all0)
  have f28 := (own_sta_keep f19 K15 all0)
  have Z29 := (Nat.le_trans Z20 K15.1)
  refine own_cs X15 hx hZ hown (hw _ (own_m 143 rfl)) (hw _ (own_m 144 rfl)) (hw _ (own_m 66 rfl)) (hw _ (own_m 145 rfl)) (by decide) (rm := { frames := 0, cells := 0, slots := 0, locals := 0 }) (rm_gc l Z a0 hw [] b15_0 kb15_0 (Int32.ofNat (2 * cs_.length)) (StrChars.Road.wideBytes cs_) (Int32.ofNat w6_0) (2 * w6_0) (cs_.getD w6_0 0) T15.heap n0 Z29 f15_1 (own_pcw rfl rfl hbc_ hl5_ hlt23 rfl rfl).1 f26 f27 f28) (by decide) (W := 0) (by decide) (by decide) (by decide) rfl (by rw [hml]; rfl) (argsL := [(.ref b15_0), (.int (Int32.ofNat w6_0))]) (lenOf own_pd7 rfl) (rest := []) rfl rfl (Nat.le_of_eq rfl) (hb hby dc13_32) ?_
  intro _ T25 L25 X25 hQ25
  obtain ⟨rfl, N25q, e25⟩ := hQ25
  have N25 := Fr.app N15 N25q
  show oG p e below _ (T25.setTop (mkF m 35 #[.val (.ref sa_), .val (.int (0 : Int32)), .val (.int n_), .val (.ref b1), .val (.int (Int32.ofNat w6_0)), .val (.ref b15_0)] [(.int (cs_.getD w6_0 0))]))
  refine og (fun _ hr => XS.sipush X25.here hx rfl (hb hby dc13_35) hr) ?_
  show oG p e below _ (T25.setTop (mkF m 38 #[.val (.ref sa_), .val (.int (0 : Int32)), .val (.int n_), .val (.ref b1), .val (.int (Int32.ofNat w6_0)), .val (.ref b15_0)] [(.int (255 : Int32)), (.int (cs_.getD w6_0 0))]))
  refine og (fun _ hr => XS.icmpYes X25.here hx rfl (pc0 := 38) (pc' := 54) rfl (hb hby dc13_38) rfl (tlt h25524).2.2.1 (by decide) (by decide) hr) ?_
  show oG p e below _ (T25.setTop (mkF m 54 #[.val (.ref sa_), .val (.int (0 : Int32)), .val (.int n_), .val (.ref b1), .val (.int (Int32.ofNat w6_0)), .val (.ref b15_0)] []))
  refine og (fun _ hr => XS.aload X25.here hx rfl (hb hby dc13_54) rfl rfl hr) ?_
  show oG p e below _ (T25.setTop (mkF m 56 #[.val (.ref sa_), .val (.int (0 : Int32)), .val (.int n_), .val (.ref b1), .val (.int (Int32.ofNat w6_0)), .val (.ref b15_0)] [(.ref b15_0)]))
  have hc30 : StrChars.Road.CodA cs_ (1 : Int32) (Int32.ofNat (2 * cs_.length)) (StrChars.Road.wideBytes cs_) := Or.inr ⟨rfl, rfl, rfl, (cs_.getD w6_0 0), own_get_mem hlt23, h25524⟩
  have K31 := (K22.trans K15 all0)
  exact own_retR X25 hx hlk Bd.returns rfl rfl (hb hby dc13_56) (by decide) (by decide) (by rw [e25]; exact ⟨b15_0, kb15_0, (1 : Int32), (Int32.ofNat (2 * cs_.length)), (StrChars.Road.wideBytes cs_), rfl, N25, K31, ge15_0, sz21, f15_0, f15_1, hc30⟩)
theorem dc15_0 : decode jdk_52_method_15_code 0 = .ok (.iload_n 1, 1) := by decide +kernel
theorem dc15_1 : decode jdk_52_method_15_code 1 = .ok (.aload_n 0, 1) := by decide +kernel
theorem dc15_2 : decode jdk_52_method_15_code 2 = .ok (.arraylength, 1) := by decide +kernel
theorem dc15_3 : decode jdk_52_method_15_code 3 = .ok (.isub, 1) := by decide +kernel
theorem dc15_4 : decode jdk_52_method_15_code 4 = .ok (.bipush 31, 2) := by decide +kernel
theorem dc15_6 : decode jdk_52_method_15_code 6 = .ok (.iushr, 1) := by decide +kernel
theorem dc15_7 : decode jdk_52_method_15_code 7 = .ok (.i2b, 1) := by decide +kernel
theorem dc15_8 : decode jdk_52_method_15_code 8 = .ok (.ireturn, 1) := by decide +kernel
def own_cft (n_ nn_ : Int32) : Int32 := nar .byte ((((n_ - nn_).toUInt32 >>> ((31 : Int32) &&& 31).toUInt32).toInt32).toInt8.toInt32)
theorem own_cfc {cs : List Int32} {cd N k : Int32} {vs : List Value} {kN : Nat} (hc : StrChars.Road.CodA cs cd N vs) (hl : cs.length = kN) (hk : Int32.ofNat kN = k) (h5 : kN ≤ 5) : own_cft k N = cd := by
  subst hk
  rcases hc with ⟨rfl, rfl, -, -⟩ | ⟨rfl, rfl, -, c, hm, -⟩
  · rw [hl]
    have h : kN = 0 ∨ kN = 1 ∨ kN = 2 ∨ kN = 3 ∨ kN = 4 ∨ kN = 5 := by omega
    rcases h with rfl | rfl | rfl | rfl | rfl | rfl <;> decide
  · have := List.length_pos_of_mem hm
    rw [hl] at this ⊢
    have h : kN = 1 ∨ kN = 2 ∨ kN = 3 ∨ kN = 4 ∨ kN = 5 := by omega
    rcases h with rfl | rfl | rfl | rfl | rfl <;> decide
theorem own_cdb {cs : List Int32} {cd N : Int32} {vs : List Value} (hc : StrChars.Road.CodA cs cd N vs) : nar .byte cd = cd := by
  rcases hc with ⟨rfl, -⟩ | ⟨rfl, -⟩ <;> decide
theorem own_kz {kN : Nat} {k : Int32} (hk : Int32.ofNat kN = k) (h0 : 0 < kN) (h5 : kN ≤ 5) : ¬ k = 0 := fun q => by
  have := own_tn hk h5
  rw [q] at this
  exact absurd this (by show (0 : Nat) ≠ kN; omega)
theorem own_add {a b : Nat} {x y : Int32} (hx : Int32.ofNat a = x) (hy : Int32.ofNat b = y) : Int32.ofNat (a + b) = x + y := by subst hx hy; exact Int32.ofNat_add a b
theorem own_codl {cs : List Int32} {cd N : Int32} {vs : List Value} (hc : StrChars.Road.CodA cs cd N vs) (h : cd = 0) : N = Int32.ofNat cs.length ∧ vs = (cs.map fun c => Value.int (StrChars.lo8 c)) ∧ ∀ c ∈ cs, ¬ 255 < c := by
  rcases hc with ⟨-, h1, h2, h3⟩ | ⟨q, -⟩
  · exact ⟨h1, h2, h3⟩
  · rw [h] at q; exact absurd q (by decide)
theorem own_codw {cs : List Int32} {cd N : Int32} {vs : List Value} (hc : StrChars.Road.CodA cs cd N vs) (h : ¬ cd = 0) : N = Int32.ofNat (2 * cs.length) ∧ vs = StrChars.Road.wideBytes cs ∧ ∃ c ∈ cs, 255 < c := by
  rcases hc with ⟨q, -⟩ | ⟨-, h1, h2, h3⟩
  · exact absurd q h
  · exact ⟨h1, h2, h3⟩

def Q_cf (Z : State) (nn_ : Int32) (n_ : Int32) (h0 : Heap) (n0 : Nat) (v : Option Value) (h : Heap) (L : List Loc) : Prop := v = some (.int (own_cft n_ nn_)) ∧ Fr n0 L ∧ h = h0
set_option maxRecDepth 65536 in
set_option maxHeartbeats 40000000 in
theorem rm_cf (l : Launch) (Z : State) (a0 : Array Value) (hw : ∀ d ∈ tables_1, d.before a0 Z = true) (ws : List Jvm.Cond) (t_ : Addr) (kt_ : ClassId) (nn_ : Int32) (vs_ : List Value) (n_ : Int32) (h0 : Heap) (n0 : Nat) (Z0 : n0 ≤ h0.size) (Kt_ : Arv Z h0 t_ kt_ .byte nn_ vs_ (.int (0 : Int32))) :
    MetFree l (⟨"java/lang/StringUTF16", "coderFromArrayLen", "([BI)B"⟩ : MethodName) (head1 (Jvm.Cond.code (⟨"java/lang/StringUTF16", "coderFromArrayLen", "([BI)B"⟩ : MethodName) jdk_52_method_15_code 2 (some .byte) :: ws) ({ frames := 0, cells := 0, slots := 0, locals := 0 } : Room)) (fun aA U => aA = #[(.ref t_), (.int n_)] ∧ Z.Warmed39 U.vm ∧ U.heap = h0) (fun _ _ _ _ _ => True) (fun _ U o U' => ∃ v L, o = .returned v ∧ Q_cf Z nn_ n_ h0 n0 v U'.heap L ∧ FrameEnd U o U' L ({ frames := 0, cells := 0, slots := 0, locals := 0 } : Room).cells ({ frames := 0, cells := 0, slots := 0, locals := 0 } : Room).slots) := by
  refine MetFree.of_bodySF (plainFor_of_name own_pn_java_lang_StringUTF16) hisR ?_
  intro p e s m args below meth c s₁ Bd hml0 hP hK
  obtain ⟨rfl, hZ, hh⟩ := hP
  have hx := Bd.exec
  have hby := Bd.bytes
  have hlk : meth.locks = false := BodyLoose.notSynchronized Bd
  have hml : c.maxLocals = 2 := hml0
  have hown : s.vm.findClass "java/lang/StringUTF16" = some m.cls := findClass_of_methodNamed Bd.named
  have hnm := (name_of_methodNamed Bd.named Bd.method).1
  have X0 : Stand p l e ({ frames := 0, cells := 0, slots := 0, locals := 0 } : Room) s m #[(.ref t_), (.int n_)] below meth c s₁ [] 0 0 := Stand.of_body Bd
  have e0 : s₁.heap = h0 := by rw [← hh, Bd.state]; rfl
  have N0 := Fr.nil n0
  show oG p e below (own_K s (Q_cf Z nn_ n_ h0 n0) ({ frames := 0, cells := 0, slots := 0, locals := 0 } : Room).cells ({ frames := 0, cells := 0, slots := 0, locals := 0 } : Room).slots) (s₁.setTop (entryFrame m #[(.ref t_), (.int n_)] 2))
  rw [(by first | (simp [entryFrame, mkF, argsToLocals, Value.category]; done) | rfl : entryFrame m #[(.ref t_), (.int n_)] 2 = mkF m 0 #[.val (.ref t_), .val (.int n_)] [])]
  show oG p e below _ (s₁.setTop (mkF m 0 #[.val (.ref t_), .val (.int n_)] []))
  refine og (fun _ hr => XS.iloadN X0.here hx rfl (hb hby dc15_0) rfl (XS.aloadN X0.here hx rfl (hb hby dc15_1) rfl rfl (own_alen X0 hx hZ e0 Kt_ rfl rfl (hb hby dc15_2) (XS.isub X0.here hx rfl (hb hby dc15_3) rfl (XS.bipush X0.here hx rfl (hb hby dc15_4) (XS.iushr X0.here hx rfl (hb hby dc15_6) rfl (XS.i2b X0.here hx rfl (hb hby dc15_7) rfl hr))))))) ?_
  show oG p e below _ (s₁.setTop (mkF m 8 #[.val (.ref t_), .val (.int n_)] [(.int ((((n_ - nn_).toUInt32 >>> ((31 : Int32) &&& 31).toUInt32).toInt32).toInt8.toInt32))]))
  exact own_retN X0 hx hlk Bd.returns (t := .byte) (by simp) (hb hby dc15_8) (by decide) (by decide) ⟨rfl, N0, e0⟩
theorem dc4_0 : decode jdk_42_method_149_code 0 = .ok (.aload_n 0, 1) := by decide +kernel
theorem dc4_1 : decode jdk_42_method_149_code 1 = .ok (.invokespecial 1, 3) := by decide +kernel
theorem dc4_4 : decode jdk_42_method_149_code 4 = .ok (.iload_n 3, 1) := by decide +kernel
theorem dc4_5 : decode jdk_42_method_149_code 5 = .ok (.ifCond .ne 22, 3) := by decide +kernel
theorem dc4_27 : decode jdk_42_method_149_code 27 = .ok (.getstatic 38, 3) := by decide +kernel
theorem dc4_30 : decode jdk_42_method_149_code 30 = .ok (.ifCond .eq 28, 3) := by decide +kernel
theorem dc4_33 : decode jdk_42_method_149_code 33 = .ok (.aload_n 1, 1) := by decide +kernel
theorem dc4_34 : decode jdk_42_method_149_code 34 = .ok (.iload_n 2, 1) := by decide +kernel
theorem dc4_35 : decode jdk_42_method_149_code 35 = .ok (.iload_n 3, 1) := by decide +kernel
theorem dc4_36 : decode jdk_42_method_149_code 36 = .ok (.invokestatic 177, 3) := by decide +kernel
theorem dc4_39 : decode jdk_42_method_149_code 39 = .ok (.astore 5, 2) := by decide +kernel
theorem dc4_41 : decode jdk_42_method_149_code 41 = .ok (.aload_n 0, 1) := by decide +kernel
theorem dc4_42 : decode jdk_42_method_149_code 42 = .ok (.aload 5, 2) := by decide +kernel
theorem dc4_44 : decode jdk_42_method_149_code 44 = .ok (.iload_n 3, 1) := by decide +kernel
theorem dc4_45 : decode jdk_42_method_149_code 45 = .ok (.invokestatic 47, 3) := by decide +kernel
theorem own_pd8 : parseMethodDescriptor "([BI)B" = some ⟨[(.array .byte), .int], some .byte⟩ := by decide +kernel
theorem dc4_48 : decode jdk_42_method_149_code 48 = .ok (.putfield 15, 3) := by decide +kernel
theorem dc4_51 : decode jdk_42_method_149_code 51 = .ok (.aload_n 0, 1) := by decide +kernel
theorem dc4_52 : decode jdk_42_method_149_code 52 = .ok (.aload 5, 2) := by decide +kernel
theorem dc4_54 : decode jdk_42_method_149_code 54 = .ok (.putfield 9, 3) := by decide +kernel
theorem dc4_57 : decode jdk_42_method_149_code 57 = .ok (.return_, 1) := by decide +kernel
theorem own_pn_java_lang_String : plainName "java/lang/String" = true := by first | (simp [plainName, overriddenIn]; done) | decide +kernel
def Q_ini (Z : State) (o_ : Addr) (cs_ : List Int32) (h0 : Heap) (n0 : Nat) (v : Option Value) (h : Heap) (L : List Loc) : Prop := (∃ (b : Addr) (k : ClassId) (cd N : Int32) (vs : List Value), v = none ∧ Fr n0 L ∧ Keep h0 h [o_] ∧ n0 ≤ b ∧ h0.size ≤ b ∧ Fld Z h o_ "java/lang/String" "coder" "B" (.int cd) ∧ Fld Z h o_ "java/lang/String" "value" "[B" (.ref b) ∧ Arv Z h b k .byte N vs (.int (0 : Int32)) ∧ StrChars.Road.CodA cs_ cd N vs)
set_option maxRecDepth 65536 in
set_option maxHeartbeats 40000000 in
theorem rm_ini (l : Launch) (Z : State) (a0 : Array Value) (hw : ∀ d ∈ tables_1, d.before a0 Z = true) (ws : List Jvm.Cond) (o_ : Addr) (sa_ : Addr) (ks_ : ClassId) (n_ : Int32) (cs_ : List Int32) (vc_ : List Value) (i_COMPACT_STRINGS : Int32) (h0 : Heap) (n0 : Nat) (Z0 : n0 ≤ h0.size) (Eo_ : Exa Z h0 o_ "java/lang/String") (Vo_ : Fld Z h0 o_ "java/lang/String" "value" "[B" .null) (Co_ : Fld Z h0 o_ "java/lang/String" "coder" "B" (.int (0 : Int32))) (geo_ : n0 ≤ o_) (Ks_ : Arv Z h0 sa_ ks_ .char n_ vc_ (.int (0 : Int32))) (hvc_ : vc_ = cs_.map Value.int) (hn_ : Int32.ofNat cs_.length = n_) (hl5_ : cs_.length ≤ 5) (hbc_ : ∀ c ∈ cs_, ¬ c < 0 ∧ ¬ (65535 : Int32) < c) (hl1_ : 0 < cs_.length) (nos_ : sa_ ≠ o_) (S_COMPACT_STRINGS : Sta Z h0 "java/lang/String" "COMPACT_STRINGS" "Z" (.int i_COMPACT_STRINGS)) (hs_COMPACT_STRINGS : ¬ (i_COMPACT_STRINGS = (0 : Int32))) (S__assertionsDisabled : Sta Z h0 "java/lang/StringUTF16" "$assertionsDisabled" "Z" (.int (1 : Int32))) (S_HI_BYTE_SHIFT : Sta Z h0 "java/lang/StringUTF16" "HI_BYTE_SHIFT" "I" (.int (0 : Int32))) (S_LO_BYTE_SHIFT : Sta Z h0 "java/lang/StringUTF16" "LO_BYTE_SHIFT" "I" (.int (8 : Int32))) :
    MetFree l (⟨"java/lang/String", "<init>", "([CIILjava/lang/Void;)V"⟩ : MethodName) (head1 (Jvm.Cond.code (⟨"java/lang/String", "<init>", "([CIILjava/lang/Void;)V"⟩ : MethodName) jdk_42_method_149_code 6 none :: ws) ({ frames := 4, cells := 2, slots := 15, locals := 57 } : Room)) (fun aA U => aA = #[(.ref o_), (.ref sa_), (.int (0 : Int32)), (.int n_), .null] ∧ Z.Warmed39 U.vm ∧ U.heap = h0) (fun _ _ _ _ _ => True) (fun _ U o U' => ∃ v L, o = .returned v ∧ Q_ini Z o_ cs_ h0 n0 v U'.heap L ∧ FrameEnd U o U' L ({ frames := 4, cells := 2, slots := 15, locals := 57 } : Room).cells ({ frames := 4, cells := 2, slots := 15, locals := 57 } : Room).slots) := by
  refine MetFree.of_bodySF (plainFor_of_name own_pn_java_lang_String) hisR ?_
  intro p e s m args below meth c s₁ Bd hml0 hP hK
  obtain ⟨rfl, hZ, hh⟩ := hP
  have hx := Bd.exec
  have hby := Bd.bytes
  have hlk : meth.locks = false := BodyLoose.notSynchronized Bd
  have hml : c.maxLocals = 6 := hml0
  have hown : s.vm.findClass "java/lang/String" = some m.cls := findClass_of_methodNamed Bd.named
  have hnm := (name_of_methodNamed Bd.named Bd.method).1
  have X0 : Stand p l e ({ frames := 4, cells := 2, slots := 15, locals := 57 } : Room) s m #[(.ref o_), (.ref sa_), (.int (0 : Int32)), (.int n_), .null] below meth c s₁ [] 0 0 := Stand.of_body Bd
  have e0 : s₁.heap = h0 := by rw [← hh, Bd.state]; rfl
  have N0 := Fr.nil n0
  have hnz_ : ¬ (n_ = (0 : Int32)) := own_kz hn_ hl1_ hl5_
  have K0 : Keep h0 h0 [o_] := Keep.refl _ _
  show oG p e below (own_K s (Q_ini Z o_ cs_ h0 n0) ({ frames := 4, cells := 2, slots := 15, locals := 57 } : Room).cells ({ frames := 4, cells := 2, slots := 15, locals := 57 } : Room).slots) (s₁.setTop (entryFrame m #[(.ref o_), (.ref sa_), (.int (0 : Int32)), (.int n_), .null] 6))
  rw [(by first | (simp [entryFrame, mkF, argsToLocals, Value.category]; done) | rfl : entryFrame m #[(.ref o_), (.ref sa_), (.int (0 : Int32)), (.int n_), .null] 6 = mkF m 0 #[.val (.ref o_), .val (.ref sa_), .val (.int (0 : Int32)), .val (.int n_), .val .null, .unset] [])]
  show oG p e below _ (s₁.setTop (mkF m 0 #[.val (.ref o_), .val (.ref sa_), .val (.int (0 : Int32)), .val (.int n_), .val .null, .unset] []))
  refine og (fun _ hr => XS.aloadN X0.here hx rfl (hb hby dc4_0) rfl rfl hr) ?_
  show oG p e below _ (s₁.setTop (mkF m 1 #[.val (.ref o_), .val (.ref sa_), .val (.int (0 : Int32)), .val (.int n_), .val .null, .unset] [(.ref o_)]))
  obtain ⟨T1, X1, e1, st1⟩ := initO X0 hx hZ hown (hw _ (own_m 19 rfl)) (hw _ (own_m 20 rfl)) (hw _ (own_m 21 rfl)) e0 (g := (mkF m 1 #[.val (.ref o_), .val (.ref sa_), .val (.int (0 : Int32)), .val (.int n_), .val .null, .unset] [(.ref o_)])) rfl (by rw [hml]; rfl) rfl (hb hby dc4_1) (by decide) (W := 0) (by show 2 * 0 + _ ≤ _; exact Nat.le_of_eq rfl) (by decide)
  refine og st1 ?_
  show oG p e below _ (T1.setTop (mkF m 4 #[.val (.ref o_), .val (.ref sa_), .val (.int (0 : Int32)), .val (.int n_), .val .null, .unset] []))
  refine og (fun _ hr => XS.iloadN X1.here hx rfl (hb hby dc4_4) rfl hr) ?_
  show oG p e below _ (T1.setTop (mkF m 5 #[.val (.ref o_), .val (.ref sa_), .val (.int (0 : Int32)), .val (.int n_), .val .null, .unset] [(.int n_)]))
  refine og (fun _ hr => XS.ifYes X1.here hx rfl (pc0 := 5) (pc' := 27) rfl (hb hby dc4_5) rfl ((if0 _ _).trans (feq hnz_).2) (by decide) (by decide) hr) ?_
  show oG p e below _ (T1.setTop (mkF m 27 #[.val (.ref o_), .val (.ref sa_), .val (.int (0 : Int32)), .val (.int n_), .val .null, .unset] []))
  obtain ⟨T2, X2, e2, st2⟩ := getS2 X1 hx hZ hown (host := "") (Or.inl (hw _ (own_m 44 rfl))) Via.refl e1 S_COMPACT_STRINGS (g := (mkF m 27 #[.val (.ref o_), .val (.ref sa_), .val (.int (0 : Int32)), .val (.int n_), .val .null, .unset] [])) rfl (hb hby dc4_27)
  refine og st2 ?_
  show oG p e below _ (T2.setTop (mkF m 30 #[.val (.ref o_), .val (.ref sa_), .val (.int (0 : Int32)), .val (.int n_), .val .null, .unset] [(.int i_COMPACT_STRINGS)]))
  refine og (fun _ hr => XS.ifNo X2.here hx rfl (hb hby dc4_30) rfl ((if0 _ _).trans (feq hs_COMPACT_STRINGS).1) hr) ?_
  show oG p e below _ (T2.setTop (mkF m 33 #[.val (.ref o_), .val (.ref sa_), .val (.int (0 : Int32)), .val (.int n_), .val .null, .unset] []))
  refine og (fun _ hr => XS.aloadN X2.here hx rfl (hb hby dc4_33) rfl rfl (XS.iloadN X2.here hx rfl (hb hby dc4_34) rfl (XS.iloadN X2.here hx rfl (hb hby dc4_35) rfl hr))) ?_
  show oG p e below _ (T2.setTop (mkF m 36 #[.val (.ref o_), .val (.ref sa_), .val (.int (0 : Int32)), .val (.int n_), .val .null, .unset] [(.int n_), (.int (0 : Int32)), (.ref sa_)]))
  refine own_cs X2 hx hZ hown (hw _ (own_m 64 rfl)) (hw _ (own_m 65 rfl)) (hw _ (own_m 66 rfl)) (hw _ (own_m 67 rfl)) (by decide) (rm := { frames := 3, cells := 2, slots := 15, locals := 40 }) (rm_cx l Z a0 hw [] sa_ ks_ n_ cs_ vc_ h0 n0 Z0 Ks_ hvc_ hn_ hl5_ hbc_ S__assertionsDisabled S_HI_BYTE_SHIFT S_LO_BYTE_SHIFT) (by decide) (W := 0) (by decide) (by decide) (by decide) e2 (by rw [hml]; rfl) (argsL := [(.ref sa_), (.int (0 : Int32)), (.int n_)]) (lenOf own_pd6 rfl) (rest := []) rfl rfl (Nat.le_of_eq rfl) (hb hby dc4_36) ?_
  intro _ T3 L3 X3 hQ3
  obtain ⟨b3_0, kb3_0, w3_0, w3_1, w3_2, rfl, N3q, K3, ge3_0, sz3_0, f3_0, f3_1, hx3_0⟩ := hQ3
  have N3 := Fr.app N0 N3q
  have sz4 : h0.size ≤ b3_0 := Nat.le_trans K0.1 sz3_0
  show oG p e below _ (T3.setTop (mkF m 39 #[.val (.ref o_), .val (.ref sa_), .val (.int (0 : Int32)), .val (.int n_), .val .null, .unset] [(.ref b3_0)]))
  refine og (fun _ hr => XS.astore X3.here hx rfl (hb hby dc4_39) rfl rfl (l' := #[.val (.ref o_), .val (.ref sa_), .val (.int (0 : Int32)), .val (.int n_), .val .null, .val (.ref b3_0)]) rfl (XS.aloadN X3.here hx rfl (hb hby dc4_41) rfl rfl (XS.aload X3.here hx rfl (hb hby dc4_42) rfl rfl (XS.iloadN X3.here hx rfl (hb hby dc4_44) rfl hr)))) ?_
  show oG p e below _ (T3.setTop (mkF m 45 #[.val (.ref o_), .val (.ref sa_), .val (.int (0 : Int32)), .val (.int n_), .val .null, .val (.ref b3_0)] [(.int n_), (.ref b3_0), (.ref o_)]))
  have Z6 := (Nat.le_trans Z0 K3.1)
  refine own_cs X3 hx hZ hown (hw _ (own_m 71 rfl)) (hw _ (own_m 72 rfl)) (hw _ (own_m 66 rfl)) (hw _ (own_m 73 rfl)) (by decide) (rm := { frames := 0, cells := 0, slots := 0, locals := 0 }) (rm_cf l Z a0 hw [] b3_0 kb3_0 w3_1 w3_2 n_ T3.heap n0 Z6 f3_1) (by decide) (W := 1) (by decide) (by decide) (by decide) rfl (by rw [hml]; rfl) (argsL := [(.ref b3_0), (.int n_)]) (lenOf own_pd8 rfl) (rest := [(.ref o_)]) rfl rfl (Nat.le_of_eq rfl) (hb hby dc4_45) ?_
  intro _ T5 L5 X5 hQ5
  obtain ⟨rfl, N5q, e5⟩ := hQ5
  have N5 := Fr.app N3 N5q
  rw [own_cfc hx3_0 rfl hn_ hl5_]
  show oG p e below _ (T5.setTop (mkF m 48 #[.val (.ref o_), .val (.ref sa_), .val (.int (0 : Int32)), .val (.int n_), .val .null, .val (.ref b3_0)] [(.int w3_0), (.ref o_)]))
  have f7 := (Eo_.keep K3)
  have f8 := (Co_.keep K3 nin0)
  have c9 : (nar .byte w3_0) = w3_0 := own_cdb hx3_0
  obtain ⟨T10, h10, X10, e10, W10, st10⟩ := putFN X5 hx hZ hown (hw _ (own_m 29 rfl)) Via.refl e5 f8 f7 (Or.inr ⟨(hw _ (own_m 25 rfl)), rfl, hnm⟩) (hw _ (own_m 10 rfl)) (ty := .byte) (v' := .int (nar .byte w3_0)) (by decide) rfl (fits_nar_byte _) (g := (mkF m 48 #[.val (.ref o_), .val (.ref sa_), .val (.int (0 : Int32)), .val (.int n_), .val .null, .val (.ref b3_0)] [(.int w3_0), (.ref o_)])) rfl rfl (hb hby dc4_48)
  refine og st10 ?_
  have f11 : Fld Z h10 o_ "java/lang/String" "coder" "B" (.int w3_0) := by have q := f8.same W10; rw [c9] at q; exact q
  have N12 := Fr.snoc X10 N5 geo_
  show oG p e below _ (T10.setTop (mkF m 51 #[.val (.ref o_), .val (.ref sa_), .val (.int (0 : Int32)), .val (.int n_), .val .null, .val (.ref b3_0)] []))
  refine og (fun _ hr => XS.aloadN X10.here hx rfl (hb hby dc4_51) rfl rfl (XS.aload X10.here hx rfl (hb hby dc4_52) rfl rfl hr)) ?_
  show oG p e below _ (T10.setTop (mkF m 54 #[.val (.ref o_), .val (.ref sa_), .val (.int (0 : Int32)), .val (.int n_), .val .null, .val (.ref b3_0)] [(.ref b3_0), (.ref o_)]))
  have f13 := (f7.wr W10)
  have f14 := ((Vo_.keep K3 nin0).other W10 (Or.inr (slot_ne (Or.inr (hw _ (own_m 24 rfl))) (Or.inr (hw _ (own_m 25 rfl))) (by decide) (t := (.array .byte)) (t' := .byte) (by decide) (by decide))))
  obtain ⟨T15, h15, X15, e15, W15, st15⟩ := putF X10 hx hZ hown (host := "") (Or.inl (hw _ (own_m 28 rfl))) Via.refl e10 f14 f13 (Or.inr ⟨(hw _ (own_m 24 rfl)), rfl, hnm⟩) (hw _ (own_m 10 rfl)) (ty := (.array .byte)) (by decide) rfl rfl (g := (mkF m 54 #[.val (.ref o_), .val (.ref sa_), .val (.int (0 : Int32)), .val (.int n_), .val .null, .val (.ref b3_0)] [(.ref b3_0), (.ref o_)])) rfl rfl (hb hby dc4_54)
  refine og st15 ?_
  have f16 := f14.same W15
  have N17 := Fr.snoc X15 N12 geo_
  show oG p e below _ (T15.setTop (mkF m 57 #[.val (.ref o_), .val (.ref sa_), .val (.int (0 : Int32)), .val (.int n_), .val .null, .val (.ref b3_0)] []))
  have f18 := (f11.other W15 (Or.inr (slot_ne (Or.inr (hw _ (own_m 25 rfl))) (Or.inr (hw _ (own_m 24 rfl))) (by decide) (t := .byte) (t' := (.array .byte)) (by decide) (by decide))))
  have f19 := ((f3_1.other W10 (Ne.symm (Nat.ne_of_lt (Nat.lt_of_lt_of_le Eo_.lt sz3_0)))).other W15 (Ne.symm (Nat.ne_of_lt (Nat.lt_of_lt_of_le Eo_.lt sz3_0))))
  have K20 := (((K0.trans K3 all0).wr W10 (Or.inl (List.mem_of_getElem? (i := 0) rfl))).wr W15 (Or.inl (List.mem_of_getElem? (i := 0) rfl)))
  exact own_ret0 X15 hx hlk Bd.returns (hb hby dc4_57) (by decide) (by decide) (by rw [e15]; exact ⟨b3_0, kb3_0, w3_0, w3_1, w3_2, rfl, N17, K20, ge3_0, sz4, f18, f16, f19, hx3_0⟩)
theorem dc3_0 : decode jdk_42_method_3_code 0 = .ok (.aload_n 0, 1) := by decide +kernel
theorem dc3_1 : decode jdk_42_method_3_code 1 = .ok (.aload_n 1, 1) := by decide +kernel
theorem dc3_2 : decode jdk_42_method_3_code 2 = .ok (.iconst 0, 1) := by decide +kernel
theorem dc3_3 : decode jdk_42_method_3_code 3 = .ok (.aload_n 1, 1) := by decide +kernel
theorem dc3_4 : decode jdk_42_method_3_code 4 = .ok (.arraylength, 1) := by decide +kernel
theorem dc3_5 : decode jdk_42_method_3_code 5 = .ok (.aconst_null, 1) := by decide +kernel
theorem dc3_6 : decode jdk_42_method_3_code 6 = .ok (.invokespecial 27, 3) := by decide +kernel
theorem own_pd9 : parseMethodDescriptor "([CIILjava/lang/Void;)V" = some ⟨[(.array .char), .int, .int, (.object "java/lang/Void")], none⟩ := by decide +kernel
theorem dc3_9 : decode jdk_42_method_3_code 9 = .ok (.return_, 1) := by decide +kernel
def Q_inj (Z : State) (o_ : Addr) (cs_ : List Int32) (h0 : Heap) (n0 : Nat) (v : Option Value) (h : Heap) (L : List Loc) : Prop := (∃ (b : Addr) (k : ClassId) (cd N : Int32) (vs : List Value), v = none ∧ Fr n0 L ∧ Keep h0 h [o_] ∧ n0 ≤ b ∧ h0.size ≤ b ∧ Fld Z h o_ "java/lang/String" "coder" "B" (.int cd) ∧ Fld Z h o_ "java/lang/String" "value" "[B" (.ref b) ∧ Arv Z h b k .byte N vs (.int (0 : Int32)) ∧ StrChars.Road.CodA cs_ cd N vs)
set_option maxRecDepth 65536 in
set_option maxHeartbeats 40000000 in
theorem rm_inj (l : Launch) (Z : State) (a0 : Array Value) (hw : ∀ d ∈ tables_1, d.before a0 Z = true) (ws : List Jvm.Cond) (o_ : Addr) (sa_ : Addr) (ks_ : ClassId) (n_ : Int32) (cs_ : List Int32) (vc_ : List Value) (i_COMPACT_STRINGS : Int32) (h0 : Heap) (n0 : Nat) (Z0 : n0 ≤ h0.size) (Eo_ : Exa Z h0 o_ "java/lang/String") (Vo_ : Fld Z h0 o_ "java/lang/String" "value" "[B" .null) (Co_ : Fld Z h0 o_ "java/lang/String" "coder" "B" (.int (0 : Int32))) (geo_ : n0 ≤ o_) (Ks_ : Arv Z h0 sa_ ks_ .char n_ vc_ (.int (0 : Int32))) (hvc_ : vc_ = cs_.map Value.int) (hn_ : Int32.ofNat cs_.length = n_) (hl5_ : cs_.length ≤ 5) (hbc_ : ∀ c ∈ cs_, ¬ c < 0 ∧ ¬ (65535 : Int32) < c) (hl1_ : 0 < cs_.length) (nos_ : sa_ ≠ o_) (S_COMPACT_STRINGS : Sta Z h0 "java/lang/String" "COMPACT_STRINGS" "Z" (.int i_COMPACT_STRINGS)) (hs_COMPACT_STRINGS : ¬ (i_COMPACT_STRINGS = (0 : Int32))) (S__assertionsDisabled : Sta Z h0 "java/lang/StringUTF16" "$assertionsDisabled" "Z" (.int (1 : Int32))) (S_HI_BYTE_SHIFT : Sta Z h0 "java/lang/StringUTF16" "HI_BYTE_SHIFT" "I" (.int (0 : Int32))) (S_LO_BYTE_SHIFT : Sta Z h0 "java/lang/StringUTF16" "LO_BYTE_SHIFT" "I" (.int (8 : Int32))) :
    MetFree l (⟨"java/lang/String", "<init>", "([C)V"⟩ : MethodName) (head1 (Jvm.Cond.code (⟨"java/lang/String", "<init>", "([C)V"⟩ : MethodName) jdk_42_method_3_code 2 none :: ws) ({ frames := 5, cells := 2, slots := 15, locals := 74 } : Room)) (fun aA U => aA = #[(.ref o_), (.ref sa_)] ∧ Z.Warmed39 U.vm ∧ U.heap = h0) (fun _ _ _ _ _ => True) (fun _ U o U' => ∃ v L, o = .returned v ∧ Q_inj Z o_ cs_ h0 n0 v U'.heap L ∧ FrameEnd U o U' L ({ frames := 5, cells := 2, slots := 15, locals := 74 } : Room).cells ({ frames := 5, cells := 2, slots := 15, locals := 74 } : Room).slots) := by
  refine MetFree.of_bodySF (plainFor_of_name own_pn_java_lang_String) hisR ?_
  intro p e s m args below meth c s₁ Bd hml0 hP hK
  obtain ⟨rfl, hZ, hh⟩ := hP
  have hx := Bd.exec
  have hby := Bd.bytes
  have hlk : meth.locks = false := BodyLoose.notSynchronized Bd
  have hml : c.maxLocals = 2 := hml0
  have hown : s.vm.findClass "java/lang/String" = some m.cls := findClass_of_methodNamed Bd.named
  have hnm := (name_of_methodNamed Bd.named Bd.method).1
  have X0 : Stand p l e ({ frames := 5, cells := 2, slots := 15, locals := 74 } : Room) s m #[(.ref o_), (.ref sa_)] below meth c s₁ [] 0 0 := Stand.of_body Bd
  have e0 : s₁.heap = h0 := by rw [← hh, Bd.state]; rfl
  have N0 := Fr.nil n0
  have K0 : Keep h0 h0 [o_] := Keep.refl _ _
  show oG p e below (own_K s (Q_inj Z o_ cs_ h0 n0) ({ frames := 5, cells := 2, slots := 15, locals := 74 } : Room).cells ({ frames := 5, cells := 2, slots := 15, locals := 74 } : Room).slots) (s₁.setTop (entryFrame m #[(.ref o_), (.ref sa_)] 2))
  rw [(by first | (simp [entryFrame, mkF, argsToLocals, Value.category]; done) | rfl : entryFrame m #[(.ref o_), (.ref sa_)] 2 = mkF m 0 #[.val (.ref o_), .val (.ref sa_)] [])]
  show oG p e below _ (s₁.setTop (mkF m 0 #[.val (.ref o_), .val (.ref sa_)] []))
  refine og (fun _ hr => XS.aloadN X0.here hx rfl (hb hby dc3_0) rfl rfl (XS.aloadN X0.here hx rfl (hb hby dc3_1) rfl rfl (XS.iconst X0.here hx rfl (hb hby dc3_2) (XS.aloadN X0.here hx rfl (hb hby dc3_3) rfl rfl (own_alen X0 hx hZ e0 Ks_ rfl rfl (hb hby dc3_4) (XS.aconstNull X0.here hx rfl (hb hby dc3_5) hr)))))) ?_
  show oG p e below _ (s₁.setTop (mkF m 6 #[.val (.ref o_), .val (.ref sa_)] [.null, (.int n_), (.int (0 : Int32)), (.ref sa_), (.ref o_)]))
  refine own_cp X0 hx hZ hown rfl (hw _ (own_m 15 rfl)) (hw _ (own_m 16 rfl)) (hw _ (own_m 11 rfl)) (hw _ (own_m 18 rfl)) (by decide) (rm := { frames := 4, cells := 2, slots := 15, locals := 57 }) (rm_ini l Z a0 hw [] o_ sa_ ks_ n_ cs_ vc_ i_COMPACT_STRINGS h0 n0 Z0 Eo_ Vo_ Co_ geo_ Ks_ hvc_ hn_ hl5_ hbc_ hl1_ nos_ S_COMPACT_STRINGS hs_COMPACT_STRINGS S__assertionsDisabled S_HI_BYTE_SHIFT S_LO_BYTE_SHIFT) (by decide) (W := 0) (by decide) (by decide) (by decide) e0 (by rw [hml]; rfl) (argsL := [(.ref sa_), (.int (0 : Int32)), (.int n_), .null]) (lenOf own_pd9 rfl) (rest := []) rfl rfl (Nat.le_of_eq rfl) (hb hby dc3_6) ?_
  intro _ T1 L1 X1 hQ1
  obtain ⟨b1_0, kb1_0, w1_0, w1_1, w1_2, rfl, N1q, K1, ge1_0, sz1_0, f1_0, f1_1, f1_2, hx1_0⟩ := hQ1
  have N1 := Fr.app N0 N1q
  have sz2 : h0.size ≤ b1_0 := Nat.le_trans K0.1 sz1_0
  show oG p e below _ (T1.setTop (mkF m 9 #[.val (.ref o_), .val (.ref sa_)] []))
  have K3 := (K0.trans K1 (allS (Or.inl (List.mem_of_getElem? (i := 0) rfl)) all0))
  exact own_ret0 X1 hx hlk Bd.returns (hb hby dc3_9) (by decide) (by decide) (by exact ⟨b1_0, kb1_0, w1_0, w1_1, w1_2, rfl, N1, K3, ge1_0, sz2, f1_0, f1_1, f1_2, hx1_0⟩)
def own_tk (z_ ya_ yb_ yc_ yd_ ye_ : Int32) : List Int32 := if z_ = 0 then [] else if z_ = 1 then [ya_] else if z_ = 2 then [ya_, yb_] else if z_ = 3 then [ya_, yb_, yc_] else if z_ = 4 then [ya_, yb_, yc_, yd_] else [ya_, yb_, yc_, yd_, ye_]
theorem own_wc {c : Int32} {cs : List Int32} (h : ¬ c < 0 ∧ ¬ (65535 : Int32) < c) (t : ∀ d ∈ cs, ¬ d < 0 ∧ ¬ (65535 : Int32) < d) : ∀ d ∈ c :: cs, ¬ d < 0 ∧ ¬ (65535 : Int32) < d := fun d hd => by
  rcases List.mem_cons.mp hd with rfl | hd
  · exact h
  · exact t d hd
theorem own_wn : ∀ d ∈ ([] : List Int32), ¬ d < 0 ∧ ¬ (65535 : Int32) < d := fun d hd => by cases hd
theorem own_z5 {z : Int32} (h0 : ¬ z < 0) (h5 : ¬ (5 : Int32) < z) : z = 0 ∨ z = 1 ∨ z = 2 ∨ z = 3 ∨ z = 4 ∨ z = 5 := by
  simp only [Int32.lt_iff_toInt_lt, ← Int32.toInt_inj, Int32.reduceToInt] at *; omega
theorem own_tkr {z_ ya_ yb_ yc_ yd_ ye_ : Int32} (hz0 : ¬ z_ < 0) (hz5 : ¬ (5 : Int32) < z_) (hr0 : ¬ ya_ < 0 ∧ ¬ (65535 : Int32) < ya_) (hr1 : ¬ yb_ < 0 ∧ ¬ (65535 : Int32) < yb_) (hr2 : ¬ yc_ < 0 ∧ ¬ (65535 : Int32) < yc_) (hr3 : ¬ yd_ < 0 ∧ ¬ (65535 : Int32) < yd_) (hr4 : ¬ ye_ < 0 ∧ ¬ (65535 : Int32) < ye_) : ∀ d ∈ own_tk z_ ya_ yb_ yc_ yd_ ye_, ¬ d < 0 ∧ ¬ (65535 : Int32) < d := by
  rcases own_z5 hz0 hz5 with rfl | rfl | rfl | rfl | rfl | rfl
  · exact own_wn
  · exact (own_wc hr0 own_wn)
  · exact (own_wc hr0 (own_wc hr1 own_wn))
  · exact (own_wc hr0 (own_wc hr1 (own_wc hr2 own_wn)))
  · exact (own_wc hr0 (own_wc hr1 (own_wc hr2 (own_wc hr3 own_wn))))
  · exact (own_wc hr0 (own_wc hr1 (own_wc hr2 (own_wc hr3 (own_wc hr4 own_wn)))))
theorem own_tkn {z_ : Int32} (ya_ yb_ yc_ yd_ ye_ : Int32) (hz0 : ¬ z_ < 0) (hz5 : ¬ (5 : Int32) < z_) : Int32.ofNat (own_tk z_ ya_ yb_ yc_ yd_ ye_).length = z_ ∧ (own_tk z_ ya_ yb_ yc_ yd_ ye_).length ≤ 5 := by
  rcases own_z5 hz0 hz5 with rfl | rfl | rfl | rfl | rfl | rfl
  · exact ⟨rfl, Nat.le_of_ble_eq_true rfl⟩
  · exact ⟨rfl, Nat.le_of_ble_eq_true rfl⟩
  · exact ⟨rfl, Nat.le_of_ble_eq_true rfl⟩
  · exact ⟨rfl, Nat.le_of_ble_eq_true rfl⟩
  · exact ⟨rfl, Nat.le_of_ble_eq_true rfl⟩
  · exact ⟨rfl, Nat.le_of_ble_eq_true rfl⟩
def own_tx0 : List Int32 := []
theorem own_cod0 : StrChars.Road.CodA own_tx0 0 (0 : Int32) [] := Or.inl ⟨rfl, by decide +kernel, by first | rfl | decide +kernel | simp [own_tx0, StrChars.lo8], by decide +kernel⟩
theorem own_hb0 : ∀ c ∈ own_tx0, ¬ c < 0 ∧ ¬ (65535 : Int32) < c := by decide +kernel
theorem dc2_0 : decode method_6_code 0 = .ok (.iload_n 0, 1) := by decide +kernel
theorem dc2_1 : decode method_6_code 1 = .ok (.ifCond .ne 14, 3) := by decide +kernel
theorem dc2_4 : decode method_6_code 4 = .ok (.new 29, 3) := by decide +kernel
theorem dc2_7 : decode method_6_code 7 = .ok (.dup, 1) := by decide +kernel
theorem dc2_8 : decode method_6_code 8 = .ok (.iconst 0, 1) := by decide +kernel
theorem dc2_9 : decode method_6_code 9 = .ok (.newarray .char, 2) := by decide +kernel
theorem dc2_11 : decode method_6_code 11 = .ok (.invokespecial 42, 3) := by decide +kernel
theorem dc4_8 : decode jdk_42_method_149_code 8 = .ok (.aload_n 0, 1) := by decide +kernel
theorem dc4_9 : decode jdk_42_method_149_code 9 = .ok (.ldc 7, 2) := by decide +kernel
theorem dc4_11 : decode jdk_42_method_149_code 11 = .ok (.getfield 9, 3) := by decide +kernel
theorem dc4_14 : decode jdk_42_method_149_code 14 = .ok (.putfield 9, 3) := by decide +kernel
theorem dc4_17 : decode jdk_42_method_149_code 17 = .ok (.aload_n 0, 1) := by decide +kernel
theorem dc4_18 : decode jdk_42_method_149_code 18 = .ok (.ldc 7, 2) := by decide +kernel
theorem dc4_20 : decode jdk_42_method_149_code 20 = .ok (.getfield 15, 3) := by decide +kernel
theorem dc4_23 : decode jdk_42_method_149_code 23 = .ok (.putfield 15, 3) := by decide +kernel
theorem dc4_26 : decode jdk_42_method_149_code 26 = .ok (.return_, 1) := by decide +kernel
def Q_init_0 (Z : State) (o0 : Addr) (h0 : Heap) (n0 : Nat) (v : Option Value) (h : Heap) (L : List Loc) : Prop := (∃ (b2 : Addr) (k2 : ClassId), v = none ∧ Fr n0 L ∧ Keep h0 h [o0] ∧ Fld Z h o0 "java/lang/String" "coder" "B" (.int (0 : Int32)) ∧ Fld Z h o0 "java/lang/String" "value" "[B" (.ref b2) ∧ Arv Z h b2 k2 .byte (0 : Int32) [] (.int (0 : Int32)))
set_option maxRecDepth 65536 in
set_option maxHeartbeats 40000000 in
theorem rm_init_0 (l : Launch) (Z : State) (a0 : Array Value) (hw : ∀ d ∈ tables_1, d.before a0 Z = true) (ws : List Jvm.Cond) (o0 : Addr) (o1 : Addr) (h0 : Heap) (n0 : Nat) (Z0 : n0 ≤ h0.size) (P0 : Exa Z h0 o0 "java/lang/String") (P1 : Fld Z h0 o0 "java/lang/String" "value" "[B" .null) (P2 : Fld Z h0 o0 "java/lang/String" "coder" "B" (.int (0 : Int32))) (ge0p : n0 ≤ o0) :
    MetFree l (⟨"java/lang/String", "<init>", "([CIILjava/lang/Void;)V"⟩ : MethodName) (head1 (Jvm.Cond.code (⟨"java/lang/String", "<init>", "([CIILjava/lang/Void;)V"⟩ : MethodName) jdk_42_method_149_code 6 none :: ws) ({ frames := 1, cells := 4, slots := 8, locals := 12 } : Room)) (fun aA U => aA = #[(.ref o0), (.ref o1), (.int (0 : Int32)), (.int (0 : Int32)), .null] ∧ Z.Warmed39 U.vm ∧ U.heap = h0 ∧ CHv Z own_EL U.vm h0) (fun _ _ _ _ _ => True) (fun _ U o U' => ∃ v L, o = .returned v ∧ Q_init_0 Z o0 h0 n0 v U'.heap L ∧ CHr Z own_EL U.vm U.heap U'.vm U'.heap ∧ ReturnedEndW U o U' L ({ frames := 1, cells := 4, slots := 8, locals := 12 } : Room).cells ({ frames := 1, cells := 4, slots := 8, locals := 12 } : Room).slots) := by
  refine MetFree.of_bodySF (plainFor_of_name own_pn_java_lang_String) hisR ?_
  intro p e s m args below meth c s₁ Bd hml0 hP hK
  obtain ⟨rfl, hZ, hh, hC0⟩ := hP
  have hx := Bd.exec
  have hby := Bd.bytes
  have hlk : meth.locks = false := BodyLoose.notSynchronized Bd
  have hml : c.maxLocals = 6 := hml0
  have hown : s.vm.findClass "java/lang/String" = some m.cls := findClass_of_methodNamed Bd.named
  have hnm := (name_of_methodNamed Bd.named Bd.method).1
  have X0 : Stand p l e ({ frames := 1, cells := 4, slots := 8, locals := 12 } : Room) (s.setVm s.vm) m #[(.ref o0), (.ref o1), (.int (0 : Int32)), (.int (0 : Int32)), .null] below meth c s₁ [] 0 0 := Stand.of_body Bd
  have e0 : s₁.heap = h0 := by rw [← hh, Bd.state]; rfl
  have N0 := Fr.nil n0
  have hS : s.Since s.vm 0 := (State.WarmedH.refl s).since 0
  have hk := Nat.zero_le h0.size
  have hEL : EW Z a0 own_EL := own_ew hw
  have A0 : CHr Z own_EL s.vm h0 s.vm h0 := CHr.refl hC0
  have K0 : Keep h0 h0 [o0] := Keep.refl _ _
  show oG p e below (own_KW Z own_EL s (Q_init_0 Z o0 h0 n0) ({ frames := 1, cells := 4, slots := 8, locals := 12 } : Room).cells ({ frames := 1, cells := 4, slots := 8, locals := 12 } : Room).slots) (s₁.setTop (entryFrame m #[(.ref o0), (.ref o1), (.int (0 : Int32)), (.int (0 : Int32)), .null] 6))
  rw [(by first | (simp [entryFrame, mkF, argsToLocals, Value.category]; done) | rfl : entryFrame m #[(.ref o0), (.ref o1), (.int (0 : Int32)), (.int (0 : Int32)), .null] 6 = mkF m 0 #[.val (.ref o0), .val (.ref o1), .val (.int (0 : Int32)), .val (.int (0 : Int32)), .val .null, .unset] [])]
  show oG p e below _ (s₁.setTop (mkF m 0 #[.val (.ref o0), .val (.ref o1), .val (.int (0 : Int32)), .val (.int (0 : Int32)), .val .null, .unset] []))
  refine og (fun _ hr => XS.aloadN X0.here hx rfl (hb hby dc4_0) rfl rfl hr) ?_
  show oG p e below _ (s₁.setTop (mkF m 1 #[.val (.ref o0), .val (.ref o1), .val (.int (0 : Int32)), .val (.int (0 : Int32)), .val .null, .unset] [(.ref o0)]))
  obtain ⟨T1, X1, e1, st1⟩ := initO X0 hx hZ hown (hw _ (own_m 19 rfl)) (hw _ (own_m 20 rfl)) (hw _ (own_m 21 rfl)) e0 (g := (mkF m 1 #[.val (.ref o0), .val (.ref o1), .val (.int (0 : Int32)), .val (.int (0 : Int32)), .val .null, .unset] [(.ref o0)])) rfl (by rw [hml]; rfl) rfl (hb hby dc4_1) (by decide) (W := 0) (by show 2 * 0 + _ ≤ _; exact Nat.le_of_eq rfl) (by decide)
  refine og st1 ?_
  show oG p e below _ (T1.setTop (mkF m 4 #[.val (.ref o0), .val (.ref o1), .val (.int (0 : Int32)), .val (.int (0 : Int32)), .val .null, .unset] []))
  refine og (fun _ hr => XS.iloadN X1.here hx rfl (hb hby dc4_4) rfl (XS.ifNo X1.here hx rfl (hb hby dc4_5) rfl ((if0 _ _).trans (teq (by decide)).2) (XS.aloadN X1.here hx rfl (hb hby dc4_8) rfl rfl hr))) ?_
  show oG p e below _ (T1.setTop (mkF m 9 #[.val (.ref o0), .val (.ref o1), .val (.int (0 : Int32)), .val (.int (0 : Int32)), .val .null, .unset] [(.ref o0)]))
  have hZo3 := hZ
  obtain ⟨a2, T2, h2, k12, b2, k2, X2, e2, E2, hS, hk2, hZ, hown, EA2, FC2, FV2, AV2, -, -, Al2, -, ne2, st2⟩ := ldcCH X1 hx hZ hown (hw _ (own_m 22 rfl)) (own_ws hw) e1 hS hk hEL (by simp [own_EL]) A0.1 (vs := []) (z := (0 : Int32)) ⟨by decide, by decide⟩ (by decide) (by decide) (g := (mkF m 9 #[.val (.ref o0), .val (.ref o1), .val (.int (0 : Int32)), .val (.int (0 : Int32)), .val .null, .unset] [(.ref o0)])) rfl (hb hby dc4_9) (n := 0) (by decide) (by decide) (by decide) (by decide)
  refine og st2 ?_
  show oG p e below _ (T2.setTop (mkF m 11 #[.val (.ref o0), .val (.ref o1), .val (.int (0 : Int32)), .val (.int (0 : Int32)), .val .null, .unset] [(.ref a2), (.ref o0)]))
  obtain ⟨T4, X4, e4, st4⟩ := getF X2 hx hZ hown (host := "") (Or.inl (hw _ (own_m 28 rfl))) Via.refl e2 FV2 (g := (mkF m 11 #[.val (.ref o0), .val (.ref o1), .val (.int (0 : Int32)), .val (.int (0 : Int32)), .val .null, .unset] [(.ref a2), (.ref o0)])) rfl rfl (hb hby dc4_11)
  refine og st4 ?_
  show oG p e below _ (T4.setTop (mkF m 14 #[.val (.ref o0), .val (.ref o1), .val (.int (0 : Int32)), .val (.int (0 : Int32)), .val .null, .unset] [(.ref b2), (.ref o0)]))
  have f5 := (P0.ext E2)
  have f6 := (P1.ext E2)
  obtain ⟨T7, h7, X7, e7, W7, st7⟩ := putF X4 hx hZ hown (host := "") (Or.inl (hw _ (own_m 28 rfl))) Via.refl e4 f6 f5 (Or.inr ⟨(hw _ (own_m 24 rfl)), rfl, hnm⟩) (hw _ (own_m 10 rfl)) (ty := (.array .byte)) (by decide) rfl rfl (g := (mkF m 14 #[.val (.ref o0), .val (.ref o1), .val (.int (0 : Int32)), .val (.int (0 : Int32)), .val .null, .unset] [(.ref b2), (.ref o0)])) rfl rfl (hb hby dc4_14)
  refine og st7 ?_
  have f8 := f6.same W7
  have N9 := Fr.snoc X7 N0 ge0p
  show oG p e below _ (T7.setTop (mkF m 17 #[.val (.ref o0), .val (.ref o1), .val (.int (0 : Int32)), .val (.int (0 : Int32)), .val .null, .unset] []))
  refine og (fun _ hr => XS.aloadN X7.here hx rfl (hb hby dc4_17) rfl rfl hr) ?_
  show oG p e below _ (T7.setTop (mkF m 18 #[.val (.ref o0), .val (.ref o1), .val (.int (0 : Int32)), .val (.int (0 : Int32)), .val .null, .unset] [(.ref o0)]))
  have A11 := A0.trans Al2
  have sf13 := (Al2.safe P0.lt (own_safe_null hZo3.alike P0 P1))
  have A12 := A11.trans (CHr.wr W7 sf13 A11.1)
  have hk14 := (Nat.le_trans hk2 (Nat.le_of_eq W7.size.symm))
  have hZo15 := hZ
  obtain ⟨a10, T10, h10, k110, b10, k10, X10, e10, E10, hS, hk10, hZ, hown, EA10, FC10, FV10, AV10, -, -, Al10, -, ne10, st10⟩ := ldcCH X7 hx hZ hown (hw _ (own_m 22 rfl)) (own_ws hw) e7 hS hk14 hEL (by simp [own_EL]) A12.1 (vs := []) (z := (0 : Int32)) ⟨by decide, by decide⟩ (by decide) (by decide) (g := (mkF m 18 #[.val (.ref o0), .val (.ref o1), .val (.int (0 : Int32)), .val (.int (0 : Int32)), .val .null, .unset] [(.ref o0)])) rfl (hb hby dc4_18) (n := 0) (by decide) (by decide) (by decide) (by decide)
  refine og st10 ?_
  show oG p e below _ (T10.setTop (mkF m 20 #[.val (.ref o0), .val (.ref o1), .val (.int (0 : Int32)), .val (.int (0 : Int32)), .val .null, .unset] [(.ref a10), (.ref o0)]))
  obtain ⟨T16, X16, e16, st16⟩ := getF X10 hx hZ hown (host := "") (Or.inl (hw _ (own_m 29 rfl))) Via.refl e10 FC10 (g := (mkF m 20 #[.val (.ref o0), .val (.ref o1), .val (.int (0 : Int32)), .val (.int (0 : Int32)), .val .null, .unset] [(.ref a10), (.ref o0)])) rfl rfl (hb hby dc4_20)
  refine og st16 ?_
  show oG p e below _ (T16.setTop (mkF m 23 #[.val (.ref o0), .val (.ref o1), .val (.int (0 : Int32)), .val (.int (0 : Int32)), .val .null, .unset] [(.int (0 : Int32)), (.ref o0)]))
  have f17 := ((f5.wr W7).ext E10)
  have f18 := (((P2.ext E2).other W7 (Or.inr (slot_ne (Or.inr (hw _ (own_m 25 rfl))) (Or.inr (hw _ (own_m 24 rfl))) (by decide) (t := .byte) (t' := (.array .byte)) (by decide) (by decide)))).ext E10)
  obtain ⟨T19, h19, X19, e19, W19, st19⟩ := putFN X16 hx hZ hown (hw _ (own_m 29 rfl)) Via.refl e16 f18 f17 (Or.inr ⟨(hw _ (own_m 25 rfl)), rfl, hnm⟩) (hw _ (own_m 10 rfl)) (ty := .byte) (v' := .int (0 : Int32)) (by decide) rfl (by decide) (g := (mkF m 23 #[.val (.ref o0), .val (.ref o1), .val (.int (0 : Int32)), .val (.int (0 : Int32)), .val .null, .unset] [(.int (0 : Int32)), (.ref o0)])) rfl rfl (hb hby dc4_23)
  refine og st19 ?_
  have f20 := f18.same W19
  have N21 := Fr.snoc X19 N9 ge0p
  show oG p e below _ (T19.setTop (mkF m 26 #[.val (.ref o0), .val (.ref o1), .val (.int (0 : Int32)), .val (.int (0 : Int32)), .val .null, .unset] []))
  have f22 := ((f8.ext E10).other W19 (Or.inr (slot_ne (Or.inr (hw _ (own_m 24 rfl))) (Or.inr (hw _ (own_m 25 rfl))) (by decide) (t := (.array .byte)) (t' := .byte) (by decide) (by decide))))
  have f23 := (((AV2.other W7 (Ne.symm (ne2 o0 sf13).2)).ext E10).other W19 (Ne.symm (ne2 o0 sf13).2))
  have K24 := ((((K0.ext E2).wr W7 (Or.inl (List.mem_of_getElem? (i := 0) rfl))).ext E10).wr W19 (Or.inl (List.mem_of_getElem? (i := 0) rfl)))
  have hk25 := (Nat.le_trans hk10 (Nat.le_of_eq W19.size.symm))
  have A26 := A12.trans Al10
  have sf28 := (Al10.safe (f5.wr W7).lt (Safe.wr W7 sf13 A11.1 sf13))
  have A27 := A26.trans (CHr.wr W19 sf28 A26.1)
  exact own_ret0W X19 hx hlk Bd.returns hS hk25 hZ hEL hh e19 A27 (hb hby dc4_26) (by decide) (by decide) (by rw [e19]; exact ⟨b2, k2, rfl, N21, K24, f20, f22, f23⟩)
def Q_init_1 (Z : State) (o0 : Addr) (h0 : Heap) (n0 : Nat) (v : Option Value) (h : Heap) (L : List Loc) : Prop := (∃ (b1_0 : Addr) (kb1_0 : ClassId), v = none ∧ Fr n0 L ∧ Keep h0 h [o0] ∧ Fld Z h o0 "java/lang/String" "coder" "B" (.int (0 : Int32)) ∧ Fld Z h o0 "java/lang/String" "value" "[B" (.ref b1_0) ∧ Arv Z h b1_0 kb1_0 .byte (0 : Int32) [] (.int (0 : Int32)))
set_option maxRecDepth 65536 in
set_option maxHeartbeats 40000000 in
theorem rm_init_1 (l : Launch) (Z : State) (a0 : Array Value) (hw : ∀ d ∈ tables_1, d.before a0 Z = true) (ws : List Jvm.Cond) (o0 : Addr) (o1 : Addr) (kc0 : ClassId) (h0 : Heap) (n0 : Nat) (Z0 : n0 ≤ h0.size) (P0 : Arv Z h0 o1 kc0 .char (0 : Int32) [] (.int (0 : Int32))) (P1 : Exa Z h0 o0 "java/lang/String") (P2 : Fld Z h0 o0 "java/lang/String" "value" "[B" .null) (P3 : Fld Z h0 o0 "java/lang/String" "coder" "B" (.int (0 : Int32))) (ge0p : n0 ≤ o0) :
    MetFree l (⟨"java/lang/String", "<init>", "([C)V"⟩ : MethodName) (head1 (Jvm.Cond.code (⟨"java/lang/String", "<init>", "([C)V"⟩ : MethodName) jdk_42_method_3_code 2 none :: ws) ({ frames := 2, cells := 4, slots := 8, locals := 29 } : Room)) (fun aA U => aA = #[(.ref o0), (.ref o1)] ∧ Z.Warmed39 U.vm ∧ U.heap = h0 ∧ CHv Z own_EL U.vm h0) (fun _ _ _ _ _ => True) (fun _ U o U' => ∃ v L, o = .returned v ∧ Q_init_1 Z o0 h0 n0 v U'.heap L ∧ CHr Z own_EL U.vm U.heap U'.vm U'.heap ∧ ReturnedEndW U o U' L ({ frames := 2, cells := 4, slots := 8, locals := 29 } : Room).cells ({ frames := 2, cells := 4, slots := 8, locals := 29 } : Room).slots) := by
  refine MetFree.of_bodySF (plainFor_of_name own_pn_java_lang_String) hisR ?_
  intro p e s m args below meth c s₁ Bd hml0 hP hK
  obtain ⟨rfl, hZ, hh, hC0⟩ := hP
  have hx := Bd.exec
  have hby := Bd.bytes
  have hlk : meth.locks = false := BodyLoose.notSynchronized Bd
  have hml : c.maxLocals = 2 := hml0
  have hown : s.vm.findClass "java/lang/String" = some m.cls := findClass_of_methodNamed Bd.named
  have hnm := (name_of_methodNamed Bd.named Bd.method).1
  have X0 : Stand p l e ({ frames := 2, cells := 4, slots := 8, locals := 29 } : Room) (s.setVm s.vm) m #[(.ref o0), (.ref o1)] below meth c s₁ [] 0 0 := Stand.of_body Bd
  have e0 : s₁.heap = h0 := by rw [← hh, Bd.state]; rfl
  have N0 := Fr.nil n0
  have hS : s.Since s.vm 0 := (State.WarmedH.refl s).since 0
  have hk := Nat.zero_le h0.size
  have hEL : EW Z a0 own_EL := own_ew hw
  have A0 : CHr Z own_EL s.vm h0 s.vm h0 := CHr.refl hC0
  have K0 : Keep h0 h0 [o0] := Keep.refl _ _
  show oG p e below (own_KW Z own_EL s (Q_init_1 Z o0 h0 n0) ({ frames := 2, cells := 4, slots := 8, locals := 29 } : Room).cells ({ frames := 2, cells := 4, slots := 8, locals := 29 } : Room).slots) (s₁.setTop (entryFrame m #[(.ref o0), (.ref o1)] 2))
  rw [(by first | (simp [entryFrame, mkF, argsToLocals, Value.category]; done) | rfl : entryFrame m #[(.ref o0), (.ref o1)] 2 = mkF m 0 #[.val (.ref o0), .val (.ref o1)] [])]
  show oG p e below _ (s₁.setTop (mkF m 0 #[.val (.ref o0), .val (.ref o1)] []))
  refine og (fun _ hr => XS.aloadN X0.here hx rfl (hb hby dc3_0) rfl rfl (XS.aloadN X0.here hx rfl (hb hby dc3_1) rfl rfl (XS.iconst X0.here hx rfl (hb hby dc3_2) (XS.aloadN X0.here hx rfl (hb hby dc3_3) rfl rfl (own_alen X0 hx hZ e0 P0 rfl rfl (hb hby dc3_4) (XS.aconstNull X0.here hx rfl (hb hby dc3_5) hr)))))) ?_
  show oG p e below _ (s₁.setTop (mkF m 6 #[.val (.ref o0), .val (.ref o1)] [.null, (.int (0 : Int32)), (.int (0 : Int32)), (.ref o1), (.ref o0)]))
  have hZo2 := hZ
  refine own_cpW X0 hx hZ hown rfl (hw _ (own_m 15 rfl)) (hw _ (own_m 16 rfl)) (hw _ (own_m 11 rfl)) (hw _ (own_m 18 rfl)) (by decide) (rm := { frames := 1, cells := 4, slots := 8, locals := 12 }) (rm_init_0 l Z a0 hw [] o0 o1 h0 n0 Z0 P1 P2 P3 ge0p) (by decide) (W := 0) (by decide) (by decide) (by decide) e0 hEL A0.1 hS hk (by rw [hml]; rfl) (argsL := [(.ref o1), (.int (0 : Int32)), (.int (0 : Int32)), .null]) (lenOf own_pd9 rfl) (rest := []) rfl rfl (Nat.le_of_eq rfl) (hb hby dc3_6) ?_
  intro _ T1 L1 X1 hQ1 Ac1 hS hZ hown
  obtain ⟨b1_0, kb1_0, rfl, N1q, K1, f1_0, f1_1, f1_2⟩ := hQ1
  have N1 := Fr.app N0 N1q
  show oG p e below _ (T1.setTop (mkF m 9 #[.val (.ref o0), .val (.ref o1)] []))
  have K3 := (K0.trans K1 (allS (Or.inl (List.mem_of_getElem? (i := 0) rfl)) all0))
  have A4 := A0.trans Ac1
  exact own_ret0W X1 hx hlk Bd.returns hS (Nat.le_refl _) hZ hEL hh rfl A4 (hb hby dc3_9) (by decide) (by decide) (by exact ⟨b1_0, kb1_0, rfl, N1, K3, f1_0, f1_1, f1_2⟩)
theorem own_pd10 : parseMethodDescriptor "([C)V" = some ⟨[(.array .char)], none⟩ := by decide +kernel
theorem dc2_14 : decode method_6_code 14 = .ok (.areturn, 1) := by decide +kernel
theorem dc2_15 : decode method_6_code 15 = .ok (.iload_n 0, 1) := by decide +kernel
theorem dc2_16 : decode method_6_code 16 = .ok (.iconst 1, 1) := by decide +kernel
theorem dc2_17 : decode method_6_code 17 = .ok (.if_icmp .ne 18, 3) := by decide +kernel
theorem dc2_20 : decode method_6_code 20 = .ok (.new 29, 3) := by decide +kernel
theorem dc2_23 : decode method_6_code 23 = .ok (.dup, 1) := by decide +kernel
theorem dc2_24 : decode method_6_code 24 = .ok (.iconst 1, 1) := by decide +kernel
theorem dc2_25 : decode method_6_code 25 = .ok (.newarray .char, 2) := by decide +kernel
theorem dc2_27 : decode method_6_code 27 = .ok (.dup, 1) := by decide +kernel
theorem dc2_28 : decode method_6_code 28 = .ok (.iconst 0, 1) := by decide +kernel
theorem dc2_29 : decode method_6_code 29 = .ok (.iload_n 1, 1) := by decide +kernel
theorem dc2_30 : decode method_6_code 30 = .ok (.castore, 1) := by decide +kernel
theorem dc2_31 : decode method_6_code 31 = .ok (.invokespecial 42, 3) := by decide +kernel
theorem dc2_34 : decode method_6_code 34 = .ok (.areturn, 1) := by decide +kernel
theorem dc2_35 : decode method_6_code 35 = .ok (.iload_n 0, 1) := by decide +kernel
theorem dc2_36 : decode method_6_code 36 = .ok (.iconst 2, 1) := by decide +kernel
theorem dc2_37 : decode method_6_code 37 = .ok (.if_icmp .ne 22, 3) := by decide +kernel
theorem dc2_40 : decode method_6_code 40 = .ok (.new 29, 3) := by decide +kernel
theorem dc2_43 : decode method_6_code 43 = .ok (.dup, 1) := by decide +kernel
theorem dc2_44 : decode method_6_code 44 = .ok (.iconst 2, 1) := by decide +kernel
theorem dc2_45 : decode method_6_code 45 = .ok (.newarray .char, 2) := by decide +kernel
theorem dc2_47 : decode method_6_code 47 = .ok (.dup, 1) := by decide +kernel
theorem dc2_48 : decode method_6_code 48 = .ok (.iconst 0, 1) := by decide +kernel
theorem dc2_49 : decode method_6_code 49 = .ok (.iload_n 1, 1) := by decide +kernel
theorem dc2_50 : decode method_6_code 50 = .ok (.castore, 1) := by decide +kernel
theorem dc2_51 : decode method_6_code 51 = .ok (.dup, 1) := by decide +kernel
theorem dc2_52 : decode method_6_code 52 = .ok (.iconst 1, 1) := by decide +kernel
theorem dc2_53 : decode method_6_code 53 = .ok (.iload_n 2, 1) := by decide +kernel
theorem dc2_54 : decode method_6_code 54 = .ok (.castore, 1) := by decide +kernel
theorem dc2_55 : decode method_6_code 55 = .ok (.invokespecial 42, 3) := by decide +kernel
theorem dc2_58 : decode method_6_code 58 = .ok (.areturn, 1) := by decide +kernel
theorem dc2_59 : decode method_6_code 59 = .ok (.iload_n 0, 1) := by decide +kernel
theorem dc2_60 : decode method_6_code 60 = .ok (.iconst 3, 1) := by decide +kernel
theorem dc2_61 : decode method_6_code 61 = .ok (.if_icmp .ne 26, 3) := by decide +kernel
theorem dc2_64 : decode method_6_code 64 = .ok (.new 29, 3) := by decide +kernel
theorem dc2_67 : decode method_6_code 67 = .ok (.dup, 1) := by decide +kernel
theorem dc2_68 : decode method_6_code 68 = .ok (.iconst 3, 1) := by decide +kernel
theorem dc2_69 : decode method_6_code 69 = .ok (.newarray .char, 2) := by decide +kernel
theorem dc2_71 : decode method_6_code 71 = .ok (.dup, 1) := by decide +kernel
theorem dc2_72 : decode method_6_code 72 = .ok (.iconst 0, 1) := by decide +kernel
theorem dc2_73 : decode method_6_code 73 = .ok (.iload_n 1, 1) := by decide +kernel
theorem dc2_74 : decode method_6_code 74 = .ok (.castore, 1) := by decide +kernel
theorem dc2_75 : decode method_6_code 75 = .ok (.dup, 1) := by decide +kernel
theorem dc2_76 : decode method_6_code 76 = .ok (.iconst 1, 1) := by decide +kernel
theorem dc2_77 : decode method_6_code 77 = .ok (.iload_n 2, 1) := by decide +kernel
theorem dc2_78 : decode method_6_code 78 = .ok (.castore, 1) := by decide +kernel
theorem dc2_79 : decode method_6_code 79 = .ok (.dup, 1) := by decide +kernel
theorem dc2_80 : decode method_6_code 80 = .ok (.iconst 2, 1) := by decide +kernel
theorem dc2_81 : decode method_6_code 81 = .ok (.iload_n 3, 1) := by decide +kernel
theorem dc2_82 : decode method_6_code 82 = .ok (.castore, 1) := by decide +kernel
theorem dc2_83 : decode method_6_code 83 = .ok (.invokespecial 42, 3) := by decide +kernel
theorem dc2_86 : decode method_6_code 86 = .ok (.areturn, 1) := by decide +kernel
theorem dc2_87 : decode method_6_code 87 = .ok (.iload_n 0, 1) := by decide +kernel
theorem dc2_88 : decode method_6_code 88 = .ok (.iconst 4, 1) := by decide +kernel
theorem dc2_89 : decode method_6_code 89 = .ok (.if_icmp .ne 31, 3) := by decide +kernel
theorem dc2_92 : decode method_6_code 92 = .ok (.new 29, 3) := by decide +kernel
theorem dc2_95 : decode method_6_code 95 = .ok (.dup, 1) := by decide +kernel
theorem dc2_96 : decode method_6_code 96 = .ok (.iconst 4, 1) := by decide +kernel
theorem dc2_97 : decode method_6_code 97 = .ok (.newarray .char, 2) := by decide +kernel
theorem dc2_99 : decode method_6_code 99 = .ok (.dup, 1) := by decide +kernel
theorem dc2_100 : decode method_6_code 100 = .ok (.iconst 0, 1) := by decide +kernel
theorem dc2_101 : decode method_6_code 101 = .ok (.iload_n 1, 1) := by decide +kernel
theorem dc2_102 : decode method_6_code 102 = .ok (.castore, 1) := by decide +kernel
theorem dc2_103 : decode method_6_code 103 = .ok (.dup, 1) := by decide +kernel
theorem dc2_104 : decode method_6_code 104 = .ok (.iconst 1, 1) := by decide +kernel
theorem dc2_105 : decode method_6_code 105 = .ok (.iload_n 2, 1) := by decide +kernel
theorem dc2_106 : decode method_6_code 106 = .ok (.castore, 1) := by decide +kernel
theorem dc2_107 : decode method_6_code 107 = .ok (.dup, 1) := by decide +kernel
theorem dc2_108 : decode method_6_code 108 = .ok (.iconst 2, 1) := by decide +kernel
theorem dc2_109 : decode method_6_code 109 = .ok (.iload_n 3, 1) := by decide +kernel
theorem dc2_110 : decode method_6_code 110 = .ok (.castore, 1) := by decide +kernel
theorem dc2_111 : decode method_6_code 111 = .ok (.dup, 1) := by decide +kernel
theorem dc2_112 : decode method_6_code 112 = .ok (.iconst 3, 1) := by decide +kernel
theorem dc2_113 : decode method_6_code 113 = .ok (.iload 4, 2) := by decide +kernel
theorem dc2_115 : decode method_6_code 115 = .ok (.castore, 1) := by decide +kernel
theorem dc2_116 : decode method_6_code 116 = .ok (.invokespecial 42, 3) := by decide +kernel
theorem dc2_119 : decode method_6_code 119 = .ok (.areturn, 1) := by decide +kernel
theorem dc2_120 : decode method_6_code 120 = .ok (.new 29, 3) := by decide +kernel
theorem dc2_123 : decode method_6_code 123 = .ok (.dup, 1) := by decide +kernel
theorem dc2_124 : decode method_6_code 124 = .ok (.iconst 5, 1) := by decide +kernel
theorem dc2_125 : decode method_6_code 125 = .ok (.newarray .char, 2) := by decide +kernel
theorem dc2_127 : decode method_6_code 127 = .ok (.dup, 1) := by decide +kernel
theorem dc2_128 : decode method_6_code 128 = .ok (.iconst 0, 1) := by decide +kernel
theorem dc2_129 : decode method_6_code 129 = .ok (.iload_n 1, 1) := by decide +kernel
theorem dc2_130 : decode method_6_code 130 = .ok (.castore, 1) := by decide +kernel
theorem dc2_131 : decode method_6_code 131 = .ok (.dup, 1) := by decide +kernel
theorem dc2_132 : decode method_6_code 132 = .ok (.iconst 1, 1) := by decide +kernel
theorem dc2_133 : decode method_6_code 133 = .ok (.iload_n 2, 1) := by decide +kernel
theorem dc2_134 : decode method_6_code 134 = .ok (.castore, 1) := by decide +kernel
theorem dc2_135 : decode method_6_code 135 = .ok (.dup, 1) := by decide +kernel
theorem dc2_136 : decode method_6_code 136 = .ok (.iconst 2, 1) := by decide +kernel
theorem dc2_137 : decode method_6_code 137 = .ok (.iload_n 3, 1) := by decide +kernel
theorem dc2_138 : decode method_6_code 138 = .ok (.castore, 1) := by decide +kernel
theorem dc2_139 : decode method_6_code 139 = .ok (.dup, 1) := by decide +kernel
theorem dc2_140 : decode method_6_code 140 = .ok (.iconst 3, 1) := by decide +kernel
theorem dc2_141 : decode method_6_code 141 = .ok (.iload 4, 2) := by decide +kernel
theorem dc2_143 : decode method_6_code 143 = .ok (.castore, 1) := by decide +kernel
theorem dc2_144 : decode method_6_code 144 = .ok (.dup, 1) := by decide +kernel
theorem dc2_145 : decode method_6_code 145 = .ok (.iconst 4, 1) := by decide +kernel
theorem dc2_146 : decode method_6_code 146 = .ok (.iload 5, 2) := by decide +kernel
theorem dc2_148 : decode method_6_code 148 = .ok (.castore, 1) := by decide +kernel
theorem dc2_149 : decode method_6_code 149 = .ok (.invokespecial 42, 3) := by decide +kernel
theorem dc2_152 : decode method_6_code 152 = .ok (.areturn, 1) := by decide +kernel
theorem own_pn_com_example_ruleweave_ruleweave_XmlDocumentsTrimPinLaw : plainName "com/example/ruleweave/ruleweave/XmlDocumentsTrimPinLaw" = true := by first | (simp [plainName, overriddenIn]; done) | decide +kernel
def Q_make (Z : State) (z_ : Int32) (ya_ : Int32) (yb_ : Int32) (yc_ : Int32) (yd_ : Int32) (ye_ : Int32) (h0 : Heap) (n0 : Nat) (v : Option Value) (h : Heap) (L : List Loc) : Prop := (∃ (a b : Addr) (k : ClassId) (cd N : Int32) (vs : List Value), v = some (.ref a) ∧ Fr n0 L ∧ Keep h0 h [] ∧ n0 ≤ a ∧ h0.size ≤ a ∧ Exa Z h a "java/lang/String" ∧ Fld Z h a "java/lang/String" "coder" "B" (.int cd) ∧ Fld Z h a "java/lang/String" "value" "[B" (.ref b) ∧ Arv Z h b k .byte N vs (.int (0 : Int32)) ∧ StrChars.Road.CodA (own_tk z_ ya_ yb_ yc_ yd_ ye_) cd N vs)
set_option maxRecDepth 65536 in
set_option maxHeartbeats 40000000 in
theorem rm_make (l : Launch) (Z : State) (a0 : Array Value) (hw : ∀ d ∈ tables_1, d.before a0 Z = true) (ws : List Jvm.Cond) (z_ : Int32) (ya_ : Int32) (yb_ : Int32) (yc_ : Int32) (yd_ : Int32) (ye_ : Int32) (i_COMPACT_STRINGS : Int32) (h0 : Heap) (n0 : Nat) (Z0 : n0 ≤ h0.size) (S_COMPACT_STRINGS : Sta Z h0 "java/lang/String" "COMPACT_STRINGS" "Z" (.int i_COMPACT_STRINGS)) (hs_COMPACT_STRINGS : ¬ (i_COMPACT_STRINGS = (0 : Int32))) (S__assertionsDisabled : Sta Z h0 "java/lang/StringUTF16" "$assertionsDisabled" "Z" (.int (1 : Int32))) (S_HI_BYTE_SHIFT : Sta Z h0 "java/lang/StringUTF16" "HI_BYTE_SHIFT" "I" (.int (0 : Int32))) (S_LO_BYTE_SHIFT : Sta Z h0 "java/lang/StringUTF16" "LO_BYTE_SHIFT" "I" (.int (8 : Int32))) (hz0 : ¬ (z_ < (0 : Int32))) (hz5 : ¬ ((5 : Int32) < z_)) (hg0 : ¬ (ya_ < (0 : Int32))) (ht0 : ¬ ((65535 : Int32) < ya_)) (hg1 : ¬ (yb_ < (0 : Int32))) (ht1 : ¬ ((65535 : Int32) < yb_)) (hg2 : ¬ (yc_ < (0 : Int32))) (ht2 : ¬ ((65535 : Int32) < yc_)) (hg3 : ¬ (yd_ < (0 : Int32))) (ht3 : ¬ ((65535 : Int32) < yd_)) (hg4 : ¬ (ye_ < (0 : Int32))) (ht4 : ¬ ((65535 : Int32) < ye_)) :
    MetFree l (⟨"com/example/ruleweave/ruleweave/XmlDocumentsTrimPinLaw", "make", "(ICCCCC)Ljava/lang/String;"⟩ : MethodName) (head1 (Jvm.Cond.code (⟨"com/example/ruleweave/ruleweave/XmlDocumentsTrimPinLaw", "make", "(ICCCCC)Ljava/lang/String;"⟩ : MethodName) method_6_code 6 (some (.object "java/lang/String")) :: ws) ({ frames := 6, cells := 6, slots := 24, locals := 88 } : Room)) (fun aA U => aA = #[(.int z_), (.int ya_), (.int yb_), (.int yc_), (.int yd_), (.int ye_)] ∧ Z.Warmed39 U.vm ∧ U.heap = h0 ∧ CHv Z own_EL U.vm h0) (fun _ _ _ _ _ => True) (fun _ U o U' => ∃ v L, o = .returned v ∧ Q_make Z z_ ya_ yb_ yc_ yd_ ye_ h0 n0 v U'.heap L ∧ CHr Z own_EL U.vm U.heap U'.vm U'.heap ∧ ReturnedEndW U o U' L ({ frames := 6, cells := 6, slots := 24, locals := 88 } : Room).cells ({ frames := 6, cells := 6, slots := 24, locals := 88 } : Room).slots) := by
  refine MetFree.of_bodySF (plainFor_of_name own_pn_com_example_ruleweave_ruleweave_XmlDocumentsTrimPinLaw) hisR ?_
  intro p e s m args below meth c s₁ Bd hml0 hP hK
  obtain ⟨rfl, hZ, hh, hC0⟩ := hP
  have hx := Bd.exec
  have hby := Bd.bytes
  have hlk : meth.locks = false := BodyLoose.notSynchronized Bd
  have hml : c.maxLocals = 6 := hml0
  have hown : s.vm.findClass "com/example/ruleweave/ruleweave/XmlDocumentsTrimPinLaw" = some m.cls := findClass_of_methodNamed Bd.named
  have hnm := (name_of_methodNamed Bd.named Bd.method).1
  have X0 : Stand p l e ({ frames := 6, cells := 6, slots := 24, locals := 88 } : Room) (s.setVm s.vm) m #[(.int z_), (.int ya_), (.int yb_), (.int yc_), (.int yd_), (.int ye_)] below meth c s₁ [] 0 0 := Stand.of_body Bd
  have e0 : s₁.heap = h0 := by rw [← hh, Bd.state]; rfl
  have N0 := Fr.nil n0
  have hS : s.Since s.vm 0 := (State.WarmedH.refl s).since 0
  have hk := Nat.zero_le h0.size
  have hEL : EW Z a0 own_EL := own_ew hw
  have A0 : CHr Z own_EL s.vm h0 s.vm h0 := CHr.refl hC0
  have K0 : Keep h0 h0 [] := Keep.refl _ _
  show oG p e below (own_KW Z own_EL s (Q_make Z z_ ya_ yb_ yc_ yd_ ye_ h0 n0) ({ frames := 6, cells := 6, slots := 24, locals := 88 } : Room).cells ({ frames := 6, cells := 6, slots := 24, locals := 88 } : Room).slots) (s₁.setTop (entryFrame m #[(.int z_), (.int ya_), (.int yb_), (.int yc_), (.int yd_), (.int ye_)] 6))
  rw [(by first | (simp [entryFrame, mkF, argsToLocals, Value.category]; done) | rfl : entryFrame m #[(.int z_), (.int ya_), (.int yb_), (.int yc_), (.int yd_), (.int ye_)] 6 = mkF m 0 #[.val (.int z_), .val (.int ya_), .val (.int yb_), .val (.int yc_), .val (.int yd_), .val (.int ye_)] [])]
  show oG p e below _ (s₁.setTop (mkF m 0 #[.val (.int z_), .val (.int ya_), .val (.int yb_), .val (.int yc_), .val (.int yd_), .val (.int ye_)] []))
  refine og (fun _ hr => XS.iloadN X0.here hx rfl (hb hby dc2_0) rfl hr) ?_
  show oG p e below _ (s₁.setTop (mkF m 1 #[.val (.int z_), .val (.int ya_), .val (.int yb_), .val (.int yc_), .val (.int yd_), .val (.int ye_)] [(.int z_)]))
  rcases Classical.em (z_ = (0 : Int32)) with c1 | c1
  · skip
    refine og (fun _ hr => XS.ifNo X0.here hx rfl (hb hby dc2_1) rfl ((if0 _ _).trans (teq c1).2) hr) ?_
    show oG p e below _ (s₁.setTop (mkF m 4 #[.val (.int z_), .val (.int ya_), .val (.int yb_), .val (.int yc_), .val (.int yd_), .val (.int ye_)] []))
    obtain ⟨T2, h2, X2, e2, E2, A2, D2, -, st2⟩ := newO X0 hx hZ hown (hw _ (own_m 9 rfl)) (hw _ (own_m 10 rfl)) (hw _ (own_m 11 rfl)) e0 (g := (mkF m 4 #[.val (.int z_), .val (.int ya_), .val (.int yb_), .val (.int yc_), .val (.int yd_), .val (.int ye_)] [])) rfl (hb hby dc2_4) (by decide) (by decide)
    obtain ⟨b2, g2⟩ : ∃ z, z = h0.size := ⟨_, rfl⟩
    rw [← g2] at A2 D2 st2
    have ge3 : n0 ≤ b2 := Nat.le_trans Z0 (Nat.le_of_eq g2.symm)
    have sz4 : h0.size ≤ b2 := Nat.le_trans K0.1 (Nat.le_of_eq g2.symm)
    refine og st2 ?_
    have f5 : Fld Z h2 b2 "java/lang/String" "value" "[B" .null := D2 (Or.inr (hw _ (own_m 24 rfl))) (ty := (.array .byte)) (by decide)
    have f6 : Fld Z h2 b2 "java/lang/String" "coder" "B" (.int (0 : Int32)) := D2 (Or.inr (hw _ (own_m 25 rfl))) (ty := .byte) (by decide)
    show oG p e below _ (T2.setTop (mkF m 7 #[.val (.int z_), .val (.int ya_), .val (.int yb_), .val (.int yc_), .val (.int yd_), .val (.int ye_)] [(.ref b2)]))
    refine og (fun _ hr => XS.dup X2.here hx rfl (hb hby dc2_7) rfl rfl (XS.iconst X2.here hx rfl (hb hby dc2_8) hr)) ?_
    show oG p e below _ (T2.setTop (mkF m 9 #[.val (.int z_), .val (.int ya_), .val (.int yb_), .val (.int yc_), .val (.int yd_), .val (.int ye_)] [(.int (0 : Int32)), (.ref b2), (.ref b2)]))
    obtain ⟨T7, h7, k7, X7, e7, E7, A7, EA7, st7⟩ := newPE X2 hx hZ (hw _ (own_m 5 rfl)) e2 (g := (mkF m 9 #[.val (.int z_), .val (.int ya_), .val (.int yb_), .val (.int yc_), .val (.int yd_), .val (.int ye_)] [(.int (0 : Int32)), (.ref b2), (.ref b2)])) rfl (hb hby dc2_9) rfl (by decide) (cap := 0) (by decide) (by decide) (by decide) (by decide) (ad := "[C") (by decide)
    obtain ⟨b7, g7⟩ : ∃ z, z = h2.size := ⟨_, rfl⟩
    rw [← g7] at A7 EA7 st7
    have Z8 := (Nat.le_trans Z0 E2.1)
    have ge9 : n0 ≤ b7 := Nat.le_trans Z8 (Nat.le_of_eq g7.symm)
    have K10 := (K0.ext E2)
    have sz11 : h0.size ≤ b7 := Nat.le_trans K10.1 (Nat.le_of_eq g7.symm)
    refine og st7 ?_
    have f12 : Arv Z h7 b7 k7 .char (0 : Int32) [] (.int (0 : Int32)) := (Arv.new A7 (by decide)).pad (pad_rep [] (.int (0 : Int32)) 0)
    show oG p e below _ (T7.setTop (mkF m 11 #[.val (.int z_), .val (.int ya_), .val (.int yb_), .val (.int yc_), .val (.int yd_), .val (.int ye_)] [(.ref b7), (.ref b2), (.ref b2)]))
    have f14 := (A2.ext E7)
    have f15 := (f5.ext E7)
    have f16 := (f6.ext E7)
    have Z17 := (Nat.le_trans Z8 E7.1)
    have hZo18 := hZ
    have A19 := A0.trans (CHr.ext E2 A0.1)
    have A20 := A19.trans (CHr.ext E7 A19.1)
    have hk21 := (Nat.le_trans (Nat.le_trans hk E2.1) E7.1)
    refine own_cpW X7 hx hZ hown rfl (hw _ (own_m 12 rfl)) (hw _ (own_m 13 rfl)) (hw _ (own_m 11 rfl)) (hw _ (own_m 14 rfl)) (by decide) (rm := { frames := 2, cells := 4, slots := 8, locals := 29 }) (rm_init_1 l Z a0 hw [] b2 b7 k7 h7 n0 Z17 f12 f14 f15 f16 ge3) (by decide) (W := 1) (by decide) (by decide) (by decide) e7 hEL A20.1 hS hk21 (by rw [hml]; rfl) (argsL := [(.ref b7)]) (lenOf own_pd10 rfl) (rest := [(.ref b2)]) rfl rfl (Nat.le_of_eq rfl) (hb hby dc2_11) ?_
    intro _ T13 L13 X13 hQ13 Ac13 hS hZ hown
    obtain ⟨b13_0, kb13_0, rfl, N13q, K13, f13_0, f13_1, f13_2⟩ := hQ13
    have N13 := Fr.app N0 N13q
    show oG p e below _ (T13.setTop (mkF m 14 #[.val (.int z_), .val (.int ya_), .val (.int yb_), .val (.int yc_), .val (.int yd_), .val (.int ye_)] [(.ref b2)]))
    have f22 := (f14.keep K13)
    have ez23 := c1
    have hc24 : StrChars.Road.CodA (own_tk z_ ya_ yb_ yc_ yd_ ye_) (0 : Int32) (0 : Int32) [] := by rw [ez23]; exact (show StrChars.Road.CodA [] (0 : Int32) (0 : Int32) [] from own_cod0)
    have K25 := ((K10.ext E7).trans K13 (allS (Or.inr sz4) all0))
    have A26 := A20.trans Ac13
    exact own_retRW X13 hx hlk Bd.returns hS (Nat.le_refl _) hZ hEL hh rfl A26 rfl rfl (hb hby dc2_14) (by decide) (by decide) (by exact ⟨b2, b13_0, kb13_0, (0 : Int32), (0 : Int32), [], rfl, N13, K25, ge3, sz4, f22, f13_0, f13_1, f13_2, hc24⟩)
  refine og (fun _ hr => XS.ifYes X0.here hx rfl (pc0 := 1) (pc' := 15) rfl (hb hby dc2_1) rfl ((if0 _ _).trans (feq c1).2) (by decide) (by decide) hr) ?_
  show oG p e below _ (s₁.setTop (mkF m 15 #[.val (.int z_), .val (.int ya_), .val (.int yb_), .val (.int yc_), .val (.int yd_), .val (.int ye_)] []))
  refine og (fun _ hr => XS.iloadN X0.here hx rfl (hb hby dc2_15) rfl (XS.iconst X0.here hx rfl (hb hby dc2_16) hr)) ?_
  show oG p e below _ (s₁.setTop (mkF m 17 #[.val (.int z_), .val (.int ya_), .val (.int yb_), .val (.int yc_), .val (.int yd_), .val (.int ye_)] [(.int (1 : Int32)), (.int z_)]))
  rcases Classical.em (z_ = (1 : Int32)) with c27 | c27
  · skip
    refine og (fun _ hr => XS.icmpNo X0.here hx rfl (hb hby dc2_17) rfl (teq c27).2 hr) ?_
    show oG p e below _ (s₁.setTop (mkF m 20 #[.val (.int z_), .val (.int ya_), .val (.int yb_), .val (.int yc_), .val (.int yd_), .val (.int ye_)] []))
    obtain ⟨T28, h28, X28, e28, E28, A28, D28, -, st28⟩ := newO X0 hx hZ hown (hw _ (own_m 9 rfl)) (hw _ (own_m 10 rfl)) (hw _ (own_m 11 rfl)) e0 (g := (mkF m 20 #[.val (.int z_), .val (.int ya_), .val (.int yb_), .val (.int yc_), .val (.int yd_), .val (.int ye_)] [])) rfl (hb hby dc2_20) (by decide) (by decide)
    obtain ⟨b28, g28⟩ : ∃ z, z = h0.size := ⟨_, rfl⟩
    rw [← g28] at A28 D28 st28
    have ge29 : n0 ≤ b28 := Nat.le_trans Z0 (Nat.le_of_eq g28.symm)
    have sz30 : h0.size ≤ b28 := Nat.le_trans K0.1 (Nat.le_of_eq g28.symm)
    refine og st28 ?_
    have f31 : Fld Z h28 b28 "java/lang/String" "value" "[B" .null := D28 (Or.inr (hw _ (own_m 24 rfl))) (ty := (.array .byte)) (by decide)
    have f32 : Fld Z h28 b28 "java/lang/String" "coder" "B" (.int (0 : Int32)) := D28 (Or.inr (hw _ (own_m 25 rfl))) (ty := .byte) (by decide)
    show oG p e below _ (T28.setTop (mkF m 23 #[.val (.int z_), .val (.int ya_), .val (.int yb_), .val (.int yc_), .val (.int yd_), .val (.int ye_)] [(.ref b28)]))
    refine og (fun _ hr => XS.dup X28.here hx rfl (hb hby dc2_23) rfl rfl (XS.iconst X28.here hx rfl (hb hby dc2_24) hr)) ?_
    show oG p e below _ (T28.setTop (mkF m 25 #[.val (.int z_), .val (.int ya_), .val (.int yb_), .val (.int yc_), .val (.int yd_), .val (.int ye_)] [(.int (1 : Int32)), (.ref b28), (.ref b28)]))
    obtain ⟨T33, h33, k33, X33, e33, E33, A33, EA33, st33⟩ := newPE X28 hx hZ (hw _ (own_m 5 rfl)) e28 (g := (mkF m 25 #[.val (.int z_), .val (.int ya_), .val (.int yb_), .val (.int yc_), .val (.int yd_), .val (.int ye_)] [(.int (1 : Int32)), (.ref b28), (.ref b28)])) rfl (hb hby dc2_25) rfl (by decide) (cap := 1) (by decide) (by decide) (by decide) (by decide) (ad := "[C") (by decide)
    obtain ⟨b33, g33⟩ : ∃ z, z = h28.size := ⟨_, rfl⟩
    rw [← g33] at A33 EA33 st33
    have Z34 := (Nat.le_trans Z0 E28.1)
    have ge35 : n0 ≤ b33 := Nat.le_trans Z34 (Nat.le_of_eq g33.symm)
    have K36 := (K0.ext E28)
    have sz37 : h0.size ≤ b33 := Nat.le_trans K36.1 (Nat.le_of_eq g33.symm)
    refine og st33 ?_
    have f38 : Arv Z h33 b33 k33 .char (1 : Int32) [(.int (0 : Int32))] (.int (0 : Int32)) := (Arv.new A33 (by decide)).pad (pad_rep [] (.int (0 : Int32)) 1)
    show oG p e below _ (T33.setTop (mkF m 27 #[.val (.int z_), .val (.int ya_), .val (.int yb_), .val (.int yc_), .val (.int yd_), .val (.int ye_)] [(.ref b33), (.ref b28), (.ref b28)]))
    refine og (fun _ hr => XS.dup X33.here hx rfl (hb hby dc2_27) rfl rfl (XS.iconst X33.here hx rfl (hb hby dc2_28) (XS.iloadN X33.here hx rfl (hb hby dc2_29) rfl hr))) ?_
    show oG p e below _ (T33.setTop (mkF m 30 #[.val (.int z_), .val (.int ya_), .val (.int yb_), .val (.int yc_), .val (.int yd_), .val (.int ye_)] [(.int ya_), (.int (0 : Int32)), (.ref b33), (.ref b33), (.ref b28), (.ref b28)]))
    have c40 : (nar .char ya_) = ya_ := by
      have q0 := rng32 ya_
      have q1 := (show ((nar .char ya_).toInt - ya_.toInt) % 65536 = 0 ∧ 0 ≤ (nar .char ya_).toInt ∧ (nar .char ya_).toInt < 65536 from c_i2c ya_)
      have p0 := hg0
      have p1 := ht0
      simp only [true_implies, Int32.lt_iff_toInt_lt, ← Int32.toInt_inj, Int32.reduceToInt, Int64.lt_iff_toInt_lt, ← Int64.toInt_inj, Int64.reduceToInt] at q0 q1 p0 p1 ⊢
      omega
    refine own_stC X33 hx hZ e33 f38 (0 : Int32) ya_ ya_ 0 ⟨by decide, by decide⟩ rfl (Nat.le_of_ble_eq_true rfl) c40 [(.int ya_)] rfl N0 ge35 (hb hby dc2_30) ?_
    intro T39 h39 L39 X39 e39 W39 N39 f39
    show oG p e below _ (T39.setTop (mkF m 31 #[.val (.int z_), .val (.int ya_), .val (.int yb_), .val (.int yc_), .val (.int yd_), .val (.int ye_)] [(.ref b33), (.ref b28), (.ref b28)]))
    have f42 := ((A28.ext E33).wr W39)
    have f43 := ((f31.ext E33).other W39 (Or.inl (Nat.ne_of_lt (Nat.lt_of_lt_of_le A28.lt (Nat.le_of_eq g33.symm)))))
    have f44 := ((f32.ext E33).other W39 (Or.inl (Nat.ne_of_lt (Nat.lt_of_lt_of_le A28.lt (Nat.le_of_eq g33.symm)))))
    have K45 := ((K36.ext E33).wr W39 (Or.inr sz37))
    have f46 := (own_sta_keep S_COMPACT_STRINGS K45 all0)
    have f47 := (own_sta_keep S__assertionsDisabled K45 all0)
    have f48 := (own_sta_keep S_HI_BYTE_SHIFT K45 all0)
    have f49 := (own_sta_keep S_LO_BYTE_SHIFT K45 all0)
    have Z50 := (Nat.le_trans (Nat.le_trans Z34 E33.1) (Nat.le_of_eq W39.size.symm))
    refine own_cp X39 hx hZ hown rfl (hw _ (own_m 12 rfl)) (hw _ (own_m 13 rfl)) (hw _ (own_m 11 rfl)) (hw _ (own_m 14 rfl)) (by decide) (rm := { frames := 5, cells := 2, slots := 15, locals := 74 }) (rm_inj l Z a0 hw [] b28 b33 k33 (1 : Int32) [ya_] [(.int ya_)] i_COMPACT_STRINGS h39 n0 Z50 f42 f43 f44 ge29 f39 rfl rfl (Nat.le_of_ble_eq_true rfl) (own_wc ⟨hg0, ht0⟩ own_wn) (Nat.le_of_ble_eq_true rfl) (Ne.symm (Nat.ne_of_lt (Nat.lt_of_lt_of_le A28.lt (Nat.le_of_eq g33.symm)))) f46 hs_COMPACT_STRINGS f47 f48 f49) (by decide) (W := 1) (by decide) (by decide) (by decide) e39 (by rw [hml]; rfl) (argsL := [(.ref b33)]) (lenOf own_pd10 rfl) (rest := [(.ref b28)]) rfl rfl (Nat.le_of_eq rfl) (hb hby dc2_31) ?_
    intro _ T41 L41 X41 hQ41
    obtain ⟨b41_0, kb41_0, w41_0, w41_1, w41_2, rfl, N41q, K41, ge41_0, sz41_0, f41_0, f41_1, f41_2, hx41_0⟩ := hQ41
    have N41 := Fr.app N39 N41q
    have sz51 : h0.size ≤ b41_0 := Nat.le_trans K45.1 sz41_0
    show oG p e below _ (T41.setTop (mkF m 34 #[.val (.int z_), .val (.int ya_), .val (.int yb_), .val (.int yc_), .val (.int yd_), .val (.int ye_)] [(.ref b28)]))
    have f52 := (f42.keep K41)
    have ez53 := c27
    have hc54 : StrChars.Road.CodA (own_tk z_ ya_ yb_ yc_ yd_ ye_) w41_0 w41_1 w41_2 := by rw [ez53]; exact (show StrChars.Road.CodA [ya_] w41_0 w41_1 w41_2 from hx41_0)
    have K55 := (K45.trans K41 (allS (Or.inr sz30) all0))
    have hk56 := (Nat.le_trans (Nat.le_trans (Nat.le_trans (Nat.le_trans hk E28.1) E33.1) (Nat.le_of_eq W39.size.symm)) K41.1)
    have A57 := A0.trans (CHr.ext E28 A0.1)
    have A58 := A57.trans (CHr.ext E33 A57.1)
    have sf60 := (Safe.ext E33 A57.1 (Safe.new (Nat.le_of_eq g33.symm)))
    have A59 := A58.trans (CHr.wr W39 sf60 A58.1)
    have sf62 := (Safe.wr W39 sf60 A58.1 (Safe.ext E33 A57.1 (Safe.ext E28 A0.1 (Safe.new (Nat.le_of_eq g28.symm)))))
    have A61 := A59.trans (CHr.keep K41 (sfS sf62 sf0) A59.1)
    exact own_retRW X41 hx hlk Bd.returns hS hk56 hZ hEL hh rfl A61 rfl rfl (hb hby dc2_34) (by decide) (by decide) (by exact ⟨b28, b41_0, kb41_0, w41_0, w41_1, w41_2, rfl, N41, K55, ge29, sz30, f52, f41_0, f41_1, f41_2, hc54⟩)
  refine og (fun _ hr => XS.icmpYes X0.here hx rfl (pc0 := 17) (pc' := 35) rfl (hb hby dc2_17) rfl (feq c27).2 (by decide) (by decide) hr) ?_
  show oG p e below _ (s₁.setTop (mkF m 35 #[.val (.int z_), .val (.int ya_), .val (.int yb_), .val (.int yc_), .val (.int yd_), .val (.int ye_)] []))
  refine og (fun _ hr => XS.iloadN X0.here hx rfl (hb hby dc2_35) rfl (XS.iconst X0.here hx rfl (hb hby dc2_36) hr)) ?_
  show oG p e below _ (s₁.setTop (mkF m 37 #[.val (.int z_), .val (.int ya_), .val (.int yb_), .val (.int yc_), .val (.int yd_), .val (.int ye_)] [(.int (2 : Int32)), (.int z_)]))
  rcases Classical.em (z_ = (2 : Int32)) with c63 | c63
  · skip
    refine og (fun _ hr => XS.icmpNo X0.here hx rfl (hb hby dc2_37) rfl (teq c63).2 hr) ?_
    show oG p e below _ (s₁.setTop (mkF m 40 #[.val (.int z_), .val (.int ya_), .val (.int yb_), .val (.int yc_), .val (.int yd_), .val (.int ye_)] []))
    obtain ⟨T64, h64, X64, e64, E64, A64, D64, -, st64⟩ := newO X0 hx hZ hown (hw _ (own_m 9 rfl)) (hw _ (own_m 10 rfl)) (hw _ (own_m 11 rfl)) e0 (g := (mkF m 40 #[.val (.int z_), .val (.int ya_), .val (.int yb_), .val (.int yc_), .val (.int yd_), .val (.int ye_)] [])) rfl (hb hby dc2_40) (by decide) (by decide)
    obtain ⟨b64, g64⟩ : ∃ z, z = h0.size := ⟨_, rfl⟩
    rw [← g64] at A64 D64 st64
    have ge65 : n0 ≤ b64 := Nat.le_trans Z0 (Nat.le_of_eq g64.symm)
    have sz66 : h0.size ≤ b64 := Nat.le_trans K0.1 (Nat.le_of_eq g64.symm)
    refine og st64 ?_
    have f67 : Fld Z h64 b64 "java/lang/String" "value" "[B" .null := D64 (Or.inr (hw _ (own_m 24 rfl))) (ty := (.array .byte)) (by decide)
    have f68 : Fld Z h64 b64 "java/lang/String" "coder" "B" (.int (0 : Int32)) := D64 (Or.inr (hw _ (own_m 25 rfl))) (ty := .byte) (by decide)
    show oG p e below _ (T64.setTop (mkF m 43 #[.val (.int z_), .val (.int ya_), .val (.int yb_), .val (.int yc_), .val (.int yd_), .val (.int ye_)] [(.ref b64)]))
    refine og (fun _ hr => XS.dup X64.here hx rfl (hb hby dc2_43) rfl rfl (XS.iconst X64.here hx rfl (hb hby dc2_44) hr)) ?_
    show oG p e below _ (T64.setTop (mkF m 45 #[.val (.int z_), .val (.int ya_), .val (.int yb_), .val (.int yc_), .val (.int yd_), .val (.int ye_)] [(.int (2 : Int32)), (.ref b64), (.ref b64)]))
    obtain ⟨T69, h69, k69, X69, e69, E69, A69, EA69, st69⟩ := newPE X64 hx hZ (hw _ (own_m 5 rfl)) e64 (g := (mkF m 45 #[.val (.int z_), .val (.int ya_), .val (.int yb_), .val (.int yc_), .val (.int yd_), .val (.int ye_)] [(.int (2 : Int32)), (.ref b64), (.ref b64)])) rfl (hb hby dc2_45) rfl (by decide) (cap := 2) (by decide) (by decide) (by decide) (by decide) (ad := "[C") (by decide)
    obtain ⟨b69, g69⟩ : ∃ z, z = h64.size := ⟨_, rfl⟩
    rw [← g69] at A69 EA69 st69
    have Z70 := (Nat.le_trans Z0 E64.1)
    have ge71 : n0 ≤ b69 := Nat.le_trans Z70 (Nat.le_of_eq g69.symm)
    have K72 := (K0.ext E64)
    have sz73 : h0.size ≤ b69 := Nat.le_trans K72.1 (Nat.le_of_eq g69.symm)
    refine og st69 ?_
    have f74 : Arv Z h69 b69 k69 .char (2 : Int32) [(.int (0 : Int32)), (.int (0 : Int32))] (.int (0 : Int32)) := (Arv.new A69 (by decide)).pad (pad_rep [] (.int (0 : Int32)) 2)
    show oG p e below _ (T69.setTop (mkF m 47 #[.val (.int z_), .val (.int ya_), .val (.int yb_), .val (.int yc_), .val (.int yd_), .val (.int ye_)] [(.ref b69), (.ref b64), (.ref b64)]))
    refine og (fun _ hr => XS.dup X69.here hx rfl (hb hby dc2_47) rfl rfl (XS.iconst X69.here hx rfl (hb hby dc2_48) (XS.iloadN X69.here hx rfl (hb hby dc2_49) rfl hr))) ?_
    show oG p e below _ (T69.setTop (mkF m 50 #[.val (.int z_), .val (.int ya_), .val (.int yb_), .val (.int yc_), .val (.int yd_), .val (.int ye_)] [(.int ya_), (.int (0 : Int32)), (.ref b69), (.ref b69), (.ref b64), (.ref b64)]))
    have c76 : (nar .char ya_) = ya_ := by
      have q0 := rng32 ya_
      have q1 := (show ((nar .char ya_).toInt - ya_.toInt) % 65536 = 0 ∧ 0 ≤ (nar .char ya_).toInt ∧ (nar .char ya_).toInt < 65536 from c_i2c ya_)
      have p0 := hg0
      have p1 := ht0
      simp only [true_implies, Int32.lt_iff_toInt_lt, ← Int32.toInt_inj, Int32.reduceToInt, Int64.lt_iff_toInt_lt, ← Int64.toInt_inj, Int64.reduceToInt] at q0 q1 p0 p1 ⊢
      omega
    refine own_stC X69 hx hZ e69 f74 (0 : Int32) ya_ ya_ 0 ⟨by decide, by decide⟩ rfl (Nat.le_of_ble_eq_true rfl) c76 [(.int ya_), (.int (0 : Int32))] rfl N0 ge71 (hb hby dc2_50) ?_
    intro T75 h75 L75 X75 e75 W75 N75 f75
    show oG p e below _ (T75.setTop (mkF m 51 #[.val (.int z_), .val (.int ya_), .val (.int yb_), .val (.int yc_), .val (.int yd_), .val (.int ye_)] [(.ref b69), (.ref b64), (.ref b64)]))
    refine og (fun _ hr => XS.dup X75.here hx rfl (hb hby dc2_51) rfl rfl (XS.iconst X75.here hx rfl (hb hby dc2_52) (XS.iloadN X75.here hx rfl (hb hby dc2_53) rfl hr))) ?_
    show oG p e below _ (T75.setTop (mkF m 54 #[.val (.int z_), .val (.int ya_), .val (.int yb_), .val (.int yc_), .val (.int yd_), .val (.int ye_)] [(.int yb_), (.int (1 : Int32)), (.ref b69), (.ref b69), (.ref b64), (.ref b64)]))
    have c78 : (nar .char yb_) = yb_ := by
      have q0 := rng32 yb_
      have q1 := (show ((nar .char yb_).toInt - yb_.toInt) % 65536 = 0 ∧ 0 ≤ (nar .char yb_).toInt ∧ (nar .char yb_).toInt < 65536 from c_i2c yb_)
      have p0 := hg1
      have p1 := ht1
      simp only [true_implies, Int32.lt_iff_toInt_lt, ← Int32.toInt_inj, Int32.reduceToInt, Int64.lt_iff_toInt_lt, ← Int64.toInt_inj, Int64.reduceToInt] at q0 q1 p0 p1 ⊢
      omega
    refine own_stC X75 hx hZ e75 f75 (1 : Int32) yb_ yb_ 1 ⟨by decide, by decide⟩ rfl (Nat.le_of_ble_eq_true rfl) c78 [(.int ya_), (.int yb_)] rfl N75 ge71 (hb hby dc2_54) ?_
    intro T77 h77 L77 X77 e77 W77 N77 f77
    show oG p e below _ (T77.setTop (mkF m 55 #[.val (.int z_), .val (.int ya_), .val (.int yb_), .val (.int yc_), .val (.int yd_), .val (.int ye_)] [(.ref b69), (.ref b64), (.ref b64)]))
    have f80 := (((A64.ext E69).wr W75).wr W77)
    have f81 := (((f67.ext E69).other W75 (Or.inl (Nat.ne_of_lt (Nat.lt_of_lt_of_le A64.lt (Nat.le_of_eq g69.symm))))).other W77 (Or.inl (Nat.ne_of_lt (Nat.lt_of_lt_of_le A64.lt (Nat.le_of_eq g69.symm)))))
    have f82 := (((f68.ext E69).other W75 (Or.inl (Nat.ne_of_lt (Nat.lt_of_lt_of_le A64.lt (Nat.le_of_eq g69.symm))))).other W77 (Or.inl (Nat.ne_of_lt (Nat.lt_of_lt_of_le A64.lt (Nat.le_of_eq g69.symm)))))
    have K83 := (((K72.ext E69).wr W75 (Or.inr sz73)).wr W77 (Or.inr sz73))
    have f84 := (own_sta_keep S_COMPACT_STRINGS K83 all0)
    have f85 := (own_sta_keep S__assertionsDisabled K83 all0)
    have f86 := (own_sta_keep S_HI_BYTE_SHIFT K83 all0)
    have f87 := (own_sta_keep S_LO_BYTE_SHIFT K83 all0)
    have Z88 := (Nat.le_trans (Nat.le_trans (Nat.le_trans Z70 E69.1) (Nat.le_of_eq W75.size.symm)) (Nat.le_of_eq W77.size.symm))
    refine own_cp X77 hx hZ hown rfl (hw _ (own_m 12 rfl)) (hw _ (own_m 13 rfl)) (hw _ (own_m 11 rfl)) (hw _ (own_m 14 rfl)) (by decide) (rm := { frames := 5, cells := 2, slots := 15, locals := 74 }) (rm_inj l Z a0 hw [] b64 b69 k69 (2 : Int32) [ya_, yb_] [(.int ya_), (.int yb_)] i_COMPACT_STRINGS h77 n0 Z88 f80 f81 f82 ge65 f77 rfl rfl (Nat.le_of_ble_eq_true rfl) (own_wc ⟨hg0, ht0⟩ (own_wc ⟨hg1, ht1⟩ own_wn)) (Nat.le_of_ble_eq_true rfl) (Ne.symm (Nat.ne_of_lt (Nat.lt_of_lt_of_le A64.lt (Nat.le_of_eq g69.symm)))) f84 hs_COMPACT_STRINGS f85 f86 f87) (by decide) (W := 1) (by decide) (by decide) (by decide) e77 (by rw [hml]; rfl) (argsL := [(.ref b69)]) (lenOf own_pd10 rfl) (rest := [(.ref b64)]) rfl rfl (Nat.le_of_eq rfl) (hb hby dc2_55) ?_
    intro _ T79 L79 X79 hQ79
    obtain ⟨b79_0, kb79_0, w79_0, w79_1, w79_2, rfl, N79q, K79, ge79_0, sz79_0, f79_0, f79_1, f79_2, hx79_0⟩ := hQ79
    have N79 := Fr.app N77 N79q
    have sz89 : h0.size ≤ b79_0 := Nat.le_trans K83.1 sz79_0
    show oG p e below _ (T79.setTop (mkF m 58 #[.val (.int z_), .val (.int ya_), .val (.int yb_), .val (.int yc_), .val (.int yd_), .val (.int ye_)] [(.ref b64)]))
    have f90 := (f80.keep K79)
    have ez91 := c63
    have hc92 : StrChars.Road.CodA (own_tk z_ ya_ yb_ yc_ yd_ ye_) w79_0 w79_1 w79_2 := by rw [ez91]; exact (show StrChars.Road.CodA [ya_, yb_] w79_0 w79_1 w79_2 from hx79_0)
    have K93 := (K83.trans K79 (allS (Or.inr sz66) all0))
    have hk94 := (Nat.le_trans (Nat.le_trans (Nat.le_trans (Nat.le_trans (Nat.le_trans hk E64.1) E69.1) (Nat.le_of_eq W75.size.symm)) (Nat.le_of_eq W77.size.symm)) K79.1)
    have A95 := A0.trans (CHr.ext E64 A0.1)
    have A96 := A95.trans (CHr.ext E69 A95.1)
    have sf98 := (Safe.ext E69 A95.1 (Safe.new (Nat.le_of_eq g69.symm)))
    have A97 := A96.trans (CHr.wr W75 sf98 A96.1)
    have sf100 := (Safe.wr W75 sf98 A96.1 sf98)
    have A99 := A97.trans (CHr.wr W77 sf100 A97.1)
    have sf102 := (Safe.wr W77 sf100 A97.1 (Safe.wr W75 sf98 A96.1 (Safe.ext E69 A95.1 (Safe.ext E64 A0.1 (Safe.new (Nat.le_of_eq g64.symm))))))
    have A101 := A99.trans (CHr.keep K79 (sfS sf102 sf0) A99.1)
    exact own_retRW X79 hx hlk Bd.returns hS hk94 hZ hEL hh rfl A101 rfl rfl (hb hby dc2_58) (by decide) (by decide) (by exact ⟨b64, b79_0, kb79_0, w79_0, w79_1, w79_2, rfl, N79, K93, ge65, sz66, f90, f79_0, f79_1, f79_2, hc92⟩)
  refine og (fun _ hr => XS.icmpYes X0.here hx rfl (pc0 := 37) (pc' := 59) rfl (hb hby dc2_37) rfl (feq c63).2 (by decide) (by decide) hr) ?_
  show oG p e below _ (s₁.setTop (mkF m 59 #[.val (.int z_), .val (.int ya_), .val (.int yb_), .val (.int yc_), .val (.int yd_), .val (.int ye_)] []))
  refine og (fun _ hr => XS.iloadN X0.here hx rfl (hb hby dc2_59) rfl (XS.iconst X0.here hx rfl (hb hby dc2_60) hr)) ?_
  show oG p e below _ (s₁.setTop (mkF m 61 #[.val (.int z_), .val (.int ya_), .val (.int yb_), .val (.int yc_), .val (.int yd_), .val (.int ye_)] [(.int (3 : Int32)), (.int z_)]))
  rcases Classical.em (z_ = (3 : Int32)) with c103 | c103
  · skip
    refine og (fun _ hr => XS.icmpNo X0.here hx rfl (hb hby dc2_61) rfl (teq c103).2 hr) ?_
    show oG p e below _ (s₁.setTop (mkF m 64 #[.val (.int z_), .val (.int ya_), .val (.int yb_), .val (.int yc_), .val (.int yd_), .val (.int ye_)] []))
    obtain ⟨T104, h104, X104, e104, E104, A104, D104, -, st104⟩ := newO X0 hx hZ hown (hw _ (own_m 9 rfl)) (hw _ (own_m 10 rfl)) (hw _ (own_m 11 rfl)) e0 (g := (mkF m 64 #[.val (.int z_), .val (.int ya_), .val (.int yb_), .val (.int yc_), .val (.int yd_), .val (.int ye_)] [])) rfl (hb hby dc2_64) (by decide) (by decide)
    obtain ⟨b104, g104⟩ : ∃ z, z = h0.size := ⟨_, rfl⟩
    rw [← g104] at A104 D104 st104
    have ge105 : n0 ≤ b104 := Nat.le_trans Z0 (Nat.le_of_eq g104.symm)
    have sz106 : h0.size ≤ b104 := Nat.le_trans K0.1 (Nat.le_of_eq g104.symm)
    refine og st104 ?_
    have f107 : Fld Z h104 b104 "java/lang/String" "value" "[B" .null := D104 (Or.inr (hw _ (own_m 24 rfl))) (ty := (.array .byte)) (by decide)
    have f108 : Fld Z h104 b104 "java/lang/String" "coder" "B" (.int (0 : Int32)) := D104 (Or.inr (hw _ (own_m 25 rfl))) (ty := .byte) (by decide)
    show oG p e below _ (T104.setTop (mkF m 67 #[.val (.int z_), .val (.int ya_), .val (.int yb_), .val (.int yc_), .val (.int yd_), .val (.int ye_)] [(.ref b104)]))
    refine og (fun _ hr => XS.dup X104.here hx rfl (hb hby dc2_67) rfl rfl (XS.iconst X104.here hx rfl (hb hby dc2_68) hr)) ?_
    show oG p e below _ (T104.setTop (mkF m 69 #[.val (.int z_), .val (.int ya_), .val (.int yb_), .val (.int yc_), .val (.int yd_), .val (.int ye_)] [(.int (3 : Int32)), (.ref b104), (.ref b104)]))
    obtain ⟨T109, h109, k109, X109, e109, E109, A109, EA109, st109⟩ := newPE X104 hx hZ (hw _ (own_m 5 rfl)) e104 (g := (mkF m 69 #[.val (.int z_), .val (.int ya_), .val (.int yb_), .val (.int yc_), .val (.int yd_), .val (.int ye_)] [(.int (3 : Int32)), (.ref b104), (.ref b104)])) rfl (hb hby dc2_69) rfl (by decide) (cap := 3) (by decide) (by decide) (by decide) (by decide) (ad := "[C") (by decide)
    obtain ⟨b109, g109⟩ : ∃ z, z = h104.size := ⟨_, rfl⟩
    rw [← g109] at A109 EA109 st109
    have Z110 := (Nat.le_trans Z0 E104.1)
    have ge111 : n0 ≤ b109 := Nat.le_trans Z110 (Nat.le_of_eq g109.symm)
    have K112 := (K0.ext E104)
    have sz113 : h0.size ≤ b109 := Nat.le_trans K112.1 (Nat.le_of_eq g109.symm)
    refine og st109 ?_
    have f114 : Arv Z h109 b109 k109 .char (3 : Int32) [(.int (0 : Int32)), (.int (0 : Int32)), (.int (0 : Int32))] (.int (0 : Int32)) := (Arv.new A109 (by decide)).pad (pad_rep [] (.int (0 : Int32)) 3)
    show oG p e below _ (T109.setTop (mkF m 71 #[.val (.int z_), .val (.int ya_), .val (.int yb_), .val (.int yc_), .val (.int yd_), .val (.int ye_)] [(.ref b109), (.ref b104), (.ref b104)]))
    refine og (fun _ hr => XS.dup X109.here hx rfl (hb hby dc2_71) rfl rfl (XS.iconst X109.here hx rfl (hb hby dc2_72) (XS.iloadN X109.here hx rfl (hb hby dc2_73) rfl hr))) ?_
    show oG p e below _ (T109.setTop (mkF m 74 #[.val (.int z_), .val (.int ya_), .val (.int yb_), .val (.int yc_), .val (.int yd_), .val (.int ye_)] [(.int ya_), (.int (0 : Int32)), (.ref b109), (.ref b109), (.ref b104), (.ref b104)]))
    have c116 : (nar .char ya_) = ya_ := by
      have q0 := rng32 ya_
      have q1 := (show ((nar .char ya_).toInt - ya_.toInt) % 65536 = 0 ∧ 0 ≤ (nar .char ya_).toInt ∧ (nar .char ya_).toInt < 65536 from c_i2c ya_)
      have p0 := hg0
      have p1 := ht0
      simp only [true_implies, Int32.lt_iff_toInt_lt, ← Int32.toInt_inj, Int32.reduceToInt, Int64.lt_iff_toInt_lt, ← Int64.toInt_inj, Int64.reduceToInt] at q0 q1 p0 p1 ⊢
      omega
    refine own_stC X109 hx hZ e109 f114 (0 : Int32) ya_ ya_ 0 ⟨by decide, by decide⟩ rfl (Nat.le_of_ble_eq_true rfl) c116 [(.int ya_), (.int (0 : Int32)), (.int (0 : Int32))] rfl N0 ge111 (hb hby dc2_74) ?_
    intro T115 h115 L115 X115 e115 W115 N115 f115
    show oG p e below _ (T115.setTop (mkF m 75 #[.val (.int z_), .val (.int ya_), .val (.int yb_), .val (.int yc_), .val (.int yd_), .val (.int ye_)] [(.ref b109), (.ref b104), (.ref b104)]))
    refine og (fun _ hr => XS.dup X115.here hx rfl (hb hby dc2_75) rfl rfl (XS.iconst X115.here hx rfl (hb hby dc2_76) (XS.iloadN X115.here hx rfl (hb hby dc2_77) rfl hr))) ?_
    show oG p e below _ (T115.setTop (mkF m 78 #[.val (.int z_), .val (.int ya_), .val (.int yb_), .val (.int yc_), .val (.int yd_), .val (.int ye_)] [(.int yb_), (.int (1 : Int32)), (.ref b109), (.ref b109), (.ref b104), (.ref b104)]))
    have c118 : (nar .char yb_) = yb_ := by
      have q0 := rng32 yb_
      have q1 := (show ((nar .char yb_).toInt - yb_.toInt) % 65536 = 0 ∧ 0 ≤ (nar .char yb_).toInt ∧ (nar .char yb_).toInt < 65536 from c_i2c yb_)
      have p0 := hg1
      have p1 := ht1
      simp only [true_implies, Int32.lt_iff_toInt_lt, ← Int32.toInt_inj, Int32.reduceToInt, Int64.lt_iff_toInt_lt, ← Int64.toInt_inj, Int64.reduceToInt] at q0 q1 p0 p1 ⊢
      omega
    refine own_stC X115 hx hZ e115 f115 (1 : Int32) yb_ yb_ 1 ⟨by decide, by decide⟩ rfl (Nat.le_of_ble_eq_true rfl) c118 [(.int ya_), (.int yb_), (.int (0 : Int32))] rfl N115 ge111 (hb hby dc2_78) ?_
    intro T117 h117 L117 X117 e117 W117 N117 f117
    show oG p e below _ (T117.setTop (mkF m 79 #[.val (.int z_), .val (.int ya_), .val (.int yb_), .val (.int yc_), .val (.int yd_), .val (.int ye_)] [(.ref b109), (.ref b104), (.ref b104)]))
    refine og (fun _ hr => XS.dup X117.here hx rfl (hb hby dc2_79) rfl rfl (XS.iconst X117.here hx rfl (hb hby dc2_80) (XS.iloadN X117.here hx rfl (hb hby dc2_81) rfl hr))) ?_
    show oG p e below _ (T117.setTop (mkF m 82 #[.val (.int z_), .val (.int ya_), .val (.int yb_), .val (.int yc_), .val (.int yd_), .val (.int ye_)] [(.int yc_), (.int (2 : Int32)), (.ref b109), (.ref b109), (.ref b104), (.ref b104)]))
    have c120 : (nar .char yc_) = yc_ := by
      have q0 := rng32 yc_
      have q1 := (show ((nar .char yc_).toInt - yc_.toInt) % 65536 = 0 ∧ 0 ≤ (nar .char yc_).toInt ∧ (nar .char yc_).toInt < 65536 from c_i2c yc_)
      have p0 := hg2
      have p1 := ht2
      simp only [true_implies, Int32.lt_iff_toInt_lt, ← Int32.toInt_inj, Int32.reduceToInt, Int64.lt_iff_toInt_lt, ← Int64.toInt_inj, Int64.reduceToInt] at q0 q1 p0 p1 ⊢
      omega
    refine own_stC X117 hx hZ e117 f117 (2 : Int32) yc_ yc_ 2 ⟨by decide, by decide⟩ rfl (Nat.le_of_ble_eq_true rfl) c120 [(.int ya_), (.int yb_), (.int yc_)] rfl N117 ge111 (hb hby dc2_82) ?_
    intro T119 h119 L119 X119 e119 W119 N119 f119
    show oG p e below _ (T119.setTop (mkF m 83 #[.val (.int z_), .val (.int ya_), .val (.int yb_), .val (.int yc_), .val (.int yd_), .val (.int ye_)] [(.ref b109), (.ref b104), (.ref b104)]))
    have f122 := ((((A104.ext E109).wr W115).wr W117).wr W119)
    have f123 := ((((f107.ext E109).other W115 (Or.inl (Nat.ne_of_lt (Nat.lt_of_lt_of_le A104.lt (Nat.le_of_eq g109.symm))))).other W117 (Or.inl (Nat.ne_of_lt (Nat.lt_of_lt_of_le A104.lt (Nat.le_of_eq g109.symm))))).other W119 (Or.inl (Nat.ne_of_lt (Nat.lt_of_lt_of_le A104.lt (Nat.le_of_eq g109.symm)))))
    have f124 := ((((f108.ext E109).other W115 (Or.inl (Nat.ne_of_lt (Nat.lt_of_lt_of_le A104.lt (Nat.le_of_eq g109.symm))))).other W117 (Or.inl (Nat.ne_of_lt (Nat.lt_of_lt_of_le A104.lt (Nat.le_of_eq g109.symm))))).other W119 (Or.inl (Nat.ne_of_lt (Nat.lt_of_lt_of_le A104.lt (Nat.le_of_eq g109.symm)))))
    have K125 := ((((K112.ext E109).wr W115 (Or.inr sz113)).wr W117 (Or.inr sz113)).wr W119 (Or.inr sz113))
    have f126 := (own_sta_keep S_COMPACT_STRINGS K125 all0)
    have f127 := (own_sta_keep S__assertionsDisabled K125 all0)
    have f128 := (own_sta_keep S_HI_BYTE_SHIFT K125 all0)
    have f129 := (own_sta_keep S_LO_BYTE_SHIFT K125 all0)
    have Z130 := (Nat.le_trans (Nat.le_trans (Nat.le_trans (Nat.le_trans Z110 E109.1) (Nat.le_of_eq W115.size.symm)) (Nat.le_of_eq W117.size.symm)) (Nat.le_of_eq W119.size.symm))
    refine own_cp X119 hx hZ hown rfl (hw _ (own_m 12 rfl)) (hw _ (own_m 13 rfl)) (hw _ (own_m 11 rfl)) (hw _ (own_m 14 rfl)) (by decide) (rm := { frames := 5, cells := 2, slots := 15, locals := 74 }) (rm_inj l Z a0 hw [] b104 b109 k109 (3 : Int32) [ya_, yb_, yc_] [(.int ya_), (.int yb_), (.int yc_)] i_COMPACT_STRINGS h119 n0 Z130 f122 f123 f124 ge105 f119 rfl rfl (Nat.le_of_ble_eq_true rfl) (own_wc ⟨hg0, ht0⟩ (own_wc ⟨hg1, ht1⟩ (own_wc ⟨hg2, ht2⟩ own_wn))) (Nat.le_of_ble_eq_true rfl) (Ne.symm (Nat.ne_of_lt (Nat.lt_of_lt_of_le A104.lt (Nat.le_of_eq g109.symm)))) f126 hs_COMPACT_STRINGS f127 f128 f129) (by decide) (W := 1) (by decide) (by decide) (by decide) e119 (by rw [hml]; rfl) (argsL := [(.ref b109)]) (lenOf own_pd10 rfl) (rest := [(.ref b104)]) rfl rfl (Nat.le_of_eq rfl) (hb hby dc2_83) ?_
    intro _ T121 L121 X121 hQ121
    obtain ⟨b121_0, kb121_0, w121_0, w121_1, w121_2, rfl, N121q, K121, ge121_0, sz121_0, f121_0, f121_1, f121_2, hx121_0⟩ := hQ121
    have N121 := Fr.app N119 N121q
    have sz131 : h0.size ≤ b121_0 := Nat.le_trans K125.1 sz121_0
    show oG p e below _ (T121.setTop (mkF m 86 #[.val (.int z_), .val (.int ya_), .val (.int yb_), .val (.int yc_), .val (.int yd_), .val (.int ye_)] [(.ref b104)]))
    have f132 := (f122.keep K121)
    have ez133 := c103
    have hc134 : StrChars.Road.CodA (own_tk z_ ya_ yb_ yc_ yd_ ye_) w121_0 w121_1 w121_2 := by rw [ez133]; exact (show StrChars.Road.CodA [ya_, yb_, yc_] w121_0 w121_1 w121_2 from hx121_0)
    have K135 := (K125.trans K121 (allS (Or.inr sz106) all0))
    have hk136 := (Nat.le_trans (Nat.le_trans (Nat.le_trans (Nat.le_trans (Nat.le_trans (Nat.le_trans hk E104.1) E109.1) (Nat.le_of_eq W115.size.symm)) (Nat.le_of_eq W117.size.symm)) (Nat.le_of_eq W119.size.symm)) K121.1)
    have A137 := A0.trans (CHr.ext E104 A0.1)
    have A138 := A137.trans (CHr.ext E109 A137.1)
    have sf140 := (Safe.ext E109 A137.1 (Safe.new (Nat.le_of_eq g109.symm)))
    have A139 := A138.trans (CHr.wr W115 sf140 A138.1)
    have sf142 := (Safe.wr W115 sf140 A138.1 sf140)
    have A141 := A139.trans (CHr.wr W117 sf142 A139.1)
    have sf144 := (Safe.wr W117 sf142 A139.1 sf142)
    have A143 := A141.trans (CHr.wr W119 sf144 A141.1)
    have sf146 := (Safe.wr W119 sf144 A141.1 (Safe.wr W117 sf142 A139.1 (Safe.wr W115 sf140 A138.1 (Safe.ext E109 A137.1 (Safe.ext E104 A0.1 (Safe.new (Nat.le_of_eq g104.symm)))))))
    have A145 := A143.trans (CHr.keep K121 (sfS sf146 sf0) A143.1)
    exact own_retRW X121 hx hlk Bd.returns hS hk136 hZ hEL hh rfl A145 rfl rfl (hb hby dc2_86) (by decide) (by decide) (by exact ⟨b104, b121_0, kb121_0, w121_0, w121_1, w121_2, rfl, N121, K135, ge105, sz106, f132, f121_0, f121_1, f121_2, hc134⟩)
  refine og (fun _ hr => XS.icmpYes X0.here hx rfl (pc0 := 61) (pc' := 87) rfl (hb hby dc2_61) rfl (feq c103).2 (by decide) (by decide) hr) ?_
  show oG p e below _ (s₁.setTop (mkF m 87 #[.val (.int z_), .val (.int ya_), .val (.int yb_), .val (.int yc_), .val (.int yd_), .val (.int ye_)] []))
  refine og (fun _ hr => XS.iloadN X0.here hx rfl (hb hby dc2_87) rfl (XS.iconst X0.here hx rfl (hb hby dc2_88) hr)) ?_
  show oG p e below _ (s₁.setTop (mkF m 89 #[.val (.int z_), .val (.int ya_), .val (.int yb_), .val (.int yc_), .val (.int yd_), .val (.int ye_)] [(.int (4 : Int32)), (.int z_)]))
  rcases Classical.em (z_ = (4 : Int32)) with c147 | c147
  · skip
    refine og (fun _ hr => XS.icmpNo X0.here hx rfl (hb hby dc2_89) rfl (teq c147).2 hr) ?_
    show oG p e below _ (s₁.setTop (mkF m 92 #[.val (.int z_), .val (.int ya_), .val (.int yb_), .val (.int yc_), .val (.int yd_), .val (.int ye_)] []))
    obtain ⟨T148, h148, X148, e148, E148, A148, D148, -, st148⟩ := newO X0 hx hZ hown (hw _ (own_m 9 rfl)) (hw _ (own_m 10 rfl)) (hw _ (own_m 11 rfl)) e0 (g := (mkF m 92 #[.val (.int z_), .val (.int ya_), .val (.int yb_), .val (.int yc_), .val (.int yd_), .val (.int ye_)] [])) rfl (hb hby dc2_92) (by decide) (by decide)
    obtain ⟨b148, g148⟩ : ∃ z, z = h0.size := ⟨_, rfl⟩
    rw [← g148] at A148 D148 st148
    have ge149 : n0 ≤ b148 := Nat.le_trans Z0 (Nat.le_of_eq g148.symm)
    have sz150 : h0.size ≤ b148 := Nat.le_trans K0.1 (Nat.le_of_eq g148.symm)
    refine og st148 ?_
    have f151 : Fld Z h148 b148 "java/lang/String" "value" "[B" .null := D148 (Or.inr (hw _ (own_m 24 rfl))) (ty := (.array .byte)) (by decide)
    have f152 : Fld Z h148 b148 "java/lang/String" "coder" "B" (.int (0 : Int32)) := D148 (Or.inr (hw _ (own_m 25 rfl))) (ty := .byte) (by decide)
    show oG p e below _ (T148.setTop (mkF m 95 #[.val (.int z_), .val (.int ya_), .val (.int yb_), .val (.int yc_), .val (.int yd_), .val (.int ye_)] [(.ref b148)]))
    refine og (fun _ hr => XS.dup X148.here hx rfl (hb hby dc2_95) rfl rfl (XS.iconst X148.here hx rfl (hb hby dc2_96) hr)) ?_
    show oG p e below _ (T148.setTop (mkF m 97 #[.val (.int z_), .val (.int ya_), .val (.int yb_), .val (.int yc_), .val (.int yd_), .val (.int ye_)] [(.int (4 : Int32)), (.ref b148), (.ref b148)]))
    obtain ⟨T153, h153, k153, X153, e153, E153, A153, EA153, st153⟩ := newPE X148 hx hZ (hw _ (own_m 5 rfl)) e148 (g := (mkF m 97 #[.val (.int z_), .val (.int ya_), .val (.int yb_), .val (.int yc_), .val (.int yd_), .val (.int ye_)] [(.int (4 : Int32)), (.ref b148), (.ref b148)])) rfl (hb hby dc2_97) rfl (by decide) (cap := 4) (by decide) (by decide) (by decide) (by decide) (ad := "[C") (by decide)
    obtain ⟨b153, g153⟩ : ∃ z, z = h148.size := ⟨_, rfl⟩
    rw [← g153] at A153 EA153 st153
    have Z154 := (Nat.le_trans Z0 E148.1)
    have ge155 : n0 ≤ b153 := Nat.le_trans Z154 (Nat.le_of_eq g153.symm)
    have K156 := (K0.ext E148)
    have sz157 : h0.size ≤ b153 := Nat.le_trans K156.1 (Nat.le_of_eq g153.symm)
    refine og st153 ?_
    have f158 : Arv Z h153 b153 k153 .char (4 : Int32) [(.int (0 : Int32)), (.int (0 : Int32)), (.int (0 : Int32)), (.int (0 : Int32))] (.int (0 : Int32)) := (Arv.new A153 (by decide)).pad (pad_rep [] (.int (0 : Int32)) 4)
    show oG p e below _ (T153.setTop (mkF m 99 #[.val (.int z_), .val (.int ya_), .val (.int yb_), .val (.int yc_), .val (.int yd_), .val (.int ye_)] [(.ref b153), (.ref b148), (.ref b148)]))
    refine og (fun _ hr => XS.dup X153.here hx rfl (hb hby dc2_99) rfl rfl (XS.iconst X153.here hx rfl (hb hby dc2_100) (XS.iloadN X153.here hx rfl (hb hby dc2_101) rfl hr))) ?_
    show oG p e below _ (T153.setTop (mkF m 102 #[.val (.int z_), .val (.int ya_), .val (.int yb_), .val (.int yc_), .val (.int yd_), .val (.int ye_)] [(.int ya_), (.int (0 : Int32)), (.ref b153), (.ref b153), (.ref b148), (.ref b148)]))
    have c160 : (nar .char ya_) = ya_ := by
      have q0 := rng32 ya_
      have q1 := (show ((nar .char ya_).toInt - ya_.toInt) % 65536 = 0 ∧ 0 ≤ (nar .char ya_).toInt ∧ (nar .char ya_).toInt < 65536 from c_i2c ya_)
      have p0 := hg0
      have p1 := ht0
      simp only [true_implies, Int32.lt_iff_toInt_lt, ← Int32.toInt_inj, Int32.reduceToInt, Int64.lt_iff_toInt_lt, ← Int64.toInt_inj, Int64.reduceToInt] at q0 q1 p0 p1 ⊢
      omega
    refine own_stC X153 hx hZ e153 f158 (0 : Int32) ya_ ya_ 0 ⟨by decide, by decide⟩ rfl (Nat.le_of_ble_eq_true rfl) c160 [(.int ya_), (.int (0 : Int32)), (.int (0 : Int32)), (.int (0 : Int32))] rfl N0 ge155 (hb hby dc2_102) ?_
    intro T159 h159 L159 X159 e159 W159 N159 f159
    show oG p e below _ (T159.setTop (mkF m 103 #[.val (.int z_), .val (.int ya_), .val (.int yb_), .val (.int yc_), .val (.int yd_), .val (.int ye_)] [(.ref b153), (.ref b148), (.ref b148)]))
    refine og (fun _ hr => XS.dup X159.here hx rfl (hb hby dc2_103) rfl rfl (XS.iconst X159.here hx rfl (hb hby dc2_104) (XS.iloadN X159.here hx rfl (hb hby dc2_105) rfl hr))) ?_
    show oG p e below _ (T159.setTop (mkF m 106 #[.val (.int z_), .val (.int ya_), .val (.int yb_), .val (.int yc_), .val (.int yd_), .val (.int ye_)] [(.int yb_), (.int (1 : Int32)), (.ref b153), (.ref b153), (.ref b148), (.ref b148)]))
    have c162 : (nar .char yb_) = yb_ := by
      have q0 := rng32 yb_
      have q1 := (show ((nar .char yb_).toInt - yb_.toInt) % 65536 = 0 ∧ 0 ≤ (nar .char yb_).toInt ∧ (nar .char yb_).toInt < 65536 from c_i2c yb_)
      have p0 := hg1
      have p1 := ht1
      simp only [true_implies, Int32.lt_iff_toInt_lt, ← Int32.toInt_inj, Int32.reduceToInt, Int64.lt_iff_toInt_lt, ← Int64.toInt_inj, Int64.reduceToInt] at q0 q1 p0 p1 ⊢
      omega
    refine own_stC X159 hx hZ e159 f159 (1 : Int32) yb_ yb_ 1 ⟨by decide, by decide⟩ rfl (Nat.le_of_ble_eq_true rfl) c162 [(.int ya_), (.int yb_), (.int (0 : Int32)), (.int (0 : Int32))] rfl N159 ge155 (hb hby dc2_106) ?_
    intro T161 h161 L161 X161 e161 W161 N161 f161
    show oG p e below _ (T161.setTop (mkF m 107 #[.val (.int z_), .val (.int ya_), .val (.int yb_), .val (.int yc_), .val (.int yd_), .val (.int ye_)] [(.ref b153), (.ref b148), (.ref b148)]))
    refine og (fun _ hr => XS.dup X161.here hx rfl (hb hby dc2_107) rfl rfl (XS.iconst X161.here hx rfl (hb hby dc2_108) (XS.iloadN X161.here hx rfl (hb hby dc2_109) rfl hr))) ?_
    show oG p e below _ (T161.setTop (mkF m 110 #[.val (.int z_), .val (.int ya_), .val (.int yb_), .val (.int yc_), .val (.int yd_), .val (.int ye_)] [(.int yc_), (.int (2 : Int32)), (.ref b153), (.ref b153), (.ref b148), (.ref b148)]))
    have c164 : (nar .char yc_) = yc_ := by
      have q0 := rng32 yc_
      have q1 := (show ((nar .char yc_).toInt - yc_.toInt) % 65536 = 0 ∧ 0 ≤ (nar .char yc_).toInt ∧ (nar .char yc_).toInt < 65536 from c_i2c yc_)
      have p0 := hg2
      have p1 := ht2
      simp only [true_implies, Int32.lt_iff_toInt_lt, ← Int32.toInt_inj, Int32.reduceToInt, Int64.lt_iff_toInt_lt, ← Int64.toInt_inj, Int64.reduceToInt] at q0 q1 p0 p1 ⊢
      omega
    refine own_stC X161 hx hZ e161 f161 (2 : Int32) yc_ yc_ 2 ⟨by decide, by decide⟩ rfl (Nat.le_of_ble_eq_true rfl) c164 [(.int ya_), (.int yb_), (.int yc_), (.int (0 : Int32))] rfl N161 ge155 (hb hby dc2_110) ?_
    intro T163 h163 L163 X163 e163 W163 N163 f163
    show oG p e below _ (T163.setTop (mkF m 111 #[.val (.int z_), .val (.int ya_), .val (.int yb_), .val (.int yc_), .val (.int yd_), .val (.int ye_)] [(.ref b153), (.ref b148), (.ref b148)]))
    refine og (fun _ hr => XS.dup X163.here hx rfl (hb hby dc2_111) rfl rfl (XS.iconst X163.here hx rfl (hb hby dc2_112) (XS.iload X163.here hx rfl (hb hby dc2_113) rfl hr))) ?_
    show oG p e below _ (T163.setTop (mkF m 115 #[.val (.int z_), .val (.int ya_), .val (.int yb_), .val (.int yc_), .val (.int yd_), .val (.int ye_)] [(.int yd_), (.int (3 : Int32)), (.ref b153), (.ref b153), (.ref b148), (.ref b148)]))
    have c166 : (nar .char yd_) = yd_ := by
      have q0 := rng32 yd_
      have q1 := (show ((nar .char yd_).toInt - yd_.toInt) % 65536 = 0 ∧ 0 ≤ (nar .char yd_).toInt ∧ (nar .char yd_).toInt < 65536 from c_i2c yd_)
      have p0 := hg3
      have p1 := ht3
      simp only [true_implies, Int32.lt_iff_toInt_lt, ← Int32.toInt_inj, Int32.reduceToInt, Int64.lt_iff_toInt_lt, ← Int64.toInt_inj, Int64.reduceToInt] at q0 q1 p0 p1 ⊢
      omega
    refine own_stC X163 hx hZ e163 f163 (3 : Int32) yd_ yd_ 3 ⟨by decide, by decide⟩ rfl (Nat.le_of_ble_eq_true rfl) c166 [(.int ya_), (.int yb_), (.int yc_), (.int yd_)] rfl N163 ge155 (hb hby dc2_115) ?_
    intro T165 h165 L165 X165 e165 W165 N165 f165
    show oG p e below _ (T165.setTop (mkF m 116 #[.val (.int z_), .val (.int ya_), .val (.int yb_), .val (.int yc_), .val (.int yd_), .val (.int ye_)] [(.ref b153), (.ref b148), (.ref b148)]))
    have f168 := (((((A148.ext E153).wr W159).wr W161).wr W163).wr W165)
    have f169 := (((((f151.ext E153).other W159 (Or.inl (Nat.ne_of_lt (Nat.lt_of_lt_of_le A148.lt (Nat.le_of_eq g153.symm))))).other W161 (Or.inl (Nat.ne_of_lt (Nat.lt_of_lt_of_le A148.lt (Nat.le_of_eq g153.symm))))).other W163 (Or.inl (Nat.ne_of_lt (Nat.lt_of_lt_of_le A148.lt (Nat.le_of_eq g153.symm))))).other W165 (Or.inl (Nat.ne_of_lt (Nat.lt_of_lt_of_le A148.lt (Nat.le_of_eq g153.symm)))))
    have f170 := (((((f152.ext E153).other W159 (Or.inl (Nat.ne_of_lt (Nat.lt_of_lt_of_le A148.lt (Nat.le_of_eq g153.symm))))).other W161 (Or.inl (Nat.ne_of_lt (Nat.lt_of_lt_of_le A148.lt (Nat.le_of_eq g153.symm))))).other W163 (Or.inl (Nat.ne_of_lt (Nat.lt_of_lt_of_le A148.lt (Nat.le_of_eq g153.symm))))).other W165 (Or.inl (Nat.ne_of_lt (Nat.lt_of_lt_of_le A148.lt (Nat.le_of_eq g153.symm)))))
    have K171 := (((((K156.ext E153).wr W159 (Or.inr sz157)).wr W161 (Or.inr sz157)).wr W163 (Or.inr sz157)).wr W165 (Or.inr sz157))
    have f172 := (own_sta_keep S_COMPACT_STRINGS K171 all0)
    have f173 := (own_sta_keep S__assertionsDisabled K171 all0)
    have f174 := (own_sta_keep S_HI_BYTE_SHIFT K171 all0)
    have f175 := (own_sta_keep S_LO_BYTE_SHIFT K171 all0)
    have Z176 := (Nat.le_trans (Nat.le_trans (Nat.le_trans (Nat.le_trans (Nat.le_trans Z154 E153.1) (Nat.le_of_eq W159.size.symm)) (Nat.le_of_eq W161.size.symm)) (Nat.le_of_eq W163.size.symm)) (Nat.le_of_eq W165.size.symm))
    refine own_cp X165 hx hZ hown rfl (hw _ (own_m 12 rfl)) (hw _ (own_m 13 rfl)) (hw _ (own_m 11 rfl)) (hw _ (own_m 14 rfl)) (by decide) (rm := { frames := 5, cells := 2, slots := 15, locals := 74 }) (rm_inj l Z a0 hw [] b148 b153 k153 (4 : Int32) [ya_, yb_, yc_, yd_] [(.int ya_), (.int yb_), (.int yc_), (.int yd_)] i_COMPACT_STRINGS h165 n0 Z176 f168 f169 f170 ge149 f165 rfl rfl (Nat.le_of_ble_eq_true rfl) (own_wc ⟨hg0, ht0⟩ (own_wc ⟨hg1, ht1⟩ (own_wc ⟨hg2, ht2⟩ (own_wc ⟨hg3, ht3⟩ own_wn)))) (Nat.le_of_ble_eq_true rfl) (Ne.symm (Nat.ne_of_lt (Nat.lt_of_lt_of_le A148.lt (Nat.le_of_eq g153.symm)))) f172 hs_COMPACT_STRINGS f173 f174 f175) (by decide) (W := 1) (by decide) (by decide) (by decide) e165 (by rw [hml]; rfl) (argsL := [(.ref b153)]) (lenOf own_pd10 rfl) (rest := [(.ref b148)]) rfl rfl (Nat.le_of_eq rfl) (hb hby dc2_116) ?_
    intro _ T167 L167 X167 hQ167
    obtain ⟨b167_0, kb167_0, w167_0, w167_1, w167_2, rfl, N167q, K167, ge167_0, sz167_0, f167_0, f167_1, f167_2, hx167_0⟩ := hQ167
    have N167 := Fr.app N165 N167q
    have sz177 : h0.size ≤ b167_0 := Nat.le_trans K171.1 sz167_0
    show oG p e below _ (T167.setTop (mkF m 119 #[.val (.int z_), .val (.int ya_), .val (.int yb_), .val (.int yc_), .val (.int yd_), .val (.int ye_)] [(.ref b148)]))
    have f178 := (f168.keep K167)
    have ez179 := c147
    have hc180 : StrChars.Road.CodA (own_tk z_ ya_ yb_ yc_ yd_ ye_) w167_0 w167_1 w167_2 := by rw [ez179]; exact (show StrChars.Road.CodA [ya_, yb_, yc_, yd_] w167_0 w167_1 w167_2 from hx167_0)
    have K181 := (K171.trans K167 (allS (Or.inr sz150) all0))
    have hk182 := (Nat.le_trans (Nat.le_trans (Nat.le_trans (Nat.le_trans (Nat.le_trans (Nat.le_trans (Nat.le_trans hk E148.1) E153.1) (Nat.le_of_eq W159.size.symm)) (Nat.le_of_eq W161.size.symm)) (Nat.le_of_eq W163.size.symm)) (Nat.le_of_eq W165.size.symm)) K167.1)
    have A183 := A0.trans (CHr.ext E148 A0.1)
    have A184 := A183.trans (CHr.ext E153 A183.1)
    have sf186 := (Safe.ext E153 A183.1 (Safe.new (Nat.le_of_eq g153.symm)))
    have A185 := A184.trans (CHr.wr W159 sf186 A184.1)
    have sf188 := (Safe.wr W159 sf186 A184.1 sf186)
    have A187 := A185.trans (CHr.wr W161 sf188 A185.1)
    have sf190 := (Safe.wr W161 sf188 A185.1 sf188)
    have A189 := A187.trans (CHr.wr W163 sf190 A187.1)
    have sf192 := (Safe.wr W163 sf190 A187.1 sf190)
    have A191 := A189.trans (CHr.wr W165 sf192 A189.1)
    have sf194 := (Safe.wr W165 sf192 A189.1 (Safe.wr W163 sf190 A187.1 (Safe.wr W161 sf188 A185.1 (Safe.wr W159 sf186 A184.1 (Safe.ext E153 A183.1 (Safe.ext E148 A0.1 (Safe.new (Nat.le_of_eq g148.symm))))))))
    have A193 := A191.trans (CHr.keep K167 (sfS sf194 sf0) A191.1)
    exact own_retRW X167 hx hlk Bd.returns hS hk182 hZ hEL hh rfl A193 rfl rfl (hb hby dc2_119) (by decide) (by decide) (by exact ⟨b148, b167_0, kb167_0, w167_0, w167_1, w167_2, rfl, N167, K181, ge149, sz150, f178, f167_0, f167_1, f167_2, hc180⟩)
  refine og (fun _ hr => XS.icmpYes X0.here hx rfl (pc0 := 89) (pc' := 120) rfl (hb hby dc2_89) rfl (feq c147).2 (by decide) (by decide) hr) ?_
  show oG p e below _ (s₁.setTop (mkF m 120 #[.val (.int z_), .val (.int ya_), .val (.int yb_), .val (.int yc_), .val (.int yd_), .val (.int ye_)] []))
  obtain ⟨T195, h195, X195, e195, E195, A195, D195, -, st195⟩ := newO X0 hx hZ hown (hw _ (own_m 9 rfl)) (hw _ (own_m 10 rfl)) (hw _ (own_m 11 rfl)) e0 (g := (mkF m 120 #[.val (.int z_), .val (.int ya_), .val (.int yb_), .val (.int yc_), .val (.int yd_), .val (.int ye_)] [])) rfl (hb hby dc2_120) (by decide) (by decide)
  obtain ⟨b195, g195⟩ : ∃ z, z = h0.size := ⟨_, rfl⟩
  rw [← g195] at A195 D195 st195
  have ge196 : n0 ≤ b195 := Nat.le_trans Z0 (Nat.le_of_eq g195.symm)
  have sz197 : h0.size ≤ b195 := Nat.le_trans K0.1 (Nat.le_of_eq g195.symm)
  refine og st195 ?_
  have f198 : Fld Z h195 b195 "java/lang/String" "value" "[B" .null := D195 (Or.inr (hw _ (own_m 24 rfl))) (ty := (.array .byte)) (by decide)
  have f199 : Fld Z h195 b195 "java/lang/String" "coder" "B" (.int (0 : Int32)) := D195 (Or.inr (hw _ (own_m 25 rfl))) (ty := .byte) (by decide)
  show oG p e below _ (T195.setTop (mkF m 123 #[.val (.int z_), .val (.int ya_), .val (.int yb_), .val (.int yc_), .val (.int yd_), .val (.int ye_)] [(.ref b195)]))
  refine og (fun _ hr => XS.dup X195.here hx rfl (hb hby dc2_123) rfl rfl (XS.iconst X195.here hx rfl (hb hby dc2_124) hr)) ?_
  show oG p e below _ (T195.setTop (mkF m 125 #[.val (.int z_), .val (.int ya_), .val (.int yb_), .val (.int yc_), .val (.int yd_), .val (.int ye_)] [(.int (5 : Int32)), (.ref b195), (.ref b195)]))
  obtain ⟨T200, h200, k200, X200, e200, E200, A200, EA200, st200⟩ := newPE X195 hx hZ (hw _ (own_m 5 rfl)) e195 (g := (mkF m 125 #[.val (.int z_), .val (.int ya_), .val (.int yb_), .val (.int yc_), .val (.int yd_), .val (.int ye_)] [(.int (5 : Int32)), (.ref b195), (.ref b195)])) rfl (hb hby dc2_125) rfl (by decide) (cap := 5) (by decide) (by decide) (by decide) (by decide) (ad := "[C") (by decide)
  obtain ⟨b200, g200⟩ : ∃ z, z = h195.size := ⟨_, rfl⟩
  rw [← g200] at A200 EA200 st200
  have Z201 := (Nat.le_trans Z0 E195.1)
  have ge202 : n0 ≤ b200 := Nat.le_trans Z201 (Nat.le_of_eq g200.symm)
  have K203 := (K0.ext E195)
  have sz204 : h0.size ≤ b200 := Nat.le_trans K203.1 (Nat.le_of_eq g200.symm)
  refine og st200 ?_
  have f205 : Arv Z h200 b200 k200 .char (5 : Int32) [(.int (0 : Int32)), (.int (0 : Int32)), (.int (0 : Int32)), (.int (0 : Int32)), (.int (0 : Int32))] (.int (0 : Int32)) := (Arv.new A200 (by decide)).pad (pad_rep [] (.int (0 : Int32)) 5)
  show oG p e below _ (T200.setTop (mkF m 127 #[.val (.int z_), .val (.int ya_), .val (.int yb_), .val (.int yc_), .val (.int yd_), .val (.int ye_)] [(.ref b200), (.ref b195), (.ref b195)]))
  refine og (fun _ hr => XS.dup X200.here hx rfl (hb hby dc2_127) rfl rfl (XS.iconst X200.here hx rfl (hb hby dc2_128) (XS.iloadN X200.here hx rfl (hb hby dc2_129) rfl hr))) ?_
  show oG p e below _ (T200.setTop (mkF m 130 #[.val (.int z_), .val (.int ya_), .val (.int yb_), .val (.int yc_), .val (.int yd_), .val (.int ye_)] [(.int ya_), (.int (0 : Int32)), (.ref b200), (.ref b200), (.ref b195), (.ref b195)]))
  have c207 : (nar .char ya_) = ya_ := by
    have q0 := rng32 ya_
    have q1 := (show ((nar .char ya_).toInt - ya_.toInt) % 65536 = 0 ∧ 0 ≤ (nar .char ya_).toInt ∧ (nar .char ya_).toInt < 65536 from c_i2c ya_)
    have p0 := hg0
    have p1 := ht0
    simp only [true_implies, Int32.lt_iff_toInt_lt, ← Int32.toInt_inj, Int32.reduceToInt, Int64.lt_iff_toInt_lt, ← Int64.toInt_inj, Int64.reduceToInt] at q0 q1 p0 p1 ⊢
    omega
  refine own_stC X200 hx hZ e200 f205 (0 : Int32) ya_ ya_ 0 ⟨by decide, by decide⟩ rfl (Nat.le_of_ble_eq_true rfl) c207 [(.int ya_), (.int (0 : Int32)), (.int (0 : Int32)), (.int (0 : Int32)), (.int (0 : Int32))] rfl N0 ge202 (hb hby dc2_130) ?_
  intro T206 h206 L206 X206 e206 W206 N206 f206
  show oG p e below _ (T206.setTop (mkF m 131 #[.val (.int z_), .val (.int ya_), .val (.int yb_), .val (.int yc_), .val (.int yd_), .val (.int ye_)] [(.ref b200), (.ref b195), (.ref b195)]))
  refine og (fun _ hr => XS.dup X206.here hx rfl (hb hby dc2_131) rfl rfl (XS.iconst X206.here hx rfl (hb hby dc2_132) (XS.iloadN X206.here hx rfl (hb hby dc2_133) rfl hr))) ?_
  show oG p e below _ (T206.setTop (mkF m 134 #[.val (.int z_), .val (.int ya_), .val (.int yb_), .val (.int yc_), .val (.int yd_), .val (.int ye_)] [(.int yb_), (.int (1 : Int32)), (.ref b200), (.ref b200), (.ref b195), (.ref b195)]))
  have c209 : (nar .char yb_) = yb_ := by
    have q0 := rng32 yb_
    have q1 := (show ((nar .char yb_).toInt - yb_.toInt) % 65536 = 0 ∧ 0 ≤ (nar .char yb_).toInt ∧ (nar .char yb_).toInt < 65536 from c_i2c yb_)
    have p0 := hg1
    have p1 := ht1
    simp only [true_implies, Int32.lt_iff_toInt_lt, ← Int32.toInt_inj, Int32.reduceToInt, Int64.lt_iff_toInt_lt, ← Int64.toInt_inj, Int64.reduceToInt] at q0 q1 p0 p1 ⊢
    omega
  refine own_stC X206 hx hZ e206 f206 (1 : Int32) yb_ yb_ 1 ⟨by decide, by decide⟩ rfl (Nat.le_of_ble_eq_true rfl) c209 [(.int ya_), (.int yb_), (.int (0 : Int32)), (.int (0 : Int32)), (.int (0 : Int32))] rfl N206 ge202 (hb hby dc2_134) ?_
  intro T208 h208 L208 X208 e208 W208 N208 f208
  show oG p e below _ (T208.setTop (mkF m 135 #[.val (.int z_), .val (.int ya_), .val (.int yb_), .val (.int yc_), .val (.int yd_), .val (.int ye_)] [(.ref b200), (.ref b195), (.ref b195)]))
  refine og (fun _ hr => XS.dup X208.here hx rfl (hb hby dc2_135) rfl rfl (XS.iconst X208.here hx rfl (hb hby dc2_136) (XS.iloadN X208.here hx rfl (hb hby dc2_137) rfl hr))) ?_
  show oG p e below _ (T208.setTop (mkF m 138 #[.val (.int z_), .val (.int ya_), .val (.int yb_), .val (.int yc_), .val (.int yd_), .val (.int ye_)] [(.int yc_), (.int (2 : Int32)), (.ref b200), (.ref b200), (.ref b195), (.ref b195)]))
  have c211 : (nar .char yc_) = yc_ := by
    have q0 := rng32 yc_
    have q1 := (show ((nar .char yc_).toInt - yc_.toInt) % 65536 = 0 ∧ 0 ≤ (nar .char yc_).toInt ∧ (nar .char yc_).toInt < 65536 from c_i2c yc_)
    have p0 := hg2
    have p1 := ht2
    simp only [true_implies, Int32.lt_iff_toInt_lt, ← Int32.toInt_inj, Int32.reduceToInt, Int64.lt_iff_toInt_lt, ← Int64.toInt_inj, Int64.reduceToInt] at q0 q1 p0 p1 ⊢
    omega
  refine own_stC X208 hx hZ e208 f208 (2 : Int32) yc_ yc_ 2 ⟨by decide, by decide⟩ rfl (Nat.le_of_ble_eq_true rfl) c211 [(.int ya_), (.int yb_), (.int yc_), (.int (0 : Int32)), (.int (0 : Int32))] rfl N208 ge202 (hb hby dc2_138) ?_
  intro T210 h210 L210 X210 e210 W210 N210 f210
  show oG p e below _ (T210.setTop (mkF m 139 #[.val (.int z_), .val (.int ya_), .val (.int yb_), .val (.int yc_), .val (.int yd_), .val (.int ye_)] [(.ref b200), (.ref b195), (.ref b195)]))
  refine og (fun _ hr => XS.dup X210.here hx rfl (hb hby dc2_139) rfl rfl (XS.iconst X210.here hx rfl (hb hby dc2_140) (XS.iload X210.here hx rfl (hb hby dc2_141) rfl hr))) ?_
  show oG p e below _ (T210.setTop (mkF m 143 #[.val (.int z_), .val (.int ya_), .val (.int yb_), .val (.int yc_), .val (.int yd_), .val (.int ye_)] [(.int yd_), (.int (3 : Int32)), (.ref b200), (.ref b200), (.ref b195), (.ref b195)]))
  have c213 : (nar .char yd_) = yd_ := by
    have q0 := rng32 yd_
    have q1 := (show ((nar .char yd_).toInt - yd_.toInt) % 65536 = 0 ∧ 0 ≤ (nar .char yd_).toInt ∧ (nar .char yd_).toInt < 65536 from c_i2c yd_)
    have p0 := hg3
    have p1 := ht3
    simp only [true_implies, Int32.lt_iff_toInt_lt, ← Int32.toInt_inj, Int32.reduceToInt, Int64.lt_iff_toInt_lt, ← Int64.toInt_inj, Int64.reduceToInt] at q0 q1 p0 p1 ⊢
    omega
  refine own_stC X210 hx hZ e210 f210 (3 : Int32) yd_ yd_ 3 ⟨by decide, by decide⟩ rfl (Nat.le_of_ble_eq_true rfl) c213 [(.int ya_), (.int yb_), (.int yc_), (.int yd_), (.int (0 : Int32))] rfl N210 ge202 (hb hby dc2_143) ?_
  intro T212 h212 L212 X212 e212 W212 N212 f212
  show oG p e below _ (T212.setTop (mkF m 144 #[.val (.int z_), .val (.int ya_), .val (.int yb_), .val (.int yc_), .val (.int yd_), .val (.int ye_)] [(.ref b200), (.ref b195), (.ref b195)]))
  refine og (fun _ hr => XS.dup X212.here hx rfl (hb hby dc2_144) rfl rfl (XS.iconst X212.here hx rfl (hb hby dc2_145) (XS.iload X212.here hx rfl (hb hby dc2_146) rfl hr))) ?_
  show oG p e below _ (T212.setTop (mkF m 148 #[.val (.int z_), .val (.int ya_), .val (.int yb_), .val (.int yc_), .val (.int yd_), .val (.int ye_)] [(.int ye_), (.int (4 : Int32)), (.ref b200), (.ref b200), (.ref b195), (.ref b195)]))
  have c215 : (nar .char ye_) = ye_ := by
    have q0 := rng32 ye_
    have q1 := (show ((nar .char ye_).toInt - ye_.toInt) % 65536 = 0 ∧ 0 ≤ (nar .char ye_).toInt ∧ (nar .char ye_).toInt < 65536 from c_i2c ye_)
    have p0 := hg4
    have p1 := ht4
    simp only [true_implies, Int32.lt_iff_toInt_lt, ← Int32.toInt_inj, Int32.reduceToInt, Int64.lt_iff_toInt_lt, ← Int64.toInt_inj, Int64.reduceToInt] at q0 q1 p0 p1 ⊢
    omega
  refine own_stC X212 hx hZ e212 f212 (4 : Int32) ye_ ye_ 4 ⟨by decide, by decide⟩ rfl (Nat.le_of_ble_eq_true rfl) c215 [(.int ya_), (.int yb_), (.int yc_), (.int yd_), (.int ye_)] rfl N212 ge202 (hb hby dc2_148) ?_
  intro T214 h214 L214 X214 e214 W214 N214 f214
  show oG p e below _ (T214.setTop (mkF m 149 #[.val (.int z_), .val (.int ya_), .val (.int yb_), .val (.int yc_), .val (.int yd_), .val (.int ye_)] [(.ref b200), (.ref b195), (.ref b195)]))
  have f217 := ((((((A195.ext E200).wr W206).wr W208).wr W210).wr W212).wr W214)
  have f218 := ((((((f198.ext E200).other W206 (Or.inl (Nat.ne_of_lt (Nat.lt_of_lt_of_le A195.lt (Nat.le_of_eq g200.symm))))).other W208 (Or.inl (Nat.ne_of_lt (Nat.lt_of_lt_of_le A195.lt (Nat.le_of_eq g200.symm))))).other W210 (Or.inl (Nat.ne_of_lt (Nat.lt_of_lt_of_le A195.lt (Nat.le_of_eq g200.symm))))).other W212 (Or.inl (Nat.ne_of_lt (Nat.lt_of_lt_of_le A195.lt (Nat.le_of_eq g200.symm))))).other W214 (Or.inl (Nat.ne_of_lt (Nat.lt_of_lt_of_le A195.lt (Nat.le_of_eq g200.symm)))))
  have f219 := ((((((f199.ext E200).other W206 (Or.inl (Nat.ne_of_lt (Nat.lt_of_lt_of_le A195.lt (Nat.le_of_eq g200.symm))))).other W208 (Or.inl (Nat.ne_of_lt (Nat.lt_of_lt_of_le A195.lt (Nat.le_of_eq g200.symm))))).other W210 (Or.inl (Nat.ne_of_lt (Nat.lt_of_lt_of_le A195.lt (Nat.le_of_eq g200.symm))))).other W212 (Or.inl (Nat.ne_of_lt (Nat.lt_of_lt_of_le A195.lt (Nat.le_of_eq g200.symm))))).other W214 (Or.inl (Nat.ne_of_lt (Nat.lt_of_lt_of_le A195.lt (Nat.le_of_eq g200.symm)))))
  have K220 := ((((((K203.ext E200).wr W206 (Or.inr sz204)).wr W208 (Or.inr sz204)).wr W210 (Or.inr sz204)).wr W212 (Or.inr sz204)).wr W214 (Or.inr sz204))
  have f221 := (own_sta_keep S_COMPACT_STRINGS K220 all0)
  have f222 := (own_sta_keep S__assertionsDisabled K220 all0)
  have f223 := (own_sta_keep S_HI_BYTE_SHIFT K220 all0)
  have f224 := (own_sta_keep S_LO_BYTE_SHIFT K220 all0)
  have Z225 := (Nat.le_trans (Nat.le_trans (Nat.le_trans (Nat.le_trans (Nat.le_trans (Nat.le_trans Z201 E200.1) (Nat.le_of_eq W206.size.symm)) (Nat.le_of_eq W208.size.symm)) (Nat.le_of_eq W210.size.symm)) (Nat.le_of_eq W212.size.symm)) (Nat.le_of_eq W214.size.symm))
  refine own_cp X214 hx hZ hown rfl (hw _ (own_m 12 rfl)) (hw _ (own_m 13 rfl)) (hw _ (own_m 11 rfl)) (hw _ (own_m 14 rfl)) (by decide) (rm := { frames := 5, cells := 2, slots := 15, locals := 74 }) (rm_inj l Z a0 hw [] b195 b200 k200 (5 : Int32) [ya_, yb_, yc_, yd_, ye_] [(.int ya_), (.int yb_), (.int yc_), (.int yd_), (.int ye_)] i_COMPACT_STRINGS h214 n0 Z225 f217 f218 f219 ge196 f214 rfl rfl (Nat.le_of_ble_eq_true rfl) (own_wc ⟨hg0, ht0⟩ (own_wc ⟨hg1, ht1⟩ (own_wc ⟨hg2, ht2⟩ (own_wc ⟨hg3, ht3⟩ (own_wc ⟨hg4, ht4⟩ own_wn))))) (Nat.le_of_ble_eq_true rfl) (Ne.symm (Nat.ne_of_lt (Nat.lt_of_lt_of_le A195.lt (Nat.le_of_eq g200.symm)))) f221 hs_COMPACT_STRINGS f222 f223 f224) (by decide) (W := 1) (by decide) (by decide) (by decide) e214 (by rw [hml]; rfl) (argsL := [(.ref b200)]) (lenOf own_pd10 rfl) (rest := [(.ref b195)]) rfl rfl (Nat.le_of_eq rfl) (hb hby dc2_149) ?_
  intro _ T216 L216 X216 hQ216
  obtain ⟨b216_0, kb216_0, w216_0, w216_1, w216_2, rfl, N216q, K216, ge216_0, sz216_0, f216_0, f216_1, f216_2, hx216_0⟩ := hQ216
  have N216 := Fr.app N214 N216q
  have sz226 : h0.size ≤ b216_0 := Nat.le_trans K220.1 sz216_0
  show oG p e below _ (T216.setTop (mkF m 152 #[.val (.int z_), .val (.int ya_), .val (.int yb_), .val (.int yc_), .val (.int yd_), .val (.int ye_)] [(.ref b195)]))
  have f227 := (f217.keep K216)
  have ez228 : z_ = (5 : Int32) := by
    have q0 := rng32 z_
    have p0 := hz0
    have p1 := hz5
    have p2 := c1
    have p3 := c27
    have p4 := c63
    have p5 := c103
    have p6 := c147
    simp only [true_implies, Int32.lt_iff_toInt_lt, ← Int32.toInt_inj, Int32.reduceToInt, Int64.lt_iff_toInt_lt, ← Int64.toInt_inj, Int64.reduceToInt] at q0 p0 p1 p2 p3 p4 p5 p6 ⊢
    omega
  have hc229 : StrChars.Road.CodA (own_tk z_ ya_ yb_ yc_ yd_ ye_) w216_0 w216_1 w216_2 := by rw [ez228]; exact (show StrChars.Road.CodA [ya_, yb_, yc_, yd_, ye_] w216_0 w216_1 w216_2 from hx216_0)
  have K230 := (K220.trans K216 (allS (Or.inr sz197) all0))
  have hk231 := (Nat.le_trans (Nat.le_trans (Nat.le_trans (Nat.le_trans (Nat.le_trans (Nat.le_trans (Nat.le_trans (Nat.le_trans hk E195.1) E200.1) (Nat.le_of_eq W206.size.symm)) (Nat.le_of_eq W208.size.symm)) (Nat.le_of_eq W210.size.symm)) (Nat.le_of_eq W212.size.symm)) (Nat.le_of_eq W214.size.symm)) K216.1)
  have A232 := A0.trans (CHr.ext E195 A0.1)
  have A233 := A232.trans (CHr.ext E200 A232.1)
  have sf235 := (Safe.ext E200 A232.1 (Safe.new (Nat.le_of_eq g200.symm)))
  have A234 := A233.trans (CHr.wr W206 sf235 A233.1)
  have sf237 := (Safe.wr W206 sf235 A233.1 sf235)
  have A236 := A234.trans (CHr.wr W208 sf237 A234.1)
  have sf239 := (Safe.wr W208 sf237 A234.1 sf237)
  have A238 := A236.trans (CHr.wr W210 sf239 A236.1)
  have sf241 := (Safe.wr W210 sf239 A236.1 sf239)
  have A240 := A238.trans (CHr.wr W212 sf241 A238.1)
  have sf243 := (Safe.wr W212 sf241 A238.1 sf241)
  have A242 := A240.trans (CHr.wr W214 sf243 A240.1)
  have sf245 := (Safe.wr W214 sf243 A240.1 (Safe.wr W212 sf241 A238.1 (Safe.wr W210 sf239 A236.1 (Safe.wr W208 sf237 A234.1 (Safe.wr W206 sf235 A233.1 (Safe.ext E200 A232.1 (Safe.ext E195 A0.1 (Safe.new (Nat.le_of_eq g195.symm)))))))))
  have A244 := A242.trans (CHr.keep K216 (sfS sf245 sf0) A242.1)
  exact own_retRW X216 hx hlk Bd.returns hS hk231 hZ hEL hh rfl A244 rfl rfl (hb hby dc2_152) (by decide) (by decide) (by exact ⟨b195, b216_0, kb216_0, w216_0, w216_1, w216_2, rfl, N216, K230, ge196, sz197, f227, f216_0, f216_1, f216_2, hc229⟩)
theorem dc34_0 : decode jdk_52_method_83_code 0 = .ok (.iload_n 1, 1) := by decide +kernel
theorem dc34_1 : decode jdk_52_method_83_code 1 = .ok (.aload_n 0, 1) := by decide +kernel
theorem dc34_2 : decode jdk_52_method_83_code 2 = .ok (.invokestatic 67, 3) := by decide +kernel
theorem dc35_0 : decode jdk_52_method_91_code 0 = .ok (.iload_n 0, 1) := by decide +kernel
theorem dc35_1 : decode jdk_52_method_91_code 1 = .ok (.aload_n 1, 1) := by decide +kernel
theorem dc35_2 : decode jdk_52_method_91_code 2 = .ok (.invokestatic 48, 3) := by decide +kernel
theorem dc36_0 : decode jdk_52_method_6_code 0 = .ok (.aload_n 0, 1) := by decide +kernel
theorem dc36_1 : decode jdk_52_method_6_code 1 = .ok (.arraylength, 1) := by decide +kernel
theorem dc36_2 : decode jdk_52_method_6_code 2 = .ok (.iconst 1, 1) := by decide +kernel
theorem dc36_3 : decode jdk_52_method_6_code 3 = .ok (.ishr, 1) := by decide +kernel
theorem dc36_4 : decode jdk_52_method_6_code 4 = .ok (.ireturn, 1) := by decide +kernel
def Q_length_2 (Z : State) (y0 : Int32) (h0 : Heap) (n0 : Nat) (v : Option Value) (h : Heap) (L : List Loc) : Prop := v = some (.int (y0 >>> ((1 : Int32) &&& 31))) ∧ Fr n0 L ∧ h = h0
set_option maxRecDepth 65536 in
set_option maxHeartbeats 40000000 in
theorem rm_length_2 (l : Launch) (Z : State) (a0 : Array Value) (hw : ∀ d ∈ tables_1, d.before a0 Z = true) (ws : List Jvm.Cond) (o0 : Addr) (y0 : Int32) (ls0 : List Value) (kc0 : ClassId) (h0 : Heap) (n0 : Nat) (Z0 : n0 ≤ h0.size) (P0 : Arv Z h0 o0 kc0 .byte y0 ls0 (.int (0 : Int32))) :
    MetFree l (⟨"java/lang/StringUTF16", "length", "([B)I"⟩ : MethodName) (head1 (Jvm.Cond.code (⟨"java/lang/StringUTF16", "length", "([B)I"⟩ : MethodName) jdk_52_method_6_code 1 (some .int) :: ws) ({ frames := 0, cells := 0, slots := 0, locals := 0 } : Room)) (fun aA U => aA = #[(.ref o0)] ∧ Z.Warmed39 U.vm ∧ U.heap = h0) (fun _ _ _ _ _ => True) (fun _ U o U' => ∃ v L, o = .returned v ∧ Q_length_2 Z y0 h0 n0 v U'.heap L ∧ FrameEnd U o U' L ({ frames := 0, cells := 0, slots := 0, locals := 0 } : Room).cells ({ frames := 0, cells := 0, slots := 0, locals := 0 } : Room).slots) := by
  refine MetFree.of_bodySF (plainFor_of_name own_pn_java_lang_StringUTF16) hisR ?_
  intro p e s m args below meth c s₁ Bd hml0 hP hK
  obtain ⟨rfl, hZ, hh⟩ := hP
  have hx := Bd.exec
  have hby := Bd.bytes
  have hlk : meth.locks = false := BodyLoose.notSynchronized Bd
  have hml : c.maxLocals = 1 := hml0
  have hown : s.vm.findClass "java/lang/StringUTF16" = some m.cls := findClass_of_methodNamed Bd.named
  have hnm := (name_of_methodNamed Bd.named Bd.method).1
  have X0 : Stand p l e ({ frames := 0, cells := 0, slots := 0, locals := 0 } : Room) s m #[(.ref o0)] below meth c s₁ [] 0 0 := Stand.of_body Bd
  have e0 : s₁.heap = h0 := by rw [← hh, Bd.state]; rfl
  have N0 := Fr.nil n0
  show oG p e below (own_K s (Q_length_2 Z y0 h0 n0) ({ frames := 0, cells := 0, slots := 0, locals := 0 } : Room).cells ({ frames := 0, cells := 0, slots := 0, locals := 0 } : Room).slots) (s₁.setTop (entryFrame m #[(.ref o0)] 1))
  rw [(by first | (simp [entryFrame, mkF, argsToLocals, Value.category]; done) | rfl : entryFrame m #[(.ref o0)] 1 = mkF m 0 #[.val (.ref o0)] [])]
  show oG p e below _ (s₁.setTop (mkF m 0 #[.val (.ref o0)] []))
  refine og (fun _ hr => XS.aloadN X0.here hx rfl (hb hby dc36_0) rfl rfl (own_alen X0 hx hZ e0 P0 rfl rfl (hb hby dc36_1) (XS.iconst X0.here hx rfl (hb hby dc36_2) (XS.ishr X0.here hx rfl (hb hby dc36_3) rfl hr)))) ?_
  show oG p e below _ (s₁.setTop (mkF m 4 #[.val (.ref o0)] [(.int (y0 >>> ((1 : Int32) &&& 31)))]))
  exact own_retI X0 hx hlk Bd.returns (hb hby dc36_4) (by decide) (by decide) ⟨rfl, N0, e0⟩
theorem own_pd11 : parseMethodDescriptor "([B)I" = some ⟨[(.array .byte)], some .int⟩ := by decide +kernel
theorem dc35_5 : decode jdk_52_method_91_code 5 = .ok (.invokestatic 414, 3) := by decide +kernel
theorem dc19_0 : decode jdk_42_method_155_code 0 = .ok (.iload_n 0, 1) := by decide +kernel
theorem dc19_1 : decode jdk_42_method_155_code 1 = .ok (.iload_n 1, 1) := by decide +kernel
theorem dc19_2 : decode jdk_42_method_155_code 2 = .ok (.getstatic 1053, 3) := by decide +kernel
theorem dc19_5 : decode jdk_42_method_155_code 5 = .ok (.invokestatic 1059, 3) := by decide +kernel
theorem dc20_0 : decode jdk_41_method_11_code 0 = .ok (.iload_n 0, 1) := by decide +kernel
theorem dc20_1 : decode jdk_41_method_11_code 1 = .ok (.ifCond .lt 8, 3) := by decide +kernel
theorem dc20_4 : decode jdk_41_method_11_code 4 = .ok (.iload_n 0, 1) := by decide +kernel
theorem dc20_5 : decode jdk_41_method_11_code 5 = .ok (.iload_n 1, 1) := by decide +kernel
theorem dc20_6 : decode jdk_41_method_11_code 6 = .ok (.if_icmp .lt 10, 3) := by decide +kernel
theorem dc20_16 : decode jdk_41_method_11_code 16 = .ok (.iload_n 0, 1) := by decide +kernel
theorem dc20_17 : decode jdk_41_method_11_code 17 = .ok (.ireturn, 1) := by decide +kernel
theorem own_pn_jdk_internal_util_Preconditions : plainName "jdk/internal/util/Preconditions" = true := by first | (simp [plainName, overriddenIn]; done) | decide +kernel
def Q_checkIndex_3 (Z : State) (y0 : Int32) (h0 : Heap) (n0 : Nat) (v : Option Value) (h : Heap) (L : List Loc) : Prop := v = some (.int y0) ∧ Fr n0 L ∧ h = h0
set_option maxRecDepth 65536 in
set_option maxHeartbeats 40000000 in
theorem rm_checkIndex_3 (l : Launch) (Z : State) (a0 : Array Value) (hw : ∀ d ∈ tables_1, d.before a0 Z = true) (ws : List Jvm.Cond) (y0 : Int32) (y1 : Int32) (vv0 : Value) (h0 : Heap) (n0 : Nat) (Z0 : n0 ≤ h0.size) (hvv0 : vv0.isRef = true) (hb0 : ¬ (y0 < (0 : Int32))) (hb1 : y0 < y1) :
    MetFree l (⟨"jdk/internal/util/Preconditions", "checkIndex", "(IILjava/util/function/BiFunction;)I"⟩ : MethodName) (head1 (Jvm.Cond.code (⟨"jdk/internal/util/Preconditions", "checkIndex", "(IILjava/util/function/BiFunction;)I"⟩ : MethodName) jdk_41_method_11_code 3 (some .int) :: ws) ({ frames := 0, cells := 0, slots := 0, locals := 0 } : Room)) (fun aA U => aA = #[(.int y0), (.int y1), vv0] ∧ Z.Warmed39 U.vm ∧ U.heap = h0) (fun _ _ _ _ _ => True) (fun _ U o U' => ∃ v L, o = .returned v ∧ Q_checkIndex_3 Z y0 h0 n0 v U'.heap L ∧ FrameEnd U o U' L ({ frames := 0, cells := 0, slots := 0, locals := 0 } : Room).cells ({ frames := 0, cells := 0, slots := 0, locals := 0 } : Room).slots) := by
  refine MetFree.of_bodySF (plainFor_of_name own_pn_jdk_internal_util_Preconditions) hisR ?_
  intro p e s m args below meth c s₁ Bd hml0 hP hK
  obtain ⟨rfl, hZ, hh⟩ := hP
  have hx := Bd.exec
  have hby := Bd.bytes
  have hlk : meth.locks = false := BodyLoose.notSynchronized Bd
  have hml : c.maxLocals = 3 := hml0
  have hown : s.vm.findClass "jdk/internal/util/Preconditions" = some m.cls := findClass_of_methodNamed Bd.named
  have hnm := (name_of_methodNamed Bd.named Bd.method).1
  have X0 : Stand p l e ({ frames := 0, cells := 0, slots := 0, locals := 0 } : Room) s m #[(.int y0), (.int y1), vv0] below meth c s₁ [] 0 0 := Stand.of_body Bd
  have e0 : s₁.heap = h0 := by rw [← hh, Bd.state]; rfl
  have N0 := Fr.nil n0
  show oG p e below (own_K s (Q_checkIndex_3 Z y0 h0 n0) ({ frames := 0, cells := 0, slots := 0, locals := 0 } : Room).cells ({ frames := 0, cells := 0, slots := 0, locals := 0 } : Room).slots) (s₁.setTop (entryFrame m #[(.int y0), (.int y1), vv0] 3))
  rw [(by first | (simp [entryFrame, mkF, argsToLocals, Value.category]; done) | (have q := hvv0; revert q; cases vv0 <;> simp [entryFrame, mkF, argsToLocals, Value.category, Value.isRef]) | rfl : entryFrame m #[(.int y0), (.int y1), vv0] 3 = mkF m 0 #[.val (.int y0), .val (.int y1), .val vv0] [])]
  show oG p e below _ (s₁.setTop (mkF m 0 #[.val (.int y0), .val (.int y1), .val vv0] []))
  refine og (fun _ hr => XS.iloadN X0.here hx rfl (hb hby dc20_0) rfl hr) ?_
  show oG p e below _ (s₁.setTop (mkF m 1 #[.val (.int y0), .val (.int y1), .val vv0] [(.int y0)]))
  refine og (fun _ hr => XS.ifNo X0.here hx rfl (hb hby dc20_1) rfl ((if0 _ _).trans (flt hb0).1) hr) ?_
  show oG p e below _ (s₁.setTop (mkF m 4 #[.val (.int y0), .val (.int y1), .val vv0] []))
  refine og (fun _ hr => XS.iloadN X0.here hx rfl (hb hby dc20_4) rfl (XS.iloadN X0.here hx rfl (hb hby dc20_5) rfl hr)) ?_
  show oG p e below _ (s₁.setTop (mkF m 6 #[.val (.int y0), .val (.int y1), .val vv0] [(.int y1), (.int y0)]))
  refine og (fun _ hr => XS.icmpYes X0.here hx rfl (pc0 := 6) (pc' := 16) rfl (hb hby dc20_6) rfl (tlt hb1).1 (by decide) (by decide) hr) ?_
  show oG p e below _ (s₁.setTop (mkF m 16 #[.val (.int y0), .val (.int y1), .val vv0] []))
  refine og (fun _ hr => XS.iloadN X0.here hx rfl (hb hby dc20_16) rfl hr) ?_
  show oG p e below _ (s₁.setTop (mkF m 17 #[.val (.int y0), .val (.int y1), .val vv0] [(.int y0)]))
  exact own_retI X0 hx hlk Bd.returns (hb hby dc20_17) (by decide) (by decide) ⟨rfl, N0, e0⟩
theorem own_pd12 : parseMethodDescriptor "(IILjava/util/function/BiFunction;)I" = some ⟨[.int, .int, (.object "java/util/function/BiFunction")], some .int⟩ := by decide +kernel
theorem dc19_8 : decode jdk_42_method_155_code 8 = .ok (.pop, 1) := by decide +kernel
theorem dc19_9 : decode jdk_42_method_155_code 9 = .ok (.return_, 1) := by decide +kernel
def Q_checkIndex_4 (Z : State) (h0 : Heap) (n0 : Nat) (v : Option Value) (h : Heap) (L : List Loc) : Prop := v = none ∧ Fr n0 L ∧ h = h0
set_option maxRecDepth 65536 in
set_option maxHeartbeats 40000000 in
theorem rm_checkIndex_4 (l : Launch) (Z : State) (a0 : Array Value) (hw : ∀ d ∈ tables_1, d.before a0 Z = true) (ws : List Jvm.Cond) (y0 : Int32) (y1 : Int32) (vv0 : Value) (h0 : Heap) (n0 : Nat) (Z0 : n0 ≤ h0.size) (P0 : Sta Z h0 "jdk/internal/util/Preconditions" "SIOOBE_FORMATTER" "Ljava/util/function/BiFunction;" vv0) (hvv0 : vv0.isRef = true) (hb0 : ¬ (y0 < (0 : Int32))) (hb1 : y0 < y1) :
    MetFree l (⟨"java/lang/String", "checkIndex", "(II)V"⟩ : MethodName) (head1 (Jvm.Cond.code (⟨"java/lang/String", "checkIndex", "(II)V"⟩ : MethodName) jdk_42_method_155_code 2 none :: ws) ({ frames := 1, cells := 0, slots := 0, locals := 14 } : Room)) (fun aA U => aA = #[(.int y0), (.int y1)] ∧ Z.Warmed39 U.vm ∧ U.heap = h0) (fun _ _ _ _ _ => True) (fun _ U o U' => ∃ v L, o = .returned v ∧ Q_checkIndex_4 Z h0 n0 v U'.heap L ∧ FrameEnd U o U' L ({ frames := 1, cells := 0, slots := 0, locals := 14 } : Room).cells ({ frames := 1, cells := 0, slots := 0, locals := 14 } : Room).slots) := by
  refine MetFree.of_bodySF (plainFor_of_name own_pn_java_lang_String) hisR ?_
  intro p e s m args below meth c s₁ Bd hml0 hP hK
  obtain ⟨rfl, hZ, hh⟩ := hP
  have hx := Bd.exec
  have hby := Bd.bytes
  have hlk : meth.locks = false := BodyLoose.notSynchronized Bd
  have hml : c.maxLocals = 2 := hml0
  have hown : s.vm.findClass "java/lang/String" = some m.cls := findClass_of_methodNamed Bd.named
  have hnm := (name_of_methodNamed Bd.named Bd.method).1
  have X0 : Stand p l e ({ frames := 1, cells := 0, slots := 0, locals := 14 } : Room) s m #[(.int y0), (.int y1)] below meth c s₁ [] 0 0 := Stand.of_body Bd
  have e0 : s₁.heap = h0 := by rw [← hh, Bd.state]; rfl
  have N0 := Fr.nil n0
  show oG p e below (own_K s (Q_checkIndex_4 Z h0 n0) ({ frames := 1, cells := 0, slots := 0, locals := 14 } : Room).cells ({ frames := 1, cells := 0, slots := 0, locals := 14 } : Room).slots) (s₁.setTop (entryFrame m #[(.int y0), (.int y1)] 2))
  rw [(by first | (simp [entryFrame, mkF, argsToLocals, Value.category]; done) | rfl : entryFrame m #[(.int y0), (.int y1)] 2 = mkF m 0 #[.val (.int y0), .val (.int y1)] [])]
  show oG p e below _ (s₁.setTop (mkF m 0 #[.val (.int y0), .val (.int y1)] []))
  refine og (fun _ hr => XS.iloadN X0.here hx rfl (hb hby dc19_0) rfl (XS.iloadN X0.here hx rfl (hb hby dc19_1) rfl hr)) ?_
  show oG p e below _ (s₁.setTop (mkF m 2 #[.val (.int y0), .val (.int y1)] [(.int y1), (.int y0)]))
  obtain ⟨T1, X1, e1, st1⟩ := getS2 X0 hx hZ hown (host := "") (Or.inl (hw _ (own_m 54 rfl))) Via.refl e0 P0 (g := (mkF m 2 #[.val (.int y0), .val (.int y1)] [(.int y1), (.int y0)])) rfl (hb hby dc19_2)
  refine og st1 ?_
  show oG p e below _ (T1.setTop (mkF m 5 #[.val (.int y0), .val (.int y1)] [vv0, (.int y1), (.int y0)]))
  refine own_cs X1 hx hZ hown (hw _ (own_m 91 rfl)) (hw _ (own_m 92 rfl)) (hw _ (own_m 55 rfl)) (hw _ (own_m 93 rfl)) (by decide) (rm := { frames := 0, cells := 0, slots := 0, locals := 0 }) (rm_checkIndex_3 l Z a0 hw [] y0 y1 vv0 h0 n0 Z0 hvv0 hb0 hb1) (by decide) (W := 0) (by decide) (by decide) (by decide) e1 (by rw [hml]; rfl) (argsL := [(.int y0), (.int y1), vv0]) (lenOf own_pd12 rfl) (rest := []) rfl rfl (Nat.le_of_eq rfl) (hb hby dc19_5) ?_
  intro _ T2 L2 X2 hQ2
  obtain ⟨rfl, N2q, e2⟩ := hQ2
  have N2 := Fr.app N0 N2q
  show oG p e below _ (T2.setTop (mkF m 8 #[.val (.int y0), .val (.int y1)] [(.int y0)]))
  refine og (fun _ hr => XS.pop X2.here hx rfl (hb hby dc19_8) rfl rfl hr) ?_
  show oG p e below _ (T2.setTop (mkF m 9 #[.val (.int y0), .val (.int y1)] []))
  exact own_ret0 X2 hx hlk Bd.returns (hb hby dc19_9) (by decide) (by decide) ⟨rfl, N2, e2⟩
theorem own_pd13 : parseMethodDescriptor "(II)V" = some ⟨[.int, .int], none⟩ := by decide +kernel
theorem dc35_8 : decode jdk_52_method_91_code 8 = .ok (.return_, 1) := by decide +kernel
def Q_checkIndex_5 (Z : State) (h0 : Heap) (n0 : Nat) (v : Option Value) (h : Heap) (L : List Loc) : Prop := v = none ∧ Fr n0 L ∧ h = h0
set_option maxRecDepth 65536 in
set_option maxHeartbeats 40000000 in
theorem rm_checkIndex_5 (l : Launch) (Z : State) (a0 : Array Value) (hw : ∀ d ∈ tables_1, d.before a0 Z = true) (ws : List Jvm.Cond) (y0 : Int32) (o0 : Addr) (y1 : Int32) (ls0 : List Value) (kc0 : ClassId) (vv0 : Value) (h0 : Heap) (n0 : Nat) (Z0 : n0 ≤ h0.size) (P0 : Arv Z h0 o0 kc0 .byte y1 ls0 (.int (0 : Int32))) (P1 : Sta Z h0 "jdk/internal/util/Preconditions" "SIOOBE_FORMATTER" "Ljava/util/function/BiFunction;" vv0) (hvv0 : vv0.isRef = true) (hb0 : ¬ (y0 < (0 : Int32))) (hb1 : y0 < (y1 >>> ((1 : Int32) &&& 31))) :
    MetFree l (⟨"java/lang/StringUTF16", "checkIndex", "(I[B)V"⟩ : MethodName) (head1 (Jvm.Cond.code (⟨"java/lang/StringUTF16", "checkIndex", "(I[B)V"⟩ : MethodName) jdk_52_method_91_code 2 none :: ws) ({ frames := 2, cells := 0, slots := 0, locals := 27 } : Room)) (fun aA U => aA = #[(.int y0), (.ref o0)] ∧ Z.Warmed39 U.vm ∧ U.heap = h0) (fun _ _ _ _ _ => True) (fun _ U o U' => ∃ v L, o = .returned v ∧ Q_checkIndex_5 Z h0 n0 v U'.heap L ∧ FrameEnd U o U' L ({ frames := 2, cells := 0, slots := 0, locals := 27 } : Room).cells ({ frames := 2, cells := 0, slots := 0, locals := 27 } : Room).slots) := by
  refine MetFree.of_bodySF (plainFor_of_name own_pn_java_lang_StringUTF16) hisR ?_
  intro p e s m args below meth c s₁ Bd hml0 hP hK
  obtain ⟨rfl, hZ, hh⟩ := hP
  have hx := Bd.exec
  have hby := Bd.bytes
  have hlk : meth.locks = false := BodyLoose.notSynchronized Bd
  have hml : c.maxLocals = 2 := hml0
  have hown : s.vm.findClass "java/lang/StringUTF16" = some m.cls := findClass_of_methodNamed Bd.named
  have hnm := (name_of_methodNamed Bd.named Bd.method).1
  have X0 : Stand p l e ({ frames := 2, cells := 0, slots := 0, locals := 27 } : Room) s m #[(.int y0), (.ref o0)] below meth c s₁ [] 0 0 := Stand.of_body Bd
  have e0 : s₁.heap = h0 := by rw [← hh, Bd.state]; rfl
  have N0 := Fr.nil n0
  show oG p e below (own_K s (Q_checkIndex_5 Z h0 n0) ({ frames := 2, cells := 0, slots := 0, locals := 27 } : Room).cells ({ frames := 2, cells := 0, slots := 0, locals := 27 } : Room).slots) (s₁.setTop (entryFrame m #[(.int y0), (.ref o0)] 2))
  rw [(by first | (simp [entryFrame, mkF, argsToLocals, Value.category]; done) | rfl : entryFrame m #[(.int y0), (.ref o0)] 2 = mkF m 0 #[.val (.int y0), .val (.ref o0)] [])]
  show oG p e below _ (s₁.setTop (mkF m 0 #[.val (.int y0), .val (.ref o0)] []))
  refine og (fun _ hr => XS.iloadN X0.here hx rfl (hb hby dc35_0) rfl (XS.aloadN X0.here hx rfl (hb hby dc35_1) rfl rfl hr)) ?_
  show oG p e below _ (s₁.setTop (mkF m 2 #[.val (.int y0), .val (.ref o0)] [(.ref o0), (.int y0)]))
  refine own_cs X0 hx hZ hown (hw _ (own_m 152 rfl)) (hw _ (own_m 153 rfl)) (hw _ (own_m 66 rfl)) (hw _ (own_m 154 rfl)) (by decide) (rm := { frames := 0, cells := 0, slots := 0, locals := 0 }) (rm_length_2 l Z a0 hw [] o0 y1 ls0 kc0 h0 n0 Z0 P0) (by decide) (W := 1) (by decide) (by decide) (by decide) e0 (by rw [hml]; rfl) (argsL := [(.ref o0)]) (lenOf own_pd11 rfl) (rest := [(.int y0)]) rfl rfl (Nat.le_of_eq rfl) (hb hby dc35_2) ?_
  intro _ T1 L1 X1 hQ1
  obtain ⟨rfl, N1q, e1⟩ := hQ1
  have N1 := Fr.app N0 N1q
  show oG p e below _ (T1.setTop (mkF m 5 #[.val (.int y0), .val (.ref o0)] [(.int (y1 >>> ((1 : Int32) &&& 31))), (.int y0)]))
  refine own_cs X1 hx hZ hown (hw _ (own_m 155 rfl)) (hw _ (own_m 89 rfl)) (hw _ (own_m 11 rfl)) (hw _ (own_m 90 rfl)) (by decide) (rm := { frames := 1, cells := 0, slots := 0, locals := 14 }) (rm_checkIndex_4 l Z a0 hw [] y0 (y1 >>> ((1 : Int32) &&& 31)) vv0 h0 n0 Z0 P1 hvv0 hb0 hb1) (by decide) (W := 0) (by decide) (by decide) (by decide) e1 (by rw [hml]; rfl) (argsL := [(.int y0), (.int (y1 >>> ((1 : Int32) &&& 31)))]) (lenOf own_pd13 rfl) (rest := []) rfl rfl (Nat.le_of_eq rfl) (hb hby dc35_5) ?_
  intro _ T2 L2 X2 hQ2
  obtain ⟨rfl, N2q, e2⟩ := hQ2
  have N2 := Fr.app N1 N2q
  show oG p e below _ (T2.setTop (mkF m 8 #[.val (.int y0), .val (.ref o0)] []))
  exact own_ret0 X2 hx hlk Bd.returns (hb hby dc35_8) (by decide) (by decide) ⟨rfl, N2, e2⟩
theorem own_pd14 : parseMethodDescriptor "(I[B)V" = some ⟨[.int, (.array .byte)], none⟩ := by decide +kernel
theorem dc34_5 : decode jdk_52_method_83_code 5 = .ok (.aload_n 0, 1) := by decide +kernel
theorem dc34_6 : decode jdk_52_method_83_code 6 = .ok (.iload_n 1, 1) := by decide +kernel
theorem dc34_7 : decode jdk_52_method_83_code 7 = .ok (.invokestatic 71, 3) := by decide +kernel
theorem dc34_10 : decode jdk_52_method_83_code 10 = .ok (.ireturn, 1) := by decide +kernel
def Q_cu (Z : State) (c_ : Int32) (h0 : Heap) (n0 : Nat) (v : Option Value) (h : Heap) (L : List Loc) : Prop := v = some (.int c_) ∧ Fr n0 L ∧ h = h0
set_option maxRecDepth 65536 in
set_option maxHeartbeats 40000000 in
theorem rm_cu (l : Launch) (Z : State) (a0 : Array Value) (hw : ∀ d ∈ tables_1, d.before a0 Z = true) (ws : List Jvm.Cond) (t_ : Addr) (kt_ : ClassId) (nn_ : Int32) (vs_ : List Value) (i_ : Int32) (j_ : Nat) (c_ : Int32) (v_SIOOBE_FORMATTER : Value) (h0 : Heap) (n0 : Nat) (Z0 : n0 ≤ h0.size) (Kt_ : Arv Z h0 t_ kt_ .byte nn_ vs_ (.int (0 : Int32))) (hpc_ : own_pc vs_ nn_ i_ j_ c_) (S__assertionsDisabled : Sta Z h0 "java/lang/StringUTF16" "$assertionsDisabled" "Z" (.int (1 : Int32))) (S_HI_BYTE_SHIFT : Sta Z h0 "java/lang/StringUTF16" "HI_BYTE_SHIFT" "I" (.int (0 : Int32))) (S_LO_BYTE_SHIFT : Sta Z h0 "java/lang/StringUTF16" "LO_BYTE_SHIFT" "I" (.int (8 : Int32))) (S_SIOOBE_FORMATTER : Sta Z h0 "jdk/internal/util/Preconditions" "SIOOBE_FORMATTER" "Ljava/util/function/BiFunction;" v_SIOOBE_FORMATTER) (hv_SIOOBE_FORMATTER : v_SIOOBE_FORMATTER.isRef = true) (hi0 : ¬ (i_ < (0 : Int32))) (hi1 : i_ < (nn_ >>> ((1 : Int32) &&& 31))) :
    MetFree l (⟨"java/lang/StringUTF16", "charAt", "([BI)C"⟩ : MethodName) (head1 (Jvm.Cond.code (⟨"java/lang/StringUTF16", "charAt", "([BI)C"⟩ : MethodName) jdk_52_method_83_code 2 (some .char) :: ws) ({ frames := 3, cells := 0, slots := 0, locals := 40 } : Room)) (fun aA U => aA = #[(.ref t_), (.int i_)] ∧ Z.Warmed39 U.vm ∧ U.heap = h0) (fun _ _ _ _ _ => True) (fun _ U o U' => ∃ v L, o = .returned v ∧ Q_cu Z c_ h0 n0 v U'.heap L ∧ FrameEnd U o U' L ({ frames := 3, cells := 0, slots := 0, locals := 40 } : Room).cells ({ frames := 3, cells := 0, slots := 0, locals := 40 } : Room).slots) := by
  refine MetFree.of_bodySF (plainFor_of_name own_pn_java_lang_StringUTF16) hisR ?_
  intro p e s m args below meth c s₁ Bd hml0 hP hK
  obtain ⟨rfl, hZ, hh⟩ := hP
  have hx := Bd.exec
  have hby := Bd.bytes
  have hlk : meth.locks = false := BodyLoose.notSynchronized Bd
  have hml : c.maxLocals = 2 := hml0
  have hown : s.vm.findClass "java/lang/StringUTF16" = some m.cls := findClass_of_methodNamed Bd.named
  have hnm := (name_of_methodNamed Bd.named Bd.method).1
  have X0 : Stand p l e ({ frames := 3, cells := 0, slots := 0, locals := 40 } : Room) s m #[(.ref t_), (.int i_)] below meth c s₁ [] 0 0 := Stand.of_body Bd
  have e0 : s₁.heap = h0 := by rw [← hh, Bd.state]; rfl
  have N0 := Fr.nil n0
  show oG p e below (own_K s (Q_cu Z c_ h0 n0) ({ frames := 3, cells := 0, slots := 0, locals := 40 } : Room).cells ({ frames := 3, cells := 0, slots := 0, locals := 40 } : Room).slots) (s₁.setTop (entryFrame m #[(.ref t_), (.int i_)] 2))
  rw [(by first | (simp [entryFrame, mkF, argsToLocals, Value.category]; done) | rfl : entryFrame m #[(.ref t_), (.int i_)] 2 = mkF m 0 #[.val (.ref t_), .val (.int i_)] [])]
  show oG p e below _ (s₁.setTop (mkF m 0 #[.val (.ref t_), .val (.int i_)] []))
  refine og (fun _ hr => XS.iloadN X0.here hx rfl (hb hby dc34_0) rfl (XS.aloadN X0.here hx rfl (hb hby dc34_1) rfl rfl hr)) ?_
  show oG p e below _ (s₁.setTop (mkF m 2 #[.val (.ref t_), .val (.int i_)] [(.ref t_), (.int i_)]))
  refine own_cs X0 hx hZ hown (hw _ (own_m 149 rfl)) (hw _ (own_m 150 rfl)) (hw _ (own_m 66 rfl)) (hw _ (own_m 151 rfl)) (by decide) (rm := { frames := 2, cells := 0, slots := 0, locals := 27 }) (rm_checkIndex_5 l Z a0 hw [] i_ t_ nn_ vs_ kt_ v_SIOOBE_FORMATTER h0 n0 Z0 Kt_ S_SIOOBE_FORMATTER hv_SIOOBE_FORMATTER hi0 hi1) (by decide) (W := 0) (by decide) (by decide) (by decide) e0 (by rw [hml]; rfl) (argsL := [(.int i_), (.ref t_)]) (lenOf own_pd14 rfl) (rest := []) rfl rfl (Nat.le_of_eq rfl) (hb hby dc34_2) ?_
  intro _ T1 L1 X1 hQ1
  obtain ⟨rfl, N1q, e1⟩ := hQ1
  have N1 := Fr.app N0 N1q
  show oG p e below _ (T1.setTop (mkF m 5 #[.val (.ref t_), .val (.int i_)] []))
  refine og (fun _ hr => XS.aloadN X1.here hx rfl (hb hby dc34_5) rfl rfl (XS.iloadN X1.here hx rfl (hb hby dc34_6) rfl hr)) ?_
  show oG p e below _ (T1.setTop (mkF m 7 #[.val (.ref t_), .val (.int i_)] [(.int i_), (.ref t_)]))
  refine own_cs X1 hx hZ hown (hw _ (own_m 143 rfl)) (hw _ (own_m 144 rfl)) (hw _ (own_m 66 rfl)) (hw _ (own_m 145 rfl)) (by decide) (rm := { frames := 0, cells := 0, slots := 0, locals := 0 }) (rm_gc l Z a0 hw [] t_ kt_ nn_ vs_ i_ j_ c_ h0 n0 Z0 Kt_ hpc_ S__assertionsDisabled S_HI_BYTE_SHIFT S_LO_BYTE_SHIFT) (by decide) (W := 0) (by decide) (by decide) (by decide) e1 (by rw [hml]; rfl) (argsL := [(.ref t_), (.int i_)]) (lenOf own_pd7 rfl) (rest := []) rfl rfl (Nat.le_of_eq rfl) (hb hby dc34_7) ?_
  intro _ T2 L2 X2 hQ2
  obtain ⟨rfl, N2q, e2⟩ := hQ2
  have N2 := Fr.app N1 N2q
  show oG p e below _ (T2.setTop (mkF m 10 #[.val (.ref t_), .val (.int i_)] [(.int c_)]))
  exact own_retN X2 hx hlk Bd.returns (t := .char) (by simp) (hb hby dc34_10) (by decide) (by decide) ⟨(congrArg (fun q => some (Value.int q)) (own_nch hpc_.2.2.2.2.2.2.2.2.1 hpc_.2.2.2.2.2.2.2.2.2)), N2, e2⟩
theorem dc16_0 : decode jdk_42_method_56_code 0 = .ok (.aload_n 0, 1) := by decide +kernel
theorem dc16_1 : decode jdk_42_method_56_code 1 = .ok (.invokevirtual 492, 3) := by decide +kernel
theorem dc17_0 : decode jdk_42_method_154_code 0 = .ok (.getstatic 38, 3) := by decide +kernel
theorem dc17_3 : decode jdk_42_method_154_code 3 = .ok (.ifCond .eq 14, 3) := by decide +kernel
theorem dc17_6 : decode jdk_42_method_154_code 6 = .ok (.aload_n 0, 1) := by decide +kernel
theorem dc17_7 : decode jdk_42_method_154_code 7 = .ok (.getfield 15, 3) := by decide +kernel
theorem dc17_10 : decode jdk_42_method_154_code 10 = .ok (.ifCond .ne 7, 3) := by decide +kernel
theorem dc17_17 : decode jdk_42_method_154_code 17 = .ok (.iconst 0, 1) := by decide +kernel
theorem dc17_18 : decode jdk_42_method_154_code 18 = .ok (.ireturn, 1) := by decide +kernel
def Q_isLatin1_6 (Z : State) (h0 : Heap) (n0 : Nat) (v : Option Value) (h : Heap) (L : List Loc) : Prop := v = some (.int (0 : Int32)) ∧ Fr n0 L ∧ h = h0
set_option maxRecDepth 65536 in
set_option maxHeartbeats 40000000 in
theorem rm_isLatin1_6 (l : Launch) (Z : State) (a0 : Array Value) (hw : ∀ d ∈ tables_1, d.before a0 Z = true) (ws : List Jvm.Cond) (o0 : Addr) (y0 : Int32) (h0 : Heap) (n0 : Nat) (Z0 : n0 ≤ h0.size) (P0 : Sta Z h0 "java/lang/String" "COMPACT_STRINGS" "Z" (.int y0)) (P1 : Fld Z h0 o0 "java/lang/String" "coder" "B" (.int (1 : Int32))) (hb0 : ¬ (y0 = (0 : Int32))) :
    MetFree l (⟨"java/lang/String", "isLatin1", "()Z"⟩ : MethodName) (head1 (Jvm.Cond.code (⟨"java/lang/String", "isLatin1", "()Z"⟩ : MethodName) jdk_42_method_154_code 1 (some .boolean) :: ws) ({ frames := 0, cells := 0, slots := 0, locals := 0 } : Room)) (fun aA U => aA = #[(.ref o0)] ∧ Z.Warmed39 U.vm ∧ U.heap = h0) (fun _ _ _ _ _ => True) (fun _ U o U' => ∃ v L, o = .returned v ∧ Q_isLatin1_6 Z h0 n0 v U'.heap L ∧ FrameEnd U o U' L ({ frames := 0, cells := 0, slots := 0, locals := 0 } : Room).cells ({ frames := 0, cells := 0, slots := 0, locals := 0 } : Room).slots) := by
  refine MetFree.of_bodySF (plainFor_of_name own_pn_java_lang_String) hisR ?_
  intro p e s m args below meth c s₁ Bd hml0 hP hK
  obtain ⟨rfl, hZ, hh⟩ := hP
  have hx := Bd.exec
  have hby := Bd.bytes
  have hlk : meth.locks = false := BodyLoose.notSynchronized Bd
  have hml : c.maxLocals = 1 := hml0
  have hown : s.vm.findClass "java/lang/String" = some m.cls := findClass_of_methodNamed Bd.named
  have hnm := (name_of_methodNamed Bd.named Bd.method).1
  have X0 : Stand p l e ({ frames := 0, cells := 0, slots := 0, locals := 0 } : Room) s m #[(.ref o0)] below meth c s₁ [] 0 0 := Stand.of_body Bd
  have e0 : s₁.heap = h0 := by rw [← hh, Bd.state]; rfl
  have N0 := Fr.nil n0
  show oG p e below (own_K s (Q_isLatin1_6 Z h0 n0) ({ frames := 0, cells := 0, slots := 0, locals := 0 } : Room).cells ({ frames := 0, cells := 0, slots := 0, locals := 0 } : Room).slots) (s₁.setTop (entryFrame m #[(.ref o0)] 1))
  rw [(by first | (simp [entryFrame, mkF, argsToLocals, Value.category]; done) | rfl : entryFrame m #[(.ref o0)] 1 = mkF m 0 #[.val (.ref o0)] [])]
  show oG p e below _ (s₁.setTop (mkF m 0 #[.val (.ref o0)] []))
  obtain ⟨T1, X1, e1, st1⟩ := getS2 X0 hx hZ hown (host := "") (Or.inl (hw _ (own_m 44 rfl))) Via.refl e0 P0 (g := (mkF m 0 #[.val (.ref o0)] [])) rfl (hb hby dc17_0)
  refine og st1 ?_
  show oG p e below _ (T1.setTop (mkF m 3 #[.val (.ref o0)] [(.int y0)]))
  refine og (fun _ hr => XS.ifNo X1.here hx rfl (hb hby dc17_3) rfl ((if0 _ _).trans (feq hb0).1) hr) ?_
  show oG p e below _ (T1.setTop (mkF m 6 #[.val (.ref o0)] []))
  refine og (fun _ hr => XS.aloadN X1.here hx rfl (hb hby dc17_6) rfl rfl hr) ?_
  show oG p e below _ (T1.setTop (mkF m 7 #[.val (.ref o0)] [(.ref o0)]))
  obtain ⟨T2, X2, e2, st2⟩ := getF X1 hx hZ hown (host := "") (Or.inl (hw _ (own_m 29 rfl))) Via.refl e1 P1 (g := (mkF m 7 #[.val (.ref o0)] [(.ref o0)])) rfl rfl (hb hby dc17_7)
  refine og st2 ?_
  show oG p e below _ (T2.setTop (mkF m 10 #[.val (.ref o0)] [(.int (1 : Int32))]))
  refine og (fun _ hr => XS.ifYes X2.here hx rfl (pc0 := 10) (pc' := 17) rfl (hb hby dc17_10) rfl ((if0 _ _).trans (feq (by decide)).2) (by decide) (by decide) (XS.iconst X2.here hx rfl (hb hby dc17_17) hr)) ?_
  show oG p e below _ (T2.setTop (mkF m 18 #[.val (.ref o0)] [(.int (0 : Int32))]))
  exact own_retN X2 hx hlk Bd.returns (t := .boolean) (by simp) (hb hby dc17_18) (by decide) (by decide) ⟨rfl, N0, e2⟩
theorem own_pd15 : parseMethodDescriptor "()Z" = some ⟨[], some .boolean⟩ := by decide +kernel
theorem dc16_4 : decode jdk_42_method_56_code 4 = .ok (.ifCond .eq 12, 3) := by decide +kernel
theorem dc16_16 : decode jdk_42_method_56_code 16 = .ok (.aload_n 0, 1) := by decide +kernel
theorem dc16_17 : decode jdk_42_method_56_code 17 = .ok (.getfield 9, 3) := by decide +kernel
theorem dc16_20 : decode jdk_42_method_56_code 20 = .ok (.iload_n 1, 1) := by decide +kernel
theorem dc16_21 : decode jdk_42_method_56_code 21 = .ok (.invokestatic 498, 3) := by decide +kernel
theorem dc16_24 : decode jdk_42_method_56_code 24 = .ok (.ireturn, 1) := by decide +kernel
def Q_chw (Z : State) (c_ : Int32) (h0 : Heap) (n0 : Nat) (v : Option Value) (h : Heap) (L : List Loc) : Prop := v = some (.int c_) ∧ Fr n0 L ∧ h = h0
set_option maxRecDepth 65536 in
set_option maxHeartbeats 40000000 in
theorem rm_chw (l : Launch) (Z : State) (a0 : Array Value) (hw : ∀ d ∈ tables_1, d.before a0 Z = true) (ws : List Jvm.Cond) (s_ : Addr) (t_ : Addr) (kt_ : ClassId) (nn_ : Int32) (vs_ : List Value) (i_ : Int32) (j_ : Nat) (c_ : Int32) (i_COMPACT_STRINGS : Int32) (v_SIOOBE_FORMATTER : Value) (h0 : Heap) (n0 : Nat) (Z0 : n0 ≤ h0.size) (Es_ : Exa Z h0 s_ "java/lang/String") (Cs_ : Fld Z h0 s_ "java/lang/String" "coder" "B" (.int (1 : Int32))) (Vs_ : Fld Z h0 s_ "java/lang/String" "value" "[B" (.ref t_)) (Kt_ : Arv Z h0 t_ kt_ .byte nn_ vs_ (.int (0 : Int32))) (hpc_ : own_pc vs_ nn_ i_ j_ c_) (S_COMPACT_STRINGS : Sta Z h0 "java/lang/String" "COMPACT_STRINGS" "Z" (.int i_COMPACT_STRINGS)) (hs_COMPACT_STRINGS : ¬ (i_COMPACT_STRINGS = (0 : Int32))) (S__assertionsDisabled : Sta Z h0 "java/lang/StringUTF16" "$assertionsDisabled" "Z" (.int (1 : Int32))) (S_HI_BYTE_SHIFT : Sta Z h0 "java/lang/StringUTF16" "HI_BYTE_SHIFT" "I" (.int (0 : Int32))) (S_LO_BYTE_SHIFT : Sta Z h0 "java/lang/StringUTF16" "LO_BYTE_SHIFT" "I" (.int (8 : Int32))) (S_SIOOBE_FORMATTER : Sta Z h0 "jdk/internal/util/Preconditions" "SIOOBE_FORMATTER" "Ljava/util/function/BiFunction;" v_SIOOBE_FORMATTER) (hv_SIOOBE_FORMATTER : v_SIOOBE_FORMATTER.isRef = true) (hi0 : ¬ (i_ < (0 : Int32))) (hi1 : i_ < (nn_ >>> ((1 : Int32) &&& 31))) :
    MetFree l (⟨"java/lang/String", "charAt", "(I)C"⟩ : MethodName) (head1 (Jvm.Cond.code (⟨"java/lang/String", "charAt", "(I)C"⟩ : MethodName) jdk_42_method_56_code 2 (some .char) :: ws) ({ frames := 4, cells := 0, slots := 0, locals := 53 } : Room)) (fun aA U => aA = #[(.ref s_), (.int i_)] ∧ Z.Warmed39 U.vm ∧ U.heap = h0) (fun _ _ _ _ _ => True) (fun _ U o U' => ∃ v L, o = .returned v ∧ Q_chw Z c_ h0 n0 v U'.heap L ∧ FrameEnd U o U' L ({ frames := 4, cells := 0, slots := 0, locals := 53 } : Room).cells ({ frames := 4, cells := 0, slots := 0, locals := 53 } : Room).slots) := by
  refine MetFree.of_bodySF (plainFor_of_name own_pn_java_lang_String) hisR ?_
  intro p e s m args below meth c s₁ Bd hml0 hP hK
  obtain ⟨rfl, hZ, hh⟩ := hP
  have hx := Bd.exec
  have hby := Bd.bytes
  have hlk : meth.locks = false := BodyLoose.notSynchronized Bd
  have hml : c.maxLocals = 2 := hml0
  have hown : s.vm.findClass "java/lang/String" = some m.cls := findClass_of_methodNamed Bd.named
  have hnm := (name_of_methodNamed Bd.named Bd.method).1
  have X0 : Stand p l e ({ frames := 4, cells := 0, slots := 0, locals := 53 } : Room) s m #[(.ref s_), (.int i_)] below meth c s₁ [] 0 0 := Stand.of_body Bd
  have e0 : s₁.heap = h0 := by rw [← hh, Bd.state]; rfl
  have N0 := Fr.nil n0
  show oG p e below (own_K s (Q_chw Z c_ h0 n0) ({ frames := 4, cells := 0, slots := 0, locals := 53 } : Room).cells ({ frames := 4, cells := 0, slots := 0, locals := 53 } : Room).slots) (s₁.setTop (entryFrame m #[(.ref s_), (.int i_)] 2))
  rw [(by first | (simp [entryFrame, mkF, argsToLocals, Value.category]; done) | rfl : entryFrame m #[(.ref s_), (.int i_)] 2 = mkF m 0 #[.val (.ref s_), .val (.int i_)] [])]
  show oG p e below _ (s₁.setTop (mkF m 0 #[.val (.ref s_), .val (.int i_)] []))
  refine og (fun _ hr => XS.aloadN X0.here hx rfl (hb hby dc16_0) rfl rfl hr) ?_
  show oG p e below _ (s₁.setTop (mkF m 1 #[.val (.ref s_), .val (.int i_)] [(.ref s_)]))
  refine own_cv X0 hx hZ hown (notFace_of_selects (args := #[]) (mvT hZ (hw _ (own_m 82 rfl)))) (hw _ (own_m 79 rfl)) (hw _ (own_m 80 rfl)) (hw _ (own_m 82 rfl)) (hw _ (own_m 81 rfl)) (hw _ (own_m 11 rfl)) (hw _ (own_m 83 rfl)) (by decide) Es_ (rm := { frames := 0, cells := 0, slots := 0, locals := 0 }) (rm_isLatin1_6 l Z a0 hw [] s_ i_COMPACT_STRINGS h0 n0 Z0 S_COMPACT_STRINGS Cs_ hs_COMPACT_STRINGS) (by decide) (W := 0) (by decide) (by decide) (by decide) e0 (by rw [hml]; rfl) (argsL := []) (lenOf own_pd15 rfl) (rest := []) rfl rfl (Nat.le_of_eq rfl) (hb hby dc16_1) ?_
  intro _ T1 L1 X1 hQ1
  obtain ⟨rfl, N1q, e1⟩ := hQ1
  have N1 := Fr.app N0 N1q
  show oG p e below _ (T1.setTop (mkF m 4 #[.val (.ref s_), .val (.int i_)] [(.int (0 : Int32))]))
  refine og (fun _ hr => XS.ifYes X1.here hx rfl (pc0 := 4) (pc' := 16) rfl (hb hby dc16_4) rfl ((if0 _ _).trans (teq (by decide)).1) (by decide) (by decide) (XS.aloadN X1.here hx rfl (hb hby dc16_16) rfl rfl hr)) ?_
  show oG p e below _ (T1.setTop (mkF m 17 #[.val (.ref s_), .val (.int i_)] [(.ref s_)]))
  obtain ⟨T2, X2, e2, st2⟩ := getF X1 hx hZ hown (host := "") (Or.inl (hw _ (own_m 28 rfl))) Via.refl e1 Vs_ (g := (mkF m 17 #[.val (.ref s_), .val (.int i_)] [(.ref s_)])) rfl rfl (hb hby dc16_17)
  refine og st2 ?_
  show oG p e below _ (T2.setTop (mkF m 20 #[.val (.ref s_), .val (.int i_)] [(.ref t_)]))
  refine og (fun _ hr => XS.iloadN X2.here hx rfl (hb hby dc16_20) rfl hr) ?_
  show oG p e below _ (T2.setTop (mkF m 21 #[.val (.ref s_), .val (.int i_)] [(.int i_), (.ref t_)]))
  refine own_cs X2 hx hZ hown (hw _ (own_m 146 rfl)) (hw _ (own_m 147 rfl)) (hw _ (own_m 66 rfl)) (hw _ (own_m 148 rfl)) (by decide) (rm := { frames := 3, cells := 0, slots := 0, locals := 40 }) (rm_cu l Z a0 hw [] t_ kt_ nn_ vs_ i_ j_ c_ v_SIOOBE_FORMATTER h0 n0 Z0 Kt_ hpc_ S__assertionsDisabled S_HI_BYTE_SHIFT S_LO_BYTE_SHIFT S_SIOOBE_FORMATTER hv_SIOOBE_FORMATTER hi0 hi1) (by decide) (W := 0) (by decide) (by decide) (by decide) e2 (by rw [hml]; rfl) (argsL := [(.ref t_), (.int i_)]) (lenOf own_pd7 rfl) (rest := []) rfl rfl (Nat.le_of_eq rfl) (hb hby dc16_21) ?_
  intro _ T3 L3 X3 hQ3
  obtain ⟨rfl, N3q, e3⟩ := hQ3
  have N3 := Fr.app N1 N3q
  show oG p e below _ (T3.setTop (mkF m 24 #[.val (.ref s_), .val (.int i_)] [(.int c_)]))
  exact own_retN X3 hx hlk Bd.returns (t := .char) (by simp) (hb hby dc16_24) (by decide) (by decide) ⟨(congrArg (fun q => some (Value.int q)) (own_nch hpc_.2.2.2.2.2.2.2.2.1 hpc_.2.2.2.2.2.2.2.2.2)), N3, e3⟩
section OwnStr2
variable {p : Program} {l : Launch} {e : Env} {R : Room} {s : State} {m : MethodId} {args : Array Value} {below : List Frame} {meth : Method} {c : Code} {T : State} {locs : List Loc} {cells slots : Nat} {Z : State} {a0 : Array Value} {h : Heap} {own : String} {index kI W pc : Nat} {Ls : Array Slot} {rest : List Value} {KK : State → Outcome → Prop}
theorem own_chx (X : Stand p l e R s m args below meth c T locs cells slots) (hx : p.tables.exec = Jvm.exec) (hZ : Z.Warmed39 s.vm) (hown : s.vm.findClass own = some m.cls) (hw : ∀ d ∈ tables_1, d.before a0 Z = true)
    (w1 : (Cond.methodLink own index (⟨"java/lang/String", "charAt", "(I)C"⟩ : MethodName)).before a0 Z = true) (w2 : (Cond.declares (⟨"java/lang/String", "charAt", "(I)C"⟩ : MethodName)).before a0 Z = true) (w5 : (Cond.selects "java/lang/String" (⟨"java/lang/String", "charAt", "(I)C"⟩ : MethodName) (⟨"java/lang/String", "charAt", "(I)C"⟩ : MethodName)).before a0 Z = true) (w6 : (Cond.instanceMethod (⟨"java/lang/String", "charAt", "(I)C"⟩ : MethodName)).before a0 Z = true) (wi : (Cond.instantiable "java/lang/String" kI).before a0 Z = true) (w3 : (Cond.initialized "java/lang/String").before a0 Z = true) {bytes : ByteArray} {maxL : Nat}
    {x t : Addr} {kb : ClassId} (cs : List Int32) {N2 z cd : Int32} {vs : List Value} {fm : Value} (i : Nat) {j : Int32} (E1 : Exa Z h x "java/lang/String") (V1 : Fld Z h x "java/lang/String" "value" "[B" (.ref t)) (C1 : Fld Z h x "java/lang/String" "coder" "B" (.int cd)) (K1 : Arv Z h t kb .byte N2 vs (.int 0)) (hc1 : StrChars.Road.CodA cs cd N2 vs) (hb1 : ∀ c ∈ cs, ¬ c < 0 ∧ ¬ (65535 : Int32) < c)
    (S : Sta Z h "java/lang/String" "COMPACT_STRINGS" "Z" (.int z)) (hz : ¬ z = 0) (F : Sta Z h "jdk/internal/util/Preconditions" "SIOOBE_FORMATTER" "Ljava/util/function/BiFunction;" fm) (rf : fm.isRef = true) (S1 : Sta Z h "java/lang/StringUTF16" "$assertionsDisabled" "Z" (.int (1 : Int32))) (S2 : Sta Z h "java/lang/StringUTF16" "HI_BYTE_SHIFT" "I" (.int (0 : Int32))) (S3 : Sta Z h "java/lang/StringUTF16" "LO_BYTE_SHIFT" "I" (.int (8 : Int32)))
    (l1 : cs.length ≤ 5) (hi : i < cs.length) (hj : Int32.ofNat i = j) {n0 : Nat} (hn0 : n0 ≤ h.size) (hfr : 5 ≤ R.frames) (hlo : W + 66 ≤ R.locals) (hcc : cells ≤ R.cells) (hss : slots ≤ R.slots) (eT : T.heap = h) (hsz : Ls.size = c.maxLocals) (hW : (rest.map fun v => v.category).sum ≤ W) (hd : decode c.code pc = .ok (.invokevirtual index, 3))
    (k : ∀ (T' : State) (L : List Loc), Stand p l e R s m args below meth c T' (locs ++ L) cells slots → Fr n0 L → T'.heap = h → oG p e below KK (T'.setTop (mkF m (pc + 3) Ls (.int (cs.getD i 0) :: rest)))) :
    oG p e below KK (T.setTop (mkF m pc Ls (.int j :: .ref x :: rest))) := by
  rcases hc1 with ⟨rfl, q⟩ | ⟨rfl, q1, q2, q3⟩
  · exact own_chs X hx hZ hown hw w1 w2 w5 w6 wi cs i E1 V1 C1 K1 (Or.inl ⟨rfl, q⟩) hb1 S hz F rf (Nat.le_trans l1 (by decide)) hi hj.symm (by omega) (W := W) (by omega) hcc hss eT hsz hW hd (fun T' X' e' => k T' [] (by rw [List.append_nil]; exact X') (Fr.nil n0) e')
  · have q4 := own_pcw q1 q2 hb1 l1 hi hj rfl
    refine own_cv X hx hZ hown (notFace_of_selects (args := #[]) (mvT hZ w5)) w1 w2 w5 w6 w3 (hw _ (own_m 78 rfl)) (by decide) E1 (rm := { frames := 4, cells := 0, slots := 0, locals := 53 }) (rm_chw l Z a0 hw [] x t kb N2 vs j (2 * i) (cs.getD i 0) z fm h n0 hn0 E1 C1 V1 K1 q4.1 S hz S1 S2 S3 F rf q4.2.1 q4.2.2) (by show 4 + 1 ≤ R.frames; omega) (W := W) (by show W + (2 + 11) + 53 ≤ R.locals; omega) hcc hss eT hsz (argsL := [.int j]) (lenOf own_pd1 rfl) (rest := rest) rfl rfl hW hd ?_
    intro v T' L X' hQ
    obtain ⟨rfl, N', e'⟩ := hQ
    exact k T' L X' N' e'
end OwnStr2
theorem dc26_0 : decode jdk_29_method_69_code 0 = .ok (.iload_n 0, 1) := by decide +kernel
theorem dc26_1 : decode jdk_29_method_69_code 1 = .ok (.iload_n 1, 1) := by decide +kernel
theorem dc26_2 : decode jdk_29_method_69_code 2 = .ok (.if_icmp .gt 7, 3) := by decide +kernel
theorem dc26_9 : decode jdk_29_method_69_code 9 = .ok (.iload_n 1, 1) := by decide +kernel
theorem dc26_10 : decode jdk_29_method_69_code 10 = .ok (.ireturn, 1) := by decide +kernel
theorem dc26_5 : decode jdk_29_method_69_code 5 = .ok (.iload_n 0, 1) := by decide +kernel
theorem dc26_6 : decode jdk_29_method_69_code 6 = .ok (.goto 4, 3) := by decide +kernel
def own_mn (a_ : Int32) (b_ : Int32) : Int32 := (if b_ < a_ then b_ else a_)
def Q_mn (Z : State) (a_ : Int32) (b_ : Int32) (h0 : Heap) (n0 : Nat) (v : Option Value) (h : Heap) (L : List Loc) : Prop := v = some (.int (own_mn a_ b_)) ∧ Fr n0 L ∧ h = h0
set_option maxRecDepth 65536 in
set_option maxHeartbeats 40000000 in
theorem rm_mn (l : Launch) (Z : State) (a0 : Array Value) (hw : ∀ d ∈ tables_1, d.before a0 Z = true) (ws : List Jvm.Cond) (a_ : Int32) (b_ : Int32) (h0 : Heap) (n0 : Nat) (Z0 : n0 ≤ h0.size) :
    MetFree l (⟨"java/lang/Math", "min", "(II)I"⟩ : MethodName) (head1 (Jvm.Cond.code (⟨"java/lang/Math", "min", "(II)I"⟩ : MethodName) jdk_29_method_69_code 2 (some .int) :: ws) ({ frames := 0, cells := 0, slots := 0, locals := 0 } : Room)) (fun aA U => aA = #[(.int a_), (.int b_)] ∧ Z.Warmed39 U.vm ∧ U.heap = h0) (fun _ _ _ _ _ => True) (fun _ U o U' => ∃ v L, o = .returned v ∧ Q_mn Z a_ b_ h0 n0 v U'.heap L ∧ FrameEnd U o U' L ({ frames := 0, cells := 0, slots := 0, locals := 0 } : Room).cells ({ frames := 0, cells := 0, slots := 0, locals := 0 } : Room).slots) := by
  refine MetFree.of_bodySF (Jvm.Free.JP.mathPlain rfl (by decide +kernel)) hisR ?_
  intro p e s m args below meth c s₁ Bd hml0 hP hK
  obtain ⟨rfl, hZ, hh⟩ := hP
  have hx := Bd.exec
  have hby := Bd.bytes
  have hlk : meth.locks = false := BodyLoose.notSynchronized Bd
  have hml : c.maxLocals = 2 := hml0
  have hown : s.vm.findClass "java/lang/Math" = some m.cls := findClass_of_methodNamed Bd.named
  have hnm := (name_of_methodNamed Bd.named Bd.method).1
  have X0 : Stand p l e ({ frames := 0, cells := 0, slots := 0, locals := 0 } : Room) s m #[(.int a_), (.int b_)] below meth c s₁ [] 0 0 := Stand.of_body Bd
  have e0 : s₁.heap = h0 := by rw [← hh, Bd.state]; rfl
  have N0 := Fr.nil n0
  show oG p e below (own_K s (Q_mn Z a_ b_ h0 n0) ({ frames := 0, cells := 0, slots := 0, locals := 0 } : Room).cells ({ frames := 0, cells := 0, slots := 0, locals := 0 } : Room).slots) (s₁.setTop (entryFrame m #[(.int a_), (.int b_)] 2))
  rw [(by first | (simp [entryFrame, mkF, argsToLocals, Value.category]; done) | rfl : entryFrame m #[(.int a_), (.int b_)] 2 = mkF m 0 #[.val (.int a_), .val (.int b_)] [])]
  show oG p e below _ (s₁.setTop (mkF m 0 #[.val (.int a_), .val (.int b_)] []))
  refine og (fun _ hr => XS.iloadN X0.here hx rfl (hb hby dc26_0) rfl (XS.iloadN X0.here hx rfl (hb hby dc26_1) rfl hr)) ?_
  show oG p e below _ (s₁.setTop (mkF m 2 #[.val (.int a_), .val (.int b_)] [(.int b_), (.int a_)]))
  rcases Classical.em (b_ < a_) with c1 | c1
  · skip
    refine og (fun _ hr => XS.icmpYes X0.here hx rfl (pc0 := 2) (pc' := 9) rfl (hb hby dc26_2) rfl (tlt c1).2.2.1 (by decide) (by decide) hr) ?_
    show oG p e below _ (s₁.setTop (mkF m 9 #[.val (.int a_), .val (.int b_)] []))
    refine og (fun _ hr => XS.iloadN X0.here hx rfl (hb hby dc26_9) rfl hr) ?_
    show oG p e below _ (s₁.setTop (mkF m 10 #[.val (.int a_), .val (.int b_)] [(.int b_)]))
    exact own_retI X0 hx hlk Bd.returns (hb hby dc26_10) (by decide) (by decide) ⟨(congrArg (fun q => some (Value.int q)) (show b_ = own_mn a_ b_ from Eq.symm (by unfold own_mn; rw [if_pos c1]))), N0, e0⟩
  refine og (fun _ hr => XS.icmpNo X0.here hx rfl (hb hby dc26_2) rfl (flt c1).2.2.1 hr) ?_
  show oG p e below _ (s₁.setTop (mkF m 5 #[.val (.int a_), .val (.int b_)] []))
  refine og (fun _ hr => XS.iloadN X0.here hx rfl (hb hby dc26_5) rfl (XS.goto X0.here hx rfl (pc0 := 6) (pc' := 10) rfl (hb hby dc26_6) (by decide) (by decide) hr)) ?_
  show oG p e below _ (s₁.setTop (mkF m 10 #[.val (.int a_), .val (.int b_)] [(.int a_)]))
  exact own_retI X0 hx hlk Bd.returns (hb hby dc26_10) (by decide) (by decide) ⟨(congrArg (fun q => some (Value.int q)) (show a_ = own_mn a_ b_ from Eq.symm (by unfold own_mn; rw [if_neg c1]))), N0, e0⟩
theorem own_mnr {a b : Int32} (h : ¬ a < b) : own_mn a b = b := by
  unfold own_mn
  by_cases q : b < a
  · rw [if_pos q]
  · rw [if_neg q]; apply Int32.toInt_inj.mp; simp only [Int32.lt_iff_toInt_lt] at h q; omega
theorem own_cpl {us : List Value} {n : Nat} (d : Value) : (List.replicate n d).take (0 : Int32).toNatClampNeg ++ us ++ (List.replicate n d).drop ((0 : Int32).toNatClampNeg + n) = us := by
  rw [show (0 : Int32).toNatClampNeg = 0 from rfl]; simp
theorem dc24_0 : decode jdk_65_method_133_code 0 = .ok (.iload_n 1, 1) := by decide +kernel
theorem dc24_1 : decode jdk_65_method_133_code 1 = .ok (.iload_n 2, 1) := by decide +kernel
theorem dc24_2 : decode jdk_65_method_133_code 2 = .ok (.invokestatic 343, 3) := by decide +kernel
theorem dc25_0 : decode jdk_65_method_131_code 0 = .ok (.iload_n 1, 1) := by decide +kernel
theorem dc25_1 : decode jdk_65_method_131_code 1 = .ok (.iload_n 0, 1) := by decide +kernel
theorem dc25_2 : decode jdk_65_method_131_code 2 = .ok (.if_icmp .ge 35, 3) := by decide +kernel
theorem dc25_37 : decode jdk_65_method_131_code 37 = .ok (.return_, 1) := by decide +kernel
theorem own_pn_java_util_Arrays : plainName "java/util/Arrays" = true := by first | (simp [plainName, overriddenIn]; done) | decide +kernel
def Q_checkLength_7 (Z : State) (h0 : Heap) (n0 : Nat) (v : Option Value) (h : Heap) (L : List Loc) : Prop := v = none ∧ Fr n0 L ∧ h = h0
set_option maxRecDepth 65536 in
set_option maxHeartbeats 40000000 in
theorem rm_checkLength_7 (l : Launch) (Z : State) (a0 : Array Value) (hw : ∀ d ∈ tables_1, d.before a0 Z = true) (ws : List Jvm.Cond) (y0 : Int32) (y1 : Int32) (h0 : Heap) (n0 : Nat) (Z0 : n0 ≤ h0.size) (hb0 : ¬ (y1 < y0)) :
    MetFree l (⟨"java/util/Arrays", "checkLength", "(II)V"⟩ : MethodName) (head1 (Jvm.Cond.code (⟨"java/util/Arrays", "checkLength", "(II)V"⟩ : MethodName) jdk_65_method_131_code 2 none :: ws) ({ frames := 0, cells := 0, slots := 0, locals := 0 } : Room)) (fun aA U => aA = #[(.int y0), (.int y1)] ∧ Z.Warmed39 U.vm ∧ U.heap = h0) (fun _ _ _ _ _ => True) (fun _ U o U' => ∃ v L, o = .returned v ∧ Q_checkLength_7 Z h0 n0 v U'.heap L ∧ FrameEnd U o U' L ({ frames := 0, cells := 0, slots := 0, locals := 0 } : Room).cells ({ frames := 0, cells := 0, slots := 0, locals := 0 } : Room).slots) := by
  refine MetFree.of_bodySF (plainFor_of_name own_pn_java_util_Arrays) hisR ?_
  intro p e s m args below meth c s₁ Bd hml0 hP hK
  obtain ⟨rfl, hZ, hh⟩ := hP
  have hx := Bd.exec
  have hby := Bd.bytes
  have hlk : meth.locks = false := BodyLoose.notSynchronized Bd
  have hml : c.maxLocals = 2 := hml0
  have hown : s.vm.findClass "java/util/Arrays" = some m.cls := findClass_of_methodNamed Bd.named
  have hnm := (name_of_methodNamed Bd.named Bd.method).1
  have X0 : Stand p l e ({ frames := 0, cells := 0, slots := 0, locals := 0 } : Room) s m #[(.int y0), (.int y1)] below meth c s₁ [] 0 0 := Stand.of_body Bd
  have e0 : s₁.heap = h0 := by rw [← hh, Bd.state]; rfl
  have N0 := Fr.nil n0
  show oG p e below (own_K s (Q_checkLength_7 Z h0 n0) ({ frames := 0, cells := 0, slots := 0, locals := 0 } : Room).cells ({ frames := 0, cells := 0, slots := 0, locals := 0 } : Room).slots) (s₁.setTop (entryFrame m #[(.int y0), (.int y1)] 2))
  rw [(by first | (simp [entryFrame, mkF, argsToLocals, Value.category]; done) | rfl : entryFrame m #[(.int y0), (.int y1)] 2 = mkF m 0 #[.val (.int y0), .val (.int y1)] [])]
  show oG p e below _ (s₁.setTop (mkF m 0 #[.val (.int y0), .val (.int y1)] []))
  refine og (fun _ hr => XS.iloadN X0.here hx rfl (hb hby dc25_0) rfl (XS.iloadN X0.here hx rfl (hb hby dc25_1) rfl hr)) ?_
  show oG p e below _ (s₁.setTop (mkF m 2 #[.val (.int y0), .val (.int y1)] [(.int y0), (.int y1)]))
  refine og (fun _ hr => XS.icmpYes X0.here hx rfl (pc0 := 2) (pc' := 37) rfl (hb hby dc25_2) rfl (flt hb0).2.1 (by decide) (by decide) hr) ?_
  show oG p e below _ (s₁.setTop (mkF m 37 #[.val (.int y0), .val (.int y1)] []))
  exact own_ret0 X0 hx hlk Bd.returns (hb hby dc25_37) (by decide) (by decide) ⟨rfl, N0, e0⟩
theorem dc24_5 : decode jdk_65_method_133_code 5 = .ok (.iload_n 2, 1) := by decide +kernel
theorem dc24_6 : decode jdk_65_method_133_code 6 = .ok (.iload_n 1, 1) := by decide +kernel
theorem dc24_7 : decode jdk_65_method_133_code 7 = .ok (.isub, 1) := by decide +kernel
theorem dc24_8 : decode jdk_65_method_133_code 8 = .ok (.istore_n 3, 1) := by decide +kernel
theorem dc24_9 : decode jdk_65_method_133_code 9 = .ok (.iload_n 3, 1) := by decide +kernel
theorem dc24_10 : decode jdk_65_method_133_code 10 = .ok (.newarray .byte, 2) := by decide +kernel
theorem dc24_12 : decode jdk_65_method_133_code 12 = .ok (.astore 4, 2) := by decide +kernel
theorem dc24_14 : decode jdk_65_method_133_code 14 = .ok (.aload_n 0, 1) := by decide +kernel
theorem dc24_15 : decode jdk_65_method_133_code 15 = .ok (.iload_n 1, 1) := by decide +kernel
theorem dc24_16 : decode jdk_65_method_133_code 16 = .ok (.aload 4, 2) := by decide +kernel
theorem dc24_18 : decode jdk_65_method_133_code 18 = .ok (.iconst 0, 1) := by decide +kernel
theorem dc24_19 : decode jdk_65_method_133_code 19 = .ok (.aload_n 0, 1) := by decide +kernel
theorem dc24_20 : decode jdk_65_method_133_code 20 = .ok (.arraylength, 1) := by decide +kernel
theorem dc24_21 : decode jdk_65_method_133_code 21 = .ok (.iload_n 1, 1) := by decide +kernel
theorem dc24_22 : decode jdk_65_method_133_code 22 = .ok (.isub, 1) := by decide +kernel
theorem dc24_23 : decode jdk_65_method_133_code 23 = .ok (.iload_n 3, 1) := by decide +kernel
theorem dc24_24 : decode jdk_65_method_133_code 24 = .ok (.invokestatic 304, 3) := by decide +kernel
theorem own_pd16 : parseMethodDescriptor "(II)I" = some ⟨[.int, .int], some .int⟩ := by decide +kernel
theorem dc24_27 : decode jdk_65_method_133_code 27 = .ok (.invokestatic 150, 3) := by decide +kernel
theorem dc24_30 : decode jdk_65_method_133_code 30 = .ok (.aload 4, 2) := by decide +kernel
theorem dc24_32 : decode jdk_65_method_133_code 32 = .ok (.areturn, 1) := by decide +kernel
def Q_crb (Z : State) (vs_ : List Value) (f_ : Int32) (g_ : Int32) (fN_ : Nat) (gN_ : Nat) (h0 : Heap) (n0 : Nat) (v : Option Value) (h : Heap) (L : List Loc) : Prop := (∃ (a : Addr) (k : ClassId), v = some (.ref a) ∧ Fr n0 L ∧ Keep h0 h [] ∧ n0 ≤ a ∧ h0.size ≤ a ∧ Exa Z h a "[B" ∧ Arv Z h a k .byte (g_ - f_) (own_subv vs_ fN_ (gN_ - fN_)) (.int (0 : Int32)))
set_option maxRecDepth 65536 in
set_option maxHeartbeats 40000000 in
theorem rm_crb (l : Launch) (Z : State) (a0 : Array Value) (hw : ∀ d ∈ tables_1, d.before a0 Z = true) (ws : List Jvm.Cond) (t_ : Addr) (kt_ : ClassId) (nn_ : Int32) (vs_ : List Value) (f_ : Int32) (g_ : Int32) (fN_ : Nat) (gN_ : Nat) (nN_ : Nat) (h0 : Heap) (n0 : Nat) (Z0 : n0 ≤ h0.size) (Kt_ : Arv Z h0 t_ kt_ .byte nn_ vs_ (.int (0 : Int32))) (hf_ : Int32.ofNat fN_ = f_) (hg_ : Int32.ofNat gN_ = g_) (hnn_ : Int32.ofNat nN_ = nn_) (hfg_ : fN_ ≤ gN_) (hgn_ : gN_ ≤ nN_) (hn10_ : nN_ ≤ 10) :
    MetFree l (⟨"java/util/Arrays", "copyOfRangeByte", "([BII)[B"⟩ : MethodName) (head1 (Jvm.Cond.code (⟨"java/util/Arrays", "copyOfRangeByte", "([BII)[B"⟩ : MethodName) jdk_65_method_133_code 5 (some (.array .byte)) :: ws) ({ frames := 1, cells := 1, slots := 10, locals := 40 } : Room)) (fun aA U => aA = #[(.ref t_), (.int f_), (.int g_)] ∧ Z.Warmed39 U.vm ∧ U.heap = h0) (fun _ _ _ _ _ => True) (fun _ U o U' => ∃ v L, o = .returned v ∧ Q_crb Z vs_ f_ g_ fN_ gN_ h0 n0 v U'.heap L ∧ FrameEnd U o U' L ({ frames := 1, cells := 1, slots := 10, locals := 40 } : Room).cells ({ frames := 1, cells := 1, slots := 10, locals := 40 } : Room).slots) := by
  refine MetFree.of_bodySF (plainFor_of_name own_pn_java_util_Arrays) hisR ?_
  intro p e s m args below meth c s₁ Bd hml0 hP hK
  obtain ⟨rfl, hZ, hh⟩ := hP
  have hx := Bd.exec
  have hby := Bd.bytes
  have hlk : meth.locks = false := BodyLoose.notSynchronized Bd
  have hml : c.maxLocals = 5 := hml0
  have hown : s.vm.findClass "java/util/Arrays" = some m.cls := findClass_of_methodNamed Bd.named
  have hnm := (name_of_methodNamed Bd.named Bd.method).1
  have X0 : Stand p l e ({ frames := 1, cells := 1, slots := 10, locals := 40 } : Room) s m #[(.ref t_), (.int f_), (.int g_)] below meth c s₁ [] 0 0 := Stand.of_body Bd
  have e0 : s₁.heap = h0 := by rw [← hh, Bd.state]; rfl
  have N0 := Fr.nil n0
  have hq_ := own_cpb hf_ hg_ hnn_ hfg_ hgn_ hn10_
  have hgf_ : ¬ (g_ < f_) := hq_.2.1
  have hgz_ : ¬ ((g_ - f_) < (0 : Int32)) := hq_.2.2.1
  have K0 : Keep h0 h0 [] := Keep.refl _ _
  show oG p e below (own_K s (Q_crb Z vs_ f_ g_ fN_ gN_ h0 n0) ({ frames := 1, cells := 1, slots := 10, locals := 40 } : Room).cells ({ frames := 1, cells := 1, slots := 10, locals := 40 } : Room).slots) (s₁.setTop (entryFrame m #[(.ref t_), (.int f_), (.int g_)] 5))
  rw [(by first | (simp [entryFrame, mkF, argsToLocals, Value.category]; done) | rfl : entryFrame m #[(.ref t_), (.int f_), (.int g_)] 5 = mkF m 0 #[.val (.ref t_), .val (.int f_), .val (.int g_), .unset, .unset] [])]
  show oG p e below _ (s₁.setTop (mkF m 0 #[.val (.ref t_), .val (.int f_), .val (.int g_), .unset, .unset] []))
  refine og (fun _ hr => XS.iloadN X0.here hx rfl (hb hby dc24_0) rfl (XS.iloadN X0.here hx rfl (hb hby dc24_1) rfl hr)) ?_
  show oG p e below _ (s₁.setTop (mkF m 2 #[.val (.ref t_), .val (.int f_), .val (.int g_), .unset, .unset] [(.int g_), (.int f_)]))
  refine own_cs X0 hx hZ hown (hw _ (own_m 108 rfl)) (hw _ (own_m 109 rfl)) (hw _ (own_m 103 rfl)) (hw _ (own_m 110 rfl)) (by decide) (rm := { frames := 0, cells := 0, slots := 0, locals := 0 }) (rm_checkLength_7 l Z a0 hw [] f_ g_ h0 n0 Z0 hgf_) (by decide) (W := 0) (by decide) (by decide) (by decide) e0 (by rw [hml]; rfl) (argsL := [(.int f_), (.int g_)]) (lenOf own_pd13 rfl) (rest := []) rfl rfl (Nat.le_of_eq rfl) (hb hby dc24_2) ?_
  intro _ T1 L1 X1 hQ1
  obtain ⟨rfl, N1q, e1⟩ := hQ1
  have N1 := Fr.app N0 N1q
  show oG p e below _ (T1.setTop (mkF m 5 #[.val (.ref t_), .val (.int f_), .val (.int g_), .unset, .unset] []))
  refine og (fun _ hr => XS.iloadN X1.here hx rfl (hb hby dc24_5) rfl (XS.iloadN X1.here hx rfl (hb hby dc24_6) rfl (XS.isub X1.here hx rfl (hb hby dc24_7) rfl (XS.istoreN X1.here hx rfl (hb hby dc24_8) rfl (l' := #[.val (.ref t_), .val (.int f_), .val (.int g_), .val (.int (g_ - f_)), .unset]) rfl (XS.iloadN X1.here hx rfl (hb hby dc24_9) rfl hr))))) ?_
  show oG p e below _ (T1.setTop (mkF m 10 #[.val (.ref t_), .val (.int f_), .val (.int g_), .val (.int (g_ - f_)), .unset] [(.int (g_ - f_))]))
  obtain ⟨T2, h2, k2, X2, e2, E2, A2, EA2, st2⟩ := newPE X1 hx hZ (hw _ (own_m 23 rfl)) e1 (g := (mkF m 10 #[.val (.ref t_), .val (.int f_), .val (.int g_), .val (.int (g_ - f_)), .unset] [(.int (g_ - f_))])) rfl (hb hby dc24_10) rfl hgz_ (cap := 10) (by rw [hq_.2.2.2.1]; omega) (by decide) (by decide) (by decide) (ad := "[B") (by decide)
  obtain ⟨b2, g2⟩ : ∃ z, z = h0.size := ⟨_, rfl⟩
  rw [← g2] at A2 EA2 st2
  have ge3 : n0 ≤ b2 := Nat.le_trans Z0 (Nat.le_of_eq g2.symm)
  have sz4 : h0.size ≤ b2 := Nat.le_trans K0.1 (Nat.le_of_eq g2.symm)
  refine og st2 ?_
  have f5 : Arv Z h2 b2 k2 .byte (g_ - f_) (List.replicate ((g_ - f_)).toNatClampNeg (.int (0 : Int32))) (.int (0 : Int32)) := (Arv.new A2 hgz_).pad (pad_rep [] (.int (0 : Int32)) _)
  show oG p e below _ (T2.setTop (mkF m 12 #[.val (.ref t_), .val (.int f_), .val (.int g_), .val (.int (g_ - f_)), .unset] [(.ref b2)]))
  have f6 := (Kt_.ext E2)
  refine og (fun _ hr => XS.astore X2.here hx rfl (hb hby dc24_12) rfl rfl (l' := #[.val (.ref t_), .val (.int f_), .val (.int g_), .val (.int (g_ - f_)), .val (.ref b2)]) rfl (XS.aloadN X2.here hx rfl (hb hby dc24_14) rfl rfl (XS.iloadN X2.here hx rfl (hb hby dc24_15) rfl (XS.aload X2.here hx rfl (hb hby dc24_16) rfl rfl (XS.iconst X2.here hx rfl (hb hby dc24_18) (XS.aloadN X2.here hx rfl (hb hby dc24_19) rfl rfl (own_alen X2 hx hZ e2 f6 rfl rfl (hb hby dc24_20) (XS.iloadN X2.here hx rfl (hb hby dc24_21) rfl (XS.isub X2.here hx rfl (hb hby dc24_22) rfl (XS.iloadN X2.here hx rfl (hb hby dc24_23) rfl hr)))))))))) ?_
  show oG p e below _ (T2.setTop (mkF m 24 #[.val (.ref t_), .val (.int f_), .val (.int g_), .val (.int (g_ - f_)), .val (.ref b2)] [(.int (g_ - f_)), (.int (nn_ - f_)), (.int (0 : Int32)), (.ref b2), (.int f_), (.ref t_)]))
  have Z8 := (Nat.le_trans Z0 E2.1)
  refine own_cs X2 hx hZ hown (hw _ (own_m 111 rfl)) (hw _ (own_m 112 rfl)) (hw _ (own_m 113 rfl)) (hw _ (own_m 114 rfl)) (by decide) (rm := { frames := 0, cells := 0, slots := 0, locals := 0 }) (rm_mn l Z a0 hw [] (nn_ - f_) (g_ - f_) h2 n0 Z8 ) (by decide) (W := 4) (by decide) (by decide) (by decide) e2 (by rw [hml]; rfl) (argsL := [(.int (nn_ - f_)), (.int (g_ - f_))]) (lenOf own_pd16 rfl) (rest := [(.int (0 : Int32)), (.ref b2), (.int f_), (.ref t_)]) rfl rfl (Nat.le_of_eq rfl) (hb hby dc24_24) ?_
  intro _ T7 L7 X7 hQ7
  obtain ⟨rfl, N7q, e7⟩ := hQ7
  have N7 := Fr.app N1 N7q
  show oG p e below _ (T7.setTop (mkF m 27 #[.val (.ref t_), .val (.int f_), .val (.int g_), .val (.int (g_ - f_)), .val (.ref b2)] [(.int (own_mn (nn_ - f_) (g_ - f_))), (.int (0 : Int32)), (.ref b2), (.int f_), (.ref t_)]))
  have em9 : (own_mn (nn_ - f_) (g_ - f_)) = (g_ - f_) := own_mnr hq_.2.2.2.2.2.2.2.1
  rw [em9]
  show oG p e below _ (T7.setTop (mkF m 27 #[.val (.ref t_), .val (.int f_), .val (.int g_), .val (.int (g_ - f_)), .val (.ref b2)] [(.int (g_ - f_)), (.int (0 : Int32)), (.ref b2), (.int f_), (.ref t_)]))
  obtain ⟨T10, h10, L10, X10, e10, N10, K10, A10, st10⟩ := cpA X7 hx hZ hown (hw _ (own_m 115 rfl)) (hw _ (own_m 118 rfl)) (hw _ (own_m 116 rfl)) (hw _ (own_m 117 rfl)) e7 f6 f5 (us := own_subv vs_ fN_ (gN_ - fN_)) (Or.inl ⟨rfl, rfl⟩) hq_.1 (by decide) hq_.2.2.1 (by rw [hq_.2.2.2.2.2.1, hq_.2.2.2.1, hq_.2.2.2.2.2.2.1]; omega) (Nat.le_of_eq (Nat.zero_add _)) (by unfold own_subv; rw [hq_.2.2.2.2.2.1, hq_.2.2.2.1]) (by rw [List.length_replicate]; exact Nat.le_of_eq (Nat.zero_add _)) N7 ge3 (g := (mkF m 27 #[.val (.ref t_), .val (.int f_), .val (.int g_), .val (.int (g_ - f_)), .val (.ref b2)] [(.int (g_ - f_)), (.int (0 : Int32)), (.ref b2), (.int f_), (.ref t_)])) rfl (by rw [hml]; rfl) rfl (hb hby dc24_27) (by decide) (W := 0) (by show 2 * 0 + _ ≤ _; exact Nat.le_of_eq rfl) (by decide)
  refine og st10 ?_
  have f11 : Arv Z h10 b2 k2 .byte (g_ - f_) (own_subv vs_ fN_ (gN_ - fN_)) (.int (0 : Int32)) := own_cpl (us := (own_subv vs_ fN_ (gN_ - fN_))) (n := ((g_ - f_)).toNatClampNeg) (.int (0 : Int32)) ▸ A10
  show oG p e below _ (T10.setTop (mkF m 30 #[.val (.ref t_), .val (.int f_), .val (.int g_), .val (.int (g_ - f_)), .val (.ref b2)] []))
  refine og (fun _ hr => XS.aload X10.here hx rfl (hb hby dc24_30) rfl rfl hr) ?_
  show oG p e below _ (T10.setTop (mkF m 32 #[.val (.ref t_), .val (.int f_), .val (.int g_), .val (.int (g_ - f_)), .val (.ref b2)] [(.ref b2)]))
  have f12 := (EA2.keep K10)
  have K13 := ((K0.ext E2).trans K10 (allS (Or.inr sz4) all0))
  exact own_retR X10 hx hlk Bd.returns rfl rfl (hb hby dc24_32) (by decide) (by decide) (by rw [e10]; exact ⟨b2, k2, rfl, N10, K13, ge3, sz4, f12, f11⟩)
theorem dc23_0 : decode jdk_65_method_132_code 0 = .ok (.iload_n 1, 1) := by decide +kernel
theorem dc23_1 : decode jdk_65_method_132_code 1 = .ok (.ifCond .ne 9, 3) := by decide +kernel
theorem dc23_4 : decode jdk_65_method_132_code 4 = .ok (.iload_n 2, 1) := by decide +kernel
theorem dc23_5 : decode jdk_65_method_132_code 5 = .ok (.aload_n 0, 1) := by decide +kernel
theorem dc23_6 : decode jdk_65_method_132_code 6 = .ok (.arraylength, 1) := by decide +kernel
theorem dc23_7 : decode jdk_65_method_132_code 7 = .ok (.if_icmp .eq 10, 3) := by decide +kernel
theorem dc23_10 : decode jdk_65_method_132_code 10 = .ok (.aload_n 0, 1) := by decide +kernel
theorem dc23_11 : decode jdk_65_method_132_code 11 = .ok (.iload_n 1, 1) := by decide +kernel
theorem dc23_12 : decode jdk_65_method_132_code 12 = .ok (.iload_n 2, 1) := by decide +kernel
theorem dc23_13 : decode jdk_65_method_132_code 13 = .ok (.invokestatic 339, 3) := by decide +kernel
theorem own_pd17 : parseMethodDescriptor "([BII)[B" = some ⟨[(.array .byte), .int, .int], some (.array .byte)⟩ := by decide +kernel
theorem dc23_16 : decode jdk_65_method_132_code 16 = .ok (.areturn, 1) := by decide +kernel
def Q_cor (Z : State) (vs_ : List Value) (f_ : Int32) (g_ : Int32) (fN_ : Nat) (gN_ : Nat) (h0 : Heap) (n0 : Nat) (v : Option Value) (h : Heap) (L : List Loc) : Prop := (∃ (a : Addr) (k : ClassId), v = some (.ref a) ∧ Fr n0 L ∧ Keep h0 h [] ∧ n0 ≤ a ∧ h0.size ≤ a ∧ Exa Z h a "[B" ∧ Arv Z h a k .byte (g_ - f_) (own_subv vs_ fN_ (gN_ - fN_)) (.int (0 : Int32)))
set_option maxRecDepth 65536 in
set_option maxHeartbeats 40000000 in
theorem rm_cor (l : Launch) (Z : State) (a0 : Array Value) (hw : ∀ d ∈ tables_1, d.before a0 Z = true) (ws : List Jvm.Cond) (t_ : Addr) (kt_ : ClassId) (nn_ : Int32) (vs_ : List Value) (f_ : Int32) (g_ : Int32) (fN_ : Nat) (gN_ : Nat) (nN_ : Nat) (h0 : Heap) (n0 : Nat) (Z0 : n0 ≤ h0.size) (Kt_ : Arv Z h0 t_ kt_ .byte nn_ vs_ (.int (0 : Int32))) (hf_ : Int32.ofNat fN_ = f_) (hg_ : Int32.ofNat gN_ = g_) (hnn_ : Int32.ofNat nN_ = nn_) (hfg_ : fN_ ≤ gN_) (hgn_ : gN_ ≤ nN_) (hn10_ : nN_ ≤ 10) (hnw_ : ¬ (fN_ = 0 ∧ gN_ = nN_)) :
    MetFree l (⟨"java/util/Arrays", "copyOfRange", "([BII)[B"⟩ : MethodName) (head1 (Jvm.Cond.code (⟨"java/util/Arrays", "copyOfRange", "([BII)[B"⟩ : MethodName) jdk_65_method_132_code 3 (some (.array .byte)) :: ws) ({ frames := 2, cells := 1, slots := 10, locals := 56 } : Room)) (fun aA U => aA = #[(.ref t_), (.int f_), (.int g_)] ∧ Z.Warmed39 U.vm ∧ U.heap = h0) (fun _ _ _ _ _ => True) (fun _ U o U' => ∃ v L, o = .returned v ∧ Q_cor Z vs_ f_ g_ fN_ gN_ h0 n0 v U'.heap L ∧ FrameEnd U o U' L ({ frames := 2, cells := 1, slots := 10, locals := 56 } : Room).cells ({ frames := 2, cells := 1, slots := 10, locals := 56 } : Room).slots) := by
  refine MetFree.of_bodySF (plainFor_of_name own_pn_java_util_Arrays) hisR ?_
  intro p e s m args below meth c s₁ Bd hml0 hP hK
  obtain ⟨rfl, hZ, hh⟩ := hP
  have hx := Bd.exec
  have hby := Bd.bytes
  have hlk : meth.locks = false := BodyLoose.notSynchronized Bd
  have hml : c.maxLocals = 3 := hml0
  have hown : s.vm.findClass "java/util/Arrays" = some m.cls := findClass_of_methodNamed Bd.named
  have hnm := (name_of_methodNamed Bd.named Bd.method).1
  have X0 : Stand p l e ({ frames := 2, cells := 1, slots := 10, locals := 56 } : Room) s m #[(.ref t_), (.int f_), (.int g_)] below meth c s₁ [] 0 0 := Stand.of_body Bd
  have e0 : s₁.heap = h0 := by rw [← hh, Bd.state]; rfl
  have N0 := Fr.nil n0
  have hq_ := own_cpb hf_ hg_ hnn_ hfg_ hgn_ hn10_
  have K0 : Keep h0 h0 [] := Keep.refl _ _
  show oG p e below (own_K s (Q_cor Z vs_ f_ g_ fN_ gN_ h0 n0) ({ frames := 2, cells := 1, slots := 10, locals := 56 } : Room).cells ({ frames := 2, cells := 1, slots := 10, locals := 56 } : Room).slots) (s₁.setTop (entryFrame m #[(.ref t_), (.int f_), (.int g_)] 3))
  rw [(by first | (simp [entryFrame, mkF, argsToLocals, Value.category]; done) | rfl : entryFrame m #[(.ref t_), (.int f_), (.int g_)] 3 = mkF m 0 #[.val (.ref t_), .val (.int f_), .val (.int g_)] [])]
  show oG p e below _ (s₁.setTop (mkF m 0 #[.val (.ref t_), .val (.int f_), .val (.int g_)] []))
  refine og (fun _ hr => XS.iloadN X0.here hx rfl (hb hby dc23_0) rfl hr) ?_
  show oG p e below _ (s₁.setTop (mkF m 1 #[.val (.ref t_), .val (.int f_), .val (.int g_)] [(.int f_)]))
  rcases Classical.em (f_ = (0 : Int32)) with c1 | c1
  · skip
    refine og (fun _ hr => XS.ifNo X0.here hx rfl (hb hby dc23_1) rfl ((if0 _ _).trans (teq c1).2) hr) ?_
    show oG p e below _ (s₁.setTop (mkF m 4 #[.val (.ref t_), .val (.int f_), .val (.int g_)] []))
    refine og (fun _ hr => XS.iloadN X0.here hx rfl (hb hby dc23_4) rfl (XS.aloadN X0.here hx rfl (hb hby dc23_5) rfl rfl (own_alen X0 hx hZ e0 Kt_ rfl rfl (hb hby dc23_6) hr))) ?_
    show oG p e below _ (s₁.setTop (mkF m 7 #[.val (.ref t_), .val (.int f_), .val (.int g_)] [(.int nn_), (.int g_)]))
    have c2 : ¬ (g_ = nn_) := fun q => hnw_ ⟨hq_.2.2.2.2.2.2.2.2.1 c1, hq_.2.2.2.2.2.2.2.2.2 q⟩
    refine og (fun _ hr => XS.icmpNo X0.here hx rfl (hb hby dc23_7) rfl (feq c2).1 hr) ?_
    show oG p e below _ (s₁.setTop (mkF m 10 #[.val (.ref t_), .val (.int f_), .val (.int g_)] []))
    refine og (fun _ hr => XS.aloadN X0.here hx rfl (hb hby dc23_10) rfl rfl (XS.iloadN X0.here hx rfl (hb hby dc23_11) rfl (XS.iloadN X0.here hx rfl (hb hby dc23_12) rfl hr))) ?_
    show oG p e below _ (s₁.setTop (mkF m 13 #[.val (.ref t_), .val (.int f_), .val (.int g_)] [(.int g_), (.int f_), (.ref t_)]))
    refine own_cs X0 hx hZ hown (hw _ (own_m 105 rfl)) (hw _ (own_m 106 rfl)) (hw _ (own_m 103 rfl)) (hw _ (own_m 107 rfl)) (by decide) (rm := { frames := 1, cells := 1, slots := 10, locals := 40 }) (rm_crb l Z a0 hw [] t_ kt_ nn_ vs_ f_ g_ fN_ gN_ nN_ h0 n0 Z0 Kt_ hf_ hg_ hnn_ hfg_ hgn_ hn10_) (by decide) (W := 0) (by decide) (by decide) (by decide) e0 (by rw [hml]; rfl) (argsL := [(.ref t_), (.int f_), (.int g_)]) (lenOf own_pd17 rfl) (rest := []) rfl rfl (Nat.le_of_eq rfl) (hb hby dc23_13) ?_
    intro _ T3 L3 X3 hQ3
    obtain ⟨b3_0, kb3_0, rfl, N3q, K3, ge3_0, sz3_0, f3_0, f3_1⟩ := hQ3
    have N3 := Fr.app N0 N3q
    have sz4 : h0.size ≤ b3_0 := Nat.le_trans K0.1 sz3_0
    show oG p e below _ (T3.setTop (mkF m 16 #[.val (.ref t_), .val (.int f_), .val (.int g_)] [(.ref b3_0)]))
    have K5 := (K0.trans K3 all0)
    exact own_retR X3 hx hlk Bd.returns rfl rfl (hb hby dc23_16) (by decide) (by decide) (by exact ⟨b3_0, kb3_0, rfl, N3, K5, ge3_0, sz4, f3_0, f3_1⟩)
  refine og (fun _ hr => XS.ifYes X0.here hx rfl (pc0 := 1) (pc' := 10) rfl (hb hby dc23_1) rfl ((if0 _ _).trans (feq c1).2) (by decide) (by decide) hr) ?_
  show oG p e below _ (s₁.setTop (mkF m 10 #[.val (.ref t_), .val (.int f_), .val (.int g_)] []))
  refine og (fun _ hr => XS.aloadN X0.here hx rfl (hb hby dc23_10) rfl rfl (XS.iloadN X0.here hx rfl (hb hby dc23_11) rfl (XS.iloadN X0.here hx rfl (hb hby dc23_12) rfl hr))) ?_
  show oG p e below _ (s₁.setTop (mkF m 13 #[.val (.ref t_), .val (.int f_), .val (.int g_)] [(.int g_), (.int f_), (.ref t_)]))
  refine own_cs X0 hx hZ hown (hw _ (own_m 105 rfl)) (hw _ (own_m 106 rfl)) (hw _ (own_m 103 rfl)) (hw _ (own_m 107 rfl)) (by decide) (rm := { frames := 1, cells := 1, slots := 10, locals := 40 }) (rm_crb l Z a0 hw [] t_ kt_ nn_ vs_ f_ g_ fN_ gN_ nN_ h0 n0 Z0 Kt_ hf_ hg_ hnn_ hfg_ hgn_ hn10_) (by decide) (W := 0) (by decide) (by decide) (by decide) e0 (by rw [hml]; rfl) (argsL := [(.ref t_), (.int f_), (.int g_)]) (lenOf own_pd17 rfl) (rest := []) rfl rfl (Nat.le_of_eq rfl) (hb hby dc23_13) ?_
  intro _ T6 L6 X6 hQ6
  obtain ⟨b6_0, kb6_0, rfl, N6q, K6, ge6_0, sz6_0, f6_0, f6_1⟩ := hQ6
  have N6 := Fr.app N0 N6q
  have sz7 : h0.size ≤ b6_0 := Nat.le_trans K0.1 sz6_0
  show oG p e below _ (T6.setTop (mkF m 16 #[.val (.ref t_), .val (.int f_), .val (.int g_)] [(.ref b6_0)]))
  have K8 := (K0.trans K6 all0)
  exact own_retR X6 hx hlk Bd.returns rfl rfl (hb hby dc23_16) (by decide) (by decide) (by exact ⟨b6_0, kb6_0, rfl, N6, K8, ge6_0, sz7, f6_0, f6_1⟩)
theorem dc39_0 : decode jdk_52_method_22_code 0 = .ok (.iload_n 1, 1) := by decide +kernel
theorem dc39_1 : decode jdk_52_method_22_code 1 = .ok (.iload 4, 2) := by decide +kernel
theorem dc39_3 : decode jdk_52_method_22_code 3 = .ok (.aload_n 0, 1) := by decide +kernel
theorem dc39_4 : decode jdk_52_method_22_code 4 = .ok (.invokestatic 173, 3) := by decide +kernel
theorem dc40_0 : decode jdk_52_method_94_code 0 = .ok (.iload_n 0, 1) := by decide +kernel
theorem dc40_1 : decode jdk_52_method_94_code 1 = .ok (.iload_n 1, 1) := by decide +kernel
theorem dc40_2 : decode jdk_52_method_94_code 2 = .ok (.aload_n 2, 1) := by decide +kernel
theorem dc40_3 : decode jdk_52_method_94_code 3 = .ok (.invokestatic 48, 3) := by decide +kernel
theorem dc40_6 : decode jdk_52_method_94_code 6 = .ok (.invokestatic 419, 3) := by decide +kernel
theorem dc41_0 : decode jdk_42_method_157_code 0 = .ok (.iload_n 0, 1) := by decide +kernel
theorem dc41_1 : decode jdk_42_method_157_code 1 = .ok (.iload_n 1, 1) := by decide +kernel
theorem dc41_2 : decode jdk_42_method_157_code 2 = .ok (.iload_n 2, 1) := by decide +kernel
theorem dc41_3 : decode jdk_42_method_157_code 3 = .ok (.getstatic 1053, 3) := by decide +kernel
theorem dc41_6 : decode jdk_42_method_157_code 6 = .ok (.invokestatic 1065, 3) := by decide +kernel
theorem dc42_0 : decode jdk_41_method_13_code 0 = .ok (.iload_n 2, 1) := by decide +kernel
theorem dc42_1 : decode jdk_41_method_13_code 1 = .ok (.iload_n 0, 1) := by decide +kernel
theorem dc42_2 : decode jdk_41_method_13_code 2 = .ok (.ior, 1) := by decide +kernel
theorem dc42_3 : decode jdk_41_method_13_code 3 = .ok (.iload_n 1, 1) := by decide +kernel
theorem dc42_4 : decode jdk_41_method_13_code 4 = .ok (.ior, 1) := by decide +kernel
theorem dc42_5 : decode jdk_41_method_13_code 5 = .ok (.ifCond .lt 10, 3) := by decide +kernel
theorem dc42_8 : decode jdk_41_method_13_code 8 = .ok (.iload_n 1, 1) := by decide +kernel
theorem dc42_9 : decode jdk_41_method_13_code 9 = .ok (.iload_n 2, 1) := by decide +kernel
theorem dc42_10 : decode jdk_41_method_13_code 10 = .ok (.iload_n 0, 1) := by decide +kernel
theorem dc42_11 : decode jdk_41_method_13_code 11 = .ok (.isub, 1) := by decide +kernel
theorem dc42_12 : decode jdk_41_method_13_code 12 = .ok (.if_icmp .le 11, 3) := by decide +kernel
theorem dc42_23 : decode jdk_41_method_13_code 23 = .ok (.iload_n 0, 1) := by decide +kernel
theorem dc42_24 : decode jdk_41_method_13_code 24 = .ok (.ireturn, 1) := by decide +kernel
def Q_checkFromIndexSize_8 (Z : State) (y0 : Int32) (h0 : Heap) (n0 : Nat) (v : Option Value) (h : Heap) (L : List Loc) : Prop := v = some (.int y0) ∧ Fr n0 L ∧ h = h0
set_option maxRecDepth 65536 in
set_option maxHeartbeats 40000000 in
theorem rm_checkFromIndexSize_8 (l : Launch) (Z : State) (a0 : Array Value) (hw : ∀ d ∈ tables_1, d.before a0 Z = true) (ws : List Jvm.Cond) (y0 : Int32) (y1 : Int32) (y2 : Int32) (vv0 : Value) (h0 : Heap) (n0 : Nat) (Z0 : n0 ≤ h0.size) (hvv0 : vv0.isRef = true) (hb0 : ¬ (((y2 ||| y0) ||| y1) < (0 : Int32))) (hb1 : ¬ ((y2 - y0) < y1)) :
    MetFree l (⟨"jdk/internal/util/Preconditions", "checkFromIndexSize", "(IIILjava/util/function/BiFunction;)I"⟩ : MethodName) (head1 (Jvm.Cond.code (⟨"jdk/internal/util/Preconditions", "checkFromIndexSize", "(IIILjava/util/function/BiFunction;)I"⟩ : MethodName) jdk_41_method_13_code 4 (some .int) :: ws) ({ frames := 0, cells := 0, slots := 0, locals := 0 } : Room)) (fun aA U => aA = #[(.int y0), (.int y1), (.int y2), vv0] ∧ Z.Warmed39 U.vm ∧ U.heap = h0) (fun _ _ _ _ _ => True) (fun _ U o U' => ∃ v L, o = .returned v ∧ Q_checkFromIndexSize_8 Z y0 h0 n0 v U'.heap L ∧ FrameEnd U o U' L ({ frames := 0, cells := 0, slots := 0, locals := 0 } : Room).cells ({ frames := 0, cells := 0, slots := 0, locals := 0 } : Room).slots) := by
  refine MetFree.of_bodySF (plainFor_of_name own_pn_jdk_internal_util_Preconditions) hisR ?_
  intro p e s m args below meth c s₁ Bd hml0 hP hK
  obtain ⟨rfl, hZ, hh⟩ := hP
  have hx := Bd.exec
  have hby := Bd.bytes
  have hlk : meth.locks = false := BodyLoose.notSynchronized Bd
  have hml : c.maxLocals = 4 := hml0
  have hown : s.vm.findClass "jdk/internal/util/Preconditions" = some m.cls := findClass_of_methodNamed Bd.named
  have hnm := (name_of_methodNamed Bd.named Bd.method).1
  have X0 : Stand p l e ({ frames := 0, cells := 0, slots := 0, locals := 0 } : Room) s m #[(.int y0), (.int y1), (.int y2), vv0] below meth c s₁ [] 0 0 := Stand.of_body Bd
  have e0 : s₁.heap = h0 := by rw [← hh, Bd.state]; rfl
  have N0 := Fr.nil n0
  show oG p e below (own_K s (Q_checkFromIndexSize_8 Z y0 h0 n0) ({ frames := 0, cells := 0, slots := 0, locals := 0 } : Room).cells ({ frames := 0, cells := 0, slots := 0, locals := 0 } : Room).slots) (s₁.setTop (entryFrame m #[(.int y0), (.int y1), (.int y2), vv0] 4))
  rw [(by first | (simp [entryFrame, mkF, argsToLocals, Value.category]; done) | (have q := hvv0; revert q; cases vv0 <;> simp [entryFrame, mkF, argsToLocals, Value.category, Value.isRef]) | rfl : entryFrame m #[(.int y0), (.int y1), (.int y2), vv0] 4 = mkF m 0 #[.val (.int y0), .val (.int y1), .val (.int y2), .val vv0] [])]
  show oG p e below _ (s₁.setTop (mkF m 0 #[.val (.int y0), .val (.int y1), .val (.int y2), .val vv0] []))
  refine og (fun _ hr => XS.iloadN X0.here hx rfl (hb hby dc42_0) rfl (XS.iloadN X0.here hx rfl (hb hby dc42_1) rfl (XS.ior X0.here hx rfl (hb hby dc42_2) rfl (XS.iloadN X0.here hx rfl (hb hby dc42_3) rfl (XS.ior X0.here hx rfl (hb hby dc42_4) rfl hr))))) ?_
  show oG p e below _ (s₁.setTop (mkF m 5 #[.val (.int y0), .val (.int y1), .val (.int y2), .val vv0] [(.int ((y2 ||| y0) ||| y1))]))
  refine og (fun _ hr => XS.ifNo X0.here hx rfl (hb hby dc42_5) rfl ((if0 _ _).trans (flt hb0).1) hr) ?_
  show oG p e below _ (s₁.setTop (mkF m 8 #[.val (.int y0), .val (.int y1), .val (.int y2), .val vv0] []))
  refine og (fun _ hr => XS.iloadN X0.here hx rfl (hb hby dc42_8) rfl (XS.iloadN X0.here hx rfl (hb hby dc42_9) rfl (XS.iloadN X0.here hx rfl (hb hby dc42_10) rfl (XS.isub X0.here hx rfl (hb hby dc42_11) rfl hr)))) ?_
  show oG p e below _ (s₁.setTop (mkF m 12 #[.val (.int y0), .val (.int y1), .val (.int y2), .val vv0] [(.int (y2 - y0)), (.int y1)]))
  refine og (fun _ hr => XS.icmpYes X0.here hx rfl (pc0 := 12) (pc' := 23) rfl (hb hby dc42_12) rfl (flt hb1).2.2.2 (by decide) (by decide) hr) ?_
  show oG p e below _ (s₁.setTop (mkF m 23 #[.val (.int y0), .val (.int y1), .val (.int y2), .val vv0] []))
  refine og (fun _ hr => XS.iloadN X0.here hx rfl (hb hby dc42_23) rfl hr) ?_
  show oG p e below _ (s₁.setTop (mkF m 24 #[.val (.int y0), .val (.int y1), .val (.int y2), .val vv0] [(.int y0)]))
  exact own_retI X0 hx hlk Bd.returns (hb hby dc42_24) (by decide) (by decide) ⟨rfl, N0, e0⟩
theorem own_pd18 : parseMethodDescriptor "(IIILjava/util/function/BiFunction;)I" = some ⟨[.int, .int, .int, (.object "java/util/function/BiFunction")], some .int⟩ := by decide +kernel
theorem dc41_9 : decode jdk_42_method_157_code 9 = .ok (.ireturn, 1) := by decide +kernel
def Q_checkBoundsOffCount_9 (Z : State) (y0 : Int32) (h0 : Heap) (n0 : Nat) (v : Option Value) (h : Heap) (L : List Loc) : Prop := v = some (.int y0) ∧ Fr n0 L ∧ h = h0
set_option maxRecDepth 65536 in
set_option maxHeartbeats 40000000 in
theorem rm_checkBoundsOffCount_9 (l : Launch) (Z : State) (a0 : Array Value) (hw : ∀ d ∈ tables_1, d.before a0 Z = true) (ws : List Jvm.Cond) (y0 : Int32) (y1 : Int32) (y2 : Int32) (vv0 : Value) (h0 : Heap) (n0 : Nat) (Z0 : n0 ≤ h0.size) (P0 : Sta Z h0 "jdk/internal/util/Preconditions" "SIOOBE_FORMATTER" "Ljava/util/function/BiFunction;" vv0) (hvv0 : vv0.isRef = true) (hb0 : ¬ (((y2 ||| y0) ||| y1) < (0 : Int32))) (hb1 : ¬ ((y2 - y0) < y1)) :
    MetFree l (⟨"java/lang/String", "checkBoundsOffCount", "(III)I"⟩ : MethodName) (head1 (Jvm.Cond.code (⟨"java/lang/String", "checkBoundsOffCount", "(III)I"⟩ : MethodName) jdk_42_method_157_code 3 (some .int) :: ws) ({ frames := 1, cells := 0, slots := 0, locals := 15 } : Room)) (fun aA U => aA = #[(.int y0), (.int y1), (.int y2)] ∧ Z.Warmed39 U.vm ∧ U.heap = h0) (fun _ _ _ _ _ => True) (fun _ U o U' => ∃ v L, o = .returned v ∧ Q_checkBoundsOffCount_9 Z y0 h0 n0 v U'.heap L ∧ FrameEnd U o U' L ({ frames := 1, cells := 0, slots := 0, locals := 15 } : Room).cells ({ frames := 1, cells := 0, slots := 0, locals := 15 } : Room).slots) := by
  refine MetFree.of_bodySF (plainFor_of_name own_pn_java_lang_String) hisR ?_
  intro p e s m args below meth c s₁ Bd hml0 hP hK
  obtain ⟨rfl, hZ, hh⟩ := hP
  have hx := Bd.exec
  have hby := Bd.bytes
  have hlk : meth.locks = false := BodyLoose.notSynchronized Bd
  have hml : c.maxLocals = 3 := hml0
  have hown : s.vm.findClass "java/lang/String" = some m.cls := findClass_of_methodNamed Bd.named
  have hnm := (name_of_methodNamed Bd.named Bd.method).1
  have X0 : Stand p l e ({ frames := 1, cells := 0, slots := 0, locals := 15 } : Room) s m #[(.int y0), (.int y1), (.int y2)] below meth c s₁ [] 0 0 := Stand.of_body Bd
  have e0 : s₁.heap = h0 := by rw [← hh, Bd.state]; rfl
  have N0 := Fr.nil n0
  show oG p e below (own_K s (Q_checkBoundsOffCount_9 Z y0 h0 n0) ({ frames := 1, cells := 0, slots := 0, locals := 15 } : Room).cells ({ frames := 1, cells := 0, slots := 0, locals := 15 } : Room).slots) (s₁.setTop (entryFrame m #[(.int y0), (.int y1), (.int y2)] 3))
  rw [(by first | (simp [entryFrame, mkF, argsToLocals, Value.category]; done) | rfl : entryFrame m #[(.int y0), (.int y1), (.int y2)] 3 = mkF m 0 #[.val (.int y0), .val (.int y1), .val (.int y2)] [])]
  show oG p e below _ (s₁.setTop (mkF m 0 #[.val (.int y0), .val (.int y1), .val (.int y2)] []))
  refine og (fun _ hr => XS.iloadN X0.here hx rfl (hb hby dc41_0) rfl (XS.iloadN X0.here hx rfl (hb hby dc41_1) rfl (XS.iloadN X0.here hx rfl (hb hby dc41_2) rfl hr))) ?_
  show oG p e below _ (s₁.setTop (mkF m 3 #[.val (.int y0), .val (.int y1), .val (.int y2)] [(.int y2), (.int y1), (.int y0)]))
  obtain ⟨T1, X1, e1, st1⟩ := getS2 X0 hx hZ hown (host := "") (Or.inl (hw _ (own_m 54 rfl))) Via.refl e0 P0 (g := (mkF m 3 #[.val (.int y0), .val (.int y1), .val (.int y2)] [(.int y2), (.int y1), (.int y0)])) rfl (hb hby dc41_3)
  refine og st1 ?_
  show oG p e below _ (T1.setTop (mkF m 6 #[.val (.int y0), .val (.int y1), .val (.int y2)] [vv0, (.int y2), (.int y1), (.int y0)]))
  refine own_cs X1 hx hZ hown (hw _ (own_m 172 rfl)) (hw _ (own_m 173 rfl)) (hw _ (own_m 55 rfl)) (hw _ (own_m 174 rfl)) (by decide) (rm := { frames := 0, cells := 0, slots := 0, locals := 0 }) (rm_checkFromIndexSize_8 l Z a0 hw [] y0 y1 y2 vv0 h0 n0 Z0 hvv0 hb0 hb1) (by decide) (W := 0) (by decide) (by decide) (by decide) e1 (by rw [hml]; rfl) (argsL := [(.int y0), (.int y1), (.int y2), vv0]) (lenOf own_pd18 rfl) (rest := []) rfl rfl (Nat.le_of_eq rfl) (hb hby dc41_6) ?_
  intro _ T2 L2 X2 hQ2
  obtain ⟨rfl, N2q, e2⟩ := hQ2
  have N2 := Fr.app N0 N2q
  show oG p e below _ (T2.setTop (mkF m 9 #[.val (.int y0), .val (.int y1), .val (.int y2)] [(.int y0)]))
  exact own_retI X2 hx hlk Bd.returns (hb hby dc41_9) (by decide) (by decide) ⟨rfl, N2, e2⟩
theorem own_pd19 : parseMethodDescriptor "(III)I" = some ⟨[.int, .int, .int], some .int⟩ := by decide +kernel
theorem dc40_9 : decode jdk_52_method_94_code 9 = .ok (.pop, 1) := by decide +kernel
theorem dc40_10 : decode jdk_52_method_94_code 10 = .ok (.return_, 1) := by decide +kernel
def Q_checkBoundsOffCount_10 (Z : State) (h0 : Heap) (n0 : Nat) (v : Option Value) (h : Heap) (L : List Loc) : Prop := v = none ∧ Fr n0 L ∧ h = h0
set_option maxRecDepth 65536 in
set_option maxHeartbeats 40000000 in
theorem rm_checkBoundsOffCount_10 (l : Launch) (Z : State) (a0 : Array Value) (hw : ∀ d ∈ tables_1, d.before a0 Z = true) (ws : List Jvm.Cond) (y0 : Int32) (y1 : Int32) (o0 : Addr) (y2 : Int32) (ls0 : List Value) (kc0 : ClassId) (vv0 : Value) (h0 : Heap) (n0 : Nat) (Z0 : n0 ≤ h0.size) (P0 : Arv Z h0 o0 kc0 .byte y2 ls0 (.int (0 : Int32))) (P1 : Sta Z h0 "jdk/internal/util/Preconditions" "SIOOBE_FORMATTER" "Ljava/util/function/BiFunction;" vv0) (hvv0 : vv0.isRef = true) (hb0 : ¬ ((((y2 >>> ((1 : Int32) &&& 31)) ||| y0) ||| y1) < (0 : Int32))) (hb1 : ¬ (((y2 >>> ((1 : Int32) &&& 31)) - y0) < y1)) :
    MetFree l (⟨"java/lang/StringUTF16", "checkBoundsOffCount", "(II[B)V"⟩ : MethodName) (head1 (Jvm.Cond.code (⟨"java/lang/StringUTF16", "checkBoundsOffCount", "(II[B)V"⟩ : MethodName) jdk_52_method_94_code 3 none :: ws) ({ frames := 2, cells := 0, slots := 0, locals := 29 } : Room)) (fun aA U => aA = #[(.int y0), (.int y1), (.ref o0)] ∧ Z.Warmed39 U.vm ∧ U.heap = h0) (fun _ _ _ _ _ => True) (fun _ U o U' => ∃ v L, o = .returned v ∧ Q_checkBoundsOffCount_10 Z h0 n0 v U'.heap L ∧ FrameEnd U o U' L ({ frames := 2, cells := 0, slots := 0, locals := 29 } : Room).cells ({ frames := 2, cells := 0, slots := 0, locals := 29 } : Room).slots) := by
  refine MetFree.of_bodySF (plainFor_of_name own_pn_java_lang_StringUTF16) hisR ?_
  intro p e s m args below meth c s₁ Bd hml0 hP hK
  obtain ⟨rfl, hZ, hh⟩ := hP
  have hx := Bd.exec
  have hby := Bd.bytes
  have hlk : meth.locks = false := BodyLoose.notSynchronized Bd
  have hml : c.maxLocals = 3 := hml0
  have hown : s.vm.findClass "java/lang/StringUTF16" = some m.cls := findClass_of_methodNamed Bd.named
  have hnm := (name_of_methodNamed Bd.named Bd.method).1
  have X0 : Stand p l e ({ frames := 2, cells := 0, slots := 0, locals := 29 } : Room) s m #[(.int y0), (.int y1), (.ref o0)] below meth c s₁ [] 0 0 := Stand.of_body Bd
  have e0 : s₁.heap = h0 := by rw [← hh, Bd.state]; rfl
  have N0 := Fr.nil n0
  show oG p e below (own_K s (Q_checkBoundsOffCount_10 Z h0 n0) ({ frames := 2, cells := 0, slots := 0, locals := 29 } : Room).cells ({ frames := 2, cells := 0, slots := 0, locals := 29 } : Room).slots) (s₁.setTop (entryFrame m #[(.int y0), (.int y1), (.ref o0)] 3))
  rw [(by first | (simp [entryFrame, mkF, argsToLocals, Value.category]; done) | rfl : entryFrame m #[(.int y0), (.int y1), (.ref o0)] 3 = mkF m 0 #[.val (.int y0), .val (.int y1), .val (.ref o0)] [])]
  show oG p e below _ (s₁.setTop (mkF m 0 #[.val (.int y0), .val (.int y1), .val (.ref o0)] []))
  refine og (fun _ hr => XS.iloadN X0.here hx rfl (hb hby dc40_0) rfl (XS.iloadN X0.here hx rfl (hb hby dc40_1) rfl (XS.aloadN X0.here hx rfl (hb hby dc40_2) rfl rfl hr))) ?_
  show oG p e below _ (s₁.setTop (mkF m 3 #[.val (.int y0), .val (.int y1), .val (.ref o0)] [(.ref o0), (.int y1), (.int y0)]))
  refine own_cs X0 hx hZ hown (hw _ (own_m 152 rfl)) (hw _ (own_m 153 rfl)) (hw _ (own_m 66 rfl)) (hw _ (own_m 154 rfl)) (by decide) (rm := { frames := 0, cells := 0, slots := 0, locals := 0 }) (rm_length_2 l Z a0 hw [] o0 y2 ls0 kc0 h0 n0 Z0 P0) (by decide) (W := 2) (by decide) (by decide) (by decide) e0 (by rw [hml]; rfl) (argsL := [(.ref o0)]) (lenOf own_pd11 rfl) (rest := [(.int y1), (.int y0)]) rfl rfl (Nat.le_of_eq rfl) (hb hby dc40_3) ?_
  intro _ T1 L1 X1 hQ1
  obtain ⟨rfl, N1q, e1⟩ := hQ1
  have N1 := Fr.app N0 N1q
  show oG p e below _ (T1.setTop (mkF m 6 #[.val (.int y0), .val (.int y1), .val (.ref o0)] [(.int (y2 >>> ((1 : Int32) &&& 31))), (.int y1), (.int y0)]))
  refine own_cs X1 hx hZ hown (hw _ (own_m 169 rfl)) (hw _ (own_m 170 rfl)) (hw _ (own_m 11 rfl)) (hw _ (own_m 171 rfl)) (by decide) (rm := { frames := 1, cells := 0, slots := 0, locals := 15 }) (rm_checkBoundsOffCount_9 l Z a0 hw [] y0 y1 (y2 >>> ((1 : Int32) &&& 31)) vv0 h0 n0 Z0 P1 hvv0 hb0 hb1) (by decide) (W := 0) (by decide) (by decide) (by decide) e1 (by rw [hml]; rfl) (argsL := [(.int y0), (.int y1), (.int (y2 >>> ((1 : Int32) &&& 31)))]) (lenOf own_pd19 rfl) (rest := []) rfl rfl (Nat.le_of_eq rfl) (hb hby dc40_6) ?_
  intro _ T2 L2 X2 hQ2
  obtain ⟨rfl, N2q, e2⟩ := hQ2
  have N2 := Fr.app N1 N2q
  show oG p e below _ (T2.setTop (mkF m 9 #[.val (.int y0), .val (.int y1), .val (.ref o0)] [(.int y0)]))
  refine og (fun _ hr => XS.pop X2.here hx rfl (hb hby dc40_9) rfl rfl hr) ?_
  show oG p e below _ (T2.setTop (mkF m 10 #[.val (.int y0), .val (.int y1), .val (.ref o0)] []))
  exact own_ret0 X2 hx hlk Bd.returns (hb hby dc40_10) (by decide) (by decide) ⟨rfl, N2, e2⟩
theorem own_pd20 : parseMethodDescriptor "(II[B)V" = some ⟨[.int, .int, (.array .byte)], none⟩ := by decide +kernel
theorem dc39_7 : decode jdk_52_method_22_code 7 = .ok (.iconst 0, 1) := by decide +kernel
theorem dc39_8 : decode jdk_52_method_22_code 8 = .ok (.istore 5, 2) := by decide +kernel
theorem dc39_10 : decode jdk_52_method_22_code 10 = .ok (.iload 5, 2) := by decide +kernel
theorem dc39_12 : decode jdk_52_method_22_code 12 = .ok (.iload 4, 2) := by decide +kernel
theorem dc39_14 : decode jdk_52_method_22_code 14 = .ok (.if_icmp .ge 39, 3) := by decide +kernel
theorem dc39_53 : decode jdk_52_method_22_code 53 = .ok (.iload 4, 2) := by decide +kernel
theorem dc39_55 : decode jdk_52_method_22_code 55 = .ok (.ireturn, 1) := by decide +kernel
theorem dc39_17 : decode jdk_52_method_22_code 17 = .ok (.aload_n 0, 1) := by decide +kernel
theorem dc39_18 : decode jdk_52_method_22_code 18 = .ok (.iload_n 1, 1) := by decide +kernel
theorem dc39_19 : decode jdk_52_method_22_code 19 = .ok (.invokestatic 71, 3) := by decide +kernel
theorem dc39_22 : decode jdk_52_method_22_code 22 = .ok (.istore 6, 2) := by decide +kernel
theorem dc39_24 : decode jdk_52_method_22_code 24 = .ok (.iload 6, 2) := by decide +kernel
theorem dc39_26 : decode jdk_52_method_22_code 26 = .ok (.sipush 255, 3) := by decide +kernel
theorem dc39_29 : decode jdk_52_method_22_code 29 = .ok (.if_icmp .le 6, 3) := by decide +kernel
theorem dc39_32 : decode jdk_52_method_22_code 32 = .ok (.iload 5, 2) := by decide +kernel
theorem dc39_34 : decode jdk_52_method_22_code 34 = .ok (.ireturn, 1) := by decide +kernel
theorem dc39_35 : decode jdk_52_method_22_code 35 = .ok (.aload_n 2, 1) := by decide +kernel
theorem dc39_36 : decode jdk_52_method_22_code 36 = .ok (.iload_n 3, 1) := by decide +kernel
theorem dc39_37 : decode jdk_52_method_22_code 37 = .ok (.iload 6, 2) := by decide +kernel
theorem dc39_39 : decode jdk_52_method_22_code 39 = .ok (.i2b, 1) := by decide +kernel
theorem dc39_40 : decode jdk_52_method_22_code 40 = .ok (.bastore, 1) := by decide +kernel
theorem dc39_41 : decode jdk_52_method_22_code 41 = .ok (.iinc 1 1, 3) := by decide +kernel
theorem dc39_44 : decode jdk_52_method_22_code 44 = .ok (.iinc 3 1, 3) := by decide +kernel
theorem dc39_47 : decode jdk_52_method_22_code 47 = .ok (.iinc 5 1, 3) := by decide +kernel
theorem dc39_50 : decode jdk_52_method_22_code 50 = .ok (.goto (-40), 3) := by decide +kernel
def Q_cb (Z : State) (da_ : Addr) (kd_ : ClassId) (k_ : Int32) (cs_ : List Int32) (bN_ : Nat) (kN_ : Nat) (h0 : Heap) (n0 : Nat) (v : Option Value) (h : Heap) (L : List Loc) : Prop := (∃ (iN : Nat), v = some (.int (Int32.ofNat iN)) ∧ Fr n0 L ∧ Keep h0 h [da_] ∧ Arv Z h da_ kd_ .byte k_ (own_fill cs_ bN_ iN kN_) (.int (0 : Int32)) ∧ iN ≤ kN_ ∧ (∀ k, k < iN → ¬ (255 : Int32) < cs_.getD (bN_ + k) 0) ∧ (iN < kN_ → (255 : Int32) < cs_.getD (bN_ + iN) 0))
set_option maxRecDepth 65536 in
set_option maxHeartbeats 40000000 in
theorem rm_cb (l : Launch) (Z : State) (a0 : Array Value) (hw : ∀ d ∈ tables_1, d.before a0 Z = true) (ws : List Jvm.Cond) (t_ : Addr) (kt_ : ClassId) (nn_ : Int32) (vs_ : List Value) (da_ : Addr) (kd_ : ClassId) (b_ : Int32) (k_ : Int32) (cs_ : List Int32) (bN_ : Nat) (kN_ : Nat) (v_SIOOBE_FORMATTER : Value) (h0 : Heap) (n0 : Nat) (Z0 : n0 ≤ h0.size) (Kt_ : Arv Z h0 t_ kt_ .byte nn_ vs_ (.int (0 : Int32))) (Kd_ : Arv Z h0 da_ kd_ .byte k_ (own_fill cs_ bN_ 0 kN_) (.int (0 : Int32))) (nsd_ : t_ ≠ da_) (ged_ : n0 ≤ da_) (hN_ : nn_ = Int32.ofNat (2 * cs_.length)) (hv_ : vs_ = StrChars.Road.wideBytes cs_) (hbc_ : ∀ c ∈ cs_, ¬ c < 0 ∧ ¬ (65535 : Int32) < c) (hl5_ : cs_.length ≤ 5) (hbN_ : Int32.ofNat bN_ = b_) (hkN_ : Int32.ofNat kN_ = k_) (hbk_ : bN_ + kN_ ≤ cs_.length) (S__assertionsDisabled : Sta Z h0 "java/lang/StringUTF16" "$assertionsDisabled" "Z" (.int (1 : Int32))) (S_HI_BYTE_SHIFT : Sta Z h0 "java/lang/StringUTF16" "HI_BYTE_SHIFT" "I" (.int (0 : Int32))) (S_LO_BYTE_SHIFT : Sta Z h0 "java/lang/StringUTF16" "LO_BYTE_SHIFT" "I" (.int (8 : Int32))) (S_SIOOBE_FORMATTER : Sta Z h0 "jdk/internal/util/Preconditions" "SIOOBE_FORMATTER" "Ljava/util/function/BiFunction;" v_SIOOBE_FORMATTER) (hv_SIOOBE_FORMATTER : v_SIOOBE_FORMATTER.isRef = true) :
    MetFree l (⟨"java/lang/StringUTF16", "compress", "([BI[BII)I"⟩ : MethodName) (head1 (Jvm.Cond.code (⟨"java/lang/StringUTF16", "compress", "([BI[BII)I"⟩ : MethodName) jdk_52_method_22_code 7 (some .int) :: ws) ({ frames := 3, cells := 0, slots := 0, locals := 43 } : Room)) (fun aA U => aA = #[(.ref t_), (.int b_), (.ref da_), (.int (0 : Int32)), (.int k_)] ∧ Z.Warmed39 U.vm ∧ U.heap = h0) (fun _ _ _ _ _ => True) (fun _ U o U' => ∃ v L, o = .returned v ∧ Q_cb Z da_ kd_ k_ cs_ bN_ kN_ h0 n0 v U'.heap L ∧ FrameEnd U o U' L ({ frames := 3, cells := 0, slots := 0, locals := 43 } : Room).cells ({ frames := 3, cells := 0, slots := 0, locals := 43 } : Room).slots) := by
  refine MetFree.of_bodySF (plainFor_of_name own_pn_java_lang_StringUTF16) hisR ?_
  intro p e s m args below meth c s₁ Bd hml0 hP hK
  obtain ⟨rfl, hZ, hh⟩ := hP
  have hx := Bd.exec
  have hby := Bd.bytes
  have hlk : meth.locks = false := BodyLoose.notSynchronized Bd
  have hml : c.maxLocals = 7 := hml0
  have hown : s.vm.findClass "java/lang/StringUTF16" = some m.cls := findClass_of_methodNamed Bd.named
  have hnm := (name_of_methodNamed Bd.named Bd.method).1
  have X0 : Stand p l e ({ frames := 3, cells := 0, slots := 0, locals := 43 } : Room) s m #[(.ref t_), (.int b_), (.ref da_), (.int (0 : Int32)), (.int k_)] below meth c s₁ [] 0 0 := Stand.of_body Bd
  have e0 : s₁.heap = h0 := by rw [← hh, Bd.state]; rfl
  have N0 := Fr.nil n0
  have hw_ := own_cbk hN_ hbN_ hkN_ hl5_ hbk_
  have K0 : Keep h0 h0 [da_] := Keep.refl _ _
  show oG p e below (own_K s (Q_cb Z da_ kd_ k_ cs_ bN_ kN_ h0 n0) ({ frames := 3, cells := 0, slots := 0, locals := 43 } : Room).cells ({ frames := 3, cells := 0, slots := 0, locals := 43 } : Room).slots) (s₁.setTop (entryFrame m #[(.ref t_), (.int b_), (.ref da_), (.int (0 : Int32)), (.int k_)] 7))
  rw [(by first | (simp [entryFrame, mkF, argsToLocals, Value.category]; done) | rfl : entryFrame m #[(.ref t_), (.int b_), (.ref da_), (.int (0 : Int32)), (.int k_)] 7 = mkF m 0 #[.val (.ref t_), .val (.int b_), .val (.ref da_), .val (.int (0 : Int32)), .val (.int k_), .unset, .unset] [])]
  show oG p e below _ (s₁.setTop (mkF m 0 #[.val (.ref t_), .val (.int b_), .val (.ref da_), .val (.int (0 : Int32)), .val (.int k_), .unset, .unset] []))
  refine og (fun _ hr => XS.iloadN X0.here hx rfl (hb hby dc39_0) rfl (XS.iload X0.here hx rfl (hb hby dc39_1) rfl (XS.aloadN X0.here hx rfl (hb hby dc39_3) rfl rfl hr))) ?_
  show oG p e below _ (s₁.setTop (mkF m 4 #[.val (.ref t_), .val (.int b_), .val (.ref da_), .val (.int (0 : Int32)), .val (.int k_), .unset, .unset] [(.ref t_), (.int k_), (.int b_)]))
  have c1 : ¬ ((((nn_ >>> ((1 : Int32) &&& 31)) ||| b_) ||| k_) < (0 : Int32)) := hw_.1
  have c2 : ¬ (((nn_ >>> ((1 : Int32) &&& 31)) - b_) < k_) := hw_.2.1
  refine own_cs X0 hx hZ hown (hw _ (own_m 166 rfl)) (hw _ (own_m 167 rfl)) (hw _ (own_m 66 rfl)) (hw _ (own_m 168 rfl)) (by decide) (rm := { frames := 2, cells := 0, slots := 0, locals := 29 }) (rm_checkBoundsOffCount_10 l Z a0 hw [] b_ k_ t_ nn_ vs_ kt_ v_SIOOBE_FORMATTER h0 n0 Z0 Kt_ S_SIOOBE_FORMATTER hv_SIOOBE_FORMATTER c1 c2) (by decide) (W := 0) (by decide) (by decide) (by decide) e0 (by rw [hml]; rfl) (argsL := [(.int b_), (.int k_), (.ref t_)]) (lenOf own_pd20 rfl) (rest := []) rfl rfl (Nat.le_of_eq rfl) (hb hby dc39_4) ?_
  intro _ T3 L3 X3 hQ3
  obtain ⟨rfl, N3q, e3⟩ := hQ3
  have N3 := Fr.app N0 N3q
  show oG p e below _ (T3.setTop (mkF m 7 #[.val (.ref t_), .val (.int b_), .val (.ref da_), .val (.int (0 : Int32)), .val (.int k_), .unset, .unset] []))
  refine og (fun _ hr => XS.iconst X3.here hx rfl (hb hby dc39_7) (XS.istore X3.here hx rfl (hb hby dc39_8) rfl (l' := #[.val (.ref t_), .val (.int b_), .val (.ref da_), .val (.int (0 : Int32)), .val (.int k_), .val (.int (0 : Int32)), .unset]) rfl hr)) ?_
  show oG p e below _ (T3.setTop (mkF m 10 #[.val (.ref t_), .val (.int b_), .val (.ref da_), .val (.int (0 : Int32)), .val (.int k_), .val (.int (0 : Int32)), .unset] []))
  have lp_ : ∀ (r_ : Nat) (i_ : Nat) (x_ : Int32) (xo_ : Int32) (sl_ : Slot) (Tl : State) (Ll : List Loc) (hl : Heap), (Int32.ofNat i_ = x_) → (Int32.ofNat (bN_ + i_) = xo_) → (i_ + r_ = kN_) → (∀ k, k < i_ → ¬ (255 : Int32) < cs_.getD (bN_ + k) 0) → (sl_ = .unset ∨ ∃ w, sl_ = .val w ∧ w.category = 1) → Stand p l e ({ frames := 3, cells := 0, slots := 0, locals := 43 } : Room) s m #[(.ref t_), (.int b_), (.ref da_), (.int (0 : Int32)), (.int k_)] below meth c Tl Ll 0 0 → Fr n0 Ll → (Tl.heap = hl) → (Keep h0 hl [da_]) → (Arv Z hl da_ kd_ .byte k_ (own_fill cs_ bN_ i_ kN_) (.int (0 : Int32))) → oG p e below (own_K s (Q_cb Z da_ kd_ k_ cs_ bN_ kN_ h0 n0) ({ frames := 3, cells := 0, slots := 0, locals := 43 } : Room).cells ({ frames := 3, cells := 0, slots := 0, locals := 43 } : Room).slots) (Tl.setTop (mkF m 10 #[.val (.ref t_), .val (.int xo_), .val (.ref da_), .val (.int x_), .val (.int k_), .val (.int x_), sl_] [])) := by
    intro r_
    induction r_ with
    | zero =>
      intro i_ x_ xo_ sl_ Tl Ll hl hi_ hxo_ hr_ hp_ hz_ Xl Nl el Kl Al_
      have hlt_ : ¬ (x_ < k_) := own_ltf hi_ hkN_ (by omega) (by omega)
      show oG p e below _ (Tl.setTop (mkF m 10 #[.val (.ref t_), .val (.int xo_), .val (.ref da_), .val (.int x_), .val (.int k_), .val (.int x_), sl_] []))
      refine og (fun _ hr => XS.iload Xl.here hx rfl (hb hby dc39_10) rfl (XS.iload Xl.here hx rfl (hb hby dc39_12) rfl hr)) ?_
      show oG p e below _ (Tl.setTop (mkF m 14 #[.val (.ref t_), .val (.int xo_), .val (.ref da_), .val (.int x_), .val (.int k_), .val (.int x_), sl_] [(.int k_), (.int x_)]))
      refine og (fun _ hr => XS.icmpYes Xl.here hx rfl (pc0 := 14) (pc' := 53) rfl (hb hby dc39_14) rfl (flt hlt_).2.1 (by decide) (by decide) hr) ?_
      show oG p e below _ (Tl.setTop (mkF m 53 #[.val (.ref t_), .val (.int xo_), .val (.ref da_), .val (.int x_), .val (.int k_), .val (.int x_), sl_] []))
      refine og (fun _ hr => XS.iload Xl.here hx rfl (hb hby dc39_53) rfl hr) ?_
      show oG p e below _ (Tl.setTop (mkF m 55 #[.val (.ref t_), .val (.int xo_), .val (.ref da_), .val (.int x_), .val (.int k_), .val (.int x_), sl_] [(.int k_)]))
      have K4 := (K0.trans Kl (allS (Or.inl (List.mem_of_getElem? (i := 0) rfl)) all0))
      exact own_retI Xl hx hlk Bd.returns (hb hby dc39_55) (by decide) (by decide) (by rw [el]; exact ⟨kN_, (by rw [hkN_]), Nl, K4, (by have q := Al_; rw [show i_ = kN_ from by omega] at q; exact q), (Nat.le_refl _), (fun k hk => hp_ k (by omega)), (fun q => absurd q (Nat.lt_irrefl _))⟩)
    | succ r_ ih =>
      intro i_ x_ xo_ sl_ Tl Ll hl hi_ hxo_ hr_ hp_ hz_ Xl Nl el Kl Al_
      have hlt_ : x_ < k_ := own_ltt hi_ hkN_ (by omega) (by omega)
      have hnx_ : ¬ x_ < 0 := own_neg hi_ (by omega)
      show oG p e below _ (Tl.setTop (mkF m 10 #[.val (.ref t_), .val (.int xo_), .val (.ref da_), .val (.int x_), .val (.int k_), .val (.int x_), sl_] []))
      refine og (fun _ hr => XS.iload Xl.here hx rfl (hb hby dc39_10) rfl (XS.iload Xl.here hx rfl (hb hby dc39_12) rfl hr)) ?_
      show oG p e below _ (Tl.setTop (mkF m 14 #[.val (.ref t_), .val (.int xo_), .val (.ref da_), .val (.int x_), .val (.int k_), .val (.int x_), sl_] [(.int k_), (.int x_)]))
      refine og (fun _ hr => XS.icmpNo Xl.here hx rfl (hb hby dc39_14) rfl (tlt hlt_).2.1 hr) ?_
      show oG p e below _ (Tl.setTop (mkF m 17 #[.val (.ref t_), .val (.int xo_), .val (.ref da_), .val (.int x_), .val (.int k_), .val (.int x_), sl_] []))
      refine og (fun _ hr => XS.aloadN Xl.here hx rfl (hb hby dc39_17) rfl rfl (XS.iloadN Xl.here hx rfl (hb hby dc39_18) rfl hr)) ?_
      show oG p e below _ (Tl.setTop (mkF m 19 #[.val (.ref t_), .val (.int xo_), .val (.ref da_), .val (.int x_), .val (.int k_), .val (.int x_), sl_] [(.int xo_), (.ref t_)]))
      have f6 := (Kt_.keep Kl (ninS nsd_ nin0))
      have f7 := (own_sta_keep S__assertionsDisabled Kl (allS (own_ns_arv Kd_) all0))
      have f8 := (own_sta_keep S_HI_BYTE_SHIFT Kl (allS (own_ns_arv Kd_) all0))
      have f9 := (own_sta_keep S_LO_BYTE_SHIFT Kl (allS (own_ns_arv Kd_) all0))
      have Z10 := (Nat.le_trans Z0 Kl.1)
      refine own_cs Xl hx hZ hown (hw _ (own_m 143 rfl)) (hw _ (own_m 144 rfl)) (hw _ (own_m 66 rfl)) (hw _ (own_m 145 rfl)) (by decide) (rm := { frames := 0, cells := 0, slots := 0, locals := 0 }) (rm_gc l Z a0 hw [] t_ kt_ nn_ vs_ xo_ (2 * (bN_ + i_)) (cs_.getD (bN_ + i_) 0) hl n0 Z10 f6 (own_pcw hN_ hv_ hbc_ hl5_ (by omega) hxo_ rfl).1 f7 f8 f9) (by decide) (W := 0) (by decide) (by decide) (by decide) el (by rw [hml]; rfl) (argsL := [(.ref t_), (.int xo_)]) (lenOf own_pd7 rfl) (rest := []) rfl rfl (Nat.le_of_eq rfl) (hb hby dc39_19) ?_
      intro _ T5 L5 X5 hQ5
      obtain ⟨rfl, N5q, e5⟩ := hQ5
      have N5 := Fr.app Nl N5q
      show oG p e below _ (T5.setTop (mkF m 22 #[.val (.ref t_), .val (.int xo_), .val (.ref da_), .val (.int x_), .val (.int k_), .val (.int x_), sl_] [(.int (cs_.getD (bN_ + i_) 0))]))
      refine og (fun _ hr => XS.istoreS X5.here hx rfl (hb hby dc39_22) rfl rfl hz_ (XS.iload X5.here hx rfl (hb hby dc39_24) rfl (XS.sipush X5.here hx rfl (hb hby dc39_26) hr))) ?_
      show oG p e below _ (T5.setTop (mkF m 29 #[.val (.ref t_), .val (.int xo_), .val (.ref da_), .val (.int x_), .val (.int k_), .val (.int x_), .val (.int (cs_.getD (bN_ + i_) 0))] [(.int (255 : Int32)), (.int (cs_.getD (bN_ + i_) 0))]))
      rcases Classical.em ((255 : Int32) < (cs_.getD (bN_ + i_) 0)) with c11 | c11
      · skip
        refine og (fun _ hr => XS.icmpNo X5.here hx rfl (hb hby dc39_29) rfl (tlt c11).2.2.2 hr) ?_
        show oG p e below _ (T5.setTop (mkF m 32 #[.val (.ref t_), .val (.int xo_), .val (.ref da_), .val (.int x_), .val (.int k_), .val (.int x_), .val (.int (cs_.getD (bN_ + i_) 0))] []))
        refine og (fun _ hr => XS.iload X5.here hx rfl (hb hby dc39_32) rfl hr) ?_
        show oG p e below _ (T5.setTop (mkF m 34 #[.val (.ref t_), .val (.int xo_), .val (.ref da_), .val (.int x_), .val (.int k_), .val (.int x_), .val (.int (cs_.getD (bN_ + i_) 0))] [(.int x_)]))
        have K12 := (K0.trans Kl (allS (Or.inl (List.mem_of_getElem? (i := 0) rfl)) all0))
        exact own_retI X5 hx hlk Bd.returns (hb hby dc39_34) (by decide) (by decide) (by rw [e5]; exact ⟨i_, (by rw [hi_]), N5, K12, Al_, (by omega), hp_, (fun _ => c11)⟩)
      refine og (fun _ hr => XS.icmpYes X5.here hx rfl (pc0 := 29) (pc' := 35) rfl (hb hby dc39_29) rfl (flt c11).2.2.2 (by decide) (by decide) hr) ?_
      show oG p e below _ (T5.setTop (mkF m 35 #[.val (.ref t_), .val (.int xo_), .val (.ref da_), .val (.int x_), .val (.int k_), .val (.int x_), .val (.int (cs_.getD (bN_ + i_) 0))] []))
      refine og (fun _ hr => XS.aloadN X5.here hx rfl (hb hby dc39_35) rfl rfl (XS.iloadN X5.here hx rfl (hb hby dc39_36) rfl (XS.iload X5.here hx rfl (hb hby dc39_37) rfl (XS.i2b X5.here hx rfl (hb hby dc39_39) rfl hr)))) ?_
      show oG p e below _ (T5.setTop (mkF m 40 #[.val (.ref t_), .val (.int xo_), .val (.ref da_), .val (.int x_), .val (.int k_), .val (.int x_), .val (.int (cs_.getD (bN_ + i_) 0))] [(.int ((cs_.getD (bN_ + i_) 0).toInt8.toInt32)), (.int x_), (.ref da_)]))
      have c14 : (nar .byte ((cs_.getD (bN_ + i_) 0).toInt8.toInt32)) = ((cs_.getD (bN_ + i_) 0).toInt8.toInt32) := by
        have q0 := rng32 (cs_.getD (bN_ + i_) 0)
        have q1 := c_i2b (cs_.getD (bN_ + i_) 0)
        have q2 := (show ((nar .byte ((cs_.getD (bN_ + i_) 0).toInt8.toInt32)).toInt - ((cs_.getD (bN_ + i_) 0).toInt8.toInt32).toInt) % 256 = 0 ∧ -128 ≤ (nar .byte ((cs_.getD (bN_ + i_) 0).toInt8.toInt32)).toInt ∧ (nar .byte ((cs_.getD (bN_ + i_) 0).toInt8.toInt32)).toInt < 128 from c_i2b ((cs_.getD (bN_ + i_) 0).toInt8.toInt32))
        have p0 := c11
        simp only [true_implies, Int32.lt_iff_toInt_lt, ← Int32.toInt_inj, Int32.reduceToInt, Int64.lt_iff_toInt_lt, ← Int64.toInt_inj, Int64.reduceToInt] at q0 q1 q2 p0 ⊢
        omega
      refine own_stB X5 hx hZ e5 Al_ x_ ((cs_.getD (bN_ + i_) 0).toInt8.toInt32) ((cs_.getD (bN_ + i_) 0).toInt8.toInt32) (x_).toNatClampNeg ⟨hnx_, hlt_⟩ rfl (by rw [own_tn hi_ (by omega), own_fill_len]; omega) c14 ((own_fill cs_ bN_ i_ kN_).set (x_).toNatClampNeg (.int ((cs_.getD (bN_ + i_) 0).toInt8.toInt32))) rfl N5 ged_ (hb hby dc39_40) ?_
      intro T13 h13 L13 X13 e13 W13 N13 f13
      show oG p e below _ (T13.setTop (mkF m 41 #[.val (.ref t_), .val (.int xo_), .val (.ref da_), .val (.int x_), .val (.int k_), .val (.int x_), .val (.int (cs_.getD (bN_ + i_) 0))] []))
      refine og (fun _ hr => XS.iinc X13.here hx rfl (hb hby dc39_41) rfl (l' := #[.val (.ref t_), .val (.int (xo_ + (1 : Int32))), .val (.ref da_), .val (.int x_), .val (.int k_), .val (.int x_), .val (.int (cs_.getD (bN_ + i_) 0))]) rfl (XS.iinc X13.here hx rfl (hb hby dc39_44) rfl (l' := #[.val (.ref t_), .val (.int (xo_ + (1 : Int32))), .val (.ref da_), .val (.int (x_ + (1 : Int32))), .val (.int k_), .val (.int x_), .val (.int (cs_.getD (bN_ + i_) 0))]) rfl (XS.iinc X13.here hx rfl (hb hby dc39_47) rfl (l' := #[.val (.ref t_), .val (.int (xo_ + (1 : Int32))), .val (.ref da_), .val (.int (x_ + (1 : Int32))), .val (.int k_), .val (.int (x_ + (1 : Int32))), .val (.int (cs_.getD (bN_ + i_) 0))]) rfl (XS.goto X13.here hx rfl (pc0 := 50) (pc' := 10) rfl (hb hby dc39_50) (by decide) (by decide) hr)))) ?_
      show oG p e below _ (T13.setTop (mkF m 10 #[.val (.ref t_), .val (.int (xo_ + (1 : Int32))), .val (.ref da_), .val (.int (x_ + (1 : Int32))), .val (.int k_), .val (.int (x_ + (1 : Int32))), .val (.int (cs_.getD (bN_ + i_) 0))] []))
      have f15 : Arv Z h13 da_ kd_ .byte k_ (own_fill cs_ bN_ (i_ + 1) kN_) (.int (0 : Int32)) := by
        have q : Arv Z h13 da_ kd_ .byte k_ ((own_fill cs_ bN_ i_ kN_).set i_ (.int (StrChars.lo8 (cs_.getD (bN_ + i_) 0)))) (.int (0 : Int32)) := by have q := f13; rw [own_tn hi_ (by omega)] at q; exact q
        rw [own_fill_set (by omega)] at q; exact q
      exact ih (i_ + 1) (x_ + (1 : Int32)) (xo_ + (1 : Int32)) _ T13 _ h13 (own_inc hi_) (own_inc hxo_) (by omega) (fun k hk => by rcases Nat.lt_or_eq_of_le (Nat.le_of_lt_succ hk) with q | rfl; exact hp_ k q; exact c11) (Or.inr ⟨_, rfl, rfl⟩) X13 N13 e13 (Kl.wr W13 (Or.inl (List.mem_of_getElem? (i := 0) rfl))) f15
  exact lp_ kN_ 0 (0 : Int32) b_ .unset T3 _ h0 rfl hbN_ (by omega) (fun k hk => absurd hk (Nat.not_lt_zero k)) (Or.inl rfl) X3 N3 e3 (Keep.refl _ _) Kd_
theorem dc38_0 : decode jdk_52_method_17_code 0 = .ok (.iload_n 2, 1) := by decide +kernel
theorem dc38_1 : decode jdk_52_method_17_code 1 = .ok (.newarray .byte, 2) := by decide +kernel
theorem dc38_3 : decode jdk_52_method_17_code 3 = .ok (.astore_n 3, 1) := by decide +kernel
theorem dc38_4 : decode jdk_52_method_17_code 4 = .ok (.aload_n 0, 1) := by decide +kernel
theorem dc38_5 : decode jdk_52_method_17_code 5 = .ok (.iload_n 1, 1) := by decide +kernel
theorem dc38_6 : decode jdk_52_method_17_code 6 = .ok (.aload_n 3, 1) := by decide +kernel
theorem dc38_7 : decode jdk_52_method_17_code 7 = .ok (.iconst 0, 1) := by decide +kernel
theorem dc38_8 : decode jdk_52_method_17_code 8 = .ok (.iload_n 2, 1) := by decide +kernel
theorem dc38_9 : decode jdk_52_method_17_code 9 = .ok (.invokestatic 123, 3) := by decide +kernel
theorem own_pd21 : parseMethodDescriptor "([BI[BII)I" = some ⟨[(.array .byte), .int, (.array .byte), .int, .int], some .int⟩ := by decide +kernel
theorem dc38_12 : decode jdk_52_method_17_code 12 = .ok (.istore 4, 2) := by decide +kernel
theorem dc38_14 : decode jdk_52_method_17_code 14 = .ok (.iload 4, 2) := by decide +kernel
theorem dc38_16 : decode jdk_52_method_17_code 16 = .ok (.iload_n 2, 1) := by decide +kernel
theorem dc38_17 : decode jdk_52_method_17_code 17 = .ok (.if_icmp .eq 47, 3) := by decide +kernel
theorem dc38_64 : decode jdk_52_method_17_code 64 = .ok (.aload_n 3, 1) := by decide +kernel
theorem dc38_65 : decode jdk_52_method_17_code 65 = .ok (.areturn, 1) := by decide +kernel
theorem dc38_20 : decode jdk_52_method_17_code 20 = .ok (.aload_n 0, 1) := by decide +kernel
theorem dc38_21 : decode jdk_52_method_17_code 21 = .ok (.iload_n 1, 1) := by decide +kernel
theorem dc38_22 : decode jdk_52_method_17_code 22 = .ok (.iconst 1, 1) := by decide +kernel
theorem dc38_23 : decode jdk_52_method_17_code 23 = .ok (.ishl, 1) := by decide +kernel
theorem dc38_24 : decode jdk_52_method_17_code 24 = .ok (.iload_n 1, 1) := by decide +kernel
theorem dc38_25 : decode jdk_52_method_17_code 25 = .ok (.iload_n 2, 1) := by decide +kernel
theorem dc38_26 : decode jdk_52_method_17_code 26 = .ok (.iadd, 1) := by decide +kernel
theorem dc38_27 : decode jdk_52_method_17_code 27 = .ok (.invokestatic 11, 3) := by decide +kernel
theorem dc38_30 : decode jdk_52_method_17_code 30 = .ok (.invokestatic 126, 3) := by decide +kernel
theorem dc38_33 : decode jdk_52_method_17_code 33 = .ok (.astore 5, 2) := by decide +kernel
theorem dc38_35 : decode jdk_52_method_17_code 35 = .ok (.aload 5, 2) := by decide +kernel
theorem dc38_37 : decode jdk_52_method_17_code 37 = .ok (.iload 4, 2) := by decide +kernel
theorem dc38_39 : decode jdk_52_method_17_code 39 = .ok (.invokestatic 71, 3) := by decide +kernel
theorem dc38_42 : decode jdk_52_method_17_code 42 = .ok (.sipush 255, 3) := by decide +kernel
theorem dc38_45 : decode jdk_52_method_17_code 45 = .ok (.if_icmp .gt 16, 3) := by decide +kernel
theorem dc38_61 : decode jdk_52_method_17_code 61 = .ok (.aload 5, 2) := by decide +kernel
theorem dc38_63 : decode jdk_52_method_17_code 63 = .ok (.areturn, 1) := by decide +kernel
def Q_cy (Z : State) (cs_ : List Int32) (bN_ : Nat) (kN_ : Nat) (h0 : Heap) (n0 : Nat) (v : Option Value) (h : Heap) (L : List Loc) : Prop := (∃ (a : Addr) (k : ClassId) (cd N : Int32) (vs : List Value), v = some (.ref a) ∧ Fr n0 L ∧ Keep h0 h [] ∧ n0 ≤ a ∧ h0.size ≤ a ∧ Exa Z h a "[B" ∧ Arv Z h a k .byte N vs (.int (0 : Int32)) ∧ StrChars.Road.CodA (own_sub cs_ bN_ kN_) cd N vs)
set_option maxRecDepth 65536 in
set_option maxHeartbeats 40000000 in
theorem rm_cy (l : Launch) (Z : State) (a0 : Array Value) (hw : ∀ d ∈ tables_1, d.before a0 Z = true) (ws : List Jvm.Cond) (t_ : Addr) (kt_ : ClassId) (nn_ : Int32) (vs_ : List Value) (b_ : Int32) (k_ : Int32) (cs_ : List Int32) (bN_ : Nat) (kN_ : Nat) (v_SIOOBE_FORMATTER : Value) (h0 : Heap) (n0 : Nat) (Z0 : n0 ≤ h0.size) (Kt_ : Arv Z h0 t_ kt_ .byte nn_ vs_ (.int (0 : Int32))) (hN_ : nn_ = Int32.ofNat (2 * cs_.length)) (hv_ : vs_ = StrChars.Road.wideBytes cs_) (hbc_ : ∀ c ∈ cs_, ¬ c < 0 ∧ ¬ (65535 : Int32) < c) (hl5_ : cs_.length ≤ 5) (hbN_ : Int32.ofNat bN_ = b_) (hkN_ : Int32.ofNat kN_ = k_) (hbk_ : bN_ + kN_ ≤ cs_.length) (hnw_ : ¬ (bN_ = 0 ∧ kN_ = cs_.length)) (S__assertionsDisabled : Sta Z h0 "java/lang/StringUTF16" "$assertionsDisabled" "Z" (.int (1 : Int32))) (S_HI_BYTE_SHIFT : Sta Z h0 "java/lang/StringUTF16" "HI_BYTE_SHIFT" "I" (.int (0 : Int32))) (S_LO_BYTE_SHIFT : Sta Z h0 "java/lang/StringUTF16" "LO_BYTE_SHIFT" "I" (.int (8 : Int32))) (S_SIOOBE_FORMATTER : Sta Z h0 "jdk/internal/util/Preconditions" "SIOOBE_FORMATTER" "Ljava/util/function/BiFunction;" v_SIOOBE_FORMATTER) (hv_SIOOBE_FORMATTER : v_SIOOBE_FORMATTER.isRef = true) :
    MetFree l (⟨"java/lang/StringUTF16", "compress", "([BII)[B"⟩ : MethodName) (head1 (Jvm.Cond.code (⟨"java/lang/StringUTF16", "compress", "([BII)[B"⟩ : MethodName) jdk_52_method_17_code 6 (some (.array .byte)) :: ws) ({ frames := 4, cells := 2, slots := 15, locals := 70 } : Room)) (fun aA U => aA = #[(.ref t_), (.int b_), (.int k_)] ∧ Z.Warmed39 U.vm ∧ U.heap = h0) (fun _ _ _ _ _ => True) (fun _ U o U' => ∃ v L, o = .returned v ∧ Q_cy Z cs_ bN_ kN_ h0 n0 v U'.heap L ∧ FrameEnd U o U' L ({ frames := 4, cells := 2, slots := 15, locals := 70 } : Room).cells ({ frames := 4, cells := 2, slots := 15, locals := 70 } : Room).slots) := by
  refine MetFree.of_bodySF (plainFor_of_name own_pn_java_lang_StringUTF16) hisR ?_
  intro p e s m args below meth c s₁ Bd hml0 hP hK
  obtain ⟨rfl, hZ, hh⟩ := hP
  have hx := Bd.exec
  have hby := Bd.bytes
  have hlk : meth.locks = false := BodyLoose.notSynchronized Bd
  have hml : c.maxLocals = 6 := hml0
  have hown : s.vm.findClass "java/lang/StringUTF16" = some m.cls := findClass_of_methodNamed Bd.named
  have hnm := (name_of_methodNamed Bd.named Bd.method).1
  have X0 : Stand p l e ({ frames := 4, cells := 2, slots := 15, locals := 70 } : Room) s m #[(.ref t_), (.int b_), (.int k_)] below meth c s₁ [] 0 0 := Stand.of_body Bd
  have e0 : s₁.heap = h0 := by rw [← hh, Bd.state]; rfl
  have N0 := Fr.nil n0
  have hw_ := own_cbk hN_ hbN_ hkN_ hl5_ hbk_
  have hbk0_ : ¬ ((b_ + k_) < (0 : Int32)) := hw_.2.2.2.2.1
  have hbk1_ : (b_ + k_) < (1073741823 : Int32) := hw_.2.2.2.2.2
  have K0 : Keep h0 h0 [] := Keep.refl _ _
  show oG p e below (own_K s (Q_cy Z cs_ bN_ kN_ h0 n0) ({ frames := 4, cells := 2, slots := 15, locals := 70 } : Room).cells ({ frames := 4, cells := 2, slots := 15, locals := 70 } : Room).slots) (s₁.setTop (entryFrame m #[(.ref t_), (.int b_), (.int k_)] 6))
  rw [(by first | (simp [entryFrame, mkF, argsToLocals, Value.category]; done) | rfl : entryFrame m #[(.ref t_), (.int b_), (.int k_)] 6 = mkF m 0 #[.val (.ref t_), .val (.int b_), .val (.int k_), .unset, .unset, .unset] [])]
  show oG p e below _ (s₁.setTop (mkF m 0 #[.val (.ref t_), .val (.int b_), .val (.int k_), .unset, .unset, .unset] []))
  refine og (fun _ hr => XS.iloadN X0.here hx rfl (hb hby dc38_0) rfl hr) ?_
  show oG p e below _ (s₁.setTop (mkF m 1 #[.val (.ref t_), .val (.int b_), .val (.int k_), .unset, .unset, .unset] [(.int k_)]))
  obtain ⟨T1, h1, k1, X1, e1, E1, A1, EA1, st1⟩ := newPE X0 hx hZ (hw _ (own_m 23 rfl)) e0 (g := (mkF m 1 #[.val (.ref t_), .val (.int b_), .val (.int k_), .unset, .unset, .unset] [(.int k_)])) rfl (hb hby dc38_1) rfl (own_neg hkN_ (by omega)) (cap := 5) (by rw [own_tn hkN_ (by omega)]; omega) (by decide) (by decide) (by decide) (ad := "[B") (by decide)
  obtain ⟨b1, g1⟩ : ∃ z, z = h0.size := ⟨_, rfl⟩
  rw [← g1] at A1 EA1 st1
  have ge2 : n0 ≤ b1 := Nat.le_trans Z0 (Nat.le_of_eq g1.symm)
  have sz3 : h0.size ≤ b1 := Nat.le_trans K0.1 (Nat.le_of_eq g1.symm)
  refine og st1 ?_
  have f4 : Arv Z h1 b1 k1 .byte k_ (List.replicate (k_).toNatClampNeg (.int (0 : Int32))) (.int (0 : Int32)) := (Arv.new A1 (own_neg hkN_ (by omega))).pad (pad_rep [] (.int (0 : Int32)) _)
  show oG p e below _ (T1.setTop (mkF m 3 #[.val (.ref t_), .val (.int b_), .val (.int k_), .unset, .unset, .unset] [(.ref b1)]))
  have f5 : Arv Z h1 b1 k1 .byte k_ (own_fill cs_ bN_ 0 kN_) (.int (0 : Int32)) := by have q := f4; rw [own_tn hkN_ (by omega), own_fill0 cs_ bN_ kN_] at q; exact q
  refine og (fun _ hr => XS.astoreN X1.here hx rfl (hb hby dc38_3) rfl rfl (l' := #[.val (.ref t_), .val (.int b_), .val (.int k_), .val (.ref b1), .unset, .unset]) rfl (XS.aloadN X1.here hx rfl (hb hby dc38_4) rfl rfl (XS.iloadN X1.here hx rfl (hb hby dc38_5) rfl (XS.aloadN X1.here hx rfl (hb hby dc38_6) rfl rfl (XS.iconst X1.here hx rfl (hb hby dc38_7) (XS.iloadN X1.here hx rfl (hb hby dc38_8) rfl hr)))))) ?_
  show oG p e below _ (T1.setTop (mkF m 9 #[.val (.ref t_), .val (.int b_), .val (.int k_), .val (.ref b1), .unset, .unset] [(.int k_), (.int (0 : Int32)), (.ref b1), (.int b_), (.ref t_)]))
  have f7 := (Kt_.ext E1)
  have f8 := (S__assertionsDisabled.ext E1)
  have f9 := (S_HI_BYTE_SHIFT.ext E1)
  have f10 := (S_LO_BYTE_SHIFT.ext E1)
  have f11 := (S_SIOOBE_FORMATTER.ext E1)
  have Z12 := (Nat.le_trans Z0 E1.1)
  refine own_cs X1 hx hZ hown (hw _ (own_m 163 rfl)) (hw _ (own_m 164 rfl)) (hw _ (own_m 66 rfl)) (hw _ (own_m 165 rfl)) (by decide) (rm := { frames := 3, cells := 0, slots := 0, locals := 43 }) (rm_cb l Z a0 hw [] t_ kt_ nn_ vs_ b1 k1 b_ k_ cs_ bN_ kN_ v_SIOOBE_FORMATTER h1 n0 Z12 f7 f5 (Nat.ne_of_lt (Nat.lt_of_lt_of_le Kt_.lt (Nat.le_of_eq g1.symm))) ge2 hN_ hv_ hbc_ hl5_ hbN_ hkN_ hbk_ f8 f9 f10 f11 hv_SIOOBE_FORMATTER) (by decide) (W := 0) (by decide) (by decide) (by decide) e1 (by rw [hml]; rfl) (argsL := [(.ref t_), (.int b_), (.ref b1), (.int (0 : Int32)), (.int k_)]) (lenOf own_pd21 rfl) (rest := []) rfl rfl (Nat.le_of_eq rfl) (hb hby dc38_9) ?_
  intro _ T6 L6 X6 hQ6
  obtain ⟨w6_0, rfl, N6q, K6, f6_0, hx6_0, hx6_1, hx6_2⟩ := hQ6
  have N6 := Fr.app N0 N6q
  show oG p e below _ (T6.setTop (mkF m 12 #[.val (.ref t_), .val (.int b_), .val (.int k_), .val (.ref b1), .unset, .unset] [(.int (Int32.ofNat w6_0))]))
  refine og (fun _ hr => XS.istore X6.here hx rfl (hb hby dc38_12) rfl (l' := #[.val (.ref t_), .val (.int b_), .val (.int k_), .val (.ref b1), .val (.int (Int32.ofNat w6_0)), .unset]) rfl (XS.iload X6.here hx rfl (hb hby dc38_14) rfl (XS.iloadN X6.here hx rfl (hb hby dc38_16) rfl hr))) ?_
  show oG p e below _ (T6.setTop (mkF m 17 #[.val (.ref t_), .val (.int b_), .val (.int k_), .val (.ref b1), .val (.int (Int32.ofNat w6_0)), .unset] [(.int k_), (.int (Int32.ofNat w6_0))]))
  rcases Classical.em ((Int32.ofNat w6_0) = k_) with c13 | c13
  · skip
    refine og (fun _ hr => XS.icmpYes X6.here hx rfl (pc0 := 17) (pc' := 64) rfl (hb hby dc38_17) rfl (teq c13).1 (by decide) (by decide) hr) ?_
    show oG p e below _ (T6.setTop (mkF m 64 #[.val (.ref t_), .val (.int b_), .val (.int k_), .val (.ref b1), .val (.int (Int32.ofNat w6_0)), .unset] []))
    refine og (fun _ hr => XS.aloadN X6.here hx rfl (hb hby dc38_64) rfl rfl hr) ?_
    show oG p e below _ (T6.setTop (mkF m 65 #[.val (.ref t_), .val (.int b_), .val (.int k_), .val (.ref b1), .val (.int (Int32.ofNat w6_0)), .unset] [(.ref b1)]))
    have f14 := (EA1.keep K6)
    have ew16 : w6_0 = kN_ := (own_tn c13 (by omega)).symm.trans (own_tn hkN_ (by omega))
    have f17 : Arv Z T6.heap b1 k1 .byte k_ (own_fill cs_ bN_ kN_ kN_) (.int (0 : Int32)) := by have q := f6_0; rw [ew16] at q; exact q
    have hc15 : StrChars.Road.CodA (own_sub cs_ bN_ kN_) (0 : Int32) k_ (own_fill cs_ bN_ kN_ kN_) := Or.inl ⟨rfl, by rw [own_sub_len]; exact hkN_.symm, own_fill_full cs_ bN_ kN_, fun c hc => by obtain ⟨i, hi, rfl⟩ := List.mem_map.mp hc; exact hx6_1 i (by have := List.mem_range.mp hi; omega)⟩
    have K18 := ((K0.ext E1).trans K6 (allS (Or.inr sz3) all0))
    exact own_retR X6 hx hlk Bd.returns rfl rfl (hb hby dc38_65) (by decide) (by decide) (by exact ⟨b1, k1, (0 : Int32), k_, (own_fill cs_ bN_ kN_ kN_), rfl, N6, K18, ge2, sz3, f14, f17, hc15⟩)
  refine og (fun _ hr => XS.icmpNo X6.here hx rfl (hb hby dc38_17) rfl (feq c13).1 hr) ?_
  show oG p e below _ (T6.setTop (mkF m 20 #[.val (.ref t_), .val (.int b_), .val (.int k_), .val (.ref b1), .val (.int (Int32.ofNat w6_0)), .unset] []))
  refine og (fun _ hr => XS.aloadN X6.here hx rfl (hb hby dc38_20) rfl rfl (XS.iloadN X6.here hx rfl (hb hby dc38_21) rfl (XS.iconst X6.here hx rfl (hb hby dc38_22) (XS.ishl X6.here hx rfl (hb hby dc38_23) rfl (XS.iloadN X6.here hx rfl (hb hby dc38_24) rfl (XS.iloadN X6.here hx rfl (hb hby dc38_25) rfl (XS.iadd X6.here hx rfl (hb hby dc38_26) rfl hr))))))) ?_
  show oG p e below _ (T6.setTop (mkF m 27 #[.val (.ref t_), .val (.int b_), .val (.int k_), .val (.ref b1), .val (.int (Int32.ofNat w6_0)), .unset] [(.int (b_ + k_)), (.int (b_ <<< ((1 : Int32) &&& 31))), (.ref t_)]))
  have Z20 := (Nat.le_trans Z12 K6.1)
  refine own_cs X6 hx hZ hown (hw _ (own_m 133 rfl)) (hw _ (own_m 134 rfl)) (hw _ (own_m 66 rfl)) (hw _ (own_m 135 rfl)) (by decide) (rm := { frames := 0, cells := 0, slots := 0, locals := 0 }) (rm_nb l Z a0 hw [] (b_ + k_) T6.heap n0 Z20 hbk0_ hbk1_) (by decide) (W := 2) (by decide) (by decide) (by decide) rfl (by rw [hml]; rfl) (argsL := [(.int (b_ + k_))]) (lenOf own_pd2 rfl) (rest := [(.int (b_ <<< ((1 : Int32) &&& 31))), (.ref t_)]) rfl rfl (Nat.le_of_eq rfl) (hb hby dc38_27) ?_
  intro _ T19 L19 X19 hQ19
  obtain ⟨rfl, N19q, e19⟩ := hQ19
  have N19 := Fr.app N6 N19q
  show oG p e below _ (T19.setTop (mkF m 30 #[.val (.ref t_), .val (.int b_), .val (.int k_), .val (.ref b1), .val (.int (Int32.ofNat w6_0)), .unset] [(.int ((b_ + k_) <<< ((1 : Int32) &&& 31))), (.int (b_ <<< ((1 : Int32) &&& 31))), (.ref t_)]))
  have f22 := (f7.keep K6 (ninS (Nat.ne_of_lt (Nat.lt_of_lt_of_le Kt_.lt (Nat.le_of_eq g1.symm))) nin0))
  refine own_cs X19 hx hZ hown (hw _ (own_m 175 rfl)) (hw _ (own_m 102 rfl)) (hw _ (own_m 103 rfl)) (hw _ (own_m 104 rfl)) (by decide) (rm := { frames := 2, cells := 1, slots := 10, locals := 56 }) (rm_cor l Z a0 hw [] t_ kt_ nn_ vs_ (b_ <<< ((1 : Int32) &&& 31)) ((b_ + k_) <<< ((1 : Int32) &&& 31)) (2 * bN_) (2 * (bN_ + kN_)) (2 * cs_.length) T6.heap n0 Z20 f22 hw_.2.2.1 hw_.2.2.2.1 hN_.symm (by omega) (by omega) (by omega) (by omega)) (by decide) (W := 0) (by decide) (by decide) (by decide) e19 (by rw [hml]; rfl) (argsL := [(.ref t_), (.int (b_ <<< ((1 : Int32) &&& 31))), (.int ((b_ + k_) <<< ((1 : Int32) &&& 31)))]) (lenOf own_pd17 rfl) (rest := []) rfl rfl (Nat.le_of_eq rfl) (hb hby dc38_30) ?_
  intro _ T21 L21 X21 hQ21
  obtain ⟨b21_0, kb21_0, rfl, N21q, K21, ge21_0, sz21_0, f21_0, f21_1⟩ := hQ21
  have N21 := Fr.app N19 N21q
  have K24 := ((K0.ext E1).trans K6 (allS (Or.inr sz3) all0))
  have sz23 : h0.size ≤ b21_0 := Nat.le_trans K24.1 sz21_0
  show oG p e below _ (T21.setTop (mkF m 33 #[.val (.ref t_), .val (.int b_), .val (.int k_), .val (.ref b1), .val (.int (Int32.ofNat w6_0)), .unset] [(.ref b21_0)]))
  have eN26 : (((b_ + k_) <<< ((1 : Int32) &&& 31)) - (b_ <<< ((1 : Int32) &&& 31))) = (Int32.ofNat (2 * (own_sub cs_ bN_ kN_).length)) := by rw [own_sub_len, ← (own_cpb hw_.2.2.1 hw_.2.2.2.1 hN_.symm (show 2 * bN_ ≤ 2 * (bN_ + kN_) from by omega) (by omega) (by omega)).2.2.2.2.1, show 2 * (bN_ + kN_) - 2 * bN_ = 2 * kN_ from by omega]
  have f25 : Arv Z T21.heap b21_0 kb21_0 .byte (Int32.ofNat (2 * (own_sub cs_ bN_ kN_).length)) (StrChars.Road.wideBytes (own_sub cs_ bN_ kN_)) (.int (0 : Int32)) := by have q := f21_1; rw [hv_, show 2 * (bN_ + kN_) - 2 * bN_ = 2 * kN_ from by omega, own_subw cs_ kN_ bN_ hbk_, eN26] at q; exact q
  have hlt27 : w6_0 < kN_ := by rcases Nat.lt_or_eq_of_le hx6_0 with q | q; exact q; exact absurd (by rw [q]; exact hkN_) c13
  have h25528 : (255 : Int32) < ((own_sub cs_ bN_ kN_).getD w6_0 0) := by rw [own_sub_get hlt27]; exact hx6_2 hlt27
  refine og (fun _ hr => XS.astore X21.here hx rfl (hb hby dc38_33) rfl rfl (l' := #[.val (.ref t_), .val (.int b_), .val (.int k_), .val (.ref b1), .val (.int (Int32.ofNat w6_0)), .val (.ref b21_0)]) rfl (XS.aload X21.here hx rfl (hb hby dc38_35) rfl rfl (XS.iload X21.here hx rfl (hb hby dc38_37) rfl hr))) ?_
  show oG p e below _ (T21.setTop (mkF m 39 #[.val (.ref t_), .val (.int b_), .val (.int k_), .val (.ref b1), .val (.int (Int32.ofNat w6_0)), .val (.ref b21_0)] [(.int (Int32.ofNat w6_0)), (.ref b21_0)]))
  have f30 := (own_sta_keep (own_sta_keep f8 K6 (allS (own_ns_exa EA1) all0)) K21 all0)
  have f31 := (own_sta_keep (own_sta_keep f9 K6 (allS (own_ns_exa EA1) all0)) K21 all0)
  have f32 := (own_sta_keep (own_sta_keep f10 K6 (allS (own_ns_exa EA1) all0)) K21 all0)
  have Z33 := (Nat.le_trans Z20 K21.1)
  refine own_cs X21 hx hZ hown (hw _ (own_m 143 rfl)) (hw _ (own_m 144 rfl)) (hw _ (own_m 66 rfl)) (hw _ (own_m 145 rfl)) (by decide) (rm := { frames := 0, cells := 0, slots := 0, locals := 0 }) (rm_gc l Z a0 hw [] b21_0 kb21_0 (Int32.ofNat (2 * (own_sub cs_ bN_ kN_).length)) (StrChars.Road.wideBytes (own_sub cs_ bN_ kN_)) (Int32.ofNat w6_0) (2 * w6_0) ((own_sub cs_ bN_ kN_).getD w6_0 0) T21.heap n0 Z33 f25 (own_pcw rfl rfl (own_sub_mem hbk_ hbc_) (by rw [own_sub_len]; omega) (by rw [own_sub_len]; exact hlt27) rfl rfl).1 f30 f31 f32) (by decide) (W := 0) (by decide) (by decide) (by decide) rfl (by rw [hml]; rfl) (argsL := [(.ref b21_0), (.int (Int32.ofNat w6_0))]) (lenOf own_pd7 rfl) (rest := []) rfl rfl (Nat.le_of_eq rfl) (hb hby dc38_39) ?_
  intro _ T29 L29 X29 hQ29
  obtain ⟨rfl, N29q, e29⟩ := hQ29
  have N29 := Fr.app N21 N29q
  show oG p e below _ (T29.setTop (mkF m 42 #[.val (.ref t_), .val (.int b_), .val (.int k_), .val (.ref b1), .val (.int (Int32.ofNat w6_0)), .val (.ref b21_0)] [(.int ((own_sub cs_ bN_ kN_).getD w6_0 0))]))
  refine og (fun _ hr => XS.sipush X29.here hx rfl (hb hby dc38_42) hr) ?_
  show oG p e below _ (T29.setTop (mkF m 45 #[.val (.ref t_), .val (.int b_), .val (.int k_), .val (.ref b1), .val (.int (Int32.ofNat w6_0)), .val (.ref b21_0)] [(.int (255 : Int32)), (.int ((own_sub cs_ bN_ kN_).getD w6_0 0))]))
  refine og (fun _ hr => XS.icmpYes X29.here hx rfl (pc0 := 45) (pc' := 61) rfl (hb hby dc38_45) rfl (tlt h25528).2.2.1 (by decide) (by decide) hr) ?_
  show oG p e below _ (T29.setTop (mkF m 61 #[.val (.ref t_), .val (.int b_), .val (.int k_), .val (.ref b1), .val (.int (Int32.ofNat w6_0)), .val (.ref b21_0)] []))
  refine og (fun _ hr => XS.aload X29.here hx rfl (hb hby dc38_61) rfl rfl hr) ?_
  show oG p e below _ (T29.setTop (mkF m 63 #[.val (.ref t_), .val (.int b_), .val (.int k_), .val (.ref b1), .val (.int (Int32.ofNat w6_0)), .val (.ref b21_0)] [(.ref b21_0)]))
  have hc34 : StrChars.Road.CodA (own_sub cs_ bN_ kN_) (1 : Int32) (Int32.ofNat (2 * (own_sub cs_ bN_ kN_).length)) (StrChars.Road.wideBytes (own_sub cs_ bN_ kN_)) := Or.inr ⟨rfl, rfl, rfl, ((own_sub cs_ bN_ kN_).getD w6_0 0), own_get_mem (by rw [own_sub_len]; exact hlt27), h25528⟩
  have K35 := (K24.trans K21 all0)
  exact own_retR X29 hx hlk Bd.returns rfl rfl (hb hby dc38_63) (by decide) (by decide) (by rw [e29]; exact ⟨b21_0, kb21_0, (1 : Int32), (Int32.ofNat (2 * (own_sub cs_ bN_ kN_).length)), (StrChars.Road.wideBytes (own_sub cs_ bN_ kN_)), rfl, N29, K35, ge21_0, sz23, f21_0, f25, hc34⟩)
theorem dc37_0 : decode jdk_52_method_69_code 0 = .ok (.iload_n 2, 1) := by decide +kernel
theorem dc37_1 : decode jdk_52_method_69_code 1 = .ok (.ifCond .ne 7, 3) := by decide +kernel
theorem dc37_8 : decode jdk_52_method_69_code 8 = .ok (.getstatic 251, 3) := by decide +kernel
theorem dc37_11 : decode jdk_52_method_69_code 11 = .ok (.ifCond .eq 28, 3) := by decide +kernel
theorem dc37_14 : decode jdk_52_method_69_code 14 = .ok (.aload_n 0, 1) := by decide +kernel
theorem dc37_15 : decode jdk_52_method_69_code 15 = .ok (.iload_n 1, 1) := by decide +kernel
theorem dc37_16 : decode jdk_52_method_69_code 16 = .ok (.iload_n 2, 1) := by decide +kernel
theorem dc37_17 : decode jdk_52_method_69_code 17 = .ok (.invokestatic 257, 3) := by decide +kernel
theorem dc37_20 : decode jdk_52_method_69_code 20 = .ok (.astore_n 3, 1) := by decide +kernel
theorem dc37_21 : decode jdk_52_method_69_code 21 = .ok (.aload_n 3, 1) := by decide +kernel
theorem dc37_22 : decode jdk_52_method_69_code 22 = .ok (.iload_n 2, 1) := by decide +kernel
theorem dc37_23 : decode jdk_52_method_69_code 23 = .ok (.invokestatic 259, 3) := by decide +kernel
theorem dc37_26 : decode jdk_52_method_69_code 26 = .ok (.istore 4, 2) := by decide +kernel
theorem dc37_28 : decode jdk_52_method_69_code 28 = .ok (.new 3, 3) := by decide +kernel
theorem dc37_31 : decode jdk_52_method_69_code 31 = .ok (.dup, 1) := by decide +kernel
theorem dc37_32 : decode jdk_52_method_69_code 32 = .ok (.aload_n 3, 1) := by decide +kernel
theorem dc37_33 : decode jdk_52_method_69_code 33 = .ok (.iload 4, 2) := by decide +kernel
theorem dc37_35 : decode jdk_52_method_69_code 35 = .ok (.invokespecial 263, 3) := by decide +kernel
theorem dc27_0 : decode jdk_42_method_151_code 0 = .ok (.aload_n 0, 1) := by decide +kernel
theorem dc27_1 : decode jdk_42_method_151_code 1 = .ok (.invokespecial 1, 3) := by decide +kernel
theorem dc27_4 : decode jdk_42_method_151_code 4 = .ok (.aload_n 0, 1) := by decide +kernel
theorem dc27_5 : decode jdk_42_method_151_code 5 = .ok (.aload_n 1, 1) := by decide +kernel
theorem dc27_6 : decode jdk_42_method_151_code 6 = .ok (.putfield 9, 3) := by decide +kernel
theorem dc27_9 : decode jdk_42_method_151_code 9 = .ok (.aload_n 0, 1) := by decide +kernel
theorem dc27_10 : decode jdk_42_method_151_code 10 = .ok (.iload_n 2, 1) := by decide +kernel
theorem dc27_11 : decode jdk_42_method_151_code 11 = .ok (.putfield 15, 3) := by decide +kernel
theorem dc27_14 : decode jdk_42_method_151_code 14 = .ok (.return_, 1) := by decide +kernel
def Q_init_11 (Z : State) (o0 : Addr) (o1 : Addr) (y0 : Int32) (h0 : Heap) (n0 : Nat) (v : Option Value) (h : Heap) (L : List Loc) : Prop := (v = none ∧ Fr n0 L ∧ Keep h0 h [o0] ∧ Fld Z h o0 "java/lang/String" "coder" "B" (.int y0) ∧ Fld Z h o0 "java/lang/String" "value" "[B" (.ref o1))
set_option maxRecDepth 65536 in
set_option maxHeartbeats 40000000 in
theorem rm_init_11 (l : Launch) (Z : State) (a0 : Array Value) (hw : ∀ d ∈ tables_1, d.before a0 Z = true) (ws : List Jvm.Cond) (o0 : Addr) (o1 : Addr) (y0 : Int32) (h0 : Heap) (n0 : Nat) (Z0 : n0 ≤ h0.size) (P0 : Exa Z h0 o0 "java/lang/String") (P1 : Fld Z h0 o0 "java/lang/String" "value" "[B" .null) (P2 : Fld Z h0 o0 "java/lang/String" "coder" "B" (.int (0 : Int32))) (ge0p : n0 ≤ o0) (hb0 : (nar .byte y0) = y0) :
    MetFree l (⟨"java/lang/String", "<init>", "([BB)V"⟩ : MethodName) (head1 (Jvm.Cond.code (⟨"java/lang/String", "<init>", "([BB)V"⟩ : MethodName) jdk_42_method_151_code 3 none :: ws) ({ frames := 1, cells := 0, slots := 0, locals := 12 } : Room)) (fun aA U => aA = #[(.ref o0), (.ref o1), (.int y0)] ∧ Z.Warmed39 U.vm ∧ U.heap = h0) (fun _ _ _ _ _ => True) (fun _ U o U' => ∃ v L, o = .returned v ∧ Q_init_11 Z o0 o1 y0 h0 n0 v U'.heap L ∧ FrameEnd U o U' L ({ frames := 1, cells := 0, slots := 0, locals := 12 } : Room).cells ({ frames := 1, cells := 0, slots := 0, locals := 12 } : Room).slots) := by
  refine MetFree.of_bodySF (plainFor_of_name own_pn_java_lang_String) hisR ?_
  intro p e s m args below meth c s₁ Bd hml0 hP hK
  obtain ⟨rfl, hZ, hh⟩ := hP
  have hx := Bd.exec
  have hby := Bd.bytes
  have hlk : meth.locks = false := BodyLoose.notSynchronized Bd
  have hml : c.maxLocals = 3 := hml0
  have hown : s.vm.findClass "java/lang/String" = some m.cls := findClass_of_methodNamed Bd.named
  have hnm := (name_of_methodNamed Bd.named Bd.method).1
  have X0 : Stand p l e ({ frames := 1, cells := 0, slots := 0, locals := 12 } : Room) s m #[(.ref o0), (.ref o1), (.int y0)] below meth c s₁ [] 0 0 := Stand.of_body Bd
  have e0 : s₁.heap = h0 := by rw [← hh, Bd.state]; rfl
  have N0 := Fr.nil n0
  have K0 : Keep h0 h0 [o0] := Keep.refl _ _
  show oG p e below (own_K s (Q_init_11 Z o0 o1 y0 h0 n0) ({ frames := 1, cells := 0, slots := 0, locals := 12 } : Room).cells ({ frames := 1, cells := 0, slots := 0, locals := 12 } : Room).slots) (s₁.setTop (entryFrame m #[(.ref o0), (.ref o1), (.int y0)] 3))
  rw [(by first | (simp [entryFrame, mkF, argsToLocals, Value.category]; done) | rfl : entryFrame m #[(.ref o0), (.ref o1), (.int y0)] 3 = mkF m 0 #[.val (.ref o0), .val (.ref o1), .val (.int y0)] [])]
  show oG p e below _ (s₁.setTop (mkF m 0 #[.val (.ref o0), .val (.ref o1), .val (.int y0)] []))
  refine og (fun _ hr => XS.aloadN X0.here hx rfl (hb hby dc27_0) rfl rfl hr) ?_
  show oG p e below _ (s₁.setTop (mkF m 1 #[.val (.ref o0), .val (.ref o1), .val (.int y0)] [(.ref o0)]))
  obtain ⟨T1, X1, e1, st1⟩ := initO X0 hx hZ hown (hw _ (own_m 19 rfl)) (hw _ (own_m 20 rfl)) (hw _ (own_m 21 rfl)) e0 (g := (mkF m 1 #[.val (.ref o0), .val (.ref o1), .val (.int y0)] [(.ref o0)])) rfl (by rw [hml]; rfl) rfl (hb hby dc27_1) (by decide) (W := 0) (by show 2 * 0 + _ ≤ _; exact Nat.le_of_eq rfl) (by decide)
  refine og st1 ?_
  show oG p e below _ (T1.setTop (mkF m 4 #[.val (.ref o0), .val (.ref o1), .val (.int y0)] []))
  refine og (fun _ hr => XS.aloadN X1.here hx rfl (hb hby dc27_4) rfl rfl (XS.aloadN X1.here hx rfl (hb hby dc27_5) rfl rfl hr)) ?_
  show oG p e below _ (T1.setTop (mkF m 6 #[.val (.ref o0), .val (.ref o1), .val (.int y0)] [(.ref o1), (.ref o0)]))
  obtain ⟨T2, h2, X2, e2, W2, st2⟩ := putF X1 hx hZ hown (host := "") (Or.inl (hw _ (own_m 28 rfl))) Via.refl e1 P1 P0 (Or.inr ⟨(hw _ (own_m 24 rfl)), rfl, hnm⟩) (hw _ (own_m 10 rfl)) (ty := (.array .byte)) (by decide) rfl rfl (g := (mkF m 6 #[.val (.ref o0), .val (.ref o1), .val (.int y0)] [(.ref o1), (.ref o0)])) rfl rfl (hb hby dc27_6)
  refine og st2 ?_
  have f3 := P1.same W2
  have N4 := Fr.snoc X2 N0 ge0p
  show oG p e below _ (T2.setTop (mkF m 9 #[.val (.ref o0), .val (.ref o1), .val (.int y0)] []))
  refine og (fun _ hr => XS.aloadN X2.here hx rfl (hb hby dc27_9) rfl rfl (XS.iloadN X2.here hx rfl (hb hby dc27_10) rfl hr)) ?_
  show oG p e below _ (T2.setTop (mkF m 11 #[.val (.ref o0), .val (.ref o1), .val (.int y0)] [(.int y0), (.ref o0)]))
  have f5 := (P0.wr W2)
  have f6 := (P2.other W2 (Or.inr (slot_ne (Or.inr (hw _ (own_m 25 rfl))) (Or.inr (hw _ (own_m 24 rfl))) (by decide) (t := .byte) (t' := (.array .byte)) (by decide) (by decide))))
  obtain ⟨T7, h7, X7, e7, W7, st7⟩ := putFN X2 hx hZ hown (hw _ (own_m 29 rfl)) Via.refl e2 f6 f5 (Or.inr ⟨(hw _ (own_m 25 rfl)), rfl, hnm⟩) (hw _ (own_m 10 rfl)) (ty := .byte) (v' := .int (nar .byte y0)) (by decide) rfl (fits_nar_byte _) (g := (mkF m 11 #[.val (.ref o0), .val (.ref o1), .val (.int y0)] [(.int y0), (.ref o0)])) rfl rfl (hb hby dc27_11)
  refine og st7 ?_
  have f8 : Fld Z h7 o0 "java/lang/String" "coder" "B" (.int y0) := by have q := f6.same W7; rw [hb0] at q; exact q
  have N9 := Fr.snoc X7 N4 ge0p
  show oG p e below _ (T7.setTop (mkF m 14 #[.val (.ref o0), .val (.ref o1), .val (.int y0)] []))
  have f10 := (f3.other W7 (Or.inr (slot_ne (Or.inr (hw _ (own_m 24 rfl))) (Or.inr (hw _ (own_m 25 rfl))) (by decide) (t := (.array .byte)) (t' := .byte) (by decide) (by decide))))
  have K11 := ((K0.wr W2 (Or.inl (List.mem_of_getElem? (i := 0) rfl))).wr W7 (Or.inl (List.mem_of_getElem? (i := 0) rfl)))
  exact own_ret0 X7 hx hlk Bd.returns (hb hby dc27_14) (by decide) (by decide) (by rw [e7]; exact ⟨rfl, N9, K11, f8, f10⟩)
theorem own_pd22 : parseMethodDescriptor "([BB)V" = some ⟨[(.array .byte), .byte], none⟩ := by decide +kernel
theorem dc37_38 : decode jdk_52_method_69_code 38 = .ok (.areturn, 1) := by decide +kernel
def Q_nsu (Z : State) (cs_ : List Int32) (bN_ : Nat) (kN_ : Nat) (h0 : Heap) (n0 : Nat) (v : Option Value) (h : Heap) (L : List Loc) : Prop := (∃ (a b : Addr) (k : ClassId) (cd N : Int32) (vs : List Value), v = some (.ref a) ∧ Fr n0 L ∧ Keep h0 h [] ∧ n0 ≤ a ∧ h0.size ≤ a ∧ Exa Z h a "java/lang/String" ∧ Fld Z h a "java/lang/String" "coder" "B" (.int cd) ∧ Fld Z h a "java/lang/String" "value" "[B" (.ref b) ∧ Arv Z h b k .byte N vs (.int (0 : Int32)) ∧ StrChars.Road.CodA (own_sub cs_ bN_ kN_) cd N vs)
set_option maxRecDepth 65536 in
set_option maxHeartbeats 40000000 in
theorem rm_nsu (l : Launch) (Z : State) (a0 : Array Value) (hw : ∀ d ∈ tables_1, d.before a0 Z = true) (ws : List Jvm.Cond) (t_ : Addr) (kt_ : ClassId) (nn_ : Int32) (vs_ : List Value) (b_ : Int32) (k_ : Int32) (cs_ : List Int32) (bN_ : Nat) (kN_ : Nat) (i_COMPACT_STRINGS : Int32) (v_SIOOBE_FORMATTER : Value) (h0 : Heap) (n0 : Nat) (Z0 : n0 ≤ h0.size) (Kt_ : Arv Z h0 t_ kt_ .byte nn_ vs_ (.int (0 : Int32))) (hN_ : nn_ = Int32.ofNat (2 * cs_.length)) (hv_ : vs_ = StrChars.Road.wideBytes cs_) (hbc_ : ∀ c ∈ cs_, ¬ c < 0 ∧ ¬ (65535 : Int32) < c) (hl5_ : cs_.length ≤ 5) (hbN_ : Int32.ofNat bN_ = b_) (hkN_ : Int32.ofNat kN_ = k_) (hbk_ : bN_ + kN_ ≤ cs_.length) (hnw_ : ¬ (bN_ = 0 ∧ kN_ = cs_.length)) (hk1_ : 0 < kN_) (S_COMPACT_STRINGS : Sta Z h0 "java/lang/String" "COMPACT_STRINGS" "Z" (.int i_COMPACT_STRINGS)) (hs_COMPACT_STRINGS : ¬ (i_COMPACT_STRINGS = (0 : Int32))) (S__assertionsDisabled : Sta Z h0 "java/lang/StringUTF16" "$assertionsDisabled" "Z" (.int (1 : Int32))) (S_HI_BYTE_SHIFT : Sta Z h0 "java/lang/StringUTF16" "HI_BYTE_SHIFT" "I" (.int (0 : Int32))) (S_LO_BYTE_SHIFT : Sta Z h0 "java/lang/StringUTF16" "LO_BYTE_SHIFT" "I" (.int (8 : Int32))) (S_SIOOBE_FORMATTER : Sta Z h0 "jdk/internal/util/Preconditions" "SIOOBE_FORMATTER" "Ljava/util/function/BiFunction;" v_SIOOBE_FORMATTER) (hv_SIOOBE_FORMATTER : v_SIOOBE_FORMATTER.isRef = true) :
    MetFree l (⟨"java/lang/StringUTF16", "newString", "([BII)Ljava/lang/String;"⟩ : MethodName) (head1 (Jvm.Cond.code (⟨"java/lang/StringUTF16", "newString", "([BII)Ljava/lang/String;"⟩ : MethodName) jdk_52_method_69_code 5 (some (.object "java/lang/String")) :: ws) ({ frames := 5, cells := 3, slots := 19, locals := 87 } : Room)) (fun aA U => aA = #[(.ref t_), (.int b_), (.int k_)] ∧ Z.Warmed39 U.vm ∧ U.heap = h0) (fun _ _ _ _ _ => True) (fun _ U o U' => ∃ v L, o = .returned v ∧ Q_nsu Z cs_ bN_ kN_ h0 n0 v U'.heap L ∧ FrameEnd U o U' L ({ frames := 5, cells := 3, slots := 19, locals := 87 } : Room).cells ({ frames := 5, cells := 3, slots := 19, locals := 87 } : Room).slots) := by
  refine MetFree.of_bodySF (plainFor_of_name own_pn_java_lang_StringUTF16) hisR ?_
  intro p e s m args below meth c s₁ Bd hml0 hP hK
  obtain ⟨rfl, hZ, hh⟩ := hP
  have hx := Bd.exec
  have hby := Bd.bytes
  have hlk : meth.locks = false := BodyLoose.notSynchronized Bd
  have hml : c.maxLocals = 5 := hml0
  have hown : s.vm.findClass "java/lang/StringUTF16" = some m.cls := findClass_of_methodNamed Bd.named
  have hnm := (name_of_methodNamed Bd.named Bd.method).1
  have X0 : Stand p l e ({ frames := 5, cells := 3, slots := 19, locals := 87 } : Room) s m #[(.ref t_), (.int b_), (.int k_)] below meth c s₁ [] 0 0 := Stand.of_body Bd
  have e0 : s₁.heap = h0 := by rw [← hh, Bd.state]; rfl
  have N0 := Fr.nil n0
  have hkz_ : ¬ (k_ = (0 : Int32)) := own_kz hkN_ hk1_ (by omega)
  have K0 : Keep h0 h0 [] := Keep.refl _ _
  show oG p e below (own_K s (Q_nsu Z cs_ bN_ kN_ h0 n0) ({ frames := 5, cells := 3, slots := 19, locals := 87 } : Room).cells ({ frames := 5, cells := 3, slots := 19, locals := 87 } : Room).slots) (s₁.setTop (entryFrame m #[(.ref t_), (.int b_), (.int k_)] 5))
  rw [(by first | (simp [entryFrame, mkF, argsToLocals, Value.category]; done) | rfl : entryFrame m #[(.ref t_), (.int b_), (.int k_)] 5 = mkF m 0 #[.val (.ref t_), .val (.int b_), .val (.int k_), .unset, .unset] [])]
  show oG p e below _ (s₁.setTop (mkF m 0 #[.val (.ref t_), .val (.int b_), .val (.int k_), .unset, .unset] []))
  refine og (fun _ hr => XS.iloadN X0.here hx rfl (hb hby dc37_0) rfl hr) ?_
  show oG p e below _ (s₁.setTop (mkF m 1 #[.val (.ref t_), .val (.int b_), .val (.int k_), .unset, .unset] [(.int k_)]))
  refine og (fun _ hr => XS.ifYes X0.here hx rfl (pc0 := 1) (pc' := 8) rfl (hb hby dc37_1) rfl ((if0 _ _).trans (feq hkz_).2) (by decide) (by decide) hr) ?_
  show oG p e below _ (s₁.setTop (mkF m 8 #[.val (.ref t_), .val (.int b_), .val (.int k_), .unset, .unset] []))
  obtain ⟨T1, X1, e1, st1⟩ := getS2 X0 hx hZ hown (host := "") (Or.inl (hw _ (own_m 159 rfl))) Via.refl e0 S_COMPACT_STRINGS (g := (mkF m 8 #[.val (.ref t_), .val (.int b_), .val (.int k_), .unset, .unset] [])) rfl (hb hby dc37_8)
  refine og st1 ?_
  show oG p e below _ (T1.setTop (mkF m 11 #[.val (.ref t_), .val (.int b_), .val (.int k_), .unset, .unset] [(.int i_COMPACT_STRINGS)]))
  refine og (fun _ hr => XS.ifNo X1.here hx rfl (hb hby dc37_11) rfl ((if0 _ _).trans (feq hs_COMPACT_STRINGS).1) hr) ?_
  show oG p e below _ (T1.setTop (mkF m 14 #[.val (.ref t_), .val (.int b_), .val (.int k_), .unset, .unset] []))
  refine og (fun _ hr => XS.aloadN X1.here hx rfl (hb hby dc37_14) rfl rfl (XS.iloadN X1.here hx rfl (hb hby dc37_15) rfl (XS.iloadN X1.here hx rfl (hb hby dc37_16) rfl hr))) ?_
  show oG p e below _ (T1.setTop (mkF m 17 #[.val (.ref t_), .val (.int b_), .val (.int k_), .unset, .unset] [(.int k_), (.int b_), (.ref t_)]))
  refine own_cs X1 hx hZ hown (hw _ (own_m 160 rfl)) (hw _ (own_m 161 rfl)) (hw _ (own_m 66 rfl)) (hw _ (own_m 162 rfl)) (by decide) (rm := { frames := 4, cells := 2, slots := 15, locals := 70 }) (rm_cy l Z a0 hw [] t_ kt_ nn_ vs_ b_ k_ cs_ bN_ kN_ v_SIOOBE_FORMATTER h0 n0 Z0 Kt_ hN_ hv_ hbc_ hl5_ hbN_ hkN_ hbk_ hnw_ S__assertionsDisabled S_HI_BYTE_SHIFT S_LO_BYTE_SHIFT S_SIOOBE_FORMATTER hv_SIOOBE_FORMATTER) (by decide) (W := 0) (by decide) (by decide) (by decide) e1 (by rw [hml]; rfl) (argsL := [(.ref t_), (.int b_), (.int k_)]) (lenOf own_pd17 rfl) (rest := []) rfl rfl (Nat.le_of_eq rfl) (hb hby dc37_17) ?_
  intro _ T2 L2 X2 hQ2
  obtain ⟨b2_0, kb2_0, w2_0, w2_1, w2_2, rfl, N2q, K2, ge2_0, sz2_0, f2_0, f2_1, hx2_0⟩ := hQ2
  have N2 := Fr.app N0 N2q
  have sz3 : h0.size ≤ b2_0 := Nat.le_trans K0.1 sz2_0
  show oG p e below _ (T2.setTop (mkF m 20 #[.val (.ref t_), .val (.int b_), .val (.int k_), .unset, .unset] [(.ref b2_0)]))
  refine og (fun _ hr => XS.astoreN X2.here hx rfl (hb hby dc37_20) rfl rfl (l' := #[.val (.ref t_), .val (.int b_), .val (.int k_), .val (.ref b2_0), .unset]) rfl (XS.aloadN X2.here hx rfl (hb hby dc37_21) rfl rfl (XS.iloadN X2.here hx rfl (hb hby dc37_22) rfl hr))) ?_
  show oG p e below _ (T2.setTop (mkF m 23 #[.val (.ref t_), .val (.int b_), .val (.int k_), .val (.ref b2_0), .unset] [(.int k_), (.ref b2_0)]))
  have Z5 := (Nat.le_trans Z0 K2.1)
  refine own_cs X2 hx hZ hown (hw _ (own_m 176 rfl)) (hw _ (own_m 72 rfl)) (hw _ (own_m 66 rfl)) (hw _ (own_m 73 rfl)) (by decide) (rm := { frames := 0, cells := 0, slots := 0, locals := 0 }) (rm_cf l Z a0 hw [] b2_0 kb2_0 w2_1 w2_2 k_ T2.heap n0 Z5 f2_1) (by decide) (W := 0) (by decide) (by decide) (by decide) rfl (by rw [hml]; rfl) (argsL := [(.ref b2_0), (.int k_)]) (lenOf own_pd8 rfl) (rest := []) rfl rfl (Nat.le_of_eq rfl) (hb hby dc37_23) ?_
  intro _ T4 L4 X4 hQ4
  obtain ⟨rfl, N4q, e4⟩ := hQ4
  have N4 := Fr.app N2 N4q
  rw [own_cfc hx2_0 (own_sub_len _ _ _) hkN_ (by omega)]
  show oG p e below _ (T4.setTop (mkF m 26 #[.val (.ref t_), .val (.int b_), .val (.int k_), .val (.ref b2_0), .unset] [(.int w2_0)]))
  refine og (fun _ hr => XS.istore X4.here hx rfl (hb hby dc37_26) rfl (l' := #[.val (.ref t_), .val (.int b_), .val (.int k_), .val (.ref b2_0), .val (.int w2_0)]) rfl hr) ?_
  show oG p e below _ (T4.setTop (mkF m 28 #[.val (.ref t_), .val (.int b_), .val (.int k_), .val (.ref b2_0), .val (.int w2_0)] []))
  obtain ⟨T6, h6, X6, e6, E6, A6, D6, -, st6⟩ := newO X4 hx hZ hown (hw _ (own_m 177 rfl)) (hw _ (own_m 10 rfl)) (hw _ (own_m 11 rfl)) e4 (g := (mkF m 28 #[.val (.ref t_), .val (.int b_), .val (.int k_), .val (.ref b2_0), .val (.int w2_0)] [])) rfl (hb hby dc37_28) (by decide) (by decide)
  obtain ⟨b6, g6⟩ : ∃ z, z = T2.heap.size := ⟨_, rfl⟩
  rw [← g6] at A6 D6 st6
  have ge7 : n0 ≤ b6 := Nat.le_trans Z5 (Nat.le_of_eq g6.symm)
  have K8 := (K0.trans K2 all0)
  have sz9 : h0.size ≤ b6 := Nat.le_trans K8.1 (Nat.le_of_eq g6.symm)
  refine og st6 ?_
  have f10 : Fld Z h6 b6 "java/lang/String" "value" "[B" .null := D6 (Or.inr (hw _ (own_m 24 rfl))) (ty := (.array .byte)) (by decide)
  have f11 : Fld Z h6 b6 "java/lang/String" "coder" "B" (.int (0 : Int32)) := D6 (Or.inr (hw _ (own_m 25 rfl))) (ty := .byte) (by decide)
  show oG p e below _ (T6.setTop (mkF m 31 #[.val (.ref t_), .val (.int b_), .val (.int k_), .val (.ref b2_0), .val (.int w2_0)] [(.ref b6)]))
  refine og (fun _ hr => XS.dup X6.here hx rfl (hb hby dc37_31) rfl rfl (XS.aloadN X6.here hx rfl (hb hby dc37_32) rfl rfl (XS.iload X6.here hx rfl (hb hby dc37_33) rfl hr))) ?_
  show oG p e below _ (T6.setTop (mkF m 35 #[.val (.ref t_), .val (.int b_), .val (.int k_), .val (.ref b2_0), .val (.int w2_0)] [(.int w2_0), (.ref b2_0), (.ref b6), (.ref b6)]))
  have c12 : (nar .byte w2_0) = w2_0 := own_cdb hx2_0
  have Z14 := (Nat.le_trans Z5 E6.1)
  refine own_cp X6 hx hZ hown rfl (hw _ (own_m 178 rfl)) (hw _ (own_m 120 rfl)) (hw _ (own_m 11 rfl)) (hw _ (own_m 121 rfl)) (by decide) (rm := { frames := 1, cells := 0, slots := 0, locals := 12 }) (rm_init_11 l Z a0 hw [] b6 b2_0 w2_0 h6 n0 Z14 A6 f10 f11 ge7 c12) (by decide) (W := 1) (by decide) (by decide) (by decide) e6 (by rw [hml]; rfl) (argsL := [(.ref b2_0), (.int w2_0)]) (lenOf own_pd22 rfl) (rest := [(.ref b6)]) rfl rfl (Nat.le_of_eq rfl) (hb hby dc37_35) ?_
  intro _ T13 L13 X13 hQ13
  obtain ⟨rfl, N13q, K13, f13_0, f13_1⟩ := hQ13
  have N13 := Fr.app N4 N13q
  show oG p e below _ (T13.setTop (mkF m 38 #[.val (.ref t_), .val (.int b_), .val (.int k_), .val (.ref b2_0), .val (.int w2_0)] [(.ref b6)]))
  have f15 := (A6.keep K13)
  have f16 := ((f2_1.ext E6).keep K13 (ninS (Nat.ne_of_lt (Nat.lt_of_lt_of_le f2_0.lt (Nat.le_of_eq g6.symm))) nin0))
  have K17 := ((K8.ext E6).trans K13 (allS (Or.inr sz9) all0))
  exact own_retR X13 hx hlk Bd.returns rfl rfl (hb hby dc37_38) (by decide) (by decide) (by exact ⟨b6, b2_0, kb2_0, w2_0, w2_1, w2_2, rfl, N13, K17, ge7, sz9, f15, f13_0, f13_1, f16, hx2_0⟩)
theorem dc22_0 : decode jdk_43_method_47_code 0 = .ok (.iload_n 2, 1) := by decide +kernel
theorem dc22_1 : decode jdk_43_method_47_code 1 = .ok (.ifCond .ne 6, 3) := by decide +kernel
theorem dc22_7 : decode jdk_43_method_47_code 7 = .ok (.new 1, 3) := by decide +kernel
theorem dc22_10 : decode jdk_43_method_47_code 10 = .ok (.dup, 1) := by decide +kernel
theorem dc22_11 : decode jdk_43_method_47_code 11 = .ok (.aload_n 0, 1) := by decide +kernel
theorem dc22_12 : decode jdk_43_method_47_code 12 = .ok (.iload_n 1, 1) := by decide +kernel
theorem dc22_13 : decode jdk_43_method_47_code 13 = .ok (.iload_n 1, 1) := by decide +kernel
theorem dc22_14 : decode jdk_43_method_47_code 14 = .ok (.iload_n 2, 1) := by decide +kernel
theorem dc22_15 : decode jdk_43_method_47_code 15 = .ok (.iadd, 1) := by decide +kernel
theorem dc22_16 : decode jdk_43_method_47_code 16 = .ok (.invokestatic 232, 3) := by decide +kernel
theorem dc22_19 : decode jdk_43_method_47_code 19 = .ok (.iconst 0, 1) := by decide +kernel
theorem dc22_20 : decode jdk_43_method_47_code 20 = .ok (.invokespecial 112, 3) := by decide +kernel
def Q_init_12 (Z : State) (o0 : Addr) (o1 : Addr) (h0 : Heap) (n0 : Nat) (v : Option Value) (h : Heap) (L : List Loc) : Prop := (v = none ∧ Fr n0 L ∧ Keep h0 h [o0] ∧ Fld Z h o0 "java/lang/String" "coder" "B" (.int (0 : Int32)) ∧ Fld Z h o0 "java/lang/String" "value" "[B" (.ref o1))
set_option maxRecDepth 65536 in
set_option maxHeartbeats 40000000 in
theorem rm_init_12 (l : Launch) (Z : State) (a0 : Array Value) (hw : ∀ d ∈ tables_1, d.before a0 Z = true) (ws : List Jvm.Cond) (o0 : Addr) (o1 : Addr) (h0 : Heap) (n0 : Nat) (Z0 : n0 ≤ h0.size) (P0 : Exa Z h0 o0 "java/lang/String") (P1 : Fld Z h0 o0 "java/lang/String" "value" "[B" .null) (P2 : Fld Z h0 o0 "java/lang/String" "coder" "B" (.int (0 : Int32))) (ge0p : n0 ≤ o0) :
    MetFree l (⟨"java/lang/String", "<init>", "([BB)V"⟩ : MethodName) (head1 (Jvm.Cond.code (⟨"java/lang/String", "<init>", "([BB)V"⟩ : MethodName) jdk_42_method_151_code 3 none :: ws) ({ frames := 1, cells := 0, slots := 0, locals := 12 } : Room)) (fun aA U => aA = #[(.ref o0), (.ref o1), (.int (0 : Int32))] ∧ Z.Warmed39 U.vm ∧ U.heap = h0) (fun _ _ _ _ _ => True) (fun _ U o U' => ∃ v L, o = .returned v ∧ Q_init_12 Z o0 o1 h0 n0 v U'.heap L ∧ FrameEnd U o U' L ({ frames := 1, cells := 0, slots := 0, locals := 12 } : Room).cells ({ frames := 1, cells := 0, slots := 0, locals := 12 } : Room).slots) := by
  refine MetFree.of_bodySF (plainFor_of_name own_pn_java_lang_String) hisR ?_
  intro p e s m args below meth c s₁ Bd hml0 hP hK
  obtain ⟨rfl, hZ, hh⟩ := hP
  have hx := Bd.exec
  have hby := Bd.bytes
  have hlk : meth.locks = false := BodyLoose.notSynchronized Bd
  have hml : c.maxLocals = 3 := hml0
  have hown : s.vm.findClass "java/lang/String" = some m.cls := findClass_of_methodNamed Bd.named
  have hnm := (name_of_methodNamed Bd.named Bd.method).1
  have X0 : Stand p l e ({ frames := 1, cells := 0, slots := 0, locals := 12 } : Room) s m #[(.ref o0), (.ref o1), (.int (0 : Int32))] below meth c s₁ [] 0 0 := Stand.of_body Bd
  have e0 : s₁.heap = h0 := by rw [← hh, Bd.state]; rfl
  have N0 := Fr.nil n0
  have K0 : Keep h0 h0 [o0] := Keep.refl _ _
  show oG p e below (own_K s (Q_init_12 Z o0 o1 h0 n0) ({ frames := 1, cells := 0, slots := 0, locals := 12 } : Room).cells ({ frames := 1, cells := 0, slots := 0, locals := 12 } : Room).slots) (s₁.setTop (entryFrame m #[(.ref o0), (.ref o1), (.int (0 : Int32))] 3))
  rw [(by first | (simp [entryFrame, mkF, argsToLocals, Value.category]; done) | rfl : entryFrame m #[(.ref o0), (.ref o1), (.int (0 : Int32))] 3 = mkF m 0 #[.val (.ref o0), .val (.ref o1), .val (.int (0 : Int32))] [])]
  show oG p e below _ (s₁.setTop (mkF m 0 #[.val (.ref o0), .val (.ref o1), .val (.int (0 : Int32))] []))
  refine og (fun _ hr => XS.aloadN X0.here hx rfl (hb hby dc27_0) rfl rfl hr) ?_
  show oG p e below _ (s₁.setTop (mkF m 1 #[.val (.ref o0), .val (.ref o1), .val (.int (0 : Int32))] [(.ref o0)]))
  obtain ⟨T1, X1, e1, st1⟩ := initO X0 hx hZ hown (hw _ (own_m 19 rfl)) (hw _ (own_m 20 rfl)) (hw _ (own_m 21 rfl)) e0 (g := (mkF m 1 #[.val (.ref o0), .val (.ref o1), .val (.int (0 : Int32))] [(.ref o0)])) rfl (by rw [hml]; rfl) rfl (hb hby dc27_1) (by decide) (W := 0) (by show 2 * 0 + _ ≤ _; exact Nat.le_of_eq rfl) (by decide)
  refine og st1 ?_
  show oG p e below _ (T1.setTop (mkF m 4 #[.val (.ref o0), .val (.ref o1), .val (.int (0 : Int32))] []))
  refine og (fun _ hr => XS.aloadN X1.here hx rfl (hb hby dc27_4) rfl rfl (XS.aloadN X1.here hx rfl (hb hby dc27_5) rfl rfl hr)) ?_
  show oG p e below _ (T1.setTop (mkF m 6 #[.val (.ref o0), .val (.ref o1), .val (.int (0 : Int32))] [(.ref o1), (.ref o0)]))
  obtain ⟨T2, h2, X2, e2, W2, st2⟩ := putF X1 hx hZ hown (host := "") (Or.inl (hw _ (own_m 28 rfl))) Via.refl e1 P1 P0 (Or.inr ⟨(hw _ (own_m 24 rfl)), rfl, hnm⟩) (hw _ (own_m 10 rfl)) (ty := (.array .byte)) (by decide) rfl rfl (g := (mkF m 6 #[.val (.ref o0), .val (.ref o1), .val (.int (0 : Int32))] [(.ref o1), (.ref o0)])) rfl rfl (hb hby dc27_6)
  refine og st2 ?_
  have f3 := P1.same W2
  have N4 := Fr.snoc X2 N0 ge0p
  show oG p e below _ (T2.setTop (mkF m 9 #[.val (.ref o0), .val (.ref o1), .val (.int (0 : Int32))] []))
  refine og (fun _ hr => XS.aloadN X2.here hx rfl (hb hby dc27_9) rfl rfl (XS.iloadN X2.here hx rfl (hb hby dc27_10) rfl hr)) ?_
  show oG p e below _ (T2.setTop (mkF m 11 #[.val (.ref o0), .val (.ref o1), .val (.int (0 : Int32))] [(.int (0 : Int32)), (.ref o0)]))
  have f5 := (P0.wr W2)
  have f6 := (P2.other W2 (Or.inr (slot_ne (Or.inr (hw _ (own_m 25 rfl))) (Or.inr (hw _ (own_m 24 rfl))) (by decide) (t := .byte) (t' := (.array .byte)) (by decide) (by decide))))
  obtain ⟨T7, h7, X7, e7, W7, st7⟩ := putFN X2 hx hZ hown (hw _ (own_m 29 rfl)) Via.refl e2 f6 f5 (Or.inr ⟨(hw _ (own_m 25 rfl)), rfl, hnm⟩) (hw _ (own_m 10 rfl)) (ty := .byte) (v' := .int (0 : Int32)) (by decide) rfl (by decide) (g := (mkF m 11 #[.val (.ref o0), .val (.ref o1), .val (.int (0 : Int32))] [(.int (0 : Int32)), (.ref o0)])) rfl rfl (hb hby dc27_11)
  refine og st7 ?_
  have f8 := f6.same W7
  have N9 := Fr.snoc X7 N4 ge0p
  show oG p e below _ (T7.setTop (mkF m 14 #[.val (.ref o0), .val (.ref o1), .val (.int (0 : Int32))] []))
  have f10 := (f3.other W7 (Or.inr (slot_ne (Or.inr (hw _ (own_m 24 rfl))) (Or.inr (hw _ (own_m 25 rfl))) (by decide) (t := (.array .byte)) (t' := .byte) (by decide) (by decide))))
  have K11 := ((K0.wr W2 (Or.inl (List.mem_of_getElem? (i := 0) rfl))).wr W7 (Or.inl (List.mem_of_getElem? (i := 0) rfl)))
  exact own_ret0 X7 hx hlk Bd.returns (hb hby dc27_14) (by decide) (by decide) (by rw [e7]; exact ⟨rfl, N9, K11, f8, f10⟩)
theorem dc22_23 : decode jdk_43_method_47_code 23 = .ok (.areturn, 1) := by decide +kernel
theorem own_pn_java_lang_StringLatin1 : plainName "java/lang/StringLatin1" = true := by first | (simp [plainName, overriddenIn]; done) | decide +kernel
def Q_nsl (Z : State) (cs_ : List Int32) (bN_ : Nat) (kN_ : Nat) (h0 : Heap) (n0 : Nat) (v : Option Value) (h : Heap) (L : List Loc) : Prop := (∃ (a b : Addr) (k : ClassId) (cd N : Int32) (vs : List Value), v = some (.ref a) ∧ Fr n0 L ∧ Keep h0 h [] ∧ n0 ≤ a ∧ h0.size ≤ a ∧ Exa Z h a "java/lang/String" ∧ Fld Z h a "java/lang/String" "coder" "B" (.int cd) ∧ Fld Z h a "java/lang/String" "value" "[B" (.ref b) ∧ Arv Z h b k .byte N vs (.int (0 : Int32)) ∧ StrChars.Road.CodA (own_sub cs_ bN_ kN_) cd N vs)
set_option maxRecDepth 65536 in
set_option maxHeartbeats 40000000 in
theorem rm_nsl (l : Launch) (Z : State) (a0 : Array Value) (hw : ∀ d ∈ tables_1, d.before a0 Z = true) (ws : List Jvm.Cond) (t_ : Addr) (kt_ : ClassId) (nn_ : Int32) (vs_ : List Value) (b_ : Int32) (k_ : Int32) (cs_ : List Int32) (bN_ : Nat) (kN_ : Nat) (h0 : Heap) (n0 : Nat) (Z0 : n0 ≤ h0.size) (Kt_ : Arv Z h0 t_ kt_ .byte nn_ vs_ (.int (0 : Int32))) (hN_ : nn_ = Int32.ofNat cs_.length) (hv_ : vs_ = (cs_.map fun c => Value.int (StrChars.lo8 c))) (hla_ : ∀ c ∈ cs_, ¬ 255 < c) (hl5_ : cs_.length ≤ 5) (hbN_ : Int32.ofNat bN_ = b_) (hkN_ : Int32.ofNat kN_ = k_) (hbk_ : bN_ + kN_ ≤ cs_.length) (hnw_ : ¬ (bN_ = 0 ∧ kN_ = cs_.length)) (hk1_ : 0 < kN_) :
    MetFree l (⟨"java/lang/StringLatin1", "newString", "([BII)Ljava/lang/String;"⟩ : MethodName) (head1 (Jvm.Cond.code (⟨"java/lang/StringLatin1", "newString", "([BII)Ljava/lang/String;"⟩ : MethodName) jdk_43_method_47_code 3 (some (.object "java/lang/String")) :: ws) ({ frames := 3, cells := 2, slots := 14, locals := 72 } : Room)) (fun aA U => aA = #[(.ref t_), (.int b_), (.int k_)] ∧ Z.Warmed39 U.vm ∧ U.heap = h0) (fun _ _ _ _ _ => True) (fun _ U o U' => ∃ v L, o = .returned v ∧ Q_nsl Z cs_ bN_ kN_ h0 n0 v U'.heap L ∧ FrameEnd U o U' L ({ frames := 3, cells := 2, slots := 14, locals := 72 } : Room).cells ({ frames := 3, cells := 2, slots := 14, locals := 72 } : Room).slots) := by
  refine MetFree.of_bodySF (plainFor_of_name own_pn_java_lang_StringLatin1) hisR ?_
  intro p e s m args below meth c s₁ Bd hml0 hP hK
  obtain ⟨rfl, hZ, hh⟩ := hP
  have hx := Bd.exec
  have hby := Bd.bytes
  have hlk : meth.locks = false := BodyLoose.notSynchronized Bd
  have hml : c.maxLocals = 3 := hml0
  have hown : s.vm.findClass "java/lang/StringLatin1" = some m.cls := findClass_of_methodNamed Bd.named
  have hnm := (name_of_methodNamed Bd.named Bd.method).1
  have X0 : Stand p l e ({ frames := 3, cells := 2, slots := 14, locals := 72 } : Room) s m #[(.ref t_), (.int b_), (.int k_)] below meth c s₁ [] 0 0 := Stand.of_body Bd
  have e0 : s₁.heap = h0 := by rw [← hh, Bd.state]; rfl
  have N0 := Fr.nil n0
  have hkz_ : ¬ (k_ = (0 : Int32)) := own_kz hkN_ hk1_ (by omega)
  have K0 : Keep h0 h0 [] := Keep.refl _ _
  show oG p e below (own_K s (Q_nsl Z cs_ bN_ kN_ h0 n0) ({ frames := 3, cells := 2, slots := 14, locals := 72 } : Room).cells ({ frames := 3, cells := 2, slots := 14, locals := 72 } : Room).slots) (s₁.setTop (entryFrame m #[(.ref t_), (.int b_), (.int k_)] 3))
  rw [(by first | (simp [entryFrame, mkF, argsToLocals, Value.category]; done) | rfl : entryFrame m #[(.ref t_), (.int b_), (.int k_)] 3 = mkF m 0 #[.val (.ref t_), .val (.int b_), .val (.int k_)] [])]
  show oG p e below _ (s₁.setTop (mkF m 0 #[.val (.ref t_), .val (.int b_), .val (.int k_)] []))
  refine og (fun _ hr => XS.iloadN X0.here hx rfl (hb hby dc22_0) rfl hr) ?_
  show oG p e below _ (s₁.setTop (mkF m 1 #[.val (.ref t_), .val (.int b_), .val (.int k_)] [(.int k_)]))
  refine og (fun _ hr => XS.ifYes X0.here hx rfl (pc0 := 1) (pc' := 7) rfl (hb hby dc22_1) rfl ((if0 _ _).trans (feq hkz_).2) (by decide) (by decide) hr) ?_
  show oG p e below _ (s₁.setTop (mkF m 7 #[.val (.ref t_), .val (.int b_), .val (.int k_)] []))
  obtain ⟨T1, h1, X1, e1, E1, A1, D1, -, st1⟩ := newO X0 hx hZ hown (hw _ (own_m 100 rfl)) (hw _ (own_m 10 rfl)) (hw _ (own_m 11 rfl)) e0 (g := (mkF m 7 #[.val (.ref t_), .val (.int b_), .val (.int k_)] [])) rfl (hb hby dc22_7) (by decide) (by decide)
  obtain ⟨b1, g1⟩ : ∃ z, z = h0.size := ⟨_, rfl⟩
  rw [← g1] at A1 D1 st1
  have ge2 : n0 ≤ b1 := Nat.le_trans Z0 (Nat.le_of_eq g1.symm)
  have sz3 : h0.size ≤ b1 := Nat.le_trans K0.1 (Nat.le_of_eq g1.symm)
  refine og st1 ?_
  have f4 : Fld Z h1 b1 "java/lang/String" "value" "[B" .null := D1 (Or.inr (hw _ (own_m 24 rfl))) (ty := (.array .byte)) (by decide)
  have f5 : Fld Z h1 b1 "java/lang/String" "coder" "B" (.int (0 : Int32)) := D1 (Or.inr (hw _ (own_m 25 rfl))) (ty := .byte) (by decide)
  show oG p e below _ (T1.setTop (mkF m 10 #[.val (.ref t_), .val (.int b_), .val (.int k_)] [(.ref b1)]))
  refine og (fun _ hr => XS.dup X1.here hx rfl (hb hby dc22_10) rfl rfl (XS.aloadN X1.here hx rfl (hb hby dc22_11) rfl rfl (XS.iloadN X1.here hx rfl (hb hby dc22_12) rfl (XS.iloadN X1.here hx rfl (hb hby dc22_13) rfl (XS.iloadN X1.here hx rfl (hb hby dc22_14) rfl (XS.iadd X1.here hx rfl (hb hby dc22_15) rfl hr)))))) ?_
  show oG p e below _ (T1.setTop (mkF m 16 #[.val (.ref t_), .val (.int b_), .val (.int k_)] [(.int (b_ + k_)), (.int b_), (.ref t_), (.ref b1), (.ref b1)]))
  have f7 := (Kt_.ext E1)
  have Z8 := (Nat.le_trans Z0 E1.1)
  refine own_cs X1 hx hZ hown (hw _ (own_m 101 rfl)) (hw _ (own_m 102 rfl)) (hw _ (own_m 103 rfl)) (hw _ (own_m 104 rfl)) (by decide) (rm := { frames := 2, cells := 1, slots := 10, locals := 56 }) (rm_cor l Z a0 hw [] t_ kt_ nn_ vs_ b_ (b_ + k_) bN_ (bN_ + kN_) cs_.length h1 n0 Z8 f7 hbN_ (own_add hbN_ hkN_) hN_.symm (Nat.le_add_right _ _) hbk_ (by omega) (by omega)) (by decide) (W := 2) (by decide) (by decide) (by decide) e1 (by rw [hml]; rfl) (argsL := [(.ref t_), (.int b_), (.int (b_ + k_))]) (lenOf own_pd17 rfl) (rest := [(.ref b1), (.ref b1)]) rfl rfl (Nat.le_of_eq rfl) (hb hby dc22_16) ?_
  intro _ T6 L6 X6 hQ6
  obtain ⟨b6_0, kb6_0, rfl, N6q, K6, ge6_0, sz6_0, f6_0, f6_1⟩ := hQ6
  have N6 := Fr.app N0 N6q
  have K10 := (K0.ext E1)
  have sz9 : h0.size ≤ b6_0 := Nat.le_trans K10.1 sz6_0
  show oG p e below _ (T6.setTop (mkF m 19 #[.val (.ref t_), .val (.int b_), .val (.int k_)] [(.ref b6_0), (.ref b1), (.ref b1)]))
  refine og (fun _ hr => XS.iconst X6.here hx rfl (hb hby dc22_19) hr) ?_
  show oG p e below _ (T6.setTop (mkF m 20 #[.val (.ref t_), .val (.int b_), .val (.int k_)] [(.int (0 : Int32)), (.ref b6_0), (.ref b1), (.ref b1)]))
  have f12 := (A1.keep K6)
  have f13 := (f4.keep K6 nin0)
  have f14 := (f5.keep K6 nin0)
  have Z15 := (Nat.le_trans Z8 K6.1)
  refine own_cp X6 hx hZ hown rfl (hw _ (own_m 119 rfl)) (hw _ (own_m 120 rfl)) (hw _ (own_m 11 rfl)) (hw _ (own_m 121 rfl)) (by decide) (rm := { frames := 1, cells := 0, slots := 0, locals := 12 }) (rm_init_12 l Z a0 hw [] b1 b6_0 T6.heap n0 Z15 f12 f13 f14 ge2) (by decide) (W := 1) (by decide) (by decide) (by decide) rfl (by rw [hml]; rfl) (argsL := [(.ref b6_0), (.int (0 : Int32))]) (lenOf own_pd22 rfl) (rest := [(.ref b1)]) rfl rfl (Nat.le_of_eq rfl) (hb hby dc22_20) ?_
  intro _ T11 L11 X11 hQ11
  obtain ⟨rfl, N11q, K11, f11_0, f11_1⟩ := hQ11
  have N11 := Fr.app N6 N11q
  show oG p e below _ (T11.setTop (mkF m 23 #[.val (.ref t_), .val (.int b_), .val (.int k_)] [(.ref b1)]))
  have f16 := (f12.keep K11)
  have f17 := (f6_1.keep K11 (ninS (Ne.symm (Nat.ne_of_lt (Nat.lt_of_lt_of_le A1.lt sz6_0))) nin0))
  have eN19 : ((b_ + k_) - b_) = k_ := by rw [← (own_cpb hbN_ (own_add hbN_ hkN_) hN_.symm (Nat.le_add_right _ _) hbk_ (by omega)).2.2.2.2.1, Nat.add_sub_cancel_left]; exact hkN_
  have f18 : Arv Z T11.heap b6_0 kb6_0 .byte k_ ((own_sub cs_ bN_ kN_).map fun c => Value.int (StrChars.lo8 c)) (.int (0 : Int32)) := by have q := f17; rw [eN19, hv_, Nat.add_sub_cancel_left, own_subl cs_ kN_ bN_ hbk_] at q; exact q
  have hc20 : StrChars.Road.CodA (own_sub cs_ bN_ kN_) 0 k_ ((own_sub cs_ bN_ kN_).map fun c => Value.int (StrChars.lo8 c)) := Or.inl ⟨rfl, by rw [own_sub_len]; exact hkN_.symm, rfl, own_sub_mem hbk_ hla_⟩
  have K21 := ((K10.trans K6 all0).trans K11 (allS (Or.inr sz3) all0))
  exact own_retR X11 hx hlk Bd.returns rfl rfl (hb hby dc22_23) (by decide) (by decide) (by exact ⟨b1, b6_0, kb6_0, (0 : Int32), k_, ((own_sub cs_ bN_ kN_).map fun c => Value.int (StrChars.lo8 c)), rfl, N11, K21, ge2, sz3, f16, f11_0, f11_1, f18, hc20⟩)
theorem own_inj {a b : Nat} {x : Int32} (ha : Int32.ofNat a = x) (hb : Int32.ofNat b = x) (h1 : a ≤ 5) (h2 : b ≤ 5) : a = b := (own_tn ha h1).symm.trans (own_tn hb h2)
theorem dc9_0 : decode jdk_42_method_92_code 0 = .ok (.aload_n 0, 1) := by decide +kernel
theorem dc9_1 : decode jdk_42_method_92_code 1 = .ok (.invokevirtual 505, 3) := by decide +kernel
theorem dc9_4 : decode jdk_42_method_92_code 4 = .ok (.istore_n 3, 1) := by decide +kernel
theorem dc9_5 : decode jdk_42_method_92_code 5 = .ok (.iload_n 1, 1) := by decide +kernel
theorem dc9_6 : decode jdk_42_method_92_code 6 = .ok (.iload_n 2, 1) := by decide +kernel
theorem dc9_7 : decode jdk_42_method_92_code 7 = .ok (.iload_n 3, 1) := by decide +kernel
theorem dc9_8 : decode jdk_42_method_92_code 8 = .ok (.invokestatic 521, 3) := by decide +kernel
theorem dc10_0 : decode jdk_42_method_158_code 0 = .ok (.iload_n 0, 1) := by decide +kernel
theorem dc10_1 : decode jdk_42_method_158_code 1 = .ok (.iload_n 1, 1) := by decide +kernel
theorem dc10_2 : decode jdk_42_method_158_code 2 = .ok (.iload_n 2, 1) := by decide +kernel
theorem dc10_3 : decode jdk_42_method_158_code 3 = .ok (.getstatic 1053, 3) := by decide +kernel
theorem dc10_6 : decode jdk_42_method_158_code 6 = .ok (.invokestatic 1062, 3) := by decide +kernel
theorem dc11_0 : decode jdk_41_method_12_code 0 = .ok (.iload_n 0, 1) := by decide +kernel
theorem dc11_1 : decode jdk_41_method_12_code 1 = .ok (.ifCond .lt 13, 3) := by decide +kernel
theorem dc11_4 : decode jdk_41_method_12_code 4 = .ok (.iload_n 0, 1) := by decide +kernel
theorem dc11_5 : decode jdk_41_method_12_code 5 = .ok (.iload_n 1, 1) := by decide +kernel
theorem dc11_6 : decode jdk_41_method_12_code 6 = .ok (.if_icmp .gt 8, 3) := by decide +kernel
theorem dc11_9 : decode jdk_41_method_12_code 9 = .ok (.iload_n 1, 1) := by decide +kernel
theorem dc11_10 : decode jdk_41_method_12_code 10 = .ok (.iload_n 2, 1) := by decide +kernel
theorem dc11_11 : decode jdk_41_method_12_code 11 = .ok (.if_icmp .le 11, 3) := by decide +kernel
theorem dc11_22 : decode jdk_41_method_12_code 22 = .ok (.iload_n 0, 1) := by decide +kernel
theorem dc11_23 : decode jdk_41_method_12_code 23 = .ok (.ireturn, 1) := by decide +kernel
def Q_checkFromToIndex_13 (Z : State) (y0 : Int32) (h0 : Heap) (n0 : Nat) (v : Option Value) (h : Heap) (L : List Loc) : Prop := v = some (.int y0) ∧ Fr n0 L ∧ h = h0
set_option maxRecDepth 65536 in
set_option maxHeartbeats 40000000 in
theorem rm_checkFromToIndex_13 (l : Launch) (Z : State) (a0 : Array Value) (hw : ∀ d ∈ tables_1, d.before a0 Z = true) (ws : List Jvm.Cond) (y0 : Int32) (y1 : Int32) (y2 : Int32) (vv0 : Value) (h0 : Heap) (n0 : Nat) (Z0 : n0 ≤ h0.size) (hvv0 : vv0.isRef = true) (hb0 : ¬ (y0 < (0 : Int32))) (hb1 : ¬ (y1 < y0)) (hb2 : ¬ (y2 < y1)) :
    MetFree l (⟨"jdk/internal/util/Preconditions", "checkFromToIndex", "(IIILjava/util/function/BiFunction;)I"⟩ : MethodName) (head1 (Jvm.Cond.code (⟨"jdk/internal/util/Preconditions", "checkFromToIndex", "(IIILjava/util/function/BiFunction;)I"⟩ : MethodName) jdk_41_method_12_code 4 (some .int) :: ws) ({ frames := 0, cells := 0, slots := 0, locals := 0 } : Room)) (fun aA U => aA = #[(.int y0), (.int y1), (.int y2), vv0] ∧ Z.Warmed39 U.vm ∧ U.heap = h0) (fun _ _ _ _ _ => True) (fun _ U o U' => ∃ v L, o = .returned v ∧ Q_checkFromToIndex_13 Z y0 h0 n0 v U'.heap L ∧ FrameEnd U o U' L ({ frames := 0, cells := 0, slots := 0, locals := 0 } : Room).cells ({ frames := 0, cells := 0, slots := 0, locals := 0 } : Room).slots) := by
  refine MetFree.of_bodySF (plainFor_of_name own_pn_jdk_internal_util_Preconditions) hisR ?_
  intro p e s m args below meth c s₁ Bd hml0 hP hK
  obtain ⟨rfl, hZ, hh⟩ := hP
  have hx := Bd.exec
  have hby := Bd.bytes
  have hlk : meth.locks = false := BodyLoose.notSynchronized Bd
  have hml : c.maxLocals = 4 := hml0
  have hown : s.vm.findClass "jdk/internal/util/Preconditions" = some m.cls := findClass_of_methodNamed Bd.named
  have hnm := (name_of_methodNamed Bd.named Bd.method).1
  have X0 : Stand p l e ({ frames := 0, cells := 0, slots := 0, locals := 0 } : Room) s m #[(.int y0), (.int y1), (.int y2), vv0] below meth c s₁ [] 0 0 := Stand.of_body Bd
  have e0 : s₁.heap = h0 := by rw [← hh, Bd.state]; rfl
  have N0 := Fr.nil n0
  show oG p e below (own_K s (Q_checkFromToIndex_13 Z y0 h0 n0) ({ frames := 0, cells := 0, slots := 0, locals := 0 } : Room).cells ({ frames := 0, cells := 0, slots := 0, locals := 0 } : Room).slots) (s₁.setTop (entryFrame m #[(.int y0), (.int y1), (.int y2), vv0] 4))
  rw [(by first | (simp [entryFrame, mkF, argsToLocals, Value.category]; done) | (have q := hvv0; revert q; cases vv0 <;> simp [entryFrame, mkF, argsToLocals, Value.category, Value.isRef]) | rfl : entryFrame m #[(.int y0), (.int y1), (.int y2), vv0] 4 = mkF m 0 #[.val (.int y0), .val (.int y1), .val (.int y2), .val vv0] [])]
  show oG p e below _ (s₁.setTop (mkF m 0 #[.val (.int y0), .val (.int y1), .val (.int y2), .val vv0] []))
  refine og (fun _ hr => XS.iloadN X0.here hx rfl (hb hby dc11_0) rfl hr) ?_
  show oG p e below _ (s₁.setTop (mkF m 1 #[.val (.int y0), .val (.int y1), .val (.int y2), .val vv0] [(.int y0)]))
  refine og (fun _ hr => XS.ifNo X0.here hx rfl (hb hby dc11_1) rfl ((if0 _ _).trans (flt hb0).1) hr) ?_
  show oG p e below _ (s₁.setTop (mkF m 4 #[.val (.int y0), .val (.int y1), .val (.int y2), .val vv0] []))
  refine og (fun _ hr => XS.iloadN X0.here hx rfl (hb hby dc11_4) rfl (XS.iloadN X0.here hx rfl (hb hby dc11_5) rfl hr)) ?_
  show oG p e below _ (s₁.setTop (mkF m 6 #[.val (.int y0), .val (.int y1), .val (.int y2), .val vv0] [(.int y1), (.int y0)]))
  refine og (fun _ hr => XS.icmpNo X0.here hx rfl (hb hby dc11_6) rfl (flt hb1).2.2.1 hr) ?_
  show oG p e below _ (s₁.setTop (mkF m 9 #[.val (.int y0), .val (.int y1), .val (.int y2), .val vv0] []))
  refine og (fun _ hr => XS.iloadN X0.here hx rfl (hb hby dc11_9) rfl (XS.iloadN X0.here hx rfl (hb hby dc11_10) rfl hr)) ?_
  show oG p e below _ (s₁.setTop (mkF m 11 #[.val (.int y0), .val (.int y1), .val (.int y2), .val vv0] [(.int y2), (.int y1)]))
  refine og (fun _ hr => XS.icmpYes X0.here hx rfl (pc0 := 11) (pc' := 22) rfl (hb hby dc11_11) rfl (flt hb2).2.2.2 (by decide) (by decide) hr) ?_
  show oG p e below _ (s₁.setTop (mkF m 22 #[.val (.int y0), .val (.int y1), .val (.int y2), .val vv0] []))
  refine og (fun _ hr => XS.iloadN X0.here hx rfl (hb hby dc11_22) rfl hr) ?_
  show oG p e below _ (s₁.setTop (mkF m 23 #[.val (.int y0), .val (.int y1), .val (.int y2), .val vv0] [(.int y0)]))
  exact own_retI X0 hx hlk Bd.returns (hb hby dc11_23) (by decide) (by decide) ⟨rfl, N0, e0⟩
theorem dc10_9 : decode jdk_42_method_158_code 9 = .ok (.pop, 1) := by decide +kernel
theorem dc10_10 : decode jdk_42_method_158_code 10 = .ok (.return_, 1) := by decide +kernel
def Q_checkBoundsBeginEnd_14 (Z : State) (h0 : Heap) (n0 : Nat) (v : Option Value) (h : Heap) (L : List Loc) : Prop := v = none ∧ Fr n0 L ∧ h = h0
set_option maxRecDepth 65536 in
set_option maxHeartbeats 40000000 in
theorem rm_checkBoundsBeginEnd_14 (l : Launch) (Z : State) (a0 : Array Value) (hw : ∀ d ∈ tables_1, d.before a0 Z = true) (ws : List Jvm.Cond) (y0 : Int32) (y1 : Int32) (y2 : Int32) (vv0 : Value) (h0 : Heap) (n0 : Nat) (Z0 : n0 ≤ h0.size) (P0 : Sta Z h0 "jdk/internal/util/Preconditions" "SIOOBE_FORMATTER" "Ljava/util/function/BiFunction;" vv0) (hvv0 : vv0.isRef = true) (hb0 : ¬ (y0 < (0 : Int32))) (hb1 : ¬ (y1 < y0)) (hb2 : ¬ (y2 < y1)) :
    MetFree l (⟨"java/lang/String", "checkBoundsBeginEnd", "(III)V"⟩ : MethodName) (head1 (Jvm.Cond.code (⟨"java/lang/String", "checkBoundsBeginEnd", "(III)V"⟩ : MethodName) jdk_42_method_158_code 3 none :: ws) ({ frames := 1, cells := 0, slots := 0, locals := 15 } : Room)) (fun aA U => aA = #[(.int y0), (.int y1), (.int y2)] ∧ Z.Warmed39 U.vm ∧ U.heap = h0) (fun _ _ _ _ _ => True) (fun _ U o U' => ∃ v L, o = .returned v ∧ Q_checkBoundsBeginEnd_14 Z h0 n0 v U'.heap L ∧ FrameEnd U o U' L ({ frames := 1, cells := 0, slots := 0, locals := 15 } : Room).cells ({ frames := 1, cells := 0, slots := 0, locals := 15 } : Room).slots) := by
  refine MetFree.of_bodySF (plainFor_of_name own_pn_java_lang_String) hisR ?_
  intro p e s m args below meth c s₁ Bd hml0 hP hK
  obtain ⟨rfl, hZ, hh⟩ := hP
  have hx := Bd.exec
  have hby := Bd.bytes
  have hlk : meth.locks = false := BodyLoose.notSynchronized Bd
  have hml : c.maxLocals = 3 := hml0
  have hown : s.vm.findClass "java/lang/String" = some m.cls := findClass_of_methodNamed Bd.named
  have hnm := (name_of_methodNamed Bd.named Bd.method).1
  have X0 : Stand p l e ({ frames := 1, cells := 0, slots := 0, locals := 15 } : Room) s m #[(.int y0), (.int y1), (.int y2)] below meth c s₁ [] 0 0 := Stand.of_body Bd
  have e0 : s₁.heap = h0 := by rw [← hh, Bd.state]; rfl
  have N0 := Fr.nil n0
  show oG p e below (own_K s (Q_checkBoundsBeginEnd_14 Z h0 n0) ({ frames := 1, cells := 0, slots := 0, locals := 15 } : Room).cells ({ frames := 1, cells := 0, slots := 0, locals := 15 } : Room).slots) (s₁.setTop (entryFrame m #[(.int y0), (.int y1), (.int y2)] 3))
  rw [(by first | (simp [entryFrame, mkF, argsToLocals, Value.category]; done) | rfl : entryFrame m #[(.int y0), (.int y1), (.int y2)] 3 = mkF m 0 #[.val (.int y0), .val (.int y1), .val (.int y2)] [])]
  show oG p e below _ (s₁.setTop (mkF m 0 #[.val (.int y0), .val (.int y1), .val (.int y2)] []))
  refine og (fun _ hr => XS.iloadN X0.here hx rfl (hb hby dc10_0) rfl (XS.iloadN X0.here hx rfl (hb hby dc10_1) rfl (XS.iloadN X0.here hx rfl (hb hby dc10_2) rfl hr))) ?_
  show oG p e below _ (s₁.setTop (mkF m 3 #[.val (.int y0), .val (.int y1), .val (.int y2)] [(.int y2), (.int y1), (.int y0)]))
  obtain ⟨T1, X1, e1, st1⟩ := getS2 X0 hx hZ hown (host := "") (Or.inl (hw _ (own_m 54 rfl))) Via.refl e0 P0 (g := (mkF m 3 #[.val (.int y0), .val (.int y1), .val (.int y2)] [(.int y2), (.int y1), (.int y0)])) rfl (hb hby dc10_3)
  refine og st1 ?_
  show oG p e below _ (T1.setTop (mkF m 6 #[.val (.int y0), .val (.int y1), .val (.int y2)] [vv0, (.int y2), (.int y1), (.int y0)]))
  refine own_cs X1 hx hZ hown (hw _ (own_m 56 rfl)) (hw _ (own_m 57 rfl)) (hw _ (own_m 55 rfl)) (hw _ (own_m 58 rfl)) (by decide) (rm := { frames := 0, cells := 0, slots := 0, locals := 0 }) (rm_checkFromToIndex_13 l Z a0 hw [] y0 y1 y2 vv0 h0 n0 Z0 hvv0 hb0 hb1 hb2) (by decide) (W := 0) (by decide) (by decide) (by decide) e1 (by rw [hml]; rfl) (argsL := [(.int y0), (.int y1), (.int y2), vv0]) (lenOf own_pd18 rfl) (rest := []) rfl rfl (Nat.le_of_eq rfl) (hb hby dc10_6) ?_
  intro _ T2 L2 X2 hQ2
  obtain ⟨rfl, N2q, e2⟩ := hQ2
  have N2 := Fr.app N0 N2q
  show oG p e below _ (T2.setTop (mkF m 9 #[.val (.int y0), .val (.int y1), .val (.int y2)] [(.int y0)]))
  refine og (fun _ hr => XS.pop X2.here hx rfl (hb hby dc10_9) rfl rfl hr) ?_
  show oG p e below _ (T2.setTop (mkF m 10 #[.val (.int y0), .val (.int y1), .val (.int y2)] []))
  exact own_ret0 X2 hx hlk Bd.returns (hb hby dc10_10) (by decide) (by decide) ⟨rfl, N2, e2⟩
theorem own_pd23 : parseMethodDescriptor "(III)V" = some ⟨[.int, .int, .int], none⟩ := by decide +kernel
theorem dc9_11 : decode jdk_42_method_92_code 11 = .ok (.iload_n 1, 1) := by decide +kernel
theorem dc9_22 : decode jdk_42_method_92_code 22 = .ok (.iload_n 2, 1) := by decide +kernel
theorem dc9_23 : decode jdk_42_method_92_code 23 = .ok (.iload_n 1, 1) := by decide +kernel
theorem dc9_24 : decode jdk_42_method_92_code 24 = .ok (.isub, 1) := by decide +kernel
theorem dc9_25 : decode jdk_42_method_92_code 25 = .ok (.istore 4, 2) := by decide +kernel
theorem dc9_27 : decode jdk_42_method_92_code 27 = .ok (.aload_n 0, 1) := by decide +kernel
theorem dc9_28 : decode jdk_42_method_92_code 28 = .ok (.invokevirtual 492, 3) := by decide +kernel
theorem dc17_13 : decode jdk_42_method_154_code 13 = .ok (.iconst 1, 1) := by decide +kernel
theorem dc17_14 : decode jdk_42_method_154_code 14 = .ok (.goto 4, 3) := by decide +kernel
def Q_isLatin1_15 (Z : State) (h0 : Heap) (n0 : Nat) (v : Option Value) (h : Heap) (L : List Loc) : Prop := v = some (.int (1 : Int32)) ∧ Fr n0 L ∧ h = h0
set_option maxRecDepth 65536 in
set_option maxHeartbeats 40000000 in
theorem rm_isLatin1_15 (l : Launch) (Z : State) (a0 : Array Value) (hw : ∀ d ∈ tables_1, d.before a0 Z = true) (ws : List Jvm.Cond) (o0 : Addr) (y0 : Int32) (y1 : Int32) (h0 : Heap) (n0 : Nat) (Z0 : n0 ≤ h0.size) (P0 : Sta Z h0 "java/lang/String" "COMPACT_STRINGS" "Z" (.int y0)) (P1 : Fld Z h0 o0 "java/lang/String" "coder" "B" (.int y1)) (hb0 : ¬ (y0 = (0 : Int32))) (hb1 : y1 = (0 : Int32)) :
    MetFree l (⟨"java/lang/String", "isLatin1", "()Z"⟩ : MethodName) (head1 (Jvm.Cond.code (⟨"java/lang/String", "isLatin1", "()Z"⟩ : MethodName) jdk_42_method_154_code 1 (some .boolean) :: ws) ({ frames := 0, cells := 0, slots := 0, locals := 0 } : Room)) (fun aA U => aA = #[(.ref o0)] ∧ Z.Warmed39 U.vm ∧ U.heap = h0) (fun _ _ _ _ _ => True) (fun _ U o U' => ∃ v L, o = .returned v ∧ Q_isLatin1_15 Z h0 n0 v U'.heap L ∧ FrameEnd U o U' L ({ frames := 0, cells := 0, slots := 0, locals := 0 } : Room).cells ({ frames := 0, cells := 0, slots := 0, locals := 0 } : Room).slots) := by
  refine MetFree.of_bodySF (plainFor_of_name own_pn_java_lang_String) hisR ?_
  intro p e s m args below meth c s₁ Bd hml0 hP hK
  obtain ⟨rfl, hZ, hh⟩ := hP
  have hx := Bd.exec
  have hby := Bd.bytes
  have hlk : meth.locks = false := BodyLoose.notSynchronized Bd
  have hml : c.maxLocals = 1 := hml0
  have hown : s.vm.findClass "java/lang/String" = some m.cls := findClass_of_methodNamed Bd.named
  have hnm := (name_of_methodNamed Bd.named Bd.method).1
  have X0 : Stand p l e ({ frames := 0, cells := 0, slots := 0, locals := 0 } : Room) s m #[(.ref o0)] below meth c s₁ [] 0 0 := Stand.of_body Bd
  have e0 : s₁.heap = h0 := by rw [← hh, Bd.state]; rfl
  have N0 := Fr.nil n0
  show oG p e below (own_K s (Q_isLatin1_15 Z h0 n0) ({ frames := 0, cells := 0, slots := 0, locals := 0 } : Room).cells ({ frames := 0, cells := 0, slots := 0, locals := 0 } : Room).slots) (s₁.setTop (entryFrame m #[(.ref o0)] 1))
  rw [(by first | (simp [entryFrame, mkF, argsToLocals, Value.category]; done) | rfl : entryFrame m #[(.ref o0)] 1 = mkF m 0 #[.val (.ref o0)] [])]
  show oG p e below _ (s₁.setTop (mkF m 0 #[.val (.ref o0)] []))
  obtain ⟨T1, X1, e1, st1⟩ := getS2 X0 hx hZ hown (host := "") (Or.inl (hw _ (own_m 44 rfl))) Via.refl e0 P0 (g := (mkF m 0 #[.val (.ref o0)] [])) rfl (hb hby dc17_0)
  refine og st1 ?_
  show oG p e below _ (T1.setTop (mkF m 3 #[.val (.ref o0)] [(.int y0)]))
  refine og (fun _ hr => XS.ifNo X1.here hx rfl (hb hby dc17_3) rfl ((if0 _ _).trans (feq hb0).1) hr) ?_
  show oG p e below _ (T1.setTop (mkF m 6 #[.val (.ref o0)] []))
  refine og (fun _ hr => XS.aloadN X1.here hx rfl (hb hby dc17_6) rfl rfl hr) ?_
  show oG p e below _ (T1.setTop (mkF m 7 #[.val (.ref o0)] [(.ref o0)]))
  obtain ⟨T2, X2, e2, st2⟩ := getF X1 hx hZ hown (host := "") (Or.inl (hw _ (own_m 29 rfl))) Via.refl e1 P1 (g := (mkF m 7 #[.val (.ref o0)] [(.ref o0)])) rfl rfl (hb hby dc17_7)
  refine og st2 ?_
  show oG p e below _ (T2.setTop (mkF m 10 #[.val (.ref o0)] [(.int y1)]))
  refine og (fun _ hr => XS.ifNo X2.here hx rfl (hb hby dc17_10) rfl ((if0 _ _).trans (teq hb1).2) hr) ?_
  show oG p e below _ (T2.setTop (mkF m 13 #[.val (.ref o0)] []))
  refine og (fun _ hr => XS.iconst X2.here hx rfl (hb hby dc17_13) (XS.goto X2.here hx rfl (pc0 := 14) (pc' := 18) rfl (hb hby dc17_14) (by decide) (by decide) hr)) ?_
  show oG p e below _ (T2.setTop (mkF m 18 #[.val (.ref o0)] [(.int (1 : Int32))]))
  exact own_retN X2 hx hlk Bd.returns (t := .boolean) (by simp) (hb hby dc17_18) (by decide) (by decide) ⟨rfl, N0, e2⟩
theorem dc9_31 : decode jdk_42_method_92_code 31 = .ok (.ifCond .eq 16, 3) := by decide +kernel
theorem dc9_34 : decode jdk_42_method_92_code 34 = .ok (.aload_n 0, 1) := by decide +kernel
theorem dc9_35 : decode jdk_42_method_92_code 35 = .ok (.getfield 9, 3) := by decide +kernel
theorem dc9_38 : decode jdk_42_method_92_code 38 = .ok (.iload_n 1, 1) := by decide +kernel
theorem dc9_39 : decode jdk_42_method_92_code 39 = .ok (.iload 4, 2) := by decide +kernel
theorem dc9_41 : decode jdk_42_method_92_code 41 = .ok (.invokestatic 685, 3) := by decide +kernel
theorem dc22_4 : decode jdk_43_method_47_code 4 = .ok (.ldc 151, 2) := by decide +kernel
theorem dc22_6 : decode jdk_43_method_47_code 6 = .ok (.areturn, 1) := by decide +kernel
def Q_newString_16 (Z : State) (h0 : Heap) (n0 : Nat) (v : Option Value) (h : Heap) (L : List Loc) : Prop := (∃ (a1 : Addr) (b1 : Addr) (k1 : ClassId), v = some (.ref a1) ∧ Fr n0 L ∧ Keep h0 h [] ∧ Exa Z h a1 "java/lang/String" ∧ Fld Z h a1 "java/lang/String" "coder" "B" (.int (0 : Int32)) ∧ Fld Z h a1 "java/lang/String" "value" "[B" (.ref b1) ∧ Arv Z h b1 k1 .byte (0 : Int32) [] (.int (0 : Int32)))
set_option maxRecDepth 65536 in
set_option maxHeartbeats 40000000 in
theorem rm_newString_16 (l : Launch) (Z : State) (a0 : Array Value) (hw : ∀ d ∈ tables_1, d.before a0 Z = true) (ws : List Jvm.Cond) (o0 : Addr) (y0 : Int32) (y1 : Int32) (h0 : Heap) (n0 : Nat) (Z0 : n0 ≤ h0.size) (hb0 : y1 = (0 : Int32)) :
    MetFree l (⟨"java/lang/StringLatin1", "newString", "([BII)Ljava/lang/String;"⟩ : MethodName) (head1 (Jvm.Cond.code (⟨"java/lang/StringLatin1", "newString", "([BII)Ljava/lang/String;"⟩ : MethodName) jdk_43_method_47_code 3 (some (.object "java/lang/String")) :: ws) ({ frames := 0, cells := 2, slots := 4, locals := 0 } : Room)) (fun aA U => aA = #[(.ref o0), (.int y0), (.int y1)] ∧ Z.Warmed39 U.vm ∧ U.heap = h0 ∧ CHv Z own_EL U.vm h0) (fun _ _ _ _ _ => True) (fun _ U o U' => ∃ v L, o = .returned v ∧ Q_newString_16 Z h0 n0 v U'.heap L ∧ CHr Z own_EL U.vm U.heap U'.vm U'.heap ∧ ReturnedEndW U o U' L ({ frames := 0, cells := 2, slots := 4, locals := 0 } : Room).cells ({ frames := 0, cells := 2, slots := 4, locals := 0 } : Room).slots) := by
  refine MetFree.of_bodySF (plainFor_of_name own_pn_java_lang_StringLatin1) hisR ?_
  intro p e s m args below meth c s₁ Bd hml0 hP hK
  obtain ⟨rfl, hZ, hh, hC0⟩ := hP
  have hx := Bd.exec
  have hby := Bd.bytes
  have hlk : meth.locks = false := BodyLoose.notSynchronized Bd
  have hml : c.maxLocals = 3 := hml0
  have hown : s.vm.findClass "java/lang/StringLatin1" = some m.cls := findClass_of_methodNamed Bd.named
  have hnm := (name_of_methodNamed Bd.named Bd.method).1
  have X0 : Stand p l e ({ frames := 0, cells := 2, slots := 4, locals := 0 } : Room) (s.setVm s.vm) m #[(.ref o0), (.int y0), (.int y1)] below meth c s₁ [] 0 0 := Stand.of_body Bd
  have e0 : s₁.heap = h0 := by rw [← hh, Bd.state]; rfl
  have N0 := Fr.nil n0
  have hS : s.Since s.vm 0 := (State.WarmedH.refl s).since 0
  have hk := Nat.zero_le h0.size
  have hEL : EW Z a0 own_EL := own_ew hw
  have A0 : CHr Z own_EL s.vm h0 s.vm h0 := CHr.refl hC0
  have K0 : Keep h0 h0 [] := Keep.refl _ _
  show oG p e below (own_KW Z own_EL s (Q_newString_16 Z h0 n0) ({ frames := 0, cells := 2, slots := 4, locals := 0 } : Room).cells ({ frames := 0, cells := 2, slots := 4, locals := 0 } : Room).slots) (s₁.setTop (entryFrame m #[(.ref o0), (.int y0), (.int y1)] 3))
  rw [(by first | (simp [entryFrame, mkF, argsToLocals, Value.category]; done) | rfl : entryFrame m #[(.ref o0), (.int y0), (.int y1)] 3 = mkF m 0 #[.val (.ref o0), .val (.int y0), .val (.int y1)] [])]
  show oG p e below _ (s₁.setTop (mkF m 0 #[.val (.ref o0), .val (.int y0), .val (.int y1)] []))
  refine og (fun _ hr => XS.iloadN X0.here hx rfl (hb hby dc22_0) rfl hr) ?_
  show oG p e below _ (s₁.setTop (mkF m 1 #[.val (.ref o0), .val (.int y0), .val (.int y1)] [(.int y1)]))
  refine og (fun _ hr => XS.ifNo X0.here hx rfl (hb hby dc22_1) rfl ((if0 _ _).trans (teq hb0).2) hr) ?_
  show oG p e below _ (s₁.setTop (mkF m 4 #[.val (.ref o0), .val (.int y0), .val (.int y1)] []))
  have hZo2 := hZ
  obtain ⟨a1, T1, h1, k11, b1, k1, X1, e1, E1, hS, hk1, hZ, hown, EA1, FC1, FV1, AV1, -, -, Al1, -, ne1, st1⟩ := ldcCH X0 hx hZ hown (hw _ (own_m 126 rfl)) (own_ws hw) e0 hS hk hEL (by simp [own_EL]) A0.1 (vs := []) (z := (0 : Int32)) ⟨by decide, by decide⟩ (by decide) (by decide) (g := (mkF m 4 #[.val (.ref o0), .val (.int y0), .val (.int y1)] [])) rfl (hb hby dc22_4) (n := 0) (by decide) (by decide) (by decide) (by decide)
  refine og st1 ?_
  show oG p e below _ (T1.setTop (mkF m 6 #[.val (.ref o0), .val (.int y0), .val (.int y1)] [(.ref a1)]))
  have K3 := (K0.ext E1)
  have A4 := A0.trans Al1
  exact own_retRW X1 hx hlk Bd.returns hS hk1 hZ hEL hh e1 A4 rfl rfl (hb hby dc22_6) (by decide) (by decide) (by rw [e1]; exact ⟨a1, b1, k1, rfl, N0, K3, EA1, FC1, FV1, AV1⟩)
theorem own_pd24 : parseMethodDescriptor "([BII)Ljava/lang/String;" = some ⟨[(.array .byte), .int, .int], some (.object "java/lang/String")⟩ := by decide +kernel
theorem dc9_44 : decode jdk_42_method_92_code 44 = .ok (.goto 13, 3) := by decide +kernel
theorem dc9_57 : decode jdk_42_method_92_code 57 = .ok (.areturn, 1) := by decide +kernel
def Q_isLatin1_17 (Z : State) (h0 : Heap) (n0 : Nat) (v : Option Value) (h : Heap) (L : List Loc) : Prop := v = some (.int (0 : Int32)) ∧ Fr n0 L ∧ h = h0
set_option maxRecDepth 65536 in
set_option maxHeartbeats 40000000 in
theorem rm_isLatin1_17 (l : Launch) (Z : State) (a0 : Array Value) (hw : ∀ d ∈ tables_1, d.before a0 Z = true) (ws : List Jvm.Cond) (o0 : Addr) (y0 : Int32) (y1 : Int32) (h0 : Heap) (n0 : Nat) (Z0 : n0 ≤ h0.size) (P0 : Sta Z h0 "java/lang/String" "COMPACT_STRINGS" "Z" (.int y0)) (P1 : Fld Z h0 o0 "java/lang/String" "coder" "B" (.int y1)) (hb0 : ¬ (y0 = (0 : Int32))) (hb1 : ¬ (y1 = (0 : Int32))) :
    MetFree l (⟨"java/lang/String", "isLatin1", "()Z"⟩ : MethodName) (head1 (Jvm.Cond.code (⟨"java/lang/String", "isLatin1", "()Z"⟩ : MethodName) jdk_42_method_154_code 1 (some .boolean) :: ws) ({ frames := 0, cells := 0, slots := 0, locals := 0 } : Room)) (fun aA U => aA = #[(.ref o0)] ∧ Z.Warmed39 U.vm ∧ U.heap = h0) (fun _ _ _ _ _ => True) (fun _ U o U' => ∃ v L, o = .returned v ∧ Q_isLatin1_17 Z h0 n0 v U'.heap L ∧ FrameEnd U o U' L ({ frames := 0, cells := 0, slots := 0, locals := 0 } : Room).cells ({ frames := 0, cells := 0, slots := 0, locals := 0 } : Room).slots) := by
  refine MetFree.of_bodySF (plainFor_of_name own_pn_java_lang_String) hisR ?_
  intro p e s m args below meth c s₁ Bd hml0 hP hK
  obtain ⟨rfl, hZ, hh⟩ := hP
  have hx := Bd.exec
  have hby := Bd.bytes
  have hlk : meth.locks = false := BodyLoose.notSynchronized Bd
  have hml : c.maxLocals = 1 := hml0
  have hown : s.vm.findClass "java/lang/String" = some m.cls := findClass_of_methodNamed Bd.named
  have hnm := (name_of_methodNamed Bd.named Bd.method).1
  have X0 : Stand p l e ({ frames := 0, cells := 0, slots := 0, locals := 0 } : Room) s m #[(.ref o0)] below meth c s₁ [] 0 0 := Stand.of_body Bd
  have e0 : s₁.heap = h0 := by rw [← hh, Bd.state]; rfl
  have N0 := Fr.nil n0
  show oG p e below (own_K s (Q_isLatin1_17 Z h0 n0) ({ frames := 0, cells := 0, slots := 0, locals := 0 } : Room).cells ({ frames := 0, cells := 0, slots := 0, locals := 0 } : Room).slots) (s₁.setTop (entryFrame m #[(.ref o0)] 1))
  rw [(by first | (simp [entryFrame, mkF, argsToLocals, Value.category]; done) | rfl : entryFrame m #[(.ref o0)] 1 = mkF m 0 #[.val (.ref o0)] [])]
  show oG p e below _ (s₁.setTop (mkF m 0 #[.val (.ref o0)] []))
  obtain ⟨T1, X1, e1, st1⟩ := getS2 X0 hx hZ hown (host := "") (Or.inl (hw _ (own_m 44 rfl))) Via.refl e0 P0 (g := (mkF m 0 #[.val (.ref o0)] [])) rfl (hb hby dc17_0)
  refine og st1 ?_
  show oG p e below _ (T1.setTop (mkF m 3 #[.val (.ref o0)] [(.int y0)]))
  refine og (fun _ hr => XS.ifNo X1.here hx rfl (hb hby dc17_3) rfl ((if0 _ _).trans (feq hb0).1) hr) ?_
  show oG p e below _ (T1.setTop (mkF m 6 #[.val (.ref o0)] []))
  refine og (fun _ hr => XS.aloadN X1.here hx rfl (hb hby dc17_6) rfl rfl hr) ?_
  show oG p e below _ (T1.setTop (mkF m 7 #[.val (.ref o0)] [(.ref o0)]))
  obtain ⟨T2, X2, e2, st2⟩ := getF X1 hx hZ hown (host := "") (Or.inl (hw _ (own_m 29 rfl))) Via.refl e1 P1 (g := (mkF m 7 #[.val (.ref o0)] [(.ref o0)])) rfl rfl (hb hby dc17_7)
  refine og st2 ?_
  show oG p e below _ (T2.setTop (mkF m 10 #[.val (.ref o0)] [(.int y1)]))
  refine og (fun _ hr => XS.ifYes X2.here hx rfl (pc0 := 10) (pc' := 17) rfl (hb hby dc17_10) rfl ((if0 _ _).trans (feq hb1).2) (by decide) (by decide) hr) ?_
  show oG p e below _ (T2.setTop (mkF m 17 #[.val (.ref o0)] []))
  refine og (fun _ hr => XS.iconst X2.here hx rfl (hb hby dc17_17) hr) ?_
  show oG p e below _ (T2.setTop (mkF m 18 #[.val (.ref o0)] [(.int (0 : Int32))]))
  exact own_retN X2 hx hlk Bd.returns (t := .boolean) (by simp) (hb hby dc17_18) (by decide) (by decide) ⟨rfl, N0, e2⟩
theorem dc9_47 : decode jdk_42_method_92_code 47 = .ok (.aload_n 0, 1) := by decide +kernel
theorem dc9_48 : decode jdk_42_method_92_code 48 = .ok (.getfield 9, 3) := by decide +kernel
theorem dc9_51 : decode jdk_42_method_92_code 51 = .ok (.iload_n 1, 1) := by decide +kernel
theorem dc9_52 : decode jdk_42_method_92_code 52 = .ok (.iload 4, 2) := by decide +kernel
theorem dc9_54 : decode jdk_42_method_92_code 54 = .ok (.invokestatic 689, 3) := by decide +kernel
theorem dc9_12 : decode jdk_42_method_92_code 12 = .ok (.ifCond .ne 10, 3) := by decide +kernel
theorem dc9_15 : decode jdk_42_method_92_code 15 = .ok (.iload_n 2, 1) := by decide +kernel
theorem dc9_16 : decode jdk_42_method_92_code 16 = .ok (.iload_n 3, 1) := by decide +kernel
theorem dc9_17 : decode jdk_42_method_92_code 17 = .ok (.if_icmp .ne 5, 3) := by decide +kernel
theorem dc9_20 : decode jdk_42_method_92_code 20 = .ok (.aload_n 0, 1) := by decide +kernel
theorem dc9_21 : decode jdk_42_method_92_code 21 = .ok (.areturn, 1) := by decide +kernel
def Q_sub (Z : State) (cs_ : List Int32) (bN_ : Nat) (eN_ : Nat) (h0 : Heap) (n0 : Nat) (v : Option Value) (h : Heap) (L : List Loc) : Prop := (∃ (a b : Addr) (k : ClassId) (cd N : Int32) (vs : List Value), v = some (.ref a) ∧ Fr n0 L ∧ Keep h0 h [] ∧ Exa Z h a "java/lang/String" ∧ Fld Z h a "java/lang/String" "coder" "B" (.int cd) ∧ Fld Z h a "java/lang/String" "value" "[B" (.ref b) ∧ Arv Z h b k .byte N vs (.int (0 : Int32)) ∧ StrChars.Road.CodA (own_sub cs_ bN_ (eN_ - bN_)) cd N vs)
set_option maxRecDepth 65536 in
set_option maxHeartbeats 40000000 in
theorem rm_sub (l : Launch) (Z : State) (a0 : Array Value) (hw : ∀ d ∈ tables_1, d.before a0 Z = true) (ws : List Jvm.Cond) (s_ : Addr) (t_ : Addr) (kt_ : ClassId) (nn_ : Int32) (vs_ : List Value) (cd_ : Int32) (cs_ : List Int32) (ln_ : Int32) (b_ : Int32) (e_ : Int32) (bN_ : Nat) (eN_ : Nat) (i_COMPACT_STRINGS : Int32) (v_SIOOBE_FORMATTER : Value) (h0 : Heap) (n0 : Nat) (Z0 : n0 ≤ h0.size) (Es_ : Exa Z h0 s_ "java/lang/String") (Cs_ : Fld Z h0 s_ "java/lang/String" "coder" "B" (.int cd_)) (Vs_ : Fld Z h0 s_ "java/lang/String" "value" "[B" (.ref t_)) (Kt_ : Arv Z h0 t_ kt_ .byte nn_ vs_ (.int (0 : Int32))) (hc_ : StrChars.Road.CodA cs_ cd_ nn_ vs_) (hbc_ : ∀ c ∈ cs_, ¬ c < 0 ∧ ¬ (65535 : Int32) < c) (hl5_ : cs_.length ≤ 5) (hln_ : Int32.ofNat cs_.length = ln_) (hbN_ : Int32.ofNat bN_ = b_) (heN_ : Int32.ofNat eN_ = e_) (hbe_ : bN_ ≤ eN_) (hel_ : eN_ ≤ cs_.length) (hwd_ : (∃ c ∈ cs_, 255 < c) → bN_ < eN_) (S_COMPACT_STRINGS : Sta Z h0 "java/lang/String" "COMPACT_STRINGS" "Z" (.int i_COMPACT_STRINGS)) (hs_COMPACT_STRINGS : ¬ (i_COMPACT_STRINGS = (0 : Int32))) (S__assertionsDisabled : Sta Z h0 "java/lang/StringUTF16" "$assertionsDisabled" "Z" (.int (1 : Int32))) (S_HI_BYTE_SHIFT : Sta Z h0 "java/lang/StringUTF16" "HI_BYTE_SHIFT" "I" (.int (0 : Int32))) (S_LO_BYTE_SHIFT : Sta Z h0 "java/lang/StringUTF16" "LO_BYTE_SHIFT" "I" (.int (8 : Int32))) (S_SIOOBE_FORMATTER : Sta Z h0 "jdk/internal/util/Preconditions" "SIOOBE_FORMATTER" "Ljava/util/function/BiFunction;" v_SIOOBE_FORMATTER) (hv_SIOOBE_FORMATTER : v_SIOOBE_FORMATTER.isRef = true) :
    MetFree l (⟨"java/lang/String", "substring", "(II)Ljava/lang/String;"⟩ : MethodName) (head1 (Jvm.Cond.code (⟨"java/lang/String", "substring", "(II)Ljava/lang/String;"⟩ : MethodName) jdk_42_method_92_code 5 (some (.object "java/lang/String")) :: ws) ({ frames := 6, cells := 3, slots := 19, locals := 103 } : Room)) (fun aA U => aA = #[(.ref s_), (.int b_), (.int e_)] ∧ Z.Warmed39 U.vm ∧ U.heap = h0 ∧ CHv Z own_EL U.vm h0) (fun _ _ _ _ _ => True) (fun _ U o U' => ∃ v L, o = .returned v ∧ Q_sub Z cs_ bN_ eN_ h0 n0 v U'.heap L ∧ CHr Z own_EL U.vm U.heap U'.vm U'.heap ∧ ReturnedEndW U o U' L ({ frames := 6, cells := 3, slots := 19, locals := 103 } : Room).cells ({ frames := 6, cells := 3, slots := 19, locals := 103 } : Room).slots) := by
  refine MetFree.of_bodySF (plainFor_of_name own_pn_java_lang_String) hisR ?_
  intro p e s m args below meth c s₁ Bd hml0 hP hK
  obtain ⟨rfl, hZ, hh, hC0⟩ := hP
  have hx := Bd.exec
  have hby := Bd.bytes
  have hlk : meth.locks = false := BodyLoose.notSynchronized Bd
  have hml : c.maxLocals = 5 := hml0
  have hown : s.vm.findClass "java/lang/String" = some m.cls := findClass_of_methodNamed Bd.named
  have hnm := (name_of_methodNamed Bd.named Bd.method).1
  have X0 : Stand p l e ({ frames := 6, cells := 3, slots := 19, locals := 103 } : Room) (s.setVm s.vm) m #[(.ref s_), (.int b_), (.int e_)] below meth c s₁ [] 0 0 := Stand.of_body Bd
  have e0 : s₁.heap = h0 := by rw [← hh, Bd.state]; rfl
  have N0 := Fr.nil n0
  have hS : s.Since s.vm 0 := (State.WarmedH.refl s).since 0
  have hk := Nat.zero_le h0.size
  have hEL : EW Z a0 own_EL := own_ew hw
  have A0 : CHr Z own_EL s.vm h0 s.vm h0 := CHr.refl hC0
  have hkn_ : Int32.ofNat (eN_ - bN_) = e_ - b_ := (own_cpb hbN_ heN_ hln_ hbe_ hel_ (by omega)).2.2.2.2.1
  have hb0_ : ¬ (b_ < (0 : Int32)) := own_neg hbN_ (by omega)
  have heb_ : ¬ (e_ < b_) := own_ltf heN_ hbN_ (by omega) (by omega)
  have hle_ : ¬ (ln_ < e_) := own_ltf hln_ heN_ (by omega) hl5_
  have K0 : Keep h0 h0 [] := Keep.refl _ _
  show oG p e below (own_KW Z own_EL s (Q_sub Z cs_ bN_ eN_ h0 n0) ({ frames := 6, cells := 3, slots := 19, locals := 103 } : Room).cells ({ frames := 6, cells := 3, slots := 19, locals := 103 } : Room).slots) (s₁.setTop (entryFrame m #[(.ref s_), (.int b_), (.int e_)] 5))
  rw [(by first | (simp [entryFrame, mkF, argsToLocals, Value.category]; done) | rfl : entryFrame m #[(.ref s_), (.int b_), (.int e_)] 5 = mkF m 0 #[.val (.ref s_), .val (.int b_), .val (.int e_), .unset, .unset] [])]
  show oG p e below _ (s₁.setTop (mkF m 0 #[.val (.ref s_), .val (.int b_), .val (.int e_), .unset, .unset] []))
  refine og (fun _ hr => XS.aloadN X0.here hx rfl (hb hby dc9_0) rfl rfl hr) ?_
  show oG p e below _ (s₁.setTop (mkF m 1 #[.val (.ref s_), .val (.int b_), .val (.int e_), .unset, .unset] [(.ref s_)]))
  refine own_lens X0 hx hZ hown hw (hw _ (own_m 50 rfl)) (hw _ (own_m 35 rfl)) (hw _ (own_m 37 rfl)) (hw _ (own_m 36 rfl)) (hw _ (own_m 10 rfl)) cs_ Es_ Vs_ Cs_ Kt_ hc_ hbc_ (Nat.le_trans hl5_ (by decide)) S_COMPACT_STRINGS hs_COMPACT_STRINGS (by decide) (W := 0) (by decide) (by decide) (by decide) e0 (by rw [hml]; rfl) (Nat.le_of_eq rfl) (hb hby dc9_1) ?_
  intro T1 X1 e1
  rw [hln_]
  show oG p e below _ (T1.setTop (mkF m 4 #[.val (.ref s_), .val (.int b_), .val (.int e_), .unset, .unset] [(.int ln_)]))
  refine og (fun _ hr => XS.istoreN X1.here hx rfl (hb hby dc9_4) rfl (l' := #[.val (.ref s_), .val (.int b_), .val (.int e_), .val (.int ln_), .unset]) rfl (XS.iloadN X1.here hx rfl (hb hby dc9_5) rfl (XS.iloadN X1.here hx rfl (hb hby dc9_6) rfl (XS.iloadN X1.here hx rfl (hb hby dc9_7) rfl hr)))) ?_
  show oG p e below _ (T1.setTop (mkF m 8 #[.val (.ref s_), .val (.int b_), .val (.int e_), .val (.int ln_), .unset] [(.int ln_), (.int e_), (.int b_)]))
  refine own_cs X1 hx hZ hown (hw _ (own_m 51 rfl)) (hw _ (own_m 52 rfl)) (hw _ (own_m 11 rfl)) (hw _ (own_m 53 rfl)) (by decide) (rm := { frames := 1, cells := 0, slots := 0, locals := 15 }) (rm_checkBoundsBeginEnd_14 l Z a0 hw [] b_ e_ ln_ v_SIOOBE_FORMATTER h0 n0 Z0 S_SIOOBE_FORMATTER hv_SIOOBE_FORMATTER hb0_ heb_ hle_) (by decide) (W := 0) (by decide) (by decide) (by decide) e1 (by rw [hml]; rfl) (argsL := [(.int b_), (.int e_), (.int ln_)]) (lenOf own_pd23 rfl) (rest := []) rfl rfl (Nat.le_of_eq rfl) (hb hby dc9_8) ?_
  intro _ T2 L2 X2 hQ2
  obtain ⟨rfl, N2q, e2⟩ := hQ2
  have N2 := Fr.app N0 N2q
  show oG p e below _ (T2.setTop (mkF m 11 #[.val (.ref s_), .val (.int b_), .val (.int e_), .val (.int ln_), .unset] []))
  refine og (fun _ hr => XS.iloadN X2.here hx rfl (hb hby dc9_11) rfl hr) ?_
  show oG p e below _ (T2.setTop (mkF m 12 #[.val (.ref s_), .val (.int b_), .val (.int e_), .val (.int ln_), .unset] [(.int b_)]))
  have j3 : (¬ (bN_ = 0 ∧ eN_ = cs_.length)) → oG p e below (own_KW Z own_EL s (Q_sub Z cs_ bN_ eN_ h0 n0) ({ frames := 6, cells := 3, slots := 19, locals := 103 } : Room).cells ({ frames := 6, cells := 3, slots := 19, locals := 103 } : Room).slots) (T2.setTop (mkF m 22 #[.val (.ref s_), .val (.int b_), .val (.int e_), .val (.int ln_), .unset] [])) := by
    intro hj3
    show oG p e below _ (T2.setTop (mkF m 22 #[.val (.ref s_), .val (.int b_), .val (.int e_), .val (.int ln_), .unset] []))
    refine og (fun _ hr => XS.iloadN X2.here hx rfl (hb hby dc9_22) rfl (XS.iloadN X2.here hx rfl (hb hby dc9_23) rfl (XS.isub X2.here hx rfl (hb hby dc9_24) rfl (XS.istore X2.here hx rfl (hb hby dc9_25) rfl (l' := #[.val (.ref s_), .val (.int b_), .val (.int e_), .val (.int ln_), .val (.int (e_ - b_))]) rfl (XS.aloadN X2.here hx rfl (hb hby dc9_27) rfl rfl hr))))) ?_
    show oG p e below _ (T2.setTop (mkF m 28 #[.val (.ref s_), .val (.int b_), .val (.int e_), .val (.int ln_), .val (.int (e_ - b_))] [(.ref s_)]))
    rcases Classical.em (cd_ = (0 : Int32)) with c4 | c4
    · skip
      refine own_cv X2 hx hZ hown (notFace_of_selects (args := #[]) (mvT hZ (hw _ (own_m 82 rfl)))) (hw _ (own_m 79 rfl)) (hw _ (own_m 80 rfl)) (hw _ (own_m 82 rfl)) (hw _ (own_m 81 rfl)) (hw _ (own_m 11 rfl)) (hw _ (own_m 83 rfl)) (by decide) Es_ (rm := { frames := 0, cells := 0, slots := 0, locals := 0 }) (rm_isLatin1_15 l Z a0 hw [] s_ i_COMPACT_STRINGS cd_ h0 n0 Z0 S_COMPACT_STRINGS Cs_ hs_COMPACT_STRINGS c4) (by decide) (W := 0) (by decide) (by decide) (by decide) e2 (by rw [hml]; rfl) (argsL := []) (lenOf own_pd15 rfl) (rest := []) rfl rfl (Nat.le_of_eq rfl) (hb hby dc9_28) ?_
      intro _ T5 L5 X5 hQ5
      obtain ⟨rfl, N5q, e5⟩ := hQ5
      have N5 := Fr.app N2 N5q
      show oG p e below _ (T5.setTop (mkF m 31 #[.val (.ref s_), .val (.int b_), .val (.int e_), .val (.int ln_), .val (.int (e_ - b_))] [(.int (1 : Int32))]))
      refine og (fun _ hr => XS.ifNo X5.here hx rfl (hb hby dc9_31) rfl ((if0 _ _).trans (feq (by decide)).1) (XS.aloadN X5.here hx rfl (hb hby dc9_34) rfl rfl hr)) ?_
      show oG p e below _ (T5.setTop (mkF m 35 #[.val (.ref s_), .val (.int b_), .val (.int e_), .val (.int ln_), .val (.int (e_ - b_))] [(.ref s_)]))
      obtain ⟨T6, X6, e6, st6⟩ := getF X5 hx hZ hown (host := "") (Or.inl (hw _ (own_m 28 rfl))) Via.refl e5 Vs_ (g := (mkF m 35 #[.val (.ref s_), .val (.int b_), .val (.int e_), .val (.int ln_), .val (.int (e_ - b_))] [(.ref s_)])) rfl rfl (hb hby dc9_35)
      refine og st6 ?_
      show oG p e below _ (T6.setTop (mkF m 38 #[.val (.ref s_), .val (.int b_), .val (.int e_), .val (.int ln_), .val (.int (e_ - b_))] [(.ref t_)]))
      refine og (fun _ hr => XS.iloadN X6.here hx rfl (hb hby dc9_38) rfl (XS.iload X6.here hx rfl (hb hby dc9_39) rfl hr)) ?_
      show oG p e below _ (T6.setTop (mkF m 41 #[.val (.ref s_), .val (.int b_), .val (.int e_), .val (.int ln_), .val (.int (e_ - b_))] [(.int (e_ - b_)), (.int b_), (.ref t_)]))
      rcases Classical.em ((e_ - b_) = (0 : Int32)) with c7 | c7
      · skip
        have hZo9 := hZ
        refine own_csW X6 hx hZ hown (hw _ (own_m 97 rfl)) (hw _ (own_m 98 rfl)) (hw _ (own_m 86 rfl)) (hw _ (own_m 99 rfl)) (by decide) (rm := { frames := 0, cells := 2, slots := 4, locals := 0 }) (rm_newString_16 l Z a0 hw [] t_ b_ (e_ - b_) h0 n0 Z0 c7) (by decide) (W := 0) (by decide) (by decide) (by decide) e6 hEL A0.1 hS hk (by rw [hml]; rfl) (argsL := [(.ref t_), (.int b_), (.int (e_ - b_))]) (lenOf own_pd24 rfl) (rest := []) rfl rfl (Nat.le_of_eq rfl) (hb hby dc9_41) ?_
        intro _ T8 L8 X8 hQ8 Ac8 hS hZ hown
        obtain ⟨b8_0, b8_1, kb8_0, rfl, N8q, K8, f8_0, f8_1, f8_2, f8_3⟩ := hQ8
        have N8 := Fr.app N5 N8q
        show oG p e below _ (T8.setTop (mkF m 44 #[.val (.ref s_), .val (.int b_), .val (.int e_), .val (.int ln_), .val (.int (e_ - b_))] [(.ref b8_0)]))
        refine og (fun _ hr => XS.goto X8.here hx rfl (pc0 := 44) (pc' := 57) rfl (hb hby dc9_44) (by decide) (by decide) hr) ?_
        show oG p e below _ (T8.setTop (mkF m 57 #[.val (.ref s_), .val (.int b_), .val (.int e_), .val (.int ln_), .val (.int (e_ - b_))] [(.ref b8_0)]))
        have hc10 : StrChars.Road.CodA (own_sub cs_ bN_ (eN_ - bN_)) (0 : Int32) (0 : Int32) [] := by rw [own_inj hkn_ (show Int32.ofNat 0 = (e_ - b_) from c7.symm) (by omega) (by omega)]; exact own_cod0
        have K11 := (K0.trans K8 all0)
        have A12 := A0.trans Ac8
        exact own_retRW X8 hx hlk Bd.returns hS (Nat.le_refl _) hZ hEL hh rfl A12 rfl rfl (hb hby dc9_57) (by decide) (by decide) (by exact ⟨b8_0, b8_1, kb8_0, (0 : Int32), (0 : Int32), [], rfl, N8, K11, f8_0, f8_1, f8_2, f8_3, hc10⟩)
      have hl13 := own_codl hc_ c4
      refine own_cs X6 hx hZ hown (hw _ (own_m 97 rfl)) (hw _ (own_m 98 rfl)) (hw _ (own_m 86 rfl)) (hw _ (own_m 99 rfl)) (by decide) (rm := { frames := 3, cells := 2, slots := 14, locals := 72 }) (rm_nsl l Z a0 hw [] t_ kt_ nn_ vs_ b_ (e_ - b_) cs_ bN_ (eN_ - bN_) h0 n0 Z0 Kt_ hl13.1 hl13.2.1 hl13.2.2 hl5_ hbN_ hkn_ (by omega) (fun r => hj3 ⟨r.1, by omega⟩) (by rcases Nat.eq_zero_or_pos (eN_ - bN_) with r | r; exact absurd (by rw [← hkn_, r]; rfl) c7; exact r)) (by decide) (W := 0) (by decide) (by decide) (by decide) e6 (by rw [hml]; rfl) (argsL := [(.ref t_), (.int b_), (.int (e_ - b_))]) (lenOf own_pd24 rfl) (rest := []) rfl rfl (Nat.le_of_eq rfl) (hb hby dc9_41) ?_
      intro _ T14 L14 X14 hQ14
      obtain ⟨b14_0, b14_1, kb14_0, w14_0, w14_1, w14_2, rfl, N14q, K14, ge14_0, sz14_0, f14_0, f14_1, f14_2, f14_3, hx14_0⟩ := hQ14
      have N14 := Fr.app N5 N14q
      have sz15 : h0.size ≤ b14_0 := Nat.le_trans K0.1 sz14_0
      show oG p e below _ (T14.setTop (mkF m 44 #[.val (.ref s_), .val (.int b_), .val (.int e_), .val (.int ln_), .val (.int (e_ - b_))] [(.ref b14_0)]))
      refine og (fun _ hr => XS.goto X14.here hx rfl (pc0 := 44) (pc' := 57) rfl (hb hby dc9_44) (by decide) (by decide) hr) ?_
      show oG p e below _ (T14.setTop (mkF m 57 #[.val (.ref s_), .val (.int b_), .val (.int e_), .val (.int ln_), .val (.int (e_ - b_))] [(.ref b14_0)]))
      have K16 := (K0.trans K14 all0)
      have hk17 := (Nat.le_trans hk K14.1)
      have A18 := A0.trans (CHr.keep K14 sf0 A0.1)
      exact own_retRW X14 hx hlk Bd.returns hS hk17 hZ hEL hh rfl A18 rfl rfl (hb hby dc9_57) (by decide) (by decide) (by exact ⟨b14_0, b14_1, kb14_0, w14_0, w14_1, w14_2, rfl, N14, K16, f14_0, f14_1, f14_2, f14_3, hx14_0⟩)
    refine own_cv X2 hx hZ hown (notFace_of_selects (args := #[]) (mvT hZ (hw _ (own_m 82 rfl)))) (hw _ (own_m 79 rfl)) (hw _ (own_m 80 rfl)) (hw _ (own_m 82 rfl)) (hw _ (own_m 81 rfl)) (hw _ (own_m 11 rfl)) (hw _ (own_m 83 rfl)) (by decide) Es_ (rm := { frames := 0, cells := 0, slots := 0, locals := 0 }) (rm_isLatin1_17 l Z a0 hw [] s_ i_COMPACT_STRINGS cd_ h0 n0 Z0 S_COMPACT_STRINGS Cs_ hs_COMPACT_STRINGS c4) (by decide) (W := 0) (by decide) (by decide) (by decide) e2 (by rw [hml]; rfl) (argsL := []) (lenOf own_pd15 rfl) (rest := []) rfl rfl (Nat.le_of_eq rfl) (hb hby dc9_28) ?_
    intro _ T19 L19 X19 hQ19
    obtain ⟨rfl, N19q, e19⟩ := hQ19
    have N19 := Fr.app N2 N19q
    show oG p e below _ (T19.setTop (mkF m 31 #[.val (.ref s_), .val (.int b_), .val (.int e_), .val (.int ln_), .val (.int (e_ - b_))] [(.int (0 : Int32))]))
    refine og (fun _ hr => XS.ifYes X19.here hx rfl (pc0 := 31) (pc' := 47) rfl (hb hby dc9_31) rfl ((if0 _ _).trans (teq (by decide)).1) (by decide) (by decide) (XS.aloadN X19.here hx rfl (hb hby dc9_47) rfl rfl hr)) ?_
    show oG p e below _ (T19.setTop (mkF m 48 #[.val (.ref s_), .val (.int b_), .val (.int e_), .val (.int ln_), .val (.int (e_ - b_))] [(.ref s_)]))
    obtain ⟨T20, X20, e20, st20⟩ := getF X19 hx hZ hown (host := "") (Or.inl (hw _ (own_m 28 rfl))) Via.refl e19 Vs_ (g := (mkF m 48 #[.val (.ref s_), .val (.int b_), .val (.int e_), .val (.int ln_), .val (.int (e_ - b_))] [(.ref s_)])) rfl rfl (hb hby dc9_48)
    refine og st20 ?_
    show oG p e below _ (T20.setTop (mkF m 51 #[.val (.ref s_), .val (.int b_), .val (.int e_), .val (.int ln_), .val (.int (e_ - b_))] [(.ref t_)]))
    refine og (fun _ hr => XS.iloadN X20.here hx rfl (hb hby dc9_51) rfl (XS.iload X20.here hx rfl (hb hby dc9_52) rfl hr)) ?_
    show oG p e below _ (T20.setTop (mkF m 54 #[.val (.ref s_), .val (.int b_), .val (.int e_), .val (.int ln_), .val (.int (e_ - b_))] [(.int (e_ - b_)), (.int b_), (.ref t_)]))
    have hl21 := own_codw hc_ c4
    refine own_cs X20 hx hZ hown (hw _ (own_m 156 rfl)) (hw _ (own_m 157 rfl)) (hw _ (own_m 66 rfl)) (hw _ (own_m 158 rfl)) (by decide) (rm := { frames := 5, cells := 3, slots := 19, locals := 87 }) (rm_nsu l Z a0 hw [] t_ kt_ nn_ vs_ b_ (e_ - b_) cs_ bN_ (eN_ - bN_) i_COMPACT_STRINGS v_SIOOBE_FORMATTER h0 n0 Z0 Kt_ hl21.1 hl21.2.1 hbc_ hl5_ hbN_ hkn_ (by omega) (fun r => hj3 ⟨r.1, by omega⟩) (by have r := hwd_ hl21.2.2; omega) S_COMPACT_STRINGS hs_COMPACT_STRINGS S__assertionsDisabled S_HI_BYTE_SHIFT S_LO_BYTE_SHIFT S_SIOOBE_FORMATTER hv_SIOOBE_FORMATTER) (by decide) (W := 0) (by decide) (by decide) (by decide) e20 (by rw [hml]; rfl) (argsL := [(.ref t_), (.int b_), (.int (e_ - b_))]) (lenOf own_pd24 rfl) (rest := []) rfl rfl (Nat.le_of_eq rfl) (hb hby dc9_54) ?_
    intro _ T22 L22 X22 hQ22
    obtain ⟨b22_0, b22_1, kb22_0, w22_0, w22_1, w22_2, rfl, N22q, K22, ge22_0, sz22_0, f22_0, f22_1, f22_2, f22_3, hx22_0⟩ := hQ22
    have N22 := Fr.app N19 N22q
    have sz23 : h0.size ≤ b22_0 := Nat.le_trans K0.1 sz22_0
    show oG p e below _ (T22.setTop (mkF m 57 #[.val (.ref s_), .val (.int b_), .val (.int e_), .val (.int ln_), .val (.int (e_ - b_))] [(.ref b22_0)]))
    have K24 := (K0.trans K22 all0)
    have hk25 := (Nat.le_trans hk K22.1)
    have A26 := A0.trans (CHr.keep K22 sf0 A0.1)
    exact own_retRW X22 hx hlk Bd.returns hS hk25 hZ hEL hh rfl A26 rfl rfl (hb hby dc9_57) (by decide) (by decide) (by exact ⟨b22_0, b22_1, kb22_0, w22_0, w22_1, w22_2, rfl, N22, K24, f22_0, f22_1, f22_2, f22_3, hx22_0⟩)
  rcases Classical.em (b_ = (0 : Int32)) with c27 | c27
  · skip
    refine og (fun _ hr => XS.ifNo X2.here hx rfl (hb hby dc9_12) rfl ((if0 _ _).trans (teq c27).2) hr) ?_
    show oG p e below _ (T2.setTop (mkF m 15 #[.val (.ref s_), .val (.int b_), .val (.int e_), .val (.int ln_), .unset] []))
    refine og (fun _ hr => XS.iloadN X2.here hx rfl (hb hby dc9_15) rfl (XS.iloadN X2.here hx rfl (hb hby dc9_16) rfl hr)) ?_
    show oG p e below _ (T2.setTop (mkF m 17 #[.val (.ref s_), .val (.int b_), .val (.int e_), .val (.int ln_), .unset] [(.int ln_), (.int e_)]))
    rcases Classical.em (e_ = ln_) with c28 | c28
    · skip
      refine og (fun _ hr => XS.icmpNo X2.here hx rfl (hb hby dc9_17) rfl (teq c28).2 hr) ?_
      show oG p e below _ (T2.setTop (mkF m 20 #[.val (.ref s_), .val (.int b_), .val (.int e_), .val (.int ln_), .unset] []))
      refine og (fun _ hr => XS.aloadN X2.here hx rfl (hb hby dc9_20) rfl rfl hr) ?_
      show oG p e below _ (T2.setTop (mkF m 21 #[.val (.ref s_), .val (.int b_), .val (.int e_), .val (.int ln_), .unset] [(.ref s_)]))
      have hc29 : StrChars.Road.CodA (own_sub cs_ bN_ (eN_ - bN_)) cd_ nn_ vs_ := by rw [own_inj hbN_ (show Int32.ofNat 0 = b_ from c27.symm) (by omega) (by omega), own_inj heN_ (hln_.trans c28.symm) (by omega) hl5_, Nat.sub_zero, own_sub_all]; exact hc_
      exact own_retRW X2 hx hlk Bd.returns hS hk hZ hEL hh e2 A0 rfl rfl (hb hby dc9_21) (by decide) (by decide) (by rw [e2]; exact ⟨s_, t_, kt_, cd_, nn_, vs_, rfl, N2, K0, Es_, Cs_, Vs_, Kt_, hc29⟩)
    refine og (fun _ hr => XS.icmpYes X2.here hx rfl (pc0 := 17) (pc' := 22) rfl (hb hby dc9_17) rfl (feq c28).2 (by decide) (by decide) hr) ?_
    show oG p e below _ (T2.setTop (mkF m 22 #[.val (.ref s_), .val (.int b_), .val (.int e_), .val (.int ln_), .unset] []))
    exact j3 (by exact fun q => c28 (by rw [← heN_, ← hln_, q.2]))
  refine og (fun _ hr => XS.ifYes X2.here hx rfl (pc0 := 12) (pc' := 22) rfl (hb hby dc9_12) rfl ((if0 _ _).trans (feq c27).2) (by decide) (by decide) hr) ?_
  show oG p e below _ (T2.setTop (mkF m 22 #[.val (.ref s_), .val (.int b_), .val (.int e_), .val (.int ln_), .unset] []))
  exact j3 (by exact fun q => c27 (by rw [← hbN_, q.1]; rfl))
theorem dc21_0 : decode prog_64_method_23_code 0 = .ok (.iload_n 0, 1) := by decide +kernel
theorem dc21_1 : decode prog_64_method_23_code 1 = .ok (.bipush 32, 2) := by decide +kernel
theorem dc21_3 : decode prog_64_method_23_code 3 = .ok (.if_icmp .eq 21, 3) := by decide +kernel
theorem dc21_24 : decode prog_64_method_23_code 24 = .ok (.iconst 1, 1) := by decide +kernel
theorem dc21_25 : decode prog_64_method_23_code 25 = .ok (.goto 4, 3) := by decide +kernel
theorem dc21_29 : decode prog_64_method_23_code 29 = .ok (.ireturn, 1) := by decide +kernel
theorem dc21_6 : decode prog_64_method_23_code 6 = .ok (.iload_n 0, 1) := by decide +kernel
theorem dc21_7 : decode prog_64_method_23_code 7 = .ok (.bipush 9, 2) := by decide +kernel
theorem dc21_9 : decode prog_64_method_23_code 9 = .ok (.if_icmp .eq 15, 3) := by decide +kernel
theorem dc21_12 : decode prog_64_method_23_code 12 = .ok (.iload_n 0, 1) := by decide +kernel
theorem dc21_13 : decode prog_64_method_23_code 13 = .ok (.bipush 13, 2) := by decide +kernel
theorem dc21_15 : decode prog_64_method_23_code 15 = .ok (.if_icmp .eq 9, 3) := by decide +kernel
theorem dc21_18 : decode prog_64_method_23_code 18 = .ok (.iload_n 0, 1) := by decide +kernel
theorem dc21_19 : decode prog_64_method_23_code 19 = .ok (.bipush 10, 2) := by decide +kernel
theorem dc21_21 : decode prog_64_method_23_code 21 = .ok (.if_icmp .ne 7, 3) := by decide +kernel
theorem dc21_28 : decode prog_64_method_23_code 28 = .ok (.iconst 0, 1) := by decide +kernel
def own_xsp (c_ : Int32) : Int32 := (if c_ = (32 : Int32) then (1 : Int32) else (if c_ = (9 : Int32) then (1 : Int32) else (if c_ = (13 : Int32) then (1 : Int32) else (if c_ = (10 : Int32) then (1 : Int32) else (0 : Int32)))))
theorem own_pn_com_example_ruleweave_ruleweave_XmlDocuments : plainName "com/example/ruleweave/ruleweave/XmlDocuments" = true := by first | (simp [plainName, overriddenIn]; done) | decide +kernel
def Q_xsp (Z : State) (c_ : Int32) (h0 : Heap) (n0 : Nat) (v : Option Value) (h : Heap) (L : List Loc) : Prop := v = some (.int (own_xsp c_)) ∧ Fr n0 L ∧ h = h0
set_option maxRecDepth 65536 in
set_option maxHeartbeats 40000000 in
theorem rm_xsp (l : Launch) (Z : State) (a0 : Array Value) (hw : ∀ d ∈ tables_1, d.before a0 Z = true) (ws : List Jvm.Cond) (c_ : Int32) (h0 : Heap) (n0 : Nat) (Z0 : n0 ≤ h0.size) :
    MetFree l (⟨"com/example/ruleweave/ruleweave/XmlDocuments", "isXmlSpace", "(C)Z"⟩ : MethodName) (head1 (Jvm.Cond.code (⟨"com/example/ruleweave/ruleweave/XmlDocuments", "isXmlSpace", "(C)Z"⟩ : MethodName) prog_64_method_23_code 1 (some .boolean) :: ws) ({ frames := 0, cells := 0, slots := 0, locals := 0 } : Room)) (fun aA U => aA = #[(.int c_)] ∧ Z.Warmed39 U.vm ∧ U.heap = h0) (fun _ _ _ _ _ => True) (fun _ U o U' => ∃ v L, o = .returned v ∧ Q_xsp Z c_ h0 n0 v U'.heap L ∧ FrameEnd U o U' L ({ frames := 0, cells := 0, slots := 0, locals := 0 } : Room).cells ({ frames := 0, cells := 0, slots := 0, locals := 0 } : Room).slots) := by
  refine MetFree.of_bodySF (plainFor_of_name own_pn_com_example_ruleweave_ruleweave_XmlDocuments) hisR ?_
  intro p e s m args below meth c s₁ Bd hml0 hP hK
  obtain ⟨rfl, hZ, hh⟩ := hP
  have hx := Bd.exec
  have hby := Bd.bytes
  have hlk : meth.locks = false := BodyLoose.notSynchronized Bd
  have hml : c.maxLocals = 1 := hml0
  have hown : s.vm.findClass "com/example/ruleweave/ruleweave/XmlDocuments" = some m.cls := findClass_of_methodNamed Bd.named
  have hnm := (name_of_methodNamed Bd.named Bd.method).1
  have X0 : Stand p l e ({ frames := 0, cells := 0, slots := 0, locals := 0 } : Room) s m #[(.int c_)] below meth c s₁ [] 0 0 := Stand.of_body Bd
  have e0 : s₁.heap = h0 := by rw [← hh, Bd.state]; rfl
  have N0 := Fr.nil n0
  show oG p e below (own_K s (Q_xsp Z c_ h0 n0) ({ frames := 0, cells := 0, slots := 0, locals := 0 } : Room).cells ({ frames := 0, cells := 0, slots := 0, locals := 0 } : Room).slots) (s₁.setTop (entryFrame m #[(.int c_)] 1))
  rw [(by first | (simp [entryFrame, mkF, argsToLocals, Value.category]; done) | rfl : entryFrame m #[(.int c_)] 1 = mkF m 0 #[.val (.int c_)] [])]
  show oG p e below _ (s₁.setTop (mkF m 0 #[.val (.int c_)] []))
  refine og (fun _ hr => XS.iloadN X0.here hx rfl (hb hby dc21_0) rfl (XS.bipush X0.here hx rfl (hb hby dc21_1) hr)) ?_
  show oG p e below _ (s₁.setTop (mkF m 3 #[.val (.int c_)] [(.int (32 : Int32)), (.int c_)]))
  rcases Classical.em (c_ = (32 : Int32)) with c1 | c1
  · skip
    refine og (fun _ hr => XS.icmpYes X0.here hx rfl (pc0 := 3) (pc' := 24) rfl (hb hby dc21_3) rfl (teq c1).1 (by decide) (by decide) hr) ?_
    show oG p e below _ (s₁.setTop (mkF m 24 #[.val (.int c_)] []))
    refine og (fun _ hr => XS.iconst X0.here hx rfl (hb hby dc21_24) (XS.goto X0.here hx rfl (pc0 := 25) (pc' := 29) rfl (hb hby dc21_25) (by decide) (by decide) hr)) ?_
    show oG p e below _ (s₁.setTop (mkF m 29 #[.val (.int c_)] [(.int (1 : Int32))]))
    exact own_retN X0 hx hlk Bd.returns (t := .boolean) (by simp) (hb hby dc21_29) (by decide) (by decide) ⟨(congrArg (fun q => some (Value.int q)) (show (1 : Int32) = own_xsp c_ from Eq.symm (by unfold own_xsp; rw [if_pos c1]))), N0, e0⟩
  refine og (fun _ hr => XS.icmpNo X0.here hx rfl (hb hby dc21_3) rfl (feq c1).1 hr) ?_
  show oG p e below _ (s₁.setTop (mkF m 6 #[.val (.int c_)] []))
  refine og (fun _ hr => XS.iloadN X0.here hx rfl (hb hby dc21_6) rfl (XS.bipush X0.here hx rfl (hb hby dc21_7) hr)) ?_
  show oG p e below _ (s₁.setTop (mkF m 9 #[.val (.int c_)] [(.int (9 : Int32)), (.int c_)]))
  rcases Classical.em (c_ = (9 : Int32)) with c2 | c2
  · skip
    refine og (fun _ hr => XS.icmpYes X0.here hx rfl (pc0 := 9) (pc' := 24) rfl (hb hby dc21_9) rfl (teq c2).1 (by decide) (by decide) hr) ?_
    show oG p e below _ (s₁.setTop (mkF m 24 #[.val (.int c_)] []))
    refine og (fun _ hr => XS.iconst X0.here hx rfl (hb hby dc21_24) (XS.goto X0.here hx rfl (pc0 := 25) (pc' := 29) rfl (hb hby dc21_25) (by decide) (by decide) hr)) ?_
    show oG p e below _ (s₁.setTop (mkF m 29 #[.val (.int c_)] [(.int (1 : Int32))]))
    exact own_retN X0 hx hlk Bd.returns (t := .boolean) (by simp) (hb hby dc21_29) (by decide) (by decide) ⟨(congrArg (fun q => some (Value.int q)) (show (1 : Int32) = own_xsp c_ from Eq.symm (by unfold own_xsp; rw [if_neg c1, if_pos c2]))), N0, e0⟩
  refine og (fun _ hr => XS.icmpNo X0.here hx rfl (hb hby dc21_9) rfl (feq c2).1 hr) ?_
  show oG p e below _ (s₁.setTop (mkF m 12 #[.val (.int c_)] []))
  refine og (fun _ hr => XS.iloadN X0.here hx rfl (hb hby dc21_12) rfl (XS.bipush X0.here hx rfl (hb hby dc21_13) hr)) ?_
  show oG p e below _ (s₁.setTop (mkF m 15 #[.val (.int c_)] [(.int (13 : Int32)), (.int c_)]))
  rcases Classical.em (c_ = (13 : Int32)) with c3 | c3
  · skip
    refine og (fun _ hr => XS.icmpYes X0.here hx rfl (pc0 := 15) (pc' := 24) rfl (hb hby dc21_15) rfl (teq c3).1 (by decide) (by decide) hr) ?_
    show oG p e below _ (s₁.setTop (mkF m 24 #[.val (.int c_)] []))
    refine og (fun _ hr => XS.iconst X0.here hx rfl (hb hby dc21_24) (XS.goto X0.here hx rfl (pc0 := 25) (pc' := 29) rfl (hb hby dc21_25) (by decide) (by decide) hr)) ?_
    show oG p e below _ (s₁.setTop (mkF m 29 #[.val (.int c_)] [(.int (1 : Int32))]))
    exact own_retN X0 hx hlk Bd.returns (t := .boolean) (by simp) (hb hby dc21_29) (by decide) (by decide) ⟨(congrArg (fun q => some (Value.int q)) (show (1 : Int32) = own_xsp c_ from Eq.symm (by unfold own_xsp; rw [if_neg c1, if_neg c2, if_pos c3]))), N0, e0⟩
  refine og (fun _ hr => XS.icmpNo X0.here hx rfl (hb hby dc21_15) rfl (feq c3).1 hr) ?_
  show oG p e below _ (s₁.setTop (mkF m 18 #[.val (.int c_)] []))
  refine og (fun _ hr => XS.iloadN X0.here hx rfl (hb hby dc21_18) rfl (XS.bipush X0.here hx rfl (hb hby dc21_19) hr)) ?_
  show oG p e below _ (s₁.setTop (mkF m 21 #[.val (.int c_)] [(.int (10 : Int32)), (.int c_)]))
  rcases Classical.em (c_ = (10 : Int32)) with c4 | c4
  · skip
    refine og (fun _ hr => XS.icmpNo X0.here hx rfl (hb hby dc21_21) rfl (teq c4).2 hr) ?_
    show oG p e below _ (s₁.setTop (mkF m 24 #[.val (.int c_)] []))
    refine og (fun _ hr => XS.iconst X0.here hx rfl (hb hby dc21_24) (XS.goto X0.here hx rfl (pc0 := 25) (pc' := 29) rfl (hb hby dc21_25) (by decide) (by decide) hr)) ?_
    show oG p e below _ (s₁.setTop (mkF m 29 #[.val (.int c_)] [(.int (1 : Int32))]))
    exact own_retN X0 hx hlk Bd.returns (t := .boolean) (by simp) (hb hby dc21_29) (by decide) (by decide) ⟨(congrArg (fun q => some (Value.int q)) (show (1 : Int32) = own_xsp c_ from Eq.symm (by unfold own_xsp; rw [if_neg c1, if_neg c2, if_neg c3, if_pos c4]))), N0, e0⟩
  refine og (fun _ hr => XS.icmpYes X0.here hx rfl (pc0 := 21) (pc' := 28) rfl (hb hby dc21_21) rfl (feq c4).2 (by decide) (by decide) hr) ?_
  show oG p e below _ (s₁.setTop (mkF m 28 #[.val (.int c_)] []))
  refine og (fun _ hr => XS.iconst X0.here hx rfl (hb hby dc21_28) hr) ?_
  show oG p e below _ (s₁.setTop (mkF m 29 #[.val (.int c_)] [(.int (0 : Int32))]))
  exact own_retN X0 hx hlk Bd.returns (t := .boolean) (by simp) (hb hby dc21_29) (by decide) (by decide) ⟨(congrArg (fun q => some (Value.int q)) (show (0 : Int32) = own_xsp c_ from Eq.symm (by unfold own_xsp; rw [if_neg c1, if_neg c2, if_neg c3, if_neg c4]))), N0, e0⟩
theorem dc28_0 : decode method_4_code 0 = .ok (.iload_n 0, 1) := by decide +kernel
theorem dc28_1 : decode method_4_code 1 = .ok (.bipush 32, 2) := by decide +kernel
theorem dc28_3 : decode method_4_code 3 = .ok (.if_icmp .eq 21, 3) := by decide +kernel
theorem dc28_24 : decode method_4_code 24 = .ok (.iconst 1, 1) := by decide +kernel
theorem dc28_25 : decode method_4_code 25 = .ok (.goto 4, 3) := by decide +kernel
theorem dc28_29 : decode method_4_code 29 = .ok (.ireturn, 1) := by decide +kernel
theorem dc28_6 : decode method_4_code 6 = .ok (.iload_n 0, 1) := by decide +kernel
theorem dc28_7 : decode method_4_code 7 = .ok (.bipush 9, 2) := by decide +kernel
theorem dc28_9 : decode method_4_code 9 = .ok (.if_icmp .eq 15, 3) := by decide +kernel
theorem dc28_12 : decode method_4_code 12 = .ok (.iload_n 0, 1) := by decide +kernel
theorem dc28_13 : decode method_4_code 13 = .ok (.bipush 13, 2) := by decide +kernel
theorem dc28_15 : decode method_4_code 15 = .ok (.if_icmp .eq 9, 3) := by decide +kernel
theorem dc28_18 : decode method_4_code 18 = .ok (.iload_n 0, 1) := by decide +kernel
theorem dc28_19 : decode method_4_code 19 = .ok (.bipush 10, 2) := by decide +kernel
theorem dc28_21 : decode method_4_code 21 = .ok (.if_icmp .ne 7, 3) := by decide +kernel
theorem dc28_28 : decode method_4_code 28 = .ok (.iconst 0, 1) := by decide +kernel
def own_wh (c_ : Int32) : Int32 := (if c_ = (32 : Int32) then (1 : Int32) else (if c_ = (9 : Int32) then (1 : Int32) else (if c_ = (13 : Int32) then (1 : Int32) else (if c_ = (10 : Int32) then (1 : Int32) else (0 : Int32)))))
def Q_wh (Z : State) (c_ : Int32) (h0 : Heap) (n0 : Nat) (v : Option Value) (h : Heap) (L : List Loc) : Prop := v = some (.int (own_wh c_)) ∧ Fr n0 L ∧ h = h0
set_option maxRecDepth 65536 in
set_option maxHeartbeats 40000000 in
theorem rm_wh (l : Launch) (Z : State) (a0 : Array Value) (hw : ∀ d ∈ tables_1, d.before a0 Z = true) (ws : List Jvm.Cond) (c_ : Int32) (h0 : Heap) (n0 : Nat) (Z0 : n0 ≤ h0.size) :
    MetFree l (⟨"com/example/ruleweave/ruleweave/XmlDocumentsTrimPinLaw", "white", "(C)Z"⟩ : MethodName) (head1 (Jvm.Cond.code (⟨"com/example/ruleweave/ruleweave/XmlDocumentsTrimPinLaw", "white", "(C)Z"⟩ : MethodName) method_4_code 1 (some .boolean) :: ws) ({ frames := 0, cells := 0, slots := 0, locals := 0 } : Room)) (fun aA U => aA = #[(.int c_)] ∧ Z.Warmed39 U.vm ∧ U.heap = h0) (fun _ _ _ _ _ => True) (fun _ U o U' => ∃ v L, o = .returned v ∧ Q_wh Z c_ h0 n0 v U'.heap L ∧ FrameEnd U o U' L ({ frames := 0, cells := 0, slots := 0, locals := 0 } : Room).cells ({ frames := 0, cells := 0, slots := 0, locals := 0 } : Room).slots) := by
  refine MetFree.of_bodySF (plainFor_of_name own_pn_com_example_ruleweave_ruleweave_XmlDocumentsTrimPinLaw) hisR ?_
  intro p e s m args below meth c s₁ Bd hml0 hP hK
  obtain ⟨rfl, hZ, hh⟩ := hP
  have hx := Bd.exec
  have hby := Bd.bytes
  have hlk : meth.locks = false := BodyLoose.notSynchronized Bd
  have hml : c.maxLocals = 1 := hml0
  have hown : s.vm.findClass "com/example/ruleweave/ruleweave/XmlDocumentsTrimPinLaw" = some m.cls := findClass_of_methodNamed Bd.named
  have hnm := (name_of_methodNamed Bd.named Bd.method).1
  have X0 : Stand p l e ({ frames := 0, cells := 0, slots := 0, locals := 0 } : Room) s m #[(.int c_)] below meth c s₁ [] 0 0 := Stand.of_body Bd
  have e0 : s₁.heap = h0 := by rw [← hh, Bd.state]; rfl
  have N0 := Fr.nil n0
  show oG p e below (own_K s (Q_wh Z c_ h0 n0) ({ frames := 0, cells := 0, slots := 0, locals := 0 } : Room).cells ({ frames := 0, cells := 0, slots := 0, locals := 0 } : Room).slots) (s₁.setTop (entryFrame m #[(.int c_)] 1))
  rw [(by first | (simp [entryFrame, mkF, argsToLocals, Value.category]; done) | rfl : entryFrame m #[(.int c_)] 1 = mkF m 0 #[.val (.int c_)] [])]
  show oG p e below _ (s₁.setTop (mkF m 0 #[.val (.int c_)] []))
  refine og (fun _ hr => XS.iloadN X0.here hx rfl (hb hby dc28_0) rfl (XS.bipush X0.here hx rfl (hb hby dc28_1) hr)) ?_
  show oG p e below _ (s₁.setTop (mkF m 3 #[.val (.int c_)] [(.int (32 : Int32)), (.int c_)]))
  rcases Classical.em (c_ = (32 : Int32)) with c1 | c1
  · skip
    refine og (fun _ hr => XS.icmpYes X0.here hx rfl (pc0 := 3) (pc' := 24) rfl (hb hby dc28_3) rfl (teq c1).1 (by decide) (by decide) hr) ?_
    show oG p e below _ (s₁.setTop (mkF m 24 #[.val (.int c_)] []))
    refine og (fun _ hr => XS.iconst X0.here hx rfl (hb hby dc28_24) (XS.goto X0.here hx rfl (pc0 := 25) (pc' := 29) rfl (hb hby dc28_25) (by decide) (by decide) hr)) ?_
    show oG p e below _ (s₁.setTop (mkF m 29 #[.val (.int c_)] [(.int (1 : Int32))]))
    exact own_retN X0 hx hlk Bd.returns (t := .boolean) (by simp) (hb hby dc28_29) (by decide) (by decide) ⟨(congrArg (fun q => some (Value.int q)) (show (1 : Int32) = own_wh c_ from Eq.symm (by unfold own_wh; rw [if_pos c1]))), N0, e0⟩
  refine og (fun _ hr => XS.icmpNo X0.here hx rfl (hb hby dc28_3) rfl (feq c1).1 hr) ?_
  show oG p e below _ (s₁.setTop (mkF m 6 #[.val (.int c_)] []))
  refine og (fun _ hr => XS.iloadN X0.here hx rfl (hb hby dc28_6) rfl (XS.bipush X0.here hx rfl (hb hby dc28_7) hr)) ?_
  show oG p e below _ (s₁.setTop (mkF m 9 #[.val (.int c_)] [(.int (9 : Int32)), (.int c_)]))
  rcases Classical.em (c_ = (9 : Int32)) with c2 | c2
  · skip
    refine og (fun _ hr => XS.icmpYes X0.here hx rfl (pc0 := 9) (pc' := 24) rfl (hb hby dc28_9) rfl (teq c2).1 (by decide) (by decide) hr) ?_
    show oG p e below _ (s₁.setTop (mkF m 24 #[.val (.int c_)] []))
    refine og (fun _ hr => XS.iconst X0.here hx rfl (hb hby dc28_24) (XS.goto X0.here hx rfl (pc0 := 25) (pc' := 29) rfl (hb hby dc28_25) (by decide) (by decide) hr)) ?_
    show oG p e below _ (s₁.setTop (mkF m 29 #[.val (.int c_)] [(.int (1 : Int32))]))
    exact own_retN X0 hx hlk Bd.returns (t := .boolean) (by simp) (hb hby dc28_29) (by decide) (by decide) ⟨(congrArg (fun q => some (Value.int q)) (show (1 : Int32) = own_wh c_ from Eq.symm (by unfold own_wh; rw [if_neg c1, if_pos c2]))), N0, e0⟩
  refine og (fun _ hr => XS.icmpNo X0.here hx rfl (hb hby dc28_9) rfl (feq c2).1 hr) ?_
  show oG p e below _ (s₁.setTop (mkF m 12 #[.val (.int c_)] []))
  refine og (fun _ hr => XS.iloadN X0.here hx rfl (hb hby dc28_12) rfl (XS.bipush X0.here hx rfl (hb hby dc28_13) hr)) ?_
  show oG p e below _ (s₁.setTop (mkF m 15 #[.val (.int c_)] [(.int (13 : Int32)), (.int c_)]))
  rcases Classical.em (c_ = (13 : Int32)) with c3 | c3
  · skip
    refine og (fun _ hr => XS.icmpYes X0.here hx rfl (pc0 := 15) (pc' := 24) rfl (hb hby dc28_15) rfl (teq c3).1 (by decide) (by decide) hr) ?_
    show oG p e below _ (s₁.setTop (mkF m 24 #[.val (.int c_)] []))
    refine og (fun _ hr => XS.iconst X0.here hx rfl (hb hby dc28_24) (XS.goto X0.here hx rfl (pc0 := 25) (pc' := 29) rfl (hb hby dc28_25) (by decide) (by decide) hr)) ?_
    show oG p e below _ (s₁.setTop (mkF m 29 #[.val (.int c_)] [(.int (1 : Int32))]))
    exact own_retN X0 hx hlk Bd.returns (t := .boolean) (by simp) (hb hby dc28_29) (by decide) (by decide) ⟨(congrArg (fun q => some (Value.int q)) (show (1 : Int32) = own_wh c_ from Eq.symm (by unfold own_wh; rw [if_neg c1, if_neg c2, if_pos c3]))), N0, e0⟩
  refine og (fun _ hr => XS.icmpNo X0.here hx rfl (hb hby dc28_15) rfl (feq c3).1 hr) ?_
  show oG p e below _ (s₁.setTop (mkF m 18 #[.val (.int c_)] []))
  refine og (fun _ hr => XS.iloadN X0.here hx rfl (hb hby dc28_18) rfl (XS.bipush X0.here hx rfl (hb hby dc28_19) hr)) ?_
  show oG p e below _ (s₁.setTop (mkF m 21 #[.val (.int c_)] [(.int (10 : Int32)), (.int c_)]))
  rcases Classical.em (c_ = (10 : Int32)) with c4 | c4
  · skip
    refine og (fun _ hr => XS.icmpNo X0.here hx rfl (hb hby dc28_21) rfl (teq c4).2 hr) ?_
    show oG p e below _ (s₁.setTop (mkF m 24 #[.val (.int c_)] []))
    refine og (fun _ hr => XS.iconst X0.here hx rfl (hb hby dc28_24) (XS.goto X0.here hx rfl (pc0 := 25) (pc' := 29) rfl (hb hby dc28_25) (by decide) (by decide) hr)) ?_
    show oG p e below _ (s₁.setTop (mkF m 29 #[.val (.int c_)] [(.int (1 : Int32))]))
    exact own_retN X0 hx hlk Bd.returns (t := .boolean) (by simp) (hb hby dc28_29) (by decide) (by decide) ⟨(congrArg (fun q => some (Value.int q)) (show (1 : Int32) = own_wh c_ from Eq.symm (by unfold own_wh; rw [if_neg c1, if_neg c2, if_neg c3, if_pos c4]))), N0, e0⟩
  refine og (fun _ hr => XS.icmpYes X0.here hx rfl (pc0 := 21) (pc' := 28) rfl (hb hby dc28_21) rfl (feq c4).2 (by decide) (by decide) hr) ?_
  show oG p e below _ (s₁.setTop (mkF m 28 #[.val (.int c_)] []))
  refine og (fun _ hr => XS.iconst X0.here hx rfl (hb hby dc28_28) hr) ?_
  show oG p e below _ (s₁.setTop (mkF m 29 #[.val (.int c_)] [(.int (0 : Int32))]))
  exact own_retN X0 hx hlk Bd.returns (t := .boolean) (by simp) (hb hby dc28_29) (by decide) (by decide) ⟨(congrArg (fun q => some (Value.int q)) (show (0 : Int32) = own_wh c_ from Eq.symm (by unfold own_wh; rw [if_neg c1, if_neg c2, if_neg c3, if_neg c4]))), N0, e0⟩
theorem dc1_0 : decode method_5_code 0 = .ok (.iload_n 0, 1) := by decide +kernel
theorem dc1_1 : decode method_5_code 1 = .ok (.bipush 7, 2) := by decide +kernel
theorem dc1_3 : decode method_5_code 3 = .ok (.iand, 1) := by decide +kernel
theorem dc1_4 : decode method_5_code 4 = .ok (.istore_n 1, 1) := by decide +kernel
theorem dc1_5 : decode method_5_code 5 = .ok (.iload_n 0, 1) := by decide +kernel
theorem dc1_6 : decode method_5_code 6 = .ok (.iconst 3, 1) := by decide +kernel
theorem dc1_7 : decode method_5_code 7 = .ok (.iushr, 1) := by decide +kernel
theorem dc1_8 : decode method_5_code 8 = .ok (.istore_n 2, 1) := by decide +kernel
theorem dc1_9 : decode method_5_code 9 = .ok (.iload_n 1, 1) := by decide +kernel
theorem dc1_10 : decode method_5_code 10 = .ok (.ifCond .ne 6, 3) := by decide +kernel
theorem dc1_13 : decode method_5_code 13 = .ok (.bipush 32, 2) := by decide +kernel
theorem dc1_15 : decode method_5_code 15 = .ok (.ireturn, 1) := by decide +kernel
theorem dc1_16 : decode method_5_code 16 = .ok (.iload_n 1, 1) := by decide +kernel
theorem dc1_17 : decode method_5_code 17 = .ok (.iconst 1, 1) := by decide +kernel
theorem dc1_18 : decode method_5_code 18 = .ok (.if_icmp .ne 6, 3) := by decide +kernel
theorem dc1_21 : decode method_5_code 21 = .ok (.bipush 9, 2) := by decide +kernel
theorem dc1_23 : decode method_5_code 23 = .ok (.ireturn, 1) := by decide +kernel
theorem dc1_24 : decode method_5_code 24 = .ok (.iload_n 1, 1) := by decide +kernel
theorem dc1_25 : decode method_5_code 25 = .ok (.iconst 2, 1) := by decide +kernel
theorem dc1_26 : decode method_5_code 26 = .ok (.if_icmp .ne 6, 3) := by decide +kernel
theorem dc1_29 : decode method_5_code 29 = .ok (.bipush 13, 2) := by decide +kernel
theorem dc1_31 : decode method_5_code 31 = .ok (.ireturn, 1) := by decide +kernel
theorem dc1_32 : decode method_5_code 32 = .ok (.iload_n 1, 1) := by decide +kernel
theorem dc1_33 : decode method_5_code 33 = .ok (.iconst 3, 1) := by decide +kernel
theorem dc1_34 : decode method_5_code 34 = .ok (.if_icmp .ne 6, 3) := by decide +kernel
theorem dc1_37 : decode method_5_code 37 = .ok (.bipush 10, 2) := by decide +kernel
theorem dc1_39 : decode method_5_code 39 = .ok (.ireturn, 1) := by decide +kernel
theorem dc1_40 : decode method_5_code 40 = .ok (.iload_n 1, 1) := by decide +kernel
theorem dc1_41 : decode method_5_code 41 = .ok (.iconst 4, 1) := by decide +kernel
theorem dc1_42 : decode method_5_code 42 = .ok (.if_icmp .ne 35, 3) := by decide +kernel
theorem dc1_45 : decode method_5_code 45 = .ok (.iload_n 2, 1) := by decide +kernel
theorem dc1_46 : decode method_5_code 46 = .ok (.iconst 3, 1) := by decide +kernel
theorem dc1_47 : decode method_5_code 47 = .ok (.iand, 1) := by decide +kernel
theorem dc1_48 : decode method_5_code 48 = .ok (.istore_n 3, 1) := by decide +kernel
theorem dc1_49 : decode method_5_code 49 = .ok (.iload_n 3, 1) := by decide +kernel
theorem dc1_50 : decode method_5_code 50 = .ok (.ifCond .ne 6, 3) := by decide +kernel
theorem dc1_53 : decode method_5_code 53 = .ok (.bipush 11, 2) := by decide +kernel
theorem dc1_55 : decode method_5_code 55 = .ok (.ireturn, 1) := by decide +kernel
theorem dc1_56 : decode method_5_code 56 = .ok (.iload_n 3, 1) := by decide +kernel
theorem dc1_57 : decode method_5_code 57 = .ok (.iconst 1, 1) := by decide +kernel
theorem dc1_58 : decode method_5_code 58 = .ok (.if_icmp .ne 6, 3) := by decide +kernel
theorem dc1_61 : decode method_5_code 61 = .ok (.bipush 12, 2) := by decide +kernel
theorem dc1_63 : decode method_5_code 63 = .ok (.ireturn, 1) := by decide +kernel
theorem dc1_64 : decode method_5_code 64 = .ok (.iload_n 3, 1) := by decide +kernel
theorem dc1_65 : decode method_5_code 65 = .ok (.iconst 2, 1) := by decide +kernel
theorem dc1_66 : decode method_5_code 66 = .ok (.if_icmp .ne 7, 3) := by decide +kernel
theorem dc1_69 : decode method_5_code 69 = .ok (.sipush 160, 3) := by decide +kernel
theorem dc1_72 : decode method_5_code 72 = .ok (.ireturn, 1) := by decide +kernel
theorem dc1_73 : decode method_5_code 73 = .ok (.sipush 8232, 3) := by decide +kernel
theorem dc1_76 : decode method_5_code 76 = .ok (.ireturn, 1) := by decide +kernel
theorem dc1_77 : decode method_5_code 77 = .ok (.iload_n 2, 1) := by decide +kernel
theorem dc1_78 : decode method_5_code 78 = .ok (.ldc 41, 2) := by decide +kernel
theorem dc1_80 : decode method_5_code 80 = .ok (.iand, 1) := by decide +kernel
theorem dc1_81 : decode method_5_code 81 = .ok (.i2c, 1) := by decide +kernel
theorem dc1_82 : decode method_5_code 82 = .ok (.ireturn, 1) := by decide +kernel
def own_draw (x_ : Int32) : Int32 := (if (x_ &&& (7 : Int32)) = (0 : Int32) then (32 : Int32) else (if (x_ &&& (7 : Int32)) = (1 : Int32) then (9 : Int32) else (if (x_ &&& (7 : Int32)) = (2 : Int32) then (13 : Int32) else (if (x_ &&& (7 : Int32)) = (3 : Int32) then (10 : Int32) else (if (x_ &&& (7 : Int32)) = (4 : Int32) then (if (((x_.toUInt32 >>> ((3 : Int32) &&& 31).toUInt32).toInt32) &&& (3 : Int32)) = (0 : Int32) then (11 : Int32) else (if (((x_.toUInt32 >>> ((3 : Int32) &&& 31).toUInt32).toInt32) &&& (3 : Int32)) = (1 : Int32) then (12 : Int32) else (if (((x_.toUInt32 >>> ((3 : Int32) &&& 31).toUInt32).toInt32) &&& (3 : Int32)) = (2 : Int32) then (160 : Int32) else (8232 : Int32)))) else ((((x_.toUInt32 >>> ((3 : Int32) &&& 31).toUInt32).toInt32) &&& (65535 : Int32)).toUInt32.toUInt16.toUInt32.toInt32))))))
def Q_draw (Z : State) (x_ : Int32) (h0 : Heap) (n0 : Nat) (v : Option Value) (h : Heap) (L : List Loc) : Prop := v = some (.int (own_draw x_)) ∧ Fr n0 L ∧ h = h0
set_option maxRecDepth 65536 in
set_option maxHeartbeats 40000000 in
theorem rm_draw (l : Launch) (Z : State) (a0 : Array Value) (hw : ∀ d ∈ tables_1, d.before a0 Z = true) (ws : List Jvm.Cond) (x_ : Int32) (h0 : Heap) (n0 : Nat) (Z0 : n0 ≤ h0.size) :
    MetFree l (⟨"com/example/ruleweave/ruleweave/XmlDocumentsTrimPinLaw", "draw", "(I)C"⟩ : MethodName) (head1 (Jvm.Cond.code (⟨"com/example/ruleweave/ruleweave/XmlDocumentsTrimPinLaw", "draw", "(I)C"⟩ : MethodName) method_5_code 4 (some .char) :: ws) ({ frames := 0, cells := 0, slots := 0, locals := 0 } : Room)) (fun aA U => aA = #[(.int x_)] ∧ Z.Warmed39 U.vm ∧ U.heap = h0) (fun _ _ _ _ _ => True) (fun _ U o U' => ∃ v L, o = .returned v ∧ Q_draw Z x_ h0 n0 v U'.heap L ∧ FrameEnd U o U' L ({ frames := 0, cells := 0, slots := 0, locals := 0 } : Room).cells ({ frames := 0, cells := 0, slots := 0, locals := 0 } : Room).slots) := by
  refine MetFree.of_bodySF (plainFor_of_name own_pn_com_example_ruleweave_ruleweave_XmlDocumentsTrimPinLaw) hisR ?_
  intro p e s m args below meth c s₁ Bd hml0 hP hK
  obtain ⟨rfl, hZ, hh⟩ := hP
  have hx := Bd.exec
  have hby := Bd.bytes
  have hlk : meth.locks = false := BodyLoose.notSynchronized Bd
  have hml : c.maxLocals = 4 := hml0
  have hown : s.vm.findClass "com/example/ruleweave/ruleweave/XmlDocumentsTrimPinLaw" = some m.cls := findClass_of_methodNamed Bd.named
  have hnm := (name_of_methodNamed Bd.named Bd.method).1
  have X0 : Stand p l e ({ frames := 0, cells := 0, slots := 0, locals := 0 } : Room) s m #[(.int x_)] below meth c s₁ [] 0 0 := Stand.of_body Bd
  have e0 : s₁.heap = h0 := by rw [← hh, Bd.state]; rfl
  have N0 := Fr.nil n0
  show oG p e below (own_K s (Q_draw Z x_ h0 n0) ({ frames := 0, cells := 0, slots := 0, locals := 0 } : Room).cells ({ frames := 0, cells := 0, slots := 0, locals := 0 } : Room).slots) (s₁.setTop (entryFrame m #[(.int x_)] 4))
  rw [(by first | (simp [entryFrame, mkF, argsToLocals, Value.category]; done) | rfl : entryFrame m #[(.int x_)] 4 = mkF m 0 #[.val (.int x_), .unset, .unset, .unset] [])]
  show oG p e below _ (s₁.setTop (mkF m 0 #[.val (.int x_), .unset, .unset, .unset] []))
  refine og (fun _ hr => XS.iloadN X0.here hx rfl (hb hby dc1_0) rfl (XS.bipush X0.here hx rfl (hb hby dc1_1) (XS.iand X0.here hx rfl (hb hby dc1_3) rfl (XS.istoreN X0.here hx rfl (hb hby dc1_4) rfl (l' := #[.val (.int x_), .val (.int (x_ &&& (7 : Int32))), .unset, .unset]) rfl (XS.iloadN X0.here hx rfl (hb hby dc1_5) rfl (XS.iconst X0.here hx rfl (hb hby dc1_6) (XS.iushr X0.here hx rfl (hb hby dc1_7) rfl (XS.istoreN X0.here hx rfl (hb hby dc1_8) rfl (l' := #[.val (.int x_), .val (.int (x_ &&& (7 : Int32))), .val (.int ((x_.toUInt32 >>> ((3 : Int32) &&& 31).toUInt32).toInt32)), .unset]) rfl (XS.iloadN X0.here hx rfl (hb hby dc1_9) rfl hr))))))))) ?_
  show oG p e below _ (s₁.setTop (mkF m 10 #[.val (.int x_), .val (.int (x_ &&& (7 : Int32))), .val (.int ((x_.toUInt32 >>> ((3 : Int32) &&& 31).toUInt32).toInt32)), .unset] [(.int (x_ &&& (7 : Int32)))]))
  rcases Classical.em ((x_ &&& (7 : Int32)) = (0 : Int32)) with c1 | c1
  · skip
    refine og (fun _ hr => XS.ifNo X0.here hx rfl (hb hby dc1_10) rfl ((if0 _ _).trans (teq c1).2) hr) ?_
    show oG p e below _ (s₁.setTop (mkF m 13 #[.val (.int x_), .val (.int (x_ &&& (7 : Int32))), .val (.int ((x_.toUInt32 >>> ((3 : Int32) &&& 31).toUInt32).toInt32)), .unset] []))
    refine og (fun _ hr => XS.bipush X0.here hx rfl (hb hby dc1_13) hr) ?_
    show oG p e below _ (s₁.setTop (mkF m 15 #[.val (.int x_), .val (.int (x_ &&& (7 : Int32))), .val (.int ((x_.toUInt32 >>> ((3 : Int32) &&& 31).toUInt32).toInt32)), .unset] [(.int (32 : Int32))]))
    exact own_retN X0 hx hlk Bd.returns (t := .char) (by simp) (hb hby dc1_15) (by decide) (by decide) ⟨(congrArg (fun q => some (Value.int q)) (show (32 : Int32) = own_draw x_ from Eq.symm (by unfold own_draw; rw [if_pos c1]))), N0, e0⟩
  refine og (fun _ hr => XS.ifYes X0.here hx rfl (pc0 := 10) (pc' := 16) rfl (hb hby dc1_10) rfl ((if0 _ _).trans (feq c1).2) (by decide) (by decide) hr) ?_
  show oG p e below _ (s₁.setTop (mkF m 16 #[.val (.int x_), .val (.int (x_ &&& (7 : Int32))), .val (.int ((x_.toUInt32 >>> ((3 : Int32) &&& 31).toUInt32).toInt32)), .unset] []))
  refine og (fun _ hr => XS.iloadN X0.here hx rfl (hb hby dc1_16) rfl (XS.iconst X0.here hx rfl (hb hby dc1_17) hr)) ?_
  show oG p e below _ (s₁.setTop (mkF m 18 #[.val (.int x_), .val (.int (x_ &&& (7 : Int32))), .val (.int ((x_.toUInt32 >>> ((3 : Int32) &&& 31).toUInt32).toInt32)), .unset] [(.int (1 : Int32)), (.int (x_ &&& (7 : Int32)))]))
  rcases Classical.em ((x_ &&& (7 : Int32)) = (1 : Int32)) with c2 | c2
  · skip
    refine og (fun _ hr => XS.icmpNo X0.here hx rfl (hb hby dc1_18) rfl (teq c2).2 hr) ?_
    show oG p e below _ (s₁.setTop (mkF m 21 #[.val (.int x_), .val (.int (x_ &&& (7 : Int32))), .val (.int ((x_.toUInt32 >>> ((3 : Int32) &&& 31).toUInt32).toInt32)), .unset] []))
    refine og (fun _ hr => XS.bipush X0.here hx rfl (hb hby dc1_21) hr) ?_
    show oG p e below _ (s₁.setTop (mkF m 23 #[.val (.int x_), .val (.int (x_ &&& (7 : Int32))), .val (.int ((x_.toUInt32 >>> ((3 : Int32) &&& 31).toUInt32).toInt32)), .unset] [(.int (9 : Int32))]))
    exact own_retN X0 hx hlk Bd.returns (t := .char) (by simp) (hb hby dc1_23) (by decide) (by decide) ⟨(congrArg (fun q => some (Value.int q)) (show (9 : Int32) = own_draw x_ from Eq.symm (by unfold own_draw; rw [if_neg c1, if_pos c2]))), N0, e0⟩
  refine og (fun _ hr => XS.icmpYes X0.here hx rfl (pc0 := 18) (pc' := 24) rfl (hb hby dc1_18) rfl (feq c2).2 (by decide) (by decide) hr) ?_
  show oG p e below _ (s₁.setTop (mkF m 24 #[.val (.int x_), .val (.int (x_ &&& (7 : Int32))), .val (.int ((x_.toUInt32 >>> ((3 : Int32) &&& 31).toUInt32).toInt32)), .unset] []))
  refine og (fun _ hr => XS.iloadN X0.here hx rfl (hb hby dc1_24) rfl (XS.iconst X0.here hx rfl (hb hby dc1_25) hr)) ?_
  show oG p e below _ (s₁.setTop (mkF m 26 #[.val (.int x_), .val (.int (x_ &&& (7 : Int32))), .val (.int ((x_.toUInt32 >>> ((3 : Int32) &&& 31).toUInt32).toInt32)), .unset] [(.int (2 : Int32)), (.int (x_ &&& (7 : Int32)))]))
  rcases Classical.em ((x_ &&& (7 : Int32)) = (2 : Int32)) with c3 | c3
  · skip
    refine og (fun _ hr => XS.icmpNo X0.here hx rfl (hb hby dc1_26) rfl (teq c3).2 hr) ?_
    show oG p e below _ (s₁.setTop (mkF m 29 #[.val (.int x_), .val (.int (x_ &&& (7 : Int32))), .val (.int ((x_.toUInt32 >>> ((3 : Int32) &&& 31).toUInt32).toInt32)), .unset] []))
    refine og (fun _ hr => XS.bipush X0.here hx rfl (hb hby dc1_29) hr) ?_
    show oG p e below _ (s₁.setTop (mkF m 31 #[.val (.int x_), .val (.int (x_ &&& (7 : Int32))), .val (.int ((x_.toUInt32 >>> ((3 : Int32) &&& 31).toUInt32).toInt32)), .unset] [(.int (13 : Int32))]))
    exact own_retN X0 hx hlk Bd.returns (t := .char) (by simp) (hb hby dc1_31) (by decide) (by decide) ⟨(congrArg (fun q => some (Value.int q)) (show (13 : Int32) = own_draw x_ from Eq.symm (by unfold own_draw; rw [if_neg c1, if_neg c2, if_pos c3]))), N0, e0⟩
  refine og (fun _ hr => XS.icmpYes X0.here hx rfl (pc0 := 26) (pc' := 32) rfl (hb hby dc1_26) rfl (feq c3).2 (by decide) (by decide) hr) ?_
  show oG p e below _ (s₁.setTop (mkF m 32 #[.val (.int x_), .val (.int (x_ &&& (7 : Int32))), .val (.int ((x_.toUInt32 >>> ((3 : Int32) &&& 31).toUInt32).toInt32)), .unset] []))
  refine og (fun _ hr => XS.iloadN X0.here hx rfl (hb hby dc1_32) rfl (XS.iconst X0.here hx rfl (hb hby dc1_33) hr)) ?_
  show oG p e below _ (s₁.setTop (mkF m 34 #[.val (.int x_), .val (.int (x_ &&& (7 : Int32))), .val (.int ((x_.toUInt32 >>> ((3 : Int32) &&& 31).toUInt32).toInt32)), .unset] [(.int (3 : Int32)), (.int (x_ &&& (7 : Int32)))]))
  rcases Classical.em ((x_ &&& (7 : Int32)) = (3 : Int32)) with c4 | c4
  · skip
    refine og (fun _ hr => XS.icmpNo X0.here hx rfl (hb hby dc1_34) rfl (teq c4).2 hr) ?_
    show oG p e below _ (s₁.setTop (mkF m 37 #[.val (.int x_), .val (.int (x_ &&& (7 : Int32))), .val (.int ((x_.toUInt32 >>> ((3 : Int32) &&& 31).toUInt32).toInt32)), .unset] []))
    refine og (fun _ hr => XS.bipush X0.here hx rfl (hb hby dc1_37) hr) ?_
    show oG p e below _ (s₁.setTop (mkF m 39 #[.val (.int x_), .val (.int (x_ &&& (7 : Int32))), .val (.int ((x_.toUInt32 >>> ((3 : Int32) &&& 31).toUInt32).toInt32)), .unset] [(.int (10 : Int32))]))
    exact own_retN X0 hx hlk Bd.returns (t := .char) (by simp) (hb hby dc1_39) (by decide) (by decide) ⟨(congrArg (fun q => some (Value.int q)) (show (10 : Int32) = own_draw x_ from Eq.symm (by unfold own_draw; rw [if_neg c1, if_neg c2, if_neg c3, if_pos c4]))), N0, e0⟩
  refine og (fun _ hr => XS.icmpYes X0.here hx rfl (pc0 := 34) (pc' := 40) rfl (hb hby dc1_34) rfl (feq c4).2 (by decide) (by decide) hr) ?_
  show oG p e below _ (s₁.setTop (mkF m 40 #[.val (.int x_), .val (.int (x_ &&& (7 : Int32))), .val (.int ((x_.toUInt32 >>> ((3 : Int32) &&& 31).toUInt32).toInt32)), .unset] []))
  refine og (fun _ hr => XS.iloadN X0.here hx rfl (hb hby dc1_40) rfl (XS.iconst X0.here hx rfl (hb hby dc1_41) hr)) ?_
  show oG p e below _ (s₁.setTop (mkF m 42 #[.val (.int x_), .val (.int (x_ &&& (7 : Int32))), .val (.int ((x_.toUInt32 >>> ((3 : Int32) &&& 31).toUInt32).toInt32)), .unset] [(.int (4 : Int32)), (.int (x_ &&& (7 : Int32)))]))
  rcases Classical.em ((x_ &&& (7 : Int32)) = (4 : Int32)) with c5 | c5
  · skip
    refine og (fun _ hr => XS.icmpNo X0.here hx rfl (hb hby dc1_42) rfl (teq c5).2 hr) ?_
    show oG p e below _ (s₁.setTop (mkF m 45 #[.val (.int x_), .val (.int (x_ &&& (7 : Int32))), .val (.int ((x_.toUInt32 >>> ((3 : Int32) &&& 31).toUInt32).toInt32)), .unset] []))
    refine og (fun _ hr => XS.iloadN X0.here hx rfl (hb hby dc1_45) rfl (XS.iconst X0.here hx rfl (hb hby dc1_46) (XS.iand X0.here hx rfl (hb hby dc1_47) rfl (XS.istoreN X0.here hx rfl (hb hby dc1_48) rfl (l' := #[.val (.int x_), .val (.int (x_ &&& (7 : Int32))), .val (.int ((x_.toUInt32 >>> ((3 : Int32) &&& 31).toUInt32).toInt32)), .val (.int (((x_.toUInt32 >>> ((3 : Int32) &&& 31).toUInt32).toInt32) &&& (3 : Int32)))]) rfl (XS.iloadN X0.here hx rfl (hb hby dc1_49) rfl hr))))) ?_
    show oG p e below _ (s₁.setTop (mkF m 50 #[.val (.int x_), .val (.int (x_ &&& (7 : Int32))), .val (.int ((x_.toUInt32 >>> ((3 : Int32) &&& 31).toUInt32).toInt32)), .val (.int (((x_.toUInt32 >>> ((3 : Int32) &&& 31).toUInt32).toInt32) &&& (3 : Int32)))] [(.int (((x_.toUInt32 >>> ((3 : Int32) &&& 31).toUInt32).toInt32) &&& (3 : Int32)))]))
    rcases Classical.em ((((x_.toUInt32 >>> ((3 : Int32) &&& 31).toUInt32).toInt32) &&& (3 : Int32)) = (0 : Int32)) with c6 | c6
    · skip
      refine og (fun _ hr => XS.ifNo X0.here hx rfl (hb hby dc1_50) rfl ((if0 _ _).trans (teq c6).2) hr) ?_
      show oG p e below _ (s₁.setTop (mkF m 53 #[.val (.int x_), .val (.int (x_ &&& (7 : Int32))), .val (.int ((x_.toUInt32 >>> ((3 : Int32) &&& 31).toUInt32).toInt32)), .val (.int (((x_.toUInt32 >>> ((3 : Int32) &&& 31).toUInt32).toInt32) &&& (3 : Int32)))] []))
      refine og (fun _ hr => XS.bipush X0.here hx rfl (hb hby dc1_53) hr) ?_
      show oG p e below _ (s₁.setTop (mkF m 55 #[.val (.int x_), .val (.int (x_ &&& (7 : Int32))), .val (.int ((x_.toUInt32 >>> ((3 : Int32) &&& 31).toUInt32).toInt32)), .val (.int (((x_.toUInt32 >>> ((3 : Int32) &&& 31).toUInt32).toInt32) &&& (3 : Int32)))] [(.int (11 : Int32))]))
      exact own_retN X0 hx hlk Bd.returns (t := .char) (by simp) (hb hby dc1_55) (by decide) (by decide) ⟨(congrArg (fun q => some (Value.int q)) (show (11 : Int32) = own_draw x_ from Eq.symm (by unfold own_draw; rw [if_neg c1, if_neg c2, if_neg c3, if_neg c4, if_pos c5, if_pos c6]))), N0, e0⟩
    refine og (fun _ hr => XS.ifYes X0.here hx rfl (pc0 := 50) (pc' := 56) rfl (hb hby dc1_50) rfl ((if0 _ _).trans (feq c6).2) (by decide) (by decide) hr) ?_
    show oG p e below _ (s₁.setTop (mkF m 56 #[.val (.int x_), .val (.int (x_ &&& (7 : Int32))), .val (.int ((x_.toUInt32 >>> ((3 : Int32) &&& 31).toUInt32).toInt32)), .val (.int (((x_.toUInt32 >>> ((3 : Int32) &&& 31).toUInt32).toInt32) &&& (3 : Int32)))] []))
    refine og (fun _ hr => XS.iloadN X0.here hx rfl (hb hby dc1_56) rfl (XS.iconst X0.here hx rfl (hb hby dc1_57) hr)) ?_
    show oG p e below _ (s₁.setTop (mkF m 58 #[.val (.int x_), .val (.int (x_ &&& (7 : Int32))), .val (.int ((x_.toUInt32 >>> ((3 : Int32) &&& 31).toUInt32).toInt32)), .val (.int (((x_.toUInt32 >>> ((3 : Int32) &&& 31).toUInt32).toInt32) &&& (3 : Int32)))] [(.int (1 : Int32)), (.int (((x_.toUInt32 >>> ((3 : Int32) &&& 31).toUInt32).toInt32) &&& (3 : Int32)))]))
    rcases Classical.em ((((x_.toUInt32 >>> ((3 : Int32) &&& 31).toUInt32).toInt32) &&& (3 : Int32)) = (1 : Int32)) with c7 | c7
    · skip
      refine og (fun _ hr => XS.icmpNo X0.here hx rfl (hb hby dc1_58) rfl (teq c7).2 hr) ?_
      show oG p e below _ (s₁.setTop (mkF m 61 #[.val (.int x_), .val (.int (x_ &&& (7 : Int32))), .val (.int ((x_.toUInt32 >>> ((3 : Int32) &&& 31).toUInt32).toInt32)), .val (.int (((x_.toUInt32 >>> ((3 : Int32) &&& 31).toUInt32).toInt32) &&& (3 : Int32)))] []))
      refine og (fun _ hr => XS.bipush X0.here hx rfl (hb hby dc1_61) hr) ?_
      show oG p e below _ (s₁.setTop (mkF m 63 #[.val (.int x_), .val (.int (x_ &&& (7 : Int32))), .val (.int ((x_.toUInt32 >>> ((3 : Int32) &&& 31).toUInt32).toInt32)), .val (.int (((x_.toUInt32 >>> ((3 : Int32) &&& 31).toUInt32).toInt32) &&& (3 : Int32)))] [(.int (12 : Int32))]))
      exact own_retN X0 hx hlk Bd.returns (t := .char) (by simp) (hb hby dc1_63) (by decide) (by decide) ⟨(congrArg (fun q => some (Value.int q)) (show (12 : Int32) = own_draw x_ from Eq.symm (by unfold own_draw; rw [if_neg c1, if_neg c2, if_neg c3, if_neg c4, if_pos c5, if_neg c6, if_pos c7]))), N0, e0⟩
    refine og (fun _ hr => XS.icmpYes X0.here hx rfl (pc0 := 58) (pc' := 64) rfl (hb hby dc1_58) rfl (feq c7).2 (by decide) (by decide) hr) ?_
    show oG p e below _ (s₁.setTop (mkF m 64 #[.val (.int x_), .val (.int (x_ &&& (7 : Int32))), .val (.int ((x_.toUInt32 >>> ((3 : Int32) &&& 31).toUInt32).toInt32)), .val (.int (((x_.toUInt32 >>> ((3 : Int32) &&& 31).toUInt32).toInt32) &&& (3 : Int32)))] []))
    refine og (fun _ hr => XS.iloadN X0.here hx rfl (hb hby dc1_64) rfl (XS.iconst X0.here hx rfl (hb hby dc1_65) hr)) ?_
    show oG p e below _ (s₁.setTop (mkF m 66 #[.val (.int x_), .val (.int (x_ &&& (7 : Int32))), .val (.int ((x_.toUInt32 >>> ((3 : Int32) &&& 31).toUInt32).toInt32)), .val (.int (((x_.toUInt32 >>> ((3 : Int32) &&& 31).toUInt32).toInt32) &&& (3 : Int32)))] [(.int (2 : Int32)), (.int (((x_.toUInt32 >>> ((3 : Int32) &&& 31).toUInt32).toInt32) &&& (3 : Int32)))]))
    rcases Classical.em ((((x_.toUInt32 >>> ((3 : Int32) &&& 31).toUInt32).toInt32) &&& (3 : Int32)) = (2 : Int32)) with c8 | c8
    · skip
      refine og (fun _ hr => XS.icmpNo X0.here hx rfl (hb hby dc1_66) rfl (teq c8).2 hr) ?_
      show oG p e below _ (s₁.setTop (mkF m 69 #[.val (.int x_), .val (.int (x_ &&& (7 : Int32))), .val (.int ((x_.toUInt32 >>> ((3 : Int32) &&& 31).toUInt32).toInt32)), .val (.int (((x_.toUInt32 >>> ((3 : Int32) &&& 31).toUInt32).toInt32) &&& (3 : Int32)))] []))
      refine og (fun _ hr => XS.sipush X0.here hx rfl (hb hby dc1_69) hr) ?_
      show oG p e below _ (s₁.setTop (mkF m 72 #[.val (.int x_), .val (.int (x_ &&& (7 : Int32))), .val (.int ((x_.toUInt32 >>> ((3 : Int32) &&& 31).toUInt32).toInt32)), .val (.int (((x_.toUInt32 >>> ((3 : Int32) &&& 31).toUInt32).toInt32) &&& (3 : Int32)))] [(.int (160 : Int32))]))
      exact own_retN X0 hx hlk Bd.returns (t := .char) (by simp) (hb hby dc1_72) (by decide) (by decide) ⟨(congrArg (fun q => some (Value.int q)) (show (160 : Int32) = own_draw x_ from Eq.symm (by unfold own_draw; rw [if_neg c1, if_neg c2, if_neg c3, if_neg c4, if_pos c5, if_neg c6, if_neg c7, if_pos c8]))), N0, e0⟩
    refine og (fun _ hr => XS.icmpYes X0.here hx rfl (pc0 := 66) (pc' := 73) rfl (hb hby dc1_66) rfl (feq c8).2 (by decide) (by decide) hr) ?_
    show oG p e below _ (s₁.setTop (mkF m 73 #[.val (.int x_), .val (.int (x_ &&& (7 : Int32))), .val (.int ((x_.toUInt32 >>> ((3 : Int32) &&& 31).toUInt32).toInt32)), .val (.int (((x_.toUInt32 >>> ((3 : Int32) &&& 31).toUInt32).toInt32) &&& (3 : Int32)))] []))
    refine og (fun _ hr => XS.sipush X0.here hx rfl (hb hby dc1_73) hr) ?_
    show oG p e below _ (s₁.setTop (mkF m 76 #[.val (.int x_), .val (.int (x_ &&& (7 : Int32))), .val (.int ((x_.toUInt32 >>> ((3 : Int32) &&& 31).toUInt32).toInt32)), .val (.int (((x_.toUInt32 >>> ((3 : Int32) &&& 31).toUInt32).toInt32) &&& (3 : Int32)))] [(.int (8232 : Int32))]))
    exact own_retN X0 hx hlk Bd.returns (t := .char) (by simp) (hb hby dc1_76) (by decide) (by decide) ⟨(congrArg (fun q => some (Value.int q)) (show (8232 : Int32) = own_draw x_ from Eq.symm (by unfold own_draw; rw [if_neg c1, if_neg c2, if_neg c3, if_neg c4, if_pos c5, if_neg c6, if_neg c7, if_neg c8]))), N0, e0⟩
  refine og (fun _ hr => XS.icmpYes X0.here hx rfl (pc0 := 42) (pc' := 77) rfl (hb hby dc1_42) rfl (feq c5).2 (by decide) (by decide) hr) ?_
  show oG p e below _ (s₁.setTop (mkF m 77 #[.val (.int x_), .val (.int (x_ &&& (7 : Int32))), .val (.int ((x_.toUInt32 >>> ((3 : Int32) &&& 31).toUInt32).toInt32)), .unset] []))
  refine og (fun _ hr => XS.iloadN X0.here hx rfl (hb hby dc1_77) rfl hr) ?_
  show oG p e below _ (s₁.setTop (mkF m 78 #[.val (.int x_), .val (.int (x_ &&& (7 : Int32))), .val (.int ((x_.toUInt32 >>> ((3 : Int32) &&& 31).toUInt32).toInt32)), .unset] [(.int ((x_.toUInt32 >>> ((3 : Int32) &&& 31).toUInt32).toInt32))]))
  refine og (X0.ldcInt hx hown (mvT hZ (hw _ (own_m 63 rfl))) rfl (hb hby dc1_78)) ?_
  show oG p e below _ (s₁.setTop (mkF m 80 #[.val (.int x_), .val (.int (x_ &&& (7 : Int32))), .val (.int ((x_.toUInt32 >>> ((3 : Int32) &&& 31).toUInt32).toInt32)), .unset] [(.int (65535 : Int32)), (.int ((x_.toUInt32 >>> ((3 : Int32) &&& 31).toUInt32).toInt32))]))
  refine og (fun _ hr => XS.iand X0.here hx rfl (hb hby dc1_80) rfl (XS.i2c X0.here hx rfl (hb hby dc1_81) rfl hr)) ?_
  show oG p e below _ (s₁.setTop (mkF m 82 #[.val (.int x_), .val (.int (x_ &&& (7 : Int32))), .val (.int ((x_.toUInt32 >>> ((3 : Int32) &&& 31).toUInt32).toInt32)), .unset] [(.int ((((x_.toUInt32 >>> ((3 : Int32) &&& 31).toUInt32).toInt32) &&& (65535 : Int32)).toUInt32.toUInt16.toUInt32.toInt32))]))
  have c9 : (nar .char ((((x_.toUInt32 >>> ((3 : Int32) &&& 31).toUInt32).toInt32) &&& (65535 : Int32)).toUInt32.toUInt16.toUInt32.toInt32)) = ((((x_.toUInt32 >>> ((3 : Int32) &&& 31).toUInt32).toInt32) &&& (65535 : Int32)).toUInt32.toUInt16.toUInt32.toInt32) := by
    have q0 := rng32 x_
    have q1 := c_mask x_ (7 : Int32) 3 (by decide) (by decide)
    have q2 := c_iushr x_ (3 : Int32) 3 (by decide) (by decide)
    have q3 := c_mask ((x_.toUInt32 >>> ((3 : Int32) &&& 31).toUInt32).toInt32) (65535 : Int32) 16 (by decide) (by decide)
    have q4 := c_i2c (((x_.toUInt32 >>> ((3 : Int32) &&& 31).toUInt32).toInt32) &&& (65535 : Int32))
    have q5 := (show ((nar .char ((((x_.toUInt32 >>> ((3 : Int32) &&& 31).toUInt32).toInt32) &&& (65535 : Int32)).toUInt32.toUInt16.toUInt32.toInt32)).toInt - ((((x_.toUInt32 >>> ((3 : Int32) &&& 31).toUInt32).toInt32) &&& (65535 : Int32)).toUInt32.toUInt16.toUInt32.toInt32).toInt) % 65536 = 0 ∧ 0 ≤ (nar .char ((((x_.toUInt32 >>> ((3 : Int32) &&& 31).toUInt32).toInt32) &&& (65535 : Int32)).toUInt32.toUInt16.toUInt32.toInt32)).toInt ∧ (nar .char ((((x_.toUInt32 >>> ((3 : Int32) &&& 31).toUInt32).toInt32) &&& (65535 : Int32)).toUInt32.toUInt16.toUInt32.toInt32)).toInt < 65536 from c_i2c ((((x_.toUInt32 >>> ((3 : Int32) &&& 31).toUInt32).toInt32) &&& (65535 : Int32)).toUInt32.toUInt16.toUInt32.toInt32))
    have p0 := c1
    have p1 := c2
    have p2 := c3
    have p3 := c4
    have p4 := c5
    simp only [true_implies, Int32.lt_iff_toInt_lt, ← Int32.toInt_inj, Int32.reduceToInt, Int64.lt_iff_toInt_lt, ← Int64.toInt_inj, Int64.reduceToInt] at q0 q1 q2 q3 q4 q5 p0 p1 p2 p3 p4 ⊢
    omega
  exact own_retN X0 hx hlk Bd.returns (t := .char) (by simp) (hb hby dc1_82) (by decide) (by decide) ⟨(congrArg (fun q => some (Value.int q)) (c9.trans (show ((((x_.toUInt32 >>> ((3 : Int32) &&& 31).toUInt32).toInt32) &&& (65535 : Int32)).toUInt32.toUInt16.toUInt32.toInt32) = own_draw x_ from Eq.symm (by unfold own_draw; rw [if_neg c1, if_neg c2, if_neg c3, if_neg c4, if_neg c5])))), N0, e0⟩
theorem own_draw_v (x_ : Int32) : 0 ≤ (own_draw x_).toInt ∧ (own_draw x_).toInt < 65536 := by
  unfold own_draw
  repeat' split
  all_goals first | decide | exact (c_i2c _).2
theorem own_whs (c : Int32) : own_wh c = own_xsp c := rfl
theorem own_xsp_big {c : Int32} (h : (255 : Int32) < c) : own_xsp c = 0 := by
  have n32 : ¬ c = 32 := fun q => by rw [q] at h; exact absurd h (by decide)
  have n9 : ¬ c = 9 := fun q => by rw [q] at h; exact absurd h (by decide)
  have n13 : ¬ c = 13 := fun q => by rw [q] at h; exact absurd h (by decide)
  have n10 : ¬ c = 10 := fun q => by rw [q] at h; exact absurd h (by decide)
  simp [own_xsp, n32, n9, n13, n10]
theorem own_trw {cs : List Int32} {i j : Nat} (hp : ∀ k, k < i → ¬ own_xsp (cs.getD k 0) = 0) (ht : ∀ k, j ≤ k → k < cs.length → ¬ own_xsp (cs.getD k 0) = 0) : (∃ c ∈ cs, 255 < c) → i < j := fun ⟨c, hc, h⟩ => by
  obtain ⟨k, hk, rfl⟩ := List.getElem_of_mem hc
  have e : cs.getD k 0 = cs[k] := by rw [List.getD_eq_getElem?_getD, List.getElem?_eq_getElem hk]; rfl
  have h0 : own_xsp (cs.getD k 0) = 0 := own_xsp_big (by rw [e]; exact h)
  have h1 : ¬ k < i := fun q => hp k q h0
  have h2 : ¬ j ≤ k := fun q => ht k q hk h0
  omega
theorem own_dec {a : Nat} {x : Int32} (hx : Int32.ofNat a = x) (h : 0 < a) (h5 : a ≤ 5) : Int32.ofNat (a - 1) = x - (1 : Int32) ∧ Int32.ofNat (a - 1) = x + (-1 : Int32) := by
  subst hx
  have q : a = 1 ∨ a = 2 ∨ a = 3 ∨ a = 4 ∨ a = 5 := by omega
  rcases q with rfl | rfl | rfl | rfl | rfl <;> decide
def own_tr (cs : List Int32) (i j : Nat) : Prop := i ≤ j ∧ j ≤ cs.length ∧ (∀ k, k < i → ¬ own_xsp (cs.getD k 0) = 0) ∧ (∀ k, j ≤ k → k < cs.length → ¬ own_xsp (cs.getD k 0) = 0) ∧ (i < cs.length → own_xsp (cs.getD i 0) = 0) ∧ (i < j → own_xsp (cs.getD (j - 1) 0) = 0)
theorem dc6_0 : decode prog_64_method_21_code 0 = .ok (.iconst 0, 1) := by decide +kernel
theorem dc6_1 : decode prog_64_method_21_code 1 = .ok (.istore_n 1, 1) := by decide +kernel
theorem dc6_2 : decode prog_64_method_21_code 2 = .ok (.aload_n 0, 1) := by decide +kernel
theorem dc6_3 : decode prog_64_method_21_code 3 = .ok (.invokevirtual 297, 3) := by decide +kernel
theorem dc6_6 : decode prog_64_method_21_code 6 = .ok (.istore_n 2, 1) := by decide +kernel
theorem dc6_29 : decode prog_64_method_21_code 29 = .ok (.iload_n 2, 1) := by decide +kernel
theorem dc6_30 : decode prog_64_method_21_code 30 = .ok (.iload_n 1, 1) := by decide +kernel
theorem dc6_31 : decode prog_64_method_21_code 31 = .ok (.if_icmp .le 22, 3) := by decide +kernel
theorem dc6_53 : decode prog_64_method_21_code 53 = .ok (.aload_n 0, 1) := by decide +kernel
theorem dc6_54 : decode prog_64_method_21_code 54 = .ok (.iload_n 1, 1) := by decide +kernel
theorem dc6_55 : decode prog_64_method_21_code 55 = .ok (.iload_n 2, 1) := by decide +kernel
theorem dc6_56 : decode prog_64_method_21_code 56 = .ok (.invokevirtual 308, 3) := by decide +kernel
theorem own_pd25 : parseMethodDescriptor "(II)Ljava/lang/String;" = some ⟨[.int, .int], some (.object "java/lang/String")⟩ := by decide +kernel
theorem dc6_59 : decode prog_64_method_21_code 59 = .ok (.areturn, 1) := by decide +kernel
theorem dc6_34 : decode prog_64_method_21_code 34 = .ok (.aload_n 0, 1) := by decide +kernel
theorem dc6_35 : decode prog_64_method_21_code 35 = .ok (.iload_n 2, 1) := by decide +kernel
theorem dc6_36 : decode prog_64_method_21_code 36 = .ok (.iconst 1, 1) := by decide +kernel
theorem dc6_37 : decode prog_64_method_21_code 37 = .ok (.isub, 1) := by decide +kernel
theorem dc6_38 : decode prog_64_method_21_code 38 = .ok (.invokevirtual 300, 3) := by decide +kernel
theorem dc6_41 : decode prog_64_method_21_code 41 = .ok (.invokestatic 304, 3) := by decide +kernel
theorem own_pd26 : parseMethodDescriptor "(C)Z" = some ⟨[.char], some .boolean⟩ := by decide +kernel
theorem dc6_44 : decode prog_64_method_21_code 44 = .ok (.ifCond .eq 9, 3) := by decide +kernel
theorem dc6_47 : decode prog_64_method_21_code 47 = .ok (.iinc 2 (-1), 3) := by decide +kernel
theorem dc6_50 : decode prog_64_method_21_code 50 = .ok (.goto (-21), 3) := by decide +kernel
theorem dc6_7 : decode prog_64_method_21_code 7 = .ok (.iload_n 1, 1) := by decide +kernel
theorem dc6_8 : decode prog_64_method_21_code 8 = .ok (.iload_n 2, 1) := by decide +kernel
theorem dc6_9 : decode prog_64_method_21_code 9 = .ok (.if_icmp .ge 20, 3) := by decide +kernel
theorem dc6_12 : decode prog_64_method_21_code 12 = .ok (.aload_n 0, 1) := by decide +kernel
theorem dc6_13 : decode prog_64_method_21_code 13 = .ok (.iload_n 1, 1) := by decide +kernel
theorem dc6_14 : decode prog_64_method_21_code 14 = .ok (.invokevirtual 300, 3) := by decide +kernel
theorem dc6_17 : decode prog_64_method_21_code 17 = .ok (.invokestatic 304, 3) := by decide +kernel
theorem dc6_20 : decode prog_64_method_21_code 20 = .ok (.ifCond .eq 9, 3) := by decide +kernel
theorem dc6_23 : decode prog_64_method_21_code 23 = .ok (.iinc 1 1, 3) := by decide +kernel
theorem dc6_26 : decode prog_64_method_21_code 26 = .ok (.goto (-19), 3) := by decide +kernel
def Q_trim (Z : State) (cs_ : List Int32) (h0 : Heap) (n0 : Nat) (v : Option Value) (h : Heap) (L : List Loc) : Prop := (∃ (a b : Addr) (k : ClassId) (cd N : Int32) (vs : List Value) (iN jN : Nat), v = some (.ref a) ∧ Fr n0 L ∧ Keep h0 h [] ∧ Exa Z h a "java/lang/String" ∧ Fld Z h a "java/lang/String" "coder" "B" (.int cd) ∧ Fld Z h a "java/lang/String" "value" "[B" (.ref b) ∧ Arv Z h b k .byte N vs (.int (0 : Int32)) ∧ StrChars.Road.CodA (own_sub cs_ iN (jN - iN)) cd N vs ∧ own_tr cs_ iN jN)
set_option maxRecDepth 65536 in
set_option maxHeartbeats 40000000 in
theorem rm_trim (l : Launch) (Z : State) (a0 : Array Value) (hw : ∀ d ∈ tables_1, d.before a0 Z = true) (ws : List Jvm.Cond) (s_ : Addr) (t_ : Addr) (kt_ : ClassId) (nn_ : Int32) (vs_ : List Value) (cd_ : Int32) (cs_ : List Int32) (ln_ : Int32) (i_COMPACT_STRINGS : Int32) (v_SIOOBE_FORMATTER : Value) (h0 : Heap) (n0 : Nat) (Z0 : n0 ≤ h0.size) (Es_ : Exa Z h0 s_ "java/lang/String") (Cs_ : Fld Z h0 s_ "java/lang/String" "coder" "B" (.int cd_)) (Vs_ : Fld Z h0 s_ "java/lang/String" "value" "[B" (.ref t_)) (Kt_ : Arv Z h0 t_ kt_ .byte nn_ vs_ (.int (0 : Int32))) (hc_ : StrChars.Road.CodA cs_ cd_ nn_ vs_) (hbc_ : ∀ c ∈ cs_, ¬ c < 0 ∧ ¬ (65535 : Int32) < c) (hl5_ : cs_.length ≤ 5) (hln_ : Int32.ofNat cs_.length = ln_) (S_COMPACT_STRINGS : Sta Z h0 "java/lang/String" "COMPACT_STRINGS" "Z" (.int i_COMPACT_STRINGS)) (hs_COMPACT_STRINGS : ¬ (i_COMPACT_STRINGS = (0 : Int32))) (S__assertionsDisabled : Sta Z h0 "java/lang/StringUTF16" "$assertionsDisabled" "Z" (.int (1 : Int32))) (S_HI_BYTE_SHIFT : Sta Z h0 "java/lang/StringUTF16" "HI_BYTE_SHIFT" "I" (.int (0 : Int32))) (S_LO_BYTE_SHIFT : Sta Z h0 "java/lang/StringUTF16" "LO_BYTE_SHIFT" "I" (.int (8 : Int32))) (S_SIOOBE_FORMATTER : Sta Z h0 "jdk/internal/util/Preconditions" "SIOOBE_FORMATTER" "Ljava/util/function/BiFunction;" v_SIOOBE_FORMATTER) (hv_SIOOBE_FORMATTER : v_SIOOBE_FORMATTER.isRef = true) :
    MetFree l (⟨"com/example/ruleweave/ruleweave/XmlDocuments", "trim", "(Ljava/lang/String;)Ljava/lang/String;"⟩ : MethodName) (head1 (Jvm.Cond.code (⟨"com/example/ruleweave/ruleweave/XmlDocuments", "trim", "(Ljava/lang/String;)Ljava/lang/String;"⟩ : MethodName) prog_64_method_21_code 3 (some (.object "java/lang/String")) :: ws) ({ frames := 7, cells := 3, slots := 19, locals := 119 } : Room)) (fun aA U => aA = #[(.ref s_)] ∧ Z.Warmed39 U.vm ∧ U.heap = h0 ∧ CHv Z own_EL U.vm h0) (fun _ _ _ _ _ => True) (fun _ U o U' => ∃ v L, o = .returned v ∧ Q_trim Z cs_ h0 n0 v U'.heap L ∧ CHr Z own_EL U.vm U.heap U'.vm U'.heap ∧ ReturnedEndW U o U' L ({ frames := 7, cells := 3, slots := 19, locals := 119 } : Room).cells ({ frames := 7, cells := 3, slots := 19, locals := 119 } : Room).slots) := by
  refine MetFree.of_bodySF (plainFor_of_name own_pn_com_example_ruleweave_ruleweave_XmlDocuments) hisR ?_
  intro p e s m args below meth c s₁ Bd hml0 hP hK
  obtain ⟨rfl, hZ, hh, hC0⟩ := hP
  have hx := Bd.exec
  have hby := Bd.bytes
  have hlk : meth.locks = false := BodyLoose.notSynchronized Bd
  have hml : c.maxLocals = 3 := hml0
  have hown : s.vm.findClass "com/example/ruleweave/ruleweave/XmlDocuments" = some m.cls := findClass_of_methodNamed Bd.named
  have hnm := (name_of_methodNamed Bd.named Bd.method).1
  have X0 : Stand p l e ({ frames := 7, cells := 3, slots := 19, locals := 119 } : Room) (s.setVm s.vm) m #[(.ref s_)] below meth c s₁ [] 0 0 := Stand.of_body Bd
  have e0 : s₁.heap = h0 := by rw [← hh, Bd.state]; rfl
  have N0 := Fr.nil n0
  have hS : s.Since s.vm 0 := (State.WarmedH.refl s).since 0
  have hk := Nat.zero_le h0.size
  have hEL : EW Z a0 own_EL := own_ew hw
  have A0 : CHr Z own_EL s.vm h0 s.vm h0 := CHr.refl hC0
  have K0 : Keep h0 h0 [] := Keep.refl _ _
  show oG p e below (own_KW Z own_EL s (Q_trim Z cs_ h0 n0) ({ frames := 7, cells := 3, slots := 19, locals := 119 } : Room).cells ({ frames := 7, cells := 3, slots := 19, locals := 119 } : Room).slots) (s₁.setTop (entryFrame m #[(.ref s_)] 3))
  rw [(by first | (simp [entryFrame, mkF, argsToLocals, Value.category]; done) | rfl : entryFrame m #[(.ref s_)] 3 = mkF m 0 #[.val (.ref s_), .unset, .unset] [])]
  show oG p e below _ (s₁.setTop (mkF m 0 #[.val (.ref s_), .unset, .unset] []))
  refine og (fun _ hr => XS.iconst X0.here hx rfl (hb hby dc6_0) (XS.istoreN X0.here hx rfl (hb hby dc6_1) rfl (l' := #[.val (.ref s_), .val (.int (0 : Int32)), .unset]) rfl (XS.aloadN X0.here hx rfl (hb hby dc6_2) rfl rfl hr))) ?_
  show oG p e below _ (s₁.setTop (mkF m 3 #[.val (.ref s_), .val (.int (0 : Int32)), .unset] [(.ref s_)]))
  refine own_lens X0 hx hZ hown hw (hw _ (own_m 34 rfl)) (hw _ (own_m 35 rfl)) (hw _ (own_m 37 rfl)) (hw _ (own_m 36 rfl)) (hw _ (own_m 10 rfl)) cs_ Es_ Vs_ Cs_ Kt_ hc_ hbc_ (Nat.le_trans hl5_ (by decide)) S_COMPACT_STRINGS hs_COMPACT_STRINGS (by decide) (W := 0) (by decide) (by decide) (by decide) e0 (by rw [hml]; rfl) (Nat.le_of_eq rfl) (hb hby dc6_3) ?_
  intro T1 X1 e1
  rw [hln_]
  show oG p e below _ (T1.setTop (mkF m 6 #[.val (.ref s_), .val (.int (0 : Int32)), .unset] [(.int ln_)]))
  refine og (fun _ hr => XS.istoreN X1.here hx rfl (hb hby dc6_6) rfl (l' := #[.val (.ref s_), .val (.int (0 : Int32)), .val (.int ln_)]) rfl hr) ?_
  show oG p e below _ (T1.setTop (mkF m 7 #[.val (.ref s_), .val (.int (0 : Int32)), .val (.int ln_)] []))
  have lq_ : ∀ (r_ : Nat) (i_ : Nat) (j_ : Nat) (x_ : Int32) (y_ : Int32) (Tl : State) (Ll : List Loc), (Int32.ofNat i_ = x_) → (Int32.ofNat j_ = y_) → (i_ + r_ = j_) → (j_ ≤ cs_.length) → (∀ k, j_ ≤ k → k < cs_.length → ¬ own_xsp (cs_.getD k 0) = 0) → (∀ k, k < i_ → ¬ own_xsp (cs_.getD k 0) = 0) → (i_ < cs_.length → own_xsp (cs_.getD i_ 0) = 0) → Stand p l e ({ frames := 7, cells := 3, slots := 19, locals := 119 } : Room) (s.setVm s.vm) m #[(.ref s_)] below meth c Tl Ll 0 0 → Fr n0 Ll → (Tl.heap = h0) → oG p e below (own_KW Z own_EL s (Q_trim Z cs_ h0 n0) ({ frames := 7, cells := 3, slots := 19, locals := 119 } : Room).cells ({ frames := 7, cells := 3, slots := 19, locals := 119 } : Room).slots) (Tl.setTop (mkF m 29 #[.val (.ref s_), .val (.int x_), .val (.int y_)] [])) := by
    intro r_
    induction r_ with
    | zero =>
      intro i_ j_ x_ y_ Tl Ll hi_ hj_ hr_ hjl_ ht_ hp_ hsw_ Xl Nl el 
      have hlt_ : ¬ (x_ < y_) := own_ltf hi_ hj_ (by omega) (by omega)
      show oG p e below _ (Tl.setTop (mkF m 29 #[.val (.ref s_), .val (.int x_), .val (.int y_)] []))
      refine og (fun _ hr => XS.iloadN Xl.here hx rfl (hb hby dc6_29) rfl (XS.iloadN Xl.here hx rfl (hb hby dc6_30) rfl hr)) ?_
      show oG p e below _ (Tl.setTop (mkF m 31 #[.val (.ref s_), .val (.int x_), .val (.int y_)] [(.int x_), (.int y_)]))
      refine og (fun _ hr => XS.icmpYes Xl.here hx rfl (pc0 := 31) (pc' := 53) rfl (hb hby dc6_31) rfl (flt hlt_).2.2.2 (by decide) (by decide) hr) ?_
      show oG p e below _ (Tl.setTop (mkF m 53 #[.val (.ref s_), .val (.int x_), .val (.int y_)] []))
      refine og (fun _ hr => XS.aloadN Xl.here hx rfl (hb hby dc6_53) rfl rfl (XS.iloadN Xl.here hx rfl (hb hby dc6_54) rfl (XS.iloadN Xl.here hx rfl (hb hby dc6_55) rfl hr))) ?_
      show oG p e below _ (Tl.setTop (mkF m 56 #[.val (.ref s_), .val (.int x_), .val (.int y_)] [(.int y_), (.int x_), (.ref s_)]))
      have hZo3 := hZ
      refine own_cvW Xl hx hZ hown (notFace_of_selects (args := #[]) (mvT (s := s.setVm _) hZ (hw _ (own_m 48 rfl)))) (hw _ (own_m 45 rfl)) (hw _ (own_m 46 rfl)) (hw _ (own_m 48 rfl)) (hw _ (own_m 47 rfl)) (hw _ (own_m 11 rfl)) (hw _ (own_m 49 rfl)) (by decide) Es_ (rm := { frames := 6, cells := 3, slots := 19, locals := 103 }) (rm_sub l Z a0 hw [] s_ t_ kt_ nn_ vs_ cd_ cs_ ln_ x_ y_ i_ j_ i_COMPACT_STRINGS v_SIOOBE_FORMATTER h0 n0 Z0 Es_ Cs_ Vs_ Kt_ hc_ hbc_ hl5_ hln_ hi_ hj_ (by omega) hjl_ (own_trw hp_ ht_) S_COMPACT_STRINGS hs_COMPACT_STRINGS S__assertionsDisabled S_HI_BYTE_SHIFT S_LO_BYTE_SHIFT S_SIOOBE_FORMATTER hv_SIOOBE_FORMATTER) (by decide) (W := 0) (by decide) (by decide) (by decide) el hEL A0.1 hS hk (by rw [hml]; rfl) (argsL := [(.int x_), (.int y_)]) (lenOf own_pd25 rfl) (rest := []) rfl rfl (Nat.le_of_eq rfl) (hb hby dc6_56) ?_
      intro _ T2 L2 X2 hQ2 Ac2 hS hZ hown
      obtain ⟨b2_0, b2_1, kb2_0, w2_0, w2_1, w2_2, rfl, N2q, K2, f2_0, f2_1, f2_2, f2_3, hx2_0⟩ := hQ2
      have N2 := Fr.app Nl N2q
      show oG p e below _ (T2.setTop (mkF m 59 #[.val (.ref s_), .val (.int x_), .val (.int y_)] [(.ref b2_0)]))
      have K4 := (K0.trans K2 all0)
      have A5 := A0.trans Ac2
      exact own_retRW X2 hx hlk Bd.returns hS (Nat.le_refl _) hZ hEL hh rfl A5 rfl rfl (hb hby dc6_59) (by decide) (by decide) (by exact ⟨b2_0, b2_1, kb2_0, w2_0, w2_1, w2_2, i_, j_, rfl, N2, K4, f2_0, f2_1, f2_2, f2_3, hx2_0, ⟨by omega, hjl_, hp_, ht_, hsw_, (fun q => absurd q (by omega))⟩⟩)
    | succ r_ ih =>
      intro i_ j_ x_ y_ Tl Ll hi_ hj_ hr_ hjl_ ht_ hp_ hsw_ Xl Nl el 
      have hlt_ : x_ < y_ := own_ltt hi_ hj_ (by omega) (by omega)
      show oG p e below _ (Tl.setTop (mkF m 29 #[.val (.ref s_), .val (.int x_), .val (.int y_)] []))
      refine og (fun _ hr => XS.iloadN Xl.here hx rfl (hb hby dc6_29) rfl (XS.iloadN Xl.here hx rfl (hb hby dc6_30) rfl hr)) ?_
      show oG p e below _ (Tl.setTop (mkF m 31 #[.val (.ref s_), .val (.int x_), .val (.int y_)] [(.int x_), (.int y_)]))
      refine og (fun _ hr => XS.icmpNo Xl.here hx rfl (hb hby dc6_31) rfl (tlt hlt_).2.2.2 hr) ?_
      show oG p e below _ (Tl.setTop (mkF m 34 #[.val (.ref s_), .val (.int x_), .val (.int y_)] []))
      refine og (fun _ hr => XS.aloadN Xl.here hx rfl (hb hby dc6_34) rfl rfl (XS.iloadN Xl.here hx rfl (hb hby dc6_35) rfl (XS.iconst Xl.here hx rfl (hb hby dc6_36) (XS.isub Xl.here hx rfl (hb hby dc6_37) rfl hr)))) ?_
      show oG p e below _ (Tl.setTop (mkF m 38 #[.val (.ref s_), .val (.int x_), .val (.int y_)] [(.int (y_ - (1 : Int32))), (.ref s_)]))
      refine own_chx Xl hx hZ hown hw (hw _ (own_m 74 rfl)) (hw _ (own_m 75 rfl)) (hw _ (own_m 77 rfl)) (hw _ (own_m 76 rfl)) (hw _ (own_m 10 rfl)) (hw _ (own_m 11 rfl)) (bytes := jdk_42_method_56_code) (maxL := 2) cs_ (j_ - 1) Es_ Vs_ Cs_ Kt_ hc_ hbc_ S_COMPACT_STRINGS hs_COMPACT_STRINGS S_SIOOBE_FORMATTER hv_SIOOBE_FORMATTER S__assertionsDisabled S_HI_BYTE_SHIFT S_LO_BYTE_SHIFT hl5_ (by omega) (own_dec hj_ (by omega) (by omega)).1 Z0 (by decide) (W := 0) (by decide) (by decide) (by decide) el (by rw [hml]; rfl) (Nat.le_of_eq rfl) (hb hby dc6_38) ?_
      intro T6 L6 X6 N6q e6
      have N6 := Fr.app Nl N6q
      show oG p e below _ (T6.setTop (mkF m 41 #[.val (.ref s_), .val (.int x_), .val (.int y_)] [(.int (cs_.getD (j_ - 1) 0))]))
      refine own_cs X6 hx hZ hown (hw _ (own_m 94 rfl)) (hw _ (own_m 95 rfl)) (hw _ (own_m 32 rfl)) (hw _ (own_m 96 rfl)) (by decide) (rm := { frames := 0, cells := 0, slots := 0, locals := 0 }) (rm_xsp l Z a0 hw [] (cs_.getD (j_ - 1) 0) h0 n0 Z0 ) (by decide) (W := 0) (by decide) (by decide) (by decide) e6 (by rw [hml]; rfl) (argsL := [(.int (cs_.getD (j_ - 1) 0))]) (lenOf own_pd26 rfl) (rest := []) rfl rfl (Nat.le_of_eq rfl) (hb hby dc6_41) ?_
      intro _ T7 L7 X7 hQ7
      obtain ⟨rfl, N7q, e7⟩ := hQ7
      have N7 := Fr.app N6 N7q
      show oG p e below _ (T7.setTop (mkF m 44 #[.val (.ref s_), .val (.int x_), .val (.int y_)] [(.int (own_xsp (cs_.getD (j_ - 1) 0)))]))
      rcases Classical.em ((own_xsp (cs_.getD (j_ - 1) 0)) = (0 : Int32)) with c8 | c8
      · skip
        refine og (fun _ hr => XS.ifYes X7.here hx rfl (pc0 := 44) (pc' := 53) rfl (hb hby dc6_44) rfl ((if0 _ _).trans (teq c8).1) (by decide) (by decide) hr) ?_
        show oG p e below _ (T7.setTop (mkF m 53 #[.val (.ref s_), .val (.int x_), .val (.int y_)] []))
        refine og (fun _ hr => XS.aloadN X7.here hx rfl (hb hby dc6_53) rfl rfl (XS.iloadN X7.here hx rfl (hb hby dc6_54) rfl (XS.iloadN X7.here hx rfl (hb hby dc6_55) rfl hr))) ?_
        show oG p e below _ (T7.setTop (mkF m 56 #[.val (.ref s_), .val (.int x_), .val (.int y_)] [(.int y_), (.int x_), (.ref s_)]))
        have hZo10 := hZ
        refine own_cvW X7 hx hZ hown (notFace_of_selects (args := #[]) (mvT (s := s.setVm _) hZ (hw _ (own_m 48 rfl)))) (hw _ (own_m 45 rfl)) (hw _ (own_m 46 rfl)) (hw _ (own_m 48 rfl)) (hw _ (own_m 47 rfl)) (hw _ (own_m 11 rfl)) (hw _ (own_m 49 rfl)) (by decide) Es_ (rm := { frames := 6, cells := 3, slots := 19, locals := 103 }) (rm_sub l Z a0 hw [] s_ t_ kt_ nn_ vs_ cd_ cs_ ln_ x_ y_ i_ j_ i_COMPACT_STRINGS v_SIOOBE_FORMATTER h0 n0 Z0 Es_ Cs_ Vs_ Kt_ hc_ hbc_ hl5_ hln_ hi_ hj_ (by omega) hjl_ (own_trw hp_ ht_) S_COMPACT_STRINGS hs_COMPACT_STRINGS S__assertionsDisabled S_HI_BYTE_SHIFT S_LO_BYTE_SHIFT S_SIOOBE_FORMATTER hv_SIOOBE_FORMATTER) (by decide) (W := 0) (by decide) (by decide) (by decide) e7 hEL A0.1 hS hk (by rw [hml]; rfl) (argsL := [(.int x_), (.int y_)]) (lenOf own_pd25 rfl) (rest := []) rfl rfl (Nat.le_of_eq rfl) (hb hby dc6_56) ?_
        intro _ T9 L9 X9 hQ9 Ac9 hS hZ hown
        obtain ⟨b9_0, b9_1, kb9_0, w9_0, w9_1, w9_2, rfl, N9q, K9, f9_0, f9_1, f9_2, f9_3, hx9_0⟩ := hQ9
        have N9 := Fr.app N7 N9q
        show oG p e below _ (T9.setTop (mkF m 59 #[.val (.ref s_), .val (.int x_), .val (.int y_)] [(.ref b9_0)]))
        have K11 := (K0.trans K9 all0)
        have A12 := A0.trans Ac9
        exact own_retRW X9 hx hlk Bd.returns hS (Nat.le_refl _) hZ hEL hh rfl A12 rfl rfl (hb hby dc6_59) (by decide) (by decide) (by exact ⟨b9_0, b9_1, kb9_0, w9_0, w9_1, w9_2, i_, j_, rfl, N9, K11, f9_0, f9_1, f9_2, f9_3, hx9_0, ⟨by omega, hjl_, hp_, ht_, hsw_, (fun _ => c8)⟩⟩)
      refine og (fun _ hr => XS.ifNo X7.here hx rfl (hb hby dc6_44) rfl ((if0 _ _).trans (feq c8).1) hr) ?_
      show oG p e below _ (T7.setTop (mkF m 47 #[.val (.ref s_), .val (.int x_), .val (.int y_)] []))
      refine og (fun _ hr => XS.iinc X7.here hx rfl (hb hby dc6_47) rfl (l' := #[.val (.ref s_), .val (.int x_), .val (.int (y_ + (-1 : Int32)))]) rfl (XS.goto X7.here hx rfl (pc0 := 50) (pc' := 29) rfl (hb hby dc6_50) (by decide) (by decide) hr)) ?_
      show oG p e below _ (T7.setTop (mkF m 29 #[.val (.ref s_), .val (.int x_), .val (.int (y_ + (-1 : Int32)))] []))
      exact ih i_ (j_ - 1) x_ (y_ + (-1 : Int32)) T7 _ hi_ (own_dec hj_ (by omega) (by omega)).2 (by omega) (by omega) (fun k h1 h2 => by rcases Nat.lt_or_ge k j_ with q | q; rw [show k = j_ - 1 from by omega]; exact c8; exact ht_ k q h2) hp_ hsw_ X7 N7 e7
  have lp_ : ∀ (r_ : Nat) (i_ : Nat) (x_ : Int32) (Tl : State) (Ll : List Loc), (Int32.ofNat i_ = x_) → (i_ + r_ = cs_.length) → (∀ k, k < i_ → ¬ own_xsp (cs_.getD k 0) = 0) → Stand p l e ({ frames := 7, cells := 3, slots := 19, locals := 119 } : Room) (s.setVm s.vm) m #[(.ref s_)] below meth c Tl Ll 0 0 → Fr n0 Ll → (Tl.heap = h0) → oG p e below (own_KW Z own_EL s (Q_trim Z cs_ h0 n0) ({ frames := 7, cells := 3, slots := 19, locals := 119 } : Room).cells ({ frames := 7, cells := 3, slots := 19, locals := 119 } : Room).slots) (Tl.setTop (mkF m 7 #[.val (.ref s_), .val (.int x_), .val (.int ln_)] [])) := by
    intro r_
    induction r_ with
    | zero =>
      intro i_ x_ Tl Ll hi_ hr_ hp_ Xl Nl el 
      have hlt_ : ¬ (x_ < ln_) := own_ltf hi_ hln_ (by omega) (by omega)
      show oG p e below _ (Tl.setTop (mkF m 7 #[.val (.ref s_), .val (.int x_), .val (.int ln_)] []))
      refine og (fun _ hr => XS.iloadN Xl.here hx rfl (hb hby dc6_7) rfl (XS.iloadN Xl.here hx rfl (hb hby dc6_8) rfl hr)) ?_
      show oG p e below _ (Tl.setTop (mkF m 9 #[.val (.ref s_), .val (.int x_), .val (.int ln_)] [(.int ln_), (.int x_)]))
      refine og (fun _ hr => XS.icmpYes Xl.here hx rfl (pc0 := 9) (pc' := 29) rfl (hb hby dc6_9) rfl (flt hlt_).2.1 (by decide) (by decide) hr) ?_
      show oG p e below _ (Tl.setTop (mkF m 29 #[.val (.ref s_), .val (.int x_), .val (.int ln_)] []))
      exact lq_ (cs_.length - i_) i_ cs_.length x_ ln_ Tl _ hi_ hln_ (by omega) (Nat.le_refl _) (fun k h1 h2 => absurd h2 (by omega)) hp_ (fun q => absurd q (by omega)) Xl Nl el
    | succ r_ ih =>
      intro i_ x_ Tl Ll hi_ hr_ hp_ Xl Nl el 
      have hlt_ : x_ < ln_ := own_ltt hi_ hln_ (by omega) hl5_
      show oG p e below _ (Tl.setTop (mkF m 7 #[.val (.ref s_), .val (.int x_), .val (.int ln_)] []))
      refine og (fun _ hr => XS.iloadN Xl.here hx rfl (hb hby dc6_7) rfl (XS.iloadN Xl.here hx rfl (hb hby dc6_8) rfl hr)) ?_
      show oG p e below _ (Tl.setTop (mkF m 9 #[.val (.ref s_), .val (.int x_), .val (.int ln_)] [(.int ln_), (.int x_)]))
      refine og (fun _ hr => XS.icmpNo Xl.here hx rfl (hb hby dc6_9) rfl (tlt hlt_).2.1 hr) ?_
      show oG p e below _ (Tl.setTop (mkF m 12 #[.val (.ref s_), .val (.int x_), .val (.int ln_)] []))
      refine og (fun _ hr => XS.aloadN Xl.here hx rfl (hb hby dc6_12) rfl rfl (XS.iloadN Xl.here hx rfl (hb hby dc6_13) rfl hr)) ?_
      show oG p e below _ (Tl.setTop (mkF m 14 #[.val (.ref s_), .val (.int x_), .val (.int ln_)] [(.int x_), (.ref s_)]))
      refine own_chx Xl hx hZ hown hw (hw _ (own_m 74 rfl)) (hw _ (own_m 75 rfl)) (hw _ (own_m 77 rfl)) (hw _ (own_m 76 rfl)) (hw _ (own_m 10 rfl)) (hw _ (own_m 11 rfl)) (bytes := jdk_42_method_56_code) (maxL := 2) cs_ i_ Es_ Vs_ Cs_ Kt_ hc_ hbc_ S_COMPACT_STRINGS hs_COMPACT_STRINGS S_SIOOBE_FORMATTER hv_SIOOBE_FORMATTER S__assertionsDisabled S_HI_BYTE_SHIFT S_LO_BYTE_SHIFT hl5_ (by omega) hi_ Z0 (by decide) (W := 0) (by decide) (by decide) (by decide) el (by rw [hml]; rfl) (Nat.le_of_eq rfl) (hb hby dc6_14) ?_
      intro T13 L13 X13 N13q e13
      have N13 := Fr.app Nl N13q
      show oG p e below _ (T13.setTop (mkF m 17 #[.val (.ref s_), .val (.int x_), .val (.int ln_)] [(.int (cs_.getD i_ 0))]))
      refine own_cs X13 hx hZ hown (hw _ (own_m 94 rfl)) (hw _ (own_m 95 rfl)) (hw _ (own_m 32 rfl)) (hw _ (own_m 96 rfl)) (by decide) (rm := { frames := 0, cells := 0, slots := 0, locals := 0 }) (rm_xsp l Z a0 hw [] (cs_.getD i_ 0) h0 n0 Z0 ) (by decide) (W := 0) (by decide) (by decide) (by decide) e13 (by rw [hml]; rfl) (argsL := [(.int (cs_.getD i_ 0))]) (lenOf own_pd26 rfl) (rest := []) rfl rfl (Nat.le_of_eq rfl) (hb hby dc6_17) ?_
      intro _ T14 L14 X14 hQ14
      obtain ⟨rfl, N14q, e14⟩ := hQ14
      have N14 := Fr.app N13 N14q
      show oG p e below _ (T14.setTop (mkF m 20 #[.val (.ref s_), .val (.int x_), .val (.int ln_)] [(.int (own_xsp (cs_.getD i_ 0)))]))
      rcases Classical.em ((own_xsp (cs_.getD i_ 0)) = (0 : Int32)) with c15 | c15
      · skip
        refine og (fun _ hr => XS.ifYes X14.here hx rfl (pc0 := 20) (pc' := 29) rfl (hb hby dc6_20) rfl ((if0 _ _).trans (teq c15).1) (by decide) (by decide) hr) ?_
        show oG p e below _ (T14.setTop (mkF m 29 #[.val (.ref s_), .val (.int x_), .val (.int ln_)] []))
        exact lq_ (cs_.length - i_) i_ cs_.length x_ ln_ T14 _ hi_ hln_ (by omega) (Nat.le_refl _) (fun k h1 h2 => absurd h2 (by omega)) hp_ (fun _ => c15) X14 N14 e14
      refine og (fun _ hr => XS.ifNo X14.here hx rfl (hb hby dc6_20) rfl ((if0 _ _).trans (feq c15).1) hr) ?_
      show oG p e below _ (T14.setTop (mkF m 23 #[.val (.ref s_), .val (.int x_), .val (.int ln_)] []))
      refine og (fun _ hr => XS.iinc X14.here hx rfl (hb hby dc6_23) rfl (l' := #[.val (.ref s_), .val (.int (x_ + (1 : Int32))), .val (.int ln_)]) rfl (XS.goto X14.here hx rfl (pc0 := 26) (pc' := 7) rfl (hb hby dc6_26) (by decide) (by decide) hr)) ?_
      show oG p e below _ (T14.setTop (mkF m 7 #[.val (.ref s_), .val (.int (x_ + (1 : Int32))), .val (.int ln_)] []))
      exact ih (i_ + 1) (x_ + (1 : Int32)) T14 _ (own_inc hi_) (by omega) (fun k hk => by rcases Nat.lt_or_eq_of_le (Nat.le_of_lt_succ hk) with q | rfl; exact hp_ k q; exact c15) X14 N14 e14
  exact lp_ cs_.length 0 (0 : Int32) T1 _ rfl (by omega) (fun k hk => absurd hk (Nat.not_lt_zero k)) X1 N0 e1
theorem dc12_0 : decode method_3_code 0 = .ok (.iload_n 1, 1) := by decide +kernel
theorem dc12_1 : decode method_3_code 1 = .ok (.aload_n 0, 1) := by decide +kernel
theorem dc12_2 : decode method_3_code 2 = .ok (.invokevirtual 28, 3) := by decide +kernel
theorem dc12_5 : decode method_3_code 5 = .ok (.if_icmp .lt 5, 3) := by decide +kernel
theorem dc12_10 : decode method_3_code 10 = .ok (.aload_n 0, 1) := by decide +kernel
theorem dc12_11 : decode method_3_code 11 = .ok (.iload_n 1, 1) := by decide +kernel
theorem dc12_12 : decode method_3_code 12 = .ok (.invokevirtual 38, 3) := by decide +kernel
theorem dc12_15 : decode method_3_code 15 = .ok (.aload_n 2, 1) := by decide +kernel
theorem dc12_16 : decode method_3_code 16 = .ok (.iload_n 3, 1) := by decide +kernel
theorem dc12_17 : decode method_3_code 17 = .ok (.iload_n 1, 1) := by decide +kernel
theorem dc12_18 : decode method_3_code 18 = .ok (.iadd, 1) := by decide +kernel
theorem dc12_19 : decode method_3_code 19 = .ok (.caload, 1) := by decide +kernel
theorem dc12_20 : decode method_3_code 20 = .ok (.if_icmp .ne 7, 3) := by decide +kernel
theorem dc12_23 : decode method_3_code 23 = .ok (.iconst 1, 1) := by decide +kernel
theorem dc12_24 : decode method_3_code 24 = .ok (.goto 4, 3) := by decide +kernel
theorem dc12_28 : decode method_3_code 28 = .ok (.ireturn, 1) := by decide +kernel
theorem dc12_8 : decode method_3_code 8 = .ok (.iconst 1, 1) := by decide +kernel
theorem dc12_9 : decode method_3_code 9 = .ok (.ireturn, 1) := by decide +kernel
def Q_at (Z : State) (h0 : Heap) (n0 : Nat) (v : Option Value) (h : Heap) (L : List Loc) : Prop := v = some (.int (1 : Int32)) ∧ Fr n0 L ∧ h = h0
set_option maxRecDepth 65536 in
set_option maxHeartbeats 40000000 in
theorem rm_at (l : Launch) (Z : State) (a0 : Array Value) (hw : ∀ d ∈ tables_1, d.before a0 Z = true) (ws : List Jvm.Cond) (s_ : Addr) (t_ : Addr) (kt_ : ClassId) (nn_ : Int32) (vs_ : List Value) (cd_ : Int32) (cs_ : List Int32) (ln_ : Int32) (i_ : Int32) (ca_ : Addr) (kc_ : ClassId) (st_ : Int32) (iN_ : Nat) (stN_ : Nat) (ya_ : Int32) (yb_ : Int32) (yc_ : Int32) (yd_ : Int32) (ye_ : Int32) (i_COMPACT_STRINGS : Int32) (v_SIOOBE_FORMATTER : Value) (h0 : Heap) (n0 : Nat) (Z0 : n0 ≤ h0.size) (Es_ : Exa Z h0 s_ "java/lang/String") (Cs_ : Fld Z h0 s_ "java/lang/String" "coder" "B" (.int cd_)) (Vs_ : Fld Z h0 s_ "java/lang/String" "value" "[B" (.ref t_)) (Kt_ : Arv Z h0 t_ kt_ .byte nn_ vs_ (.int (0 : Int32))) (hc_ : StrChars.Road.CodA cs_ cd_ nn_ vs_) (hbc_ : ∀ c ∈ cs_, ¬ c < 0 ∧ ¬ (65535 : Int32) < c) (hl5_ : cs_.length ≤ 5) (hln_ : Int32.ofNat cs_.length = ln_) (Kc_ : Arv Z h0 ca_ kc_ .char (5 : Int32) [(.int ya_), (.int yb_), (.int yc_), (.int yd_), (.int ye_)] (.int (0 : Int32))) (hiN_ : Int32.ofNat iN_ = i_) (hst_ : Int32.ofNat stN_ = st_) (hi4_ : iN_ ≤ 4) (hat_ : iN_ < cs_.length → (cs_.getD iN_ 0) = ([ya_, yb_, yc_, yd_, ye_].getD (stN_ + iN_) 0) ∧ stN_ + iN_ < 5) (S_COMPACT_STRINGS : Sta Z h0 "java/lang/String" "COMPACT_STRINGS" "Z" (.int i_COMPACT_STRINGS)) (hs_COMPACT_STRINGS : ¬ (i_COMPACT_STRINGS = (0 : Int32))) (S__assertionsDisabled : Sta Z h0 "java/lang/StringUTF16" "$assertionsDisabled" "Z" (.int (1 : Int32))) (S_HI_BYTE_SHIFT : Sta Z h0 "java/lang/StringUTF16" "HI_BYTE_SHIFT" "I" (.int (0 : Int32))) (S_LO_BYTE_SHIFT : Sta Z h0 "java/lang/StringUTF16" "LO_BYTE_SHIFT" "I" (.int (8 : Int32))) (S_SIOOBE_FORMATTER : Sta Z h0 "jdk/internal/util/Preconditions" "SIOOBE_FORMATTER" "Ljava/util/function/BiFunction;" v_SIOOBE_FORMATTER) (hv_SIOOBE_FORMATTER : v_SIOOBE_FORMATTER.isRef = true) :
    MetFree l (⟨"com/example/ruleweave/ruleweave/XmlDocumentsTrimPinLaw", "at", "(Ljava/lang/String;I[CI)Z"⟩ : MethodName) (head1 (Jvm.Cond.code (⟨"com/example/ruleweave/ruleweave/XmlDocumentsTrimPinLaw", "at", "(Ljava/lang/String;I[CI)Z"⟩ : MethodName) method_3_code 4 (some .boolean) :: ws) ({ frames := 5, cells := 0, slots := 0, locals := 66 } : Room)) (fun aA U => aA = #[(.ref s_), (.int i_), (.ref ca_), (.int st_)] ∧ Z.Warmed39 U.vm ∧ U.heap = h0) (fun _ _ _ _ _ => True) (fun _ U o U' => ∃ v L, o = .returned v ∧ Q_at Z h0 n0 v U'.heap L ∧ FrameEnd U o U' L ({ frames := 5, cells := 0, slots := 0, locals := 66 } : Room).cells ({ frames := 5, cells := 0, slots := 0, locals := 66 } : Room).slots) := by
  refine MetFree.of_bodySF (plainFor_of_name own_pn_com_example_ruleweave_ruleweave_XmlDocumentsTrimPinLaw) hisR ?_
  intro p e s m args below meth c s₁ Bd hml0 hP hK
  obtain ⟨rfl, hZ, hh⟩ := hP
  have hx := Bd.exec
  have hby := Bd.bytes
  have hlk : meth.locks = false := BodyLoose.notSynchronized Bd
  have hml : c.maxLocals = 4 := hml0
  have hown : s.vm.findClass "com/example/ruleweave/ruleweave/XmlDocumentsTrimPinLaw" = some m.cls := findClass_of_methodNamed Bd.named
  have hnm := (name_of_methodNamed Bd.named Bd.method).1
  have X0 : Stand p l e ({ frames := 5, cells := 0, slots := 0, locals := 66 } : Room) s m #[(.ref s_), (.int i_), (.ref ca_), (.int st_)] below meth c s₁ [] 0 0 := Stand.of_body Bd
  have e0 : s₁.heap = h0 := by rw [← hh, Bd.state]; rfl
  have N0 := Fr.nil n0
  show oG p e below (own_K s (Q_at Z h0 n0) ({ frames := 5, cells := 0, slots := 0, locals := 66 } : Room).cells ({ frames := 5, cells := 0, slots := 0, locals := 66 } : Room).slots) (s₁.setTop (entryFrame m #[(.ref s_), (.int i_), (.ref ca_), (.int st_)] 4))
  rw [(by first | (simp [entryFrame, mkF, argsToLocals, Value.category]; done) | rfl : entryFrame m #[(.ref s_), (.int i_), (.ref ca_), (.int st_)] 4 = mkF m 0 #[.val (.ref s_), .val (.int i_), .val (.ref ca_), .val (.int st_)] [])]
  show oG p e below _ (s₁.setTop (mkF m 0 #[.val (.ref s_), .val (.int i_), .val (.ref ca_), .val (.int st_)] []))
  refine og (fun _ hr => XS.iloadN X0.here hx rfl (hb hby dc12_0) rfl (XS.aloadN X0.here hx rfl (hb hby dc12_1) rfl rfl hr)) ?_
  show oG p e below _ (s₁.setTop (mkF m 2 #[.val (.ref s_), .val (.int i_), .val (.ref ca_), .val (.int st_)] [(.ref s_), (.int i_)]))
  refine own_lens X0 hx hZ hown hw (hw _ (own_m 59 rfl)) (hw _ (own_m 35 rfl)) (hw _ (own_m 37 rfl)) (hw _ (own_m 36 rfl)) (hw _ (own_m 10 rfl)) cs_ Es_ Vs_ Cs_ Kt_ hc_ hbc_ (Nat.le_trans hl5_ (by decide)) S_COMPACT_STRINGS hs_COMPACT_STRINGS (by decide) (W := 1) (by decide) (by decide) (by decide) e0 (by rw [hml]; rfl) (Nat.le_of_eq rfl) (hb hby dc12_2) ?_
  intro T1 X1 e1
  rw [hln_]
  show oG p e below _ (T1.setTop (mkF m 5 #[.val (.ref s_), .val (.int i_), .val (.ref ca_), .val (.int st_)] [(.int ln_), (.int i_)]))
  rcases Classical.em (i_ < ln_) with c2 | c2
  · skip
    refine og (fun _ hr => XS.icmpYes X1.here hx rfl (pc0 := 5) (pc' := 10) rfl (hb hby dc12_5) rfl (tlt c2).1 (by decide) (by decide) hr) ?_
    show oG p e below _ (T1.setTop (mkF m 10 #[.val (.ref s_), .val (.int i_), .val (.ref ca_), .val (.int st_)] []))
    have hN_ : iN_ < cs_.length := Classical.byContradiction fun q => own_ltf hiN_ hln_ q (by omega) c2
    have ha_ := hat_ hN_
    have hes_ := ha_.1
    refine og (fun _ hr => XS.aloadN X1.here hx rfl (hb hby dc12_10) rfl rfl (XS.iloadN X1.here hx rfl (hb hby dc12_11) rfl hr)) ?_
    show oG p e below _ (T1.setTop (mkF m 12 #[.val (.ref s_), .val (.int i_), .val (.ref ca_), .val (.int st_)] [(.int i_), (.ref s_)]))
    refine own_chx X1 hx hZ hown hw (hw _ (own_m 125 rfl)) (hw _ (own_m 75 rfl)) (hw _ (own_m 77 rfl)) (hw _ (own_m 76 rfl)) (hw _ (own_m 10 rfl)) (hw _ (own_m 11 rfl)) (bytes := jdk_42_method_56_code) (maxL := 2) cs_ iN_ Es_ Vs_ Cs_ Kt_ hc_ hbc_ S_COMPACT_STRINGS hs_COMPACT_STRINGS S_SIOOBE_FORMATTER hv_SIOOBE_FORMATTER S__assertionsDisabled S_HI_BYTE_SHIFT S_LO_BYTE_SHIFT hl5_ hN_ hiN_ Z0 (by decide) (W := 0) (by decide) (by decide) (by decide) e1 (by rw [hml]; rfl) (Nat.le_of_eq rfl) (hb hby dc12_12) ?_
    intro T3 L3 X3 N3q e3
    have N3 := Fr.app N0 N3q
    show oG p e below _ (T3.setTop (mkF m 15 #[.val (.ref s_), .val (.int i_), .val (.ref ca_), .val (.int st_)] [(.int (cs_.getD iN_ 0))]))
    refine og (fun _ hr => XS.aloadN X3.here hx rfl (hb hby dc12_15) rfl rfl (XS.iloadN X3.here hx rfl (hb hby dc12_16) rfl (XS.iloadN X3.here hx rfl (hb hby dc12_17) rfl (XS.iadd X3.here hx rfl (hb hby dc12_18) rfl (own_caload X3 hx hZ e3 Kc_ (st_ + i_) (.int ([ya_, yb_, yc_, yd_, ye_].getD (stN_ + iN_) 0)) ⟨own_neg (own_add hst_ hiN_) (by omega), own_ltt (own_add hst_ hiN_) (show Int32.ofNat 5 = 5 from rfl) ha_.2 (by decide)⟩ (own_cat (cs := [ya_, yb_, yc_, yd_, ye_]) rfl ha_.2 (own_add hst_ hiN_) (Nat.le_of_ble_eq_true rfl)) rfl rfl (hb hby dc12_19) hr))))) ?_
    show oG p e below _ (T3.setTop (mkF m 20 #[.val (.ref s_), .val (.int i_), .val (.ref ca_), .val (.int st_)] [(.int ([ya_, yb_, yc_, yd_, ye_].getD (stN_ + iN_) 0)), (.int (cs_.getD iN_ 0))]))
    refine og (fun _ hr => XS.icmpNo X3.here hx rfl (hb hby dc12_20) rfl (teq hes_).2 hr) ?_
    show oG p e below _ (T3.setTop (mkF m 23 #[.val (.ref s_), .val (.int i_), .val (.ref ca_), .val (.int st_)] []))
    refine og (fun _ hr => XS.iconst X3.here hx rfl (hb hby dc12_23) (XS.goto X3.here hx rfl (pc0 := 24) (pc' := 28) rfl (hb hby dc12_24) (by decide) (by decide) hr)) ?_
    show oG p e below _ (T3.setTop (mkF m 28 #[.val (.ref s_), .val (.int i_), .val (.ref ca_), .val (.int st_)] [(.int (1 : Int32))]))
    exact own_retN X3 hx hlk Bd.returns (t := .boolean) (by simp) (hb hby dc12_28) (by decide) (by decide) ⟨rfl, N3, e3⟩
  refine og (fun _ hr => XS.icmpNo X1.here hx rfl (hb hby dc12_5) rfl (flt c2).1 hr) ?_
  show oG p e below _ (T1.setTop (mkF m 8 #[.val (.ref s_), .val (.int i_), .val (.ref ca_), .val (.int st_)] []))
  refine og (fun _ hr => XS.iconst X1.here hx rfl (hb hby dc12_8) hr) ?_
  show oG p e below _ (T1.setTop (mkF m 9 #[.val (.ref s_), .val (.int i_), .val (.ref ca_), .val (.int st_)] [(.int (1 : Int32))]))
  exact own_retN X1 hx hlk Bd.returns (t := .boolean) (by simp) (hb hby dc12_9) (by decide) (by decide) ⟨rfl, N0, e1⟩
def own_kk (z i c : Int32) : Int32 := if i < z then (if own_wh c = (0 : Int32) then 1 else 0) else 0
theorem own_kk1 {z i c : Int32} (h : i < z) (w : own_xsp c = 0) : own_kk z i c = 1 := by unfold own_kk; rw [if_pos h, if_pos ((own_whs c).trans w)]
theorem own_kk0 {z i c : Int32} (w : ¬ own_xsp c = 0) : own_kk z i c = 0 := by
  unfold own_kk
  by_cases h : i < z
  · rw [if_pos h, if_neg (fun q => w ((own_whs c).symm.trans q))]
  · rw [if_neg h]
theorem own_kkz {z i c : Int32} (h : ¬ i < z) : own_kk z i c = 0 := by unfold own_kk; rw [if_neg h]
theorem own_fin0 {z_ ya_ yb_ yc_ yd_ ye_ ka_ kb_ kc_ kd_ ke_ s4_ s3_ s2_ s1_ s0_ e0_ e1_ e2_ e3_ e4_ : Int32} {iN jN : Nat} (hz0 : ¬ z_ < 0) (hz5 : ¬ (5 : Int32) < z_) (ht : own_tr (own_tk z_ ya_ yb_ yc_ yd_ ye_) iN jN) (hka_ : ka_ = own_kk z_ (0 : Int32) ya_) (hkb_ : kb_ = own_kk z_ (1 : Int32) yb_) (hkc_ : kc_ = own_kk z_ (2 : Int32) yc_) (hkd_ : kd_ = own_kk z_ (3 : Int32) yd_) (hke_ : ke_ = own_kk z_ (4 : Int32) ye_) (hs4_ : s4_ = if ke_ = (0 : Int32) then z_ else (4 : Int32)) (hs3_ : s3_ = if kd_ = (0 : Int32) then s4_ else (3 : Int32)) (hs2_ : s2_ = if kc_ = (0 : Int32) then s3_ else (2 : Int32)) (hs1_ : s1_ = if kb_ = (0 : Int32) then s2_ else (1 : Int32)) (hs0_ : s0_ = if ka_ = (0 : Int32) then s1_ else (0 : Int32)) (he0_ : e0_ = if ka_ = (0 : Int32) then s0_ else (1 : Int32)) (he1_ : e1_ = if kb_ = (0 : Int32) then e0_ else (2 : Int32)) (he2_ : e2_ = if kc_ = (0 : Int32) then e1_ else (3 : Int32)) (he3_ : e3_ = if kd_ = (0 : Int32) then e2_ else (4 : Int32)) (he4_ : e4_ = if ke_ = (0 : Int32) then e3_ else (5 : Int32)) : Int32.ofNat iN = s0_ ∧ Int32.ofNat jN = e4_ := by
  rcases own_z5 hz0 hz5 with rfl | rfl | rfl | rfl | rfl | rfl
  · have ht' : own_tr [] iN jN := ht
    obtain ⟨t1, t2, t3, t4, t5, t6⟩ := ht'
    simp only [List.length_cons, List.length_nil] at t2 t4 t5
    have hi : iN = 0 := by omega
    have hj : jN = 0 := by omega
    rcases hi with rfl
    · rcases hj with rfl
      · have a0 : ka_ = 0 := hka_.trans (own_kkz (by decide))
        have a1 : kb_ = 0 := hkb_.trans (own_kkz (by decide))
        have a2 : kc_ = 0 := hkc_.trans (own_kkz (by decide))
        have a3 : kd_ = 0 := hkd_.trans (own_kkz (by decide))
        have a4 : ke_ = 0 := hke_.trans (own_kkz (by decide))
        have q0 : s0_ = 0 := (hs0_.trans (if_pos a0)).trans ((hs1_.trans (if_pos a1)).trans ((hs2_.trans (if_pos a2)).trans ((hs3_.trans (if_pos a3)).trans (hs4_.trans (if_pos a4)))))
        have q1 : e4_ = 0 := (he4_.trans (if_pos a4)).trans ((he3_.trans (if_pos a3)).trans ((he2_.trans (if_pos a2)).trans ((he1_.trans (if_pos a1)).trans ((he0_.trans (if_pos a0)).trans q0))))
        exact ⟨q0.symm, q1.symm⟩
  · have ht' : own_tr [ya_] iN jN := ht
    obtain ⟨t1, t2, t3, t4, t5, t6⟩ := ht'
    simp only [List.length_cons, List.length_nil] at t2 t4 t5
    have hi : iN = 0 ∨ iN = 1 := by omega
    have hj : jN = 0 ∨ jN = 1 := by omega
    rcases hi with rfl | rfl
    · rcases hj with rfl | rfl
      · exact absurd (t5 (by decide)) (t4 0 (by decide) (by decide))
      · have a0 : ka_ = 1 := hka_.trans (own_kk1 (by decide) (t5 (by decide)))
        have a1 : kb_ = 0 := hkb_.trans (own_kkz (by decide))
        have a2 : kc_ = 0 := hkc_.trans (own_kkz (by decide))
        have a3 : kd_ = 0 := hkd_.trans (own_kkz (by decide))
        have a4 : ke_ = 0 := hke_.trans (own_kkz (by decide))
        have q0 : s0_ = 0 := hs0_.trans (if_neg (by rw [a0]; decide))
        have q1 : e4_ = 1 := (he4_.trans (if_pos a4)).trans ((he3_.trans (if_pos a3)).trans ((he2_.trans (if_pos a2)).trans ((he1_.trans (if_pos a1)).trans (he0_.trans (if_neg (by rw [a0]; decide))))))
        exact ⟨q0.symm, q1.symm⟩
    · rcases hj with rfl | rfl
      · exfalso; omega
      · have a0 : ka_ = 0 := hka_.trans (own_kk0 (t3 0 (by decide)))
        have a1 : kb_ = 0 := hkb_.trans (own_kkz (by decide))
        have a2 : kc_ = 0 := hkc_.trans (own_kkz (by decide))
        have a3 : kd_ = 0 := hkd_.trans (own_kkz (by decide))
        have a4 : ke_ = 0 := hke_.trans (own_kkz (by decide))
        have q0 : s0_ = 1 := (hs0_.trans (if_pos a0)).trans ((hs1_.trans (if_pos a1)).trans ((hs2_.trans (if_pos a2)).trans ((hs3_.trans (if_pos a3)).trans (hs4_.trans (if_pos a4)))))
        have q1 : e4_ = 1 := (he4_.trans (if_pos a4)).trans ((he3_.trans (if_pos a3)).trans ((he2_.trans (if_pos a2)).trans ((he1_.trans (if_pos a1)).trans ((he0_.trans (if_pos a0)).trans q0))))
        exact ⟨q0.symm, q1.symm⟩
  · have ht' : own_tr [ya_, yb_] iN jN := ht
    obtain ⟨t1, t2, t3, t4, t5, t6⟩ := ht'
    simp only [List.length_cons, List.length_nil] at t2 t4 t5
    have hi : iN = 0 ∨ iN = 1 ∨ iN = 2 := by omega
    have hj : jN = 0 ∨ jN = 1 ∨ jN = 2 := by omega
    rcases hi with rfl | rfl | rfl
    · rcases hj with rfl | rfl | rfl
      · exact absurd (t5 (by decide)) (t4 0 (by decide) (by decide))
      · have a0 : ka_ = 1 := hka_.trans (own_kk1 (by decide) (t5 (by decide)))
        have a1 : kb_ = 0 := hkb_.trans (own_kk0 (t4 1 (by decide) (by decide)))
        have a2 : kc_ = 0 := hkc_.trans (own_kkz (by decide))
        have a3 : kd_ = 0 := hkd_.trans (own_kkz (by decide))
        have a4 : ke_ = 0 := hke_.trans (own_kkz (by decide))
        have q0 : s0_ = 0 := hs0_.trans (if_neg (by rw [a0]; decide))
        have q1 : e4_ = 1 := (he4_.trans (if_pos a4)).trans ((he3_.trans (if_pos a3)).trans ((he2_.trans (if_pos a2)).trans ((he1_.trans (if_pos a1)).trans (he0_.trans (if_neg (by rw [a0]; decide))))))
        exact ⟨q0.symm, q1.symm⟩
      · have a0 : ka_ = 1 := hka_.trans (own_kk1 (by decide) (t5 (by decide)))
        have a1 : kb_ = 1 := hkb_.trans (own_kk1 (by decide) (t6 (by decide)))
        have a2 : kc_ = 0 := hkc_.trans (own_kkz (by decide))
        have a3 : kd_ = 0 := hkd_.trans (own_kkz (by decide))
        have a4 : ke_ = 0 := hke_.trans (own_kkz (by decide))
        have q0 : s0_ = 0 := hs0_.trans (if_neg (by rw [a0]; decide))
        have q1 : e4_ = 2 := (he4_.trans (if_pos a4)).trans ((he3_.trans (if_pos a3)).trans ((he2_.trans (if_pos a2)).trans (he1_.trans (if_neg (by rw [a1]; decide)))))
        exact ⟨q0.symm, q1.symm⟩
    · rcases hj with rfl | rfl | rfl
      · exfalso; omega
      · exact absurd (t5 (by decide)) (t4 1 (by decide) (by decide))
      · have a0 : ka_ = 0 := hka_.trans (own_kk0 (t3 0 (by decide)))
        have a1 : kb_ = 1 := hkb_.trans (own_kk1 (by decide) (t5 (by decide)))
        have a2 : kc_ = 0 := hkc_.trans (own_kkz (by decide))
        have a3 : kd_ = 0 := hkd_.trans (own_kkz (by decide))
        have a4 : ke_ = 0 := hke_.trans (own_kkz (by decide))
        have q0 : s0_ = 1 := (hs0_.trans (if_pos a0)).trans (hs1_.trans (if_neg (by rw [a1]; decide)))
        have q1 : e4_ = 2 := (he4_.trans (if_pos a4)).trans ((he3_.trans (if_pos a3)).trans ((he2_.trans (if_pos a2)).trans (he1_.trans (if_neg (by rw [a1]; decide)))))
        exact ⟨q0.symm, q1.symm⟩
    · rcases hj with rfl | rfl | rfl
      · exfalso; omega
      · exfalso; omega
      · have a0 : ka_ = 0 := hka_.trans (own_kk0 (t3 0 (by decide)))
        have a1 : kb_ = 0 := hkb_.trans (own_kk0 (t3 1 (by decide)))
        have a2 : kc_ = 0 := hkc_.trans (own_kkz (by decide))
        have a3 : kd_ = 0 := hkd_.trans (own_kkz (by decide))
        have a4 : ke_ = 0 := hke_.trans (own_kkz (by decide))
        have q0 : s0_ = 2 := (hs0_.trans (if_pos a0)).trans ((hs1_.trans (if_pos a1)).trans ((hs2_.trans (if_pos a2)).trans ((hs3_.trans (if_pos a3)).trans (hs4_.trans (if_pos a4)))))
        have q1 : e4_ = 2 := (he4_.trans (if_pos a4)).trans ((he3_.trans (if_pos a3)).trans ((he2_.trans (if_pos a2)).trans ((he1_.trans (if_pos a1)).trans ((he0_.trans (if_pos a0)).trans q0))))
        exact ⟨q0.symm, q1.symm⟩
  · have ht' : own_tr [ya_, yb_, yc_] iN jN := ht
    obtain ⟨t1, t2, t3, t4, t5, t6⟩ := ht'
    simp only [List.length_cons, List.length_nil] at t2 t4 t5
    have hi : iN = 0 ∨ iN = 1 ∨ iN = 2 ∨ iN = 3 := by omega
    have hj : jN = 0 ∨ jN = 1 ∨ jN = 2 ∨ jN = 3 := by omega
    rcases hi with rfl | rfl | rfl | rfl
    · rcases hj with rfl | rfl | rfl | rfl
      · exact absurd (t5 (by decide)) (t4 0 (by decide) (by decide))
      · have a0 : ka_ = 1 := hka_.trans (own_kk1 (by decide) (t5 (by decide)))
        have a1 : kb_ = 0 := hkb_.trans (own_kk0 (t4 1 (by decide) (by decide)))
        have a2 : kc_ = 0 := hkc_.trans (own_kk0 (t4 2 (by decide) (by decide)))
        have a3 : kd_ = 0 := hkd_.trans (own_kkz (by decide))
        have a4 : ke_ = 0 := hke_.trans (own_kkz (by decide))
        have q0 : s0_ = 0 := hs0_.trans (if_neg (by rw [a0]; decide))
        have q1 : e4_ = 1 := (he4_.trans (if_pos a4)).trans ((he3_.trans (if_pos a3)).trans ((he2_.trans (if_pos a2)).trans ((he1_.trans (if_pos a1)).trans (he0_.trans (if_neg (by rw [a0]; decide))))))
        exact ⟨q0.symm, q1.symm⟩
      · have a0 : ka_ = 1 := hka_.trans (own_kk1 (by decide) (t5 (by decide)))
        have a1 : kb_ = 1 := hkb_.trans (own_kk1 (by decide) (t6 (by decide)))
        have a2 : kc_ = 0 := hkc_.trans (own_kk0 (t4 2 (by decide) (by decide)))
        have a3 : kd_ = 0 := hkd_.trans (own_kkz (by decide))
        have a4 : ke_ = 0 := hke_.trans (own_kkz (by decide))
        have q0 : s0_ = 0 := hs0_.trans (if_neg (by rw [a0]; decide))
        have q1 : e4_ = 2 := (he4_.trans (if_pos a4)).trans ((he3_.trans (if_pos a3)).trans ((he2_.trans (if_pos a2)).trans (he1_.trans (if_neg (by rw [a1]; decide)))))
        exact ⟨q0.symm, q1.symm⟩
      · have a0 : ka_ = 1 := hka_.trans (own_kk1 (by decide) (t5 (by decide)))
        have a2 : kc_ = 1 := hkc_.trans (own_kk1 (by decide) (t6 (by decide)))
        have a3 : kd_ = 0 := hkd_.trans (own_kkz (by decide))
        have a4 : ke_ = 0 := hke_.trans (own_kkz (by decide))
        have q0 : s0_ = 0 := hs0_.trans (if_neg (by rw [a0]; decide))
        have q1 : e4_ = 3 := (he4_.trans (if_pos a4)).trans ((he3_.trans (if_pos a3)).trans (he2_.trans (if_neg (by rw [a2]; decide))))
        exact ⟨q0.symm, q1.symm⟩
    · rcases hj with rfl | rfl | rfl | rfl
      · exfalso; omega
      · exact absurd (t5 (by decide)) (t4 1 (by decide) (by decide))
      · have a0 : ka_ = 0 := hka_.trans (own_kk0 (t3 0 (by decide)))
        have a1 : kb_ = 1 := hkb_.trans (own_kk1 (by decide) (t5 (by decide)))
        have a2 : kc_ = 0 := hkc_.trans (own_kk0 (t4 2 (by decide) (by decide)))
        have a3 : kd_ = 0 := hkd_.trans (own_kkz (by decide))
        have a4 : ke_ = 0 := hke_.trans (own_kkz (by decide))
        have q0 : s0_ = 1 := (hs0_.trans (if_pos a0)).trans (hs1_.trans (if_neg (by rw [a1]; decide)))
        have q1 : e4_ = 2 := (he4_.trans (if_pos a4)).trans ((he3_.trans (if_pos a3)).trans ((he2_.trans (if_pos a2)).trans (he1_.trans (if_neg (by rw [a1]; decide)))))
        exact ⟨q0.symm, q1.symm⟩
      · have a0 : ka_ = 0 := hka_.trans (own_kk0 (t3 0 (by decide)))
        have a1 : kb_ = 1 := hkb_.trans (own_kk1 (by decide) (t5 (by decide)))
        have a2 : kc_ = 1 := hkc_.trans (own_kk1 (by decide) (t6 (by decide)))
        have a3 : kd_ = 0 := hkd_.trans (own_kkz (by decide))
        have a4 : ke_ = 0 := hke_.trans (own_kkz (by decide))
        have q0 : s0_ = 1 := (hs0_.trans (if_pos a0)).trans (hs1_.trans (if_neg (by rw [a1]; decide)))
        have q1 : e4_ = 3 := (he4_.trans (if_pos a4)).trans ((he3_.trans (if_pos a3)).trans (he2_.trans (if_neg (by rw [a2]; decide))))
        exact ⟨q0.symm, q1.symm⟩
    · rcases hj with rfl | rfl | rfl | rfl
      · exfalso; omega
      · exfalso; omega
      · exact absurd (t5 (by decide)) (t4 2 (by decide) (by decide))
      · have a0 : ka_ = 0 := hka_.trans (own_kk0 (t3 0 (by decide)))
        have a1 : kb_ = 0 := hkb_.trans (own_kk0 (t3 1 (by decide)))
        have a2 : kc_ = 1 := hkc_.trans (own_kk1 (by decide) (t5 (by decide)))
        have a3 : kd_ = 0 := hkd_.trans (own_kkz (by decide))
        have a4 : ke_ = 0 := hke_.trans (own_kkz (by decide))
        have q0 : s0_ = 2 := (hs0_.trans (if_pos a0)).trans ((hs1_.trans (if_pos a1)).trans (hs2_.trans (if_neg (by rw [a2]; decide))))
        have q1 : e4_ = 3 := (he4_.trans (if_pos a4)).trans ((he3_.trans (if_pos a3)).trans (he2_.trans (if_neg (by rw [a2]; decide))))
        exact ⟨q0.symm, q1.symm⟩
    · rcases hj with rfl | rfl | rfl | rfl
      · exfalso; omega
      · exfalso; omega
      · exfalso; omega
      · have a0 : ka_ = 0 := hka_.trans (own_kk0 (t3 0 (by decide)))
        have a1 : kb_ = 0 := hkb_.trans (own_kk0 (t3 1 (by decide)))
        have a2 : kc_ = 0 := hkc_.trans (own_kk0 (t3 2 (by decide)))
        have a3 : kd_ = 0 := hkd_.trans (own_kkz (by decide))
        have a4 : ke_ = 0 := hke_.trans (own_kkz (by decide))
        have q0 : s0_ = 3 := (hs0_.trans (if_pos a0)).trans ((hs1_.trans (if_pos a1)).trans ((hs2_.trans (if_pos a2)).trans ((hs3_.trans (if_pos a3)).trans (hs4_.trans (if_pos a4)))))
        have q1 : e4_ = 3 := (he4_.trans (if_pos a4)).trans ((he3_.trans (if_pos a3)).trans ((he2_.trans (if_pos a2)).trans ((he1_.trans (if_pos a1)).trans ((he0_.trans (if_pos a0)).trans q0))))
        exact ⟨q0.symm, q1.symm⟩
  · have ht' : own_tr [ya_, yb_, yc_, yd_] iN jN := ht
    obtain ⟨t1, t2, t3, t4, t5, t6⟩ := ht'
    simp only [List.length_cons, List.length_nil] at t2 t4 t5
    have hi : iN = 0 ∨ iN = 1 ∨ iN = 2 ∨ iN = 3 ∨ iN = 4 := by omega
    have hj : jN = 0 ∨ jN = 1 ∨ jN = 2 ∨ jN = 3 ∨ jN = 4 := by omega
    rcases hi with rfl | rfl | rfl | rfl | rfl
    · rcases hj with rfl | rfl | rfl | rfl | rfl
      · exact absurd (t5 (by decide)) (t4 0 (by decide) (by decide))
      · have a0 : ka_ = 1 := hka_.trans (own_kk1 (by decide) (t5 (by decide)))
        have a1 : kb_ = 0 := hkb_.trans (own_kk0 (t4 1 (by decide) (by decide)))
        have a2 : kc_ = 0 := hkc_.trans (own_kk0 (t4 2 (by decide) (by decide)))
        have a3 : kd_ = 0 := hkd_.trans (own_kk0 (t4 3 (by decide) (by decide)))
        have a4 : ke_ = 0 := hke_.trans (own_kkz (by decide))
        have q0 : s0_ = 0 := hs0_.trans (if_neg (by rw [a0]; decide))
        have q1 : e4_ = 1 := (he4_.trans (if_pos a4)).trans ((he3_.trans (if_pos a3)).trans ((he2_.trans (if_pos a2)).trans ((he1_.trans (if_pos a1)).trans (he0_.trans (if_neg (by rw [a0]; decide))))))
        exact ⟨q0.symm, q1.symm⟩
      · have a0 : ka_ = 1 := hka_.trans (own_kk1 (by decide) (t5 (by decide)))
        have a1 : kb_ = 1 := hkb_.trans (own_kk1 (by decide) (t6 (by decide)))
        have a2 : kc_ = 0 := hkc_.trans (own_kk0 (t4 2 (by decide) (by decide)))
        have a3 : kd_ = 0 := hkd_.trans (own_kk0 (t4 3 (by decide) (by decide)))
        have a4 : ke_ = 0 := hke_.trans (own_kkz (by decide))
        have q0 : s0_ = 0 := hs0_.trans (if_neg (by rw [a0]; decide))
        have q1 : e4_ = 2 := (he4_.trans (if_pos a4)).trans ((he3_.trans (if_pos a3)).trans ((he2_.trans (if_pos a2)).trans (he1_.trans (if_neg (by rw [a1]; decide)))))
        exact ⟨q0.symm, q1.symm⟩
      · have a0 : ka_ = 1 := hka_.trans (own_kk1 (by decide) (t5 (by decide)))
        have a2 : kc_ = 1 := hkc_.trans (own_kk1 (by decide) (t6 (by decide)))
        have a3 : kd_ = 0 := hkd_.trans (own_kk0 (t4 3 (by decide) (by decide)))
        have a4 : ke_ = 0 := hke_.trans (own_kkz (by decide))
        have q0 : s0_ = 0 := hs0_.trans (if_neg (by rw [a0]; decide))
        have q1 : e4_ = 3 := (he4_.trans (if_pos a4)).trans ((he3_.trans (if_pos a3)).trans (he2_.trans (if_neg (by rw [a2]; decide))))
        exact ⟨q0.symm, q1.symm⟩
      · have a0 : ka_ = 1 := hka_.trans (own_kk1 (by decide) (t5 (by decide)))
        have a3 : kd_ = 1 := hkd_.trans (own_kk1 (by decide) (t6 (by decide)))
        have a4 : ke_ = 0 := hke_.trans (own_kkz (by decide))
        have q0 : s0_ = 0 := hs0_.trans (if_neg (by rw [a0]; decide))
        have q1 : e4_ = 4 := (he4_.trans (if_pos a4)).trans (he3_.trans (if_neg (by rw [a3]; decide)))
        exact ⟨q0.symm, q1.symm⟩
    · rcases hj with rfl | rfl | rfl | rfl | rfl
      · exfalso; omega
      · exact absurd (t5 (by decide)) (t4 1 (by decide) (by decide))
      · have a0 : ka_ = 0 := hka_.trans (own_kk0 (t3 0 (by decide)))
        have a1 : kb_ = 1 := hkb_.trans (own_kk1 (by decide) (t5 (by decide)))
        have a2 : kc_ = 0 := hkc_.trans (own_kk0 (t4 2 (by decide) (by decide)))
        have a3 : kd_ = 0 := hkd_.trans (own_kk0 (t4 3 (by decide) (by decide)))
        have a4 : ke_ = 0 := hke_.trans (own_kkz (by decide))
        have q0 : s0_ = 1 := (hs0_.trans (if_pos a0)).trans (hs1_.trans (if_neg (by rw [a1]; decide)))
        have q1 : e4_ = 2 := (he4_.trans (if_pos a4)).trans ((he3_.trans (if_pos a3)).trans ((he2_.trans (if_pos a2)).trans (he1_.trans (if_neg (by rw [a1]; decide)))))
        exact ⟨q0.symm, q1.symm⟩
      · have a0 : ka_ = 0 := hka_.trans (own_kk0 (t3 0 (by decide)))
        have a1 : kb_ = 1 := hkb_.trans (own_kk1 (by decide) (t5 (by decide)))
        have a2 : kc_ = 1 := hkc_.trans (own_kk1 (by decide) (t6 (by decide)))
        have a3 : kd_ = 0 := hkd_.trans (own_kk0 (t4 3 (by decide) (by decide)))
        have a4 : ke_ = 0 := hke_.trans (own_kkz (by decide))
        have q0 : s0_ = 1 := (hs0_.trans (if_pos a0)).trans (hs1_.trans (if_neg (by rw [a1]; decide)))
        have q1 : e4_ = 3 := (he4_.trans (if_pos a4)).trans ((he3_.trans (if_pos a3)).trans (he2_.trans (if_neg (by rw [a2]; decide))))
        exact ⟨q0.symm, q1.symm⟩
      · have a0 : ka_ = 0 := hka_.trans (own_kk0 (t3 0 (by decide)))
        have a1 : kb_ = 1 := hkb_.trans (own_kk1 (by decide) (t5 (by decide)))
        have a3 : kd_ = 1 := hkd_.trans (own_kk1 (by decide) (t6 (by decide)))
        have a4 : ke_ = 0 := hke_.trans (own_kkz (by decide))
        have q0 : s0_ = 1 := (hs0_.trans (if_pos a0)).trans (hs1_.trans (if_neg (by rw [a1]; decide)))
        have q1 : e4_ = 4 := (he4_.trans (if_pos a4)).trans (he3_.trans (if_neg (by rw [a3]; decide)))
        exact ⟨q0.symm, q1.symm⟩
    · rcases hj with rfl | rfl | rfl | rfl | rfl
      · exfalso; omega
      · exfalso; omega
      · exact absurd (t5 (by decide)) (t4 2 (by decide) (by decide))
      · have a0 : ka_ = 0 := hka_.trans (own_kk0 (t3 0 (by decide)))
        have a1 : kb_ = 0 := hkb_.trans (own_kk0 (t3 1 (by decide)))
        have a2 : kc_ = 1 := hkc_.trans (own_kk1 (by decide) (t5 (by decide)))
        have a3 : kd_ = 0 := hkd_.trans (own_kk0 (t4 3 (by decide) (by decide)))
        have a4 : ke_ = 0 := hke_.trans (own_kkz (by decide))
        have q0 : s0_ = 2 := (hs0_.trans (if_pos a0)).trans ((hs1_.trans (if_pos a1)).trans (hs2_.trans (if_neg (by rw [a2]; decide))))
        have q1 : e4_ = 3 := (he4_.trans (if_pos a4)).trans ((he3_.trans (if_pos a3)).trans (he2_.trans (if_neg (by rw [a2]; decide))))
        exact ⟨q0.symm, q1.symm⟩
      · have a0 : ka_ = 0 := hka_.trans (own_kk0 (t3 0 (by decide)))
        have a1 : kb_ = 0 := hkb_.trans (own_kk0 (t3 1 (by decide)))
        have a2 : kc_ = 1 := hkc_.trans (own_kk1 (by decide) (t5 (by decide)))
        have a3 : kd_ = 1 := hkd_.trans (own_kk1 (by decide) (t6 (by decide)))
        have a4 : ke_ = 0 := hke_.trans (own_kkz (by decide))
        have q0 : s0_ = 2 := (hs0_.trans (if_pos a0)).trans ((hs1_.trans (if_pos a1)).trans (hs2_.trans (if_neg (by rw [a2]; decide))))
        have q1 : e4_ = 4 := (he4_.trans (if_pos a4)).trans (he3_.trans (if_neg (by rw [a3]; decide)))
        exact ⟨q0.symm, q1.symm⟩
    · rcases hj with rfl | rfl | rfl | rfl | rfl
      · exfalso; omega
      · exfalso; omega
      · exfalso; omega
      · exact absurd (t5 (by decide)) (t4 3 (by decide) (by decide))
      · have a0 : ka_ = 0 := hka_.trans (own_kk0 (t3 0 (by decide)))
        have a1 : kb_ = 0 := hkb_.trans (own_kk0 (t3 1 (by decide)))
        have a2 : kc_ = 0 := hkc_.trans (own_kk0 (t3 2 (by decide)))
        have a3 : kd_ = 1 := hkd_.trans (own_kk1 (by decide) (t5 (by decide)))
        have a4 : ke_ = 0 := hke_.trans (own_kkz (by decide))
        have q0 : s0_ = 3 := (hs0_.trans (if_pos a0)).trans ((hs1_.trans (if_pos a1)).trans ((hs2_.trans (if_pos a2)).trans (hs3_.trans (if_neg (by rw [a3]; decide)))))
        have q1 : e4_ = 4 := (he4_.trans (if_pos a4)).trans (he3_.trans (if_neg (by rw [a3]; decide)))
        exact ⟨q0.symm, q1.symm⟩
    · rcases hj with rfl | rfl | rfl | rfl | rfl
      · exfalso; omega
      · exfalso; omega
      · exfalso; omega
      · exfalso; omega
      · have a0 : ka_ = 0 := hka_.trans (own_kk0 (t3 0 (by decide)))
        have a1 : kb_ = 0 := hkb_.trans (own_kk0 (t3 1 (by decide)))
        have a2 : kc_ = 0 := hkc_.trans (own_kk0 (t3 2 (by decide)))
        have a3 : kd_ = 0 := hkd_.trans (own_kk0 (t3 3 (by decide)))
        have a4 : ke_ = 0 := hke_.trans (own_kkz (by decide))
        have q0 : s0_ = 4 := (hs0_.trans (if_pos a0)).trans ((hs1_.trans (if_pos a1)).trans ((hs2_.trans (if_pos a2)).trans ((hs3_.trans (if_pos a3)).trans (hs4_.trans (if_pos a4)))))
        have q1 : e4_ = 4 := (he4_.trans (if_pos a4)).trans ((he3_.trans (if_pos a3)).trans ((he2_.trans (if_pos a2)).trans ((he1_.trans (if_pos a1)).trans ((he0_.trans (if_pos a0)).trans q0))))
        exact ⟨q0.symm, q1.symm⟩
  · have ht' : own_tr [ya_, yb_, yc_, yd_, ye_] iN jN := ht
    obtain ⟨t1, t2, t3, t4, t5, t6⟩ := ht'
    simp only [List.length_cons, List.length_nil] at t2 t4 t5
    have hi : iN = 0 ∨ iN = 1 ∨ iN = 2 ∨ iN = 3 ∨ iN = 4 ∨ iN = 5 := by omega
    have hj : jN = 0 ∨ jN = 1 ∨ jN = 2 ∨ jN = 3 ∨ jN = 4 ∨ jN = 5 := by omega
    rcases hi with rfl | rfl | rfl | rfl | rfl | rfl
    · rcases hj with rfl | rfl | rfl | rfl | rfl | rfl
      · exact absurd (t5 (by decide)) (t4 0 (by decide) (by decide))
      · have a0 : ka_ = 1 := hka_.trans (own_kk1 (by decide) (t5 (by decide)))
        have a1 : kb_ = 0 := hkb_.trans (own_kk0 (t4 1 (by decide) (by decide)))
        have a2 : kc_ = 0 := hkc_.trans (own_kk0 (t4 2 (by decide) (by decide)))
        have a3 : kd_ = 0 := hkd_.trans (own_kk0 (t4 3 (by decide) (by decide)))
        have a4 : ke_ = 0 := hke_.trans (own_kk0 (t4 4 (by decide) (by decide)))
        have q0 : s0_ = 0 := hs0_.trans (if_neg (by rw [a0]; decide))
        have q1 : e4_ = 1 := (he4_.trans (if_pos a4)).trans ((he3_.trans (if_pos a3)).trans ((he2_.trans (if_pos a2)).trans ((he1_.trans (if_pos a1)).trans (he0_.trans (if_neg (by rw [a0]; decide))))))
        exact ⟨q0.symm, q1.symm⟩
      · have a0 : ka_ = 1 := hka_.trans (own_kk1 (by decide) (t5 (by decide)))
        have a1 : kb_ = 1 := hkb_.trans (own_kk1 (by decide) (t6 (by decide)))
        have a2 : kc_ = 0 := hkc_.trans (own_kk0 (t4 2 (by decide) (by decide)))
        have a3 : kd_ = 0 := hkd_.trans (own_kk0 (t4 3 (by decide) (by decide)))
        have a4 : ke_ = 0 := hke_.trans (own_kk0 (t4 4 (by decide) (by decide)))
        have q0 : s0_ = 0 := hs0_.trans (if_neg (by rw [a0]; decide))
        have q1 : e4_ = 2 := (he4_.trans (if_pos a4)).trans ((he3_.trans (if_pos a3)).trans ((he2_.trans (if_pos a2)).trans (he1_.trans (if_neg (by rw [a1]; decide)))))
        exact ⟨q0.symm, q1.symm⟩
      · have a0 : ka_ = 1 := hka_.trans (own_kk1 (by decide) (t5 (by decide)))
        have a2 : kc_ = 1 := hkc_.trans (own_kk1 (by decide) (t6 (by decide)))
        have a3 : kd_ = 0 := hkd_.trans (own_kk0 (t4 3 (by decide) (by decide)))
        have a4 : ke_ = 0 := hke_.trans (own_kk0 (t4 4 (by decide) (by decide)))
        have q0 : s0_ = 0 := hs0_.trans (if_neg (by rw [a0]; decide))
        have q1 : e4_ = 3 := (he4_.trans (if_pos a4)).trans ((he3_.trans (if_pos a3)).trans (he2_.trans (if_neg (by rw [a2]; decide))))
        exact ⟨q0.symm, q1.symm⟩
      · have a0 : ka_ = 1 := hka_.trans (own_kk1 (by decide) (t5 (by decide)))
        have a3 : kd_ = 1 := hkd_.trans (own_kk1 (by decide) (t6 (by decide)))
        have a4 : ke_ = 0 := hke_.trans (own_kk0 (t4 4 (by decide) (by decide)))
        have q0 : s0_ = 0 := hs0_.trans (if_neg (by rw [a0]; decide))
        have q1 : e4_ = 4 := (he4_.trans (if_pos a4)).trans (he3_.trans (if_neg (by rw [a3]; decide)))
        exact ⟨q0.symm, q1.symm⟩
      · have a0 : ka_ = 1 := hka_.trans (own_kk1 (by decide) (t5 (by decide)))
        have a4 : ke_ = 1 := hke_.trans (own_kk1 (by decide) (t6 (by decide)))
        have q0 : s0_ = 0 := hs0_.trans (if_neg (by rw [a0]; decide))
        have q1 : e4_ = 5 := he4_.trans (if_neg (by rw [a4]; decide))
        exact ⟨q0.symm, q1.symm⟩
    · rcases hj with rfl | rfl | rfl | rfl | rfl | rfl
      · exfalso; omega
      · exact absurd (t5 (by decide)) (t4 1 (by decide) (by decide))
      · have a0 : ka_ = 0 := hka_.trans (own_kk0 (t3 0 (by decide)))
        have a1 : kb_ = 1 := hkb_.trans (own_kk1 (by decide) (t5 (by decide)))
        have a2 : kc_ = 0 := hkc_.trans (own_kk0 (t4 2 (by decide) (by decide)))
        have a3 : kd_ = 0 := hkd_.trans (own_kk0 (t4 3 (by decide) (by decide)))
        have a4 : ke_ = 0 := hke_.trans (own_kk0 (t4 4 (by decide) (by decide)))
        have q0 : s0_ = 1 := (hs0_.trans (if_pos a0)).trans (hs1_.trans (if_neg (by rw [a1]; decide)))
        have q1 : e4_ = 2 := (he4_.trans (if_pos a4)).trans ((he3_.trans (if_pos a3)).trans ((he2_.trans (if_pos a2)).trans (he1_.trans (if_neg (by rw [a1]; decide)))))
        exact ⟨q0.symm, q1.symm⟩
      · have a0 : ka_ = 0 := hka_.trans (own_kk0 (t3 0 (by decide)))
        have a1 : kb_ = 1 := hkb_.trans (own_kk1 (by decide) (t5 (by decide)))
        have a2 : kc_ = 1 := hkc_.trans (own_kk1 (by decide) (t6 (by decide)))
        have a3 : kd_ = 0 := hkd_.trans (own_kk0 (t4 3 (by decide) (by decide)))
        have a4 : ke_ = 0 := hke_.trans (own_kk0 (t4 4 (by decide) (by decide)))
        have q0 : s0_ = 1 := (hs0_.trans (if_pos a0)).trans (hs1_.trans (if_neg (by rw [a1]; decide)))
        have q1 : e4_ = 3 := (he4_.trans (if_pos a4)).trans ((he3_.trans (if_pos a3)).trans (he2_.trans (if_neg (by rw [a2]; decide))))
        exact ⟨q0.symm, q1.symm⟩
      · have a0 : ka_ = 0 := hka_.trans (own_kk0 (t3 0 (by decide)))
        have a1 : kb_ = 1 := hkb_.trans (own_kk1 (by decide) (t5 (by decide)))
        have a3 : kd_ = 1 := hkd_.trans (own_kk1 (by decide) (t6 (by decide)))
        have a4 : ke_ = 0 := hke_.trans (own_kk0 (t4 4 (by decide) (by decide)))
        have q0 : s0_ = 1 := (hs0_.trans (if_pos a0)).trans (hs1_.trans (if_neg (by rw [a1]; decide)))
        have q1 : e4_ = 4 := (he4_.trans (if_pos a4)).trans (he3_.trans (if_neg (by rw [a3]; decide)))
        exact ⟨q0.symm, q1.symm⟩
      · have a0 : ka_ = 0 := hka_.trans (own_kk0 (t3 0 (by decide)))
        have a1 : kb_ = 1 := hkb_.trans (own_kk1 (by decide) (t5 (by decide)))
        have a4 : ke_ = 1 := hke_.trans (own_kk1 (by decide) (t6 (by decide)))
        have q0 : s0_ = 1 := (hs0_.trans (if_pos a0)).trans (hs1_.trans (if_neg (by rw [a1]; decide)))
        have q1 : e4_ = 5 := he4_.trans (if_neg (by rw [a4]; decide))
        exact ⟨q0.symm, q1.symm⟩
    · rcases hj with rfl | rfl | rfl | rfl | rfl | rfl
      · exfalso; omega
      · exfalso; omega
      · exact absurd (t5 (by decide)) (t4 2 (by decide) (by decide))
      · have a0 : ka_ = 0 := hka_.trans (own_kk0 (t3 0 (by decide)))
        have a1 : kb_ = 0 := hkb_.trans (own_kk0 (t3 1 (by decide)))
        have a2 : kc_ = 1 := hkc_.trans (own_kk1 (by decide) (t5 (by decide)))
        have a3 : kd_ = 0 := hkd_.trans (own_kk0 (t4 3 (by decide) (by decide)))
        have a4 : ke_ = 0 := hke_.trans (own_kk0 (t4 4 (by decide) (by decide)))
        have q0 : s0_ = 2 := (hs0_.trans (if_pos a0)).trans ((hs1_.trans (if_pos a1)).trans (hs2_.trans (if_neg (by rw [a2]; decide))))
        have q1 : e4_ = 3 := (he4_.trans (if_pos a4)).trans ((he3_.trans (if_pos a3)).trans (he2_.trans (if_neg (by rw [a2]; decide))))
        exact ⟨q0.symm, q1.symm⟩
      · have a0 : ka_ = 0 := hka_.trans (own_kk0 (t3 0 (by decide)))
        have a1 : kb_ = 0 := hkb_.trans (own_kk0 (t3 1 (by decide)))
        have a2 : kc_ = 1 := hkc_.trans (own_kk1 (by decide) (t5 (by decide)))
        have a3 : kd_ = 1 := hkd_.trans (own_kk1 (by decide) (t6 (by decide)))
        have a4 : ke_ = 0 := hke_.trans (own_kk0 (t4 4 (by decide) (by decide)))
        have q0 : s0_ = 2 := (hs0_.trans (if_pos a0)).trans ((hs1_.trans (if_pos a1)).trans (hs2_.trans (if_neg (by rw [a2]; decide))))
        have q1 : e4_ = 4 := (he4_.trans (if_pos a4)).trans (he3_.trans (if_neg (by rw [a3]; decide)))
        exact ⟨q0.symm, q1.symm⟩
      · have a0 : ka_ = 0 := hka_.trans (own_kk0 (t3 0 (by decide)))
        have a1 : kb_ = 0 := hkb_.trans (own_kk0 (t3 1 (by decide)))
        have a2 : kc_ = 1 := hkc_.trans (own_kk1 (by decide) (t5 (by decide)))
        have a4 : ke_ = 1 := hke_.trans (own_kk1 (by decide) (t6 (by decide)))
        have q0 : s0_ = 2 := (hs0_.trans (if_pos a0)).trans ((hs1_.trans (if_pos a1)).trans (hs2_.trans (if_neg (by rw [a2]; decide))))
        have q1 : e4_ = 5 := he4_.trans (if_neg (by rw [a4]; decide))
        exact ⟨q0.symm, q1.symm⟩
    · rcases hj with rfl | rfl | rfl | rfl | rfl | rfl
      · exfalso; omega
      · exfalso; omega
      · exfalso; omega
      · exact absurd (t5 (by decide)) (t4 3 (by decide) (by decide))
      · have a0 : ka_ = 0 := hka_.trans (own_kk0 (t3 0 (by decide)))
        have a1 : kb_ = 0 := hkb_.trans (own_kk0 (t3 1 (by decide)))
        have a2 : kc_ = 0 := hkc_.trans (own_kk0 (t3 2 (by decide)))
        have a3 : kd_ = 1 := hkd_.trans (own_kk1 (by decide) (t5 (by decide)))
        have a4 : ke_ = 0 := hke_.trans (own_kk0 (t4 4 (by decide) (by decide)))
        have q0 : s0_ = 3 := (hs0_.trans (if_pos a0)).trans ((hs1_.trans (if_pos a1)).trans ((hs2_.trans (if_pos a2)).trans (hs3_.trans (if_neg (by rw [a3]; decide)))))
        have q1 : e4_ = 4 := (he4_.trans (if_pos a4)).trans (he3_.trans (if_neg (by rw [a3]; decide)))
        exact ⟨q0.symm, q1.symm⟩
      · have a0 : ka_ = 0 := hka_.trans (own_kk0 (t3 0 (by decide)))
        have a1 : kb_ = 0 := hkb_.trans (own_kk0 (t3 1 (by decide)))
        have a2 : kc_ = 0 := hkc_.trans (own_kk0 (t3 2 (by decide)))
        have a3 : kd_ = 1 := hkd_.trans (own_kk1 (by decide) (t5 (by decide)))
        have a4 : ke_ = 1 := hke_.trans (own_kk1 (by decide) (t6 (by decide)))
        have q0 : s0_ = 3 := (hs0_.trans (if_pos a0)).trans ((hs1_.trans (if_pos a1)).trans ((hs2_.trans (if_pos a2)).trans (hs3_.trans (if_neg (by rw [a3]; decide)))))
        have q1 : e4_ = 5 := he4_.trans (if_neg (by rw [a4]; decide))
        exact ⟨q0.symm, q1.symm⟩
    · rcases hj with rfl | rfl | rfl | rfl | rfl | rfl
      · exfalso; omega
      · exfalso; omega
      · exfalso; omega
      · exfalso; omega
      · exact absurd (t5 (by decide)) (t4 4 (by decide) (by decide))
      · have a0 : ka_ = 0 := hka_.trans (own_kk0 (t3 0 (by decide)))
        have a1 : kb_ = 0 := hkb_.trans (own_kk0 (t3 1 (by decide)))
        have a2 : kc_ = 0 := hkc_.trans (own_kk0 (t3 2 (by decide)))
        have a3 : kd_ = 0 := hkd_.trans (own_kk0 (t3 3 (by decide)))
        have a4 : ke_ = 1 := hke_.trans (own_kk1 (by decide) (t5 (by decide)))
        have q0 : s0_ = 4 := (hs0_.trans (if_pos a0)).trans ((hs1_.trans (if_pos a1)).trans ((hs2_.trans (if_pos a2)).trans ((hs3_.trans (if_pos a3)).trans (hs4_.trans (if_neg (by rw [a4]; decide))))))
        have q1 : e4_ = 5 := he4_.trans (if_neg (by rw [a4]; decide))
        exact ⟨q0.symm, q1.symm⟩
    · rcases hj with rfl | rfl | rfl | rfl | rfl | rfl
      · exfalso; omega
      · exfalso; omega
      · exfalso; omega
      · exfalso; omega
      · exfalso; omega
      · have a0 : ka_ = 0 := hka_.trans (own_kk0 (t3 0 (by decide)))
        have a1 : kb_ = 0 := hkb_.trans (own_kk0 (t3 1 (by decide)))
        have a2 : kc_ = 0 := hkc_.trans (own_kk0 (t3 2 (by decide)))
        have a3 : kd_ = 0 := hkd_.trans (own_kk0 (t3 3 (by decide)))
        have a4 : ke_ = 0 := hke_.trans (own_kk0 (t3 4 (by decide)))
        have q0 : s0_ = 5 := (hs0_.trans (if_pos a0)).trans ((hs1_.trans (if_pos a1)).trans ((hs2_.trans (if_pos a2)).trans ((hs3_.trans (if_pos a3)).trans (hs4_.trans (if_pos a4)))))
        have q1 : e4_ = 5 := (he4_.trans (if_pos a4)).trans ((he3_.trans (if_pos a3)).trans ((he2_.trans (if_pos a2)).trans ((he1_.trans (if_pos a1)).trans ((he0_.trans (if_pos a0)).trans q0))))
        exact ⟨q0.symm, q1.symm⟩
theorem own_tkg {z_ ya_ yb_ yc_ yd_ ye_ : Int32} {k : Nat} (hz0 : ¬ z_ < 0) (hz5 : ¬ (5 : Int32) < z_) (h : k < (own_tk z_ ya_ yb_ yc_ yd_ ye_).length) : (own_tk z_ ya_ yb_ yc_ yd_ ye_).getD k 0 = [ya_, yb_, yc_, yd_, ye_].getD k 0 ∧ k < 5 := by
  have h5 : k < 5 := Nat.lt_of_lt_of_le h (own_tkn _ _ _ _ _ hz0 hz5).2
  refine ⟨?_, h5⟩
  have hk : k = 0 ∨ k = 1 ∨ k = 2 ∨ k = 3 ∨ k = 4 := by omega
  rcases own_z5 hz0 hz5 with rfl | rfl | rfl | rfl | rfl | rfl
  · have h' : k < 0 := h
    rcases hk with rfl | rfl | rfl | rfl | rfl <;> first | rfl | (exfalso; omega)
  · have h' : k < 1 := h
    rcases hk with rfl | rfl | rfl | rfl | rfl <;> first | rfl | (exfalso; omega)
  · have h' : k < 2 := h
    rcases hk with rfl | rfl | rfl | rfl | rfl <;> first | rfl | (exfalso; omega)
  · have h' : k < 3 := h
    rcases hk with rfl | rfl | rfl | rfl | rfl <;> first | rfl | (exfalso; omega)
  · have h' : k < 4 := h
    rcases hk with rfl | rfl | rfl | rfl | rfl <;> first | rfl | (exfalso; omega)
  · have h' : k < 5 := h
    rcases hk with rfl | rfl | rfl | rfl | rfl <;> first | rfl | (exfalso; omega)
theorem own_fin {z_ ya_ yb_ yc_ yd_ ye_ : Int32} {s0_ e4_ : Int32} {iN jN : Nat} (hz0 : ¬ z_ < 0) (hz5 : ¬ (5 : Int32) < z_) (ht : own_tr (own_tk z_ ya_ yb_ yc_ yd_ ye_) iN jN) (h : Int32.ofNat iN = s0_ ∧ Int32.ofNat jN = e4_) : Int32.ofNat iN = s0_ ∧ Int32.ofNat jN = e4_ ∧ ∀ i, i < jN - iN → (own_sub (own_tk z_ ya_ yb_ yc_ yd_ ye_) iN (jN - iN)).getD i 0 = [ya_, yb_, yc_, yd_, ye_].getD (iN + i) 0 ∧ iN + i < 5 :=
  ⟨h.1, h.2, fun i hi => by rw [own_sub_get hi]; exact own_tkg hz0 hz5 (by have q : jN ≤ (own_tk z_ ya_ yb_ yc_ yd_ ye_).length := ht.2.1; omega)⟩
theorem own_pd27 : parseMethodDescriptor "(ICCCCC)Ljava/lang/String;" = some ⟨[.int, .char, .char, .char, .char, .char], some (.object "java/lang/String")⟩ := by decide +kernel
theorem own_pd28 : parseMethodDescriptor "(Ljava/lang/String;)Ljava/lang/String;" = some ⟨[(.object "java/lang/String")], some (.object "java/lang/String")⟩ := by decide +kernel
theorem own_pd29 : parseMethodDescriptor "(Ljava/lang/String;I[CI)Z" = some ⟨[(.object "java/lang/String"), .int, (.array .char), .int], some .boolean⟩ := by decide +kernel
def Q_law (Z : State) (h0 : Heap) (n0 : Nat) (v : Option Value) (h : Heap) (L : List Loc) : Prop := v = some (.int 1) ∧ Fr n0 L
set_option maxRecDepth 65536 in
set_option maxHeartbeats 40000000 in
theorem rm_law (l : Launch) (Z : State) (a0 : Array Value) (hw : ∀ d ∈ tables_1, d.before a0 Z = true) (ws : List Jvm.Cond) (x0 : Int32) (x1 : Int32) (x2 : Int32) (x3 : Int32) (x4 : Int32) (x5 : Int32) (i_COMPACT_STRINGS : Int32) (v_SIOOBE_FORMATTER : Value) (h0 : Heap) (n0 : Nat) (Z0 : n0 ≤ h0.size) (S_COMPACT_STRINGS : Sta Z h0 "java/lang/String" "COMPACT_STRINGS" "Z" (.int i_COMPACT_STRINGS)) (S_SIOOBE_FORMATTER : Sta Z h0 "jdk/internal/util/Preconditions" "SIOOBE_FORMATTER" "Ljava/util/function/BiFunction;" v_SIOOBE_FORMATTER) (S__assertionsDisabled : Sta Z h0 "java/lang/StringUTF16" "$assertionsDisabled" "Z" (.int (1 : Int32))) (S_HI_BYTE_SHIFT : Sta Z h0 "java/lang/StringUTF16" "HI_BYTE_SHIFT" "I" (.int (0 : Int32))) (S_LO_BYTE_SHIFT : Sta Z h0 "java/lang/StringUTF16" "LO_BYTE_SHIFT" "I" (.int (8 : Int32))) (hs_COMPACT_STRINGS : ¬ (i_COMPACT_STRINGS = (0 : Int32))) (hv_SIOOBE_FORMATTER : v_SIOOBE_FORMATTER.isRef = true) :
    MetFree l x (head1 (Jvm.Cond.code x code maxLocals ret :: ws) room_1) (fun aA U => aA = #[(.int x0), (.int x1), (.int x2), (.int x3), (.int x4), (.int x5)] ∧ Z.Warmed39 U.vm ∧ U.heap = h0 ∧ CHv Z own_EL U.vm h0) (fun _ _ _ _ _ => True) (fun _ U o U' => ∃ v L, o = .returned v ∧ Q_law Z h0 n0 v U'.heap L ∧ CHr Z own_EL U.vm U.heap U'.vm U'.heap ∧ ReturnedEndW U o U' L room_1.cells room_1.slots) := by
  refine MetFree.of_bodySF (plainFor_of_name own_pn_com_example_ruleweave_ruleweave_XmlDocumentsTrimPinLaw) hisR ?_
  intro p e s m args below meth c s₁ Bd hml0 hP hK
  obtain ⟨rfl, hZ, hh, hC0⟩ := hP
  have hx := Bd.exec
  have hby := Bd.bytes
  have hlk : meth.locks = false := BodyLoose.notSynchronized Bd
  have hml : c.maxLocals = 22 := hml0
  have hown : s.vm.findClass "com/example/ruleweave/ruleweave/XmlDocumentsTrimPinLaw" = some m.cls := findClass_of_methodNamed Bd.named
  have hnm := (name_of_methodNamed Bd.named Bd.method).1
  have X0 : Stand p l e room_1 (s.setVm s.vm) m #[(.int x0), (.int x1), (.int x2), (.int x3), (.int x4), (.int x5)] below meth c s₁ [] 0 0 := Stand.of_body Bd
  have e0 : s₁.heap = h0 := by rw [← hh, Bd.state]; rfl
  have N0 := Fr.nil n0
  have hS : s.Since s.vm 0 := (State.WarmedH.refl s).since 0
  have hk := Nat.zero_le h0.size
  have hEL : EW Z a0 own_EL := own_ew hw
  have A0 : CHr Z own_EL s.vm h0 s.vm h0 := CHr.refl hC0
  have K0 : Keep h0 h0 [] := Keep.refl _ _
  show oG p e below (own_KW Z own_EL s (Q_law Z h0 n0) room_1.cells room_1.slots) (s₁.setTop (entryFrame m #[(.int x0), (.int x1), (.int x2), (.int x3), (.int x4), (.int x5)] maxLocals))
  rw [(by first | (simp [entryFrame, mkF, argsToLocals, Value.category, maxLocals]; done) | rfl : entryFrame m #[(.int x0), (.int x1), (.int x2), (.int x3), (.int x4), (.int x5)] maxLocals = mkF m 0 #[.val (.int x0), .val (.int x1), .val (.int x2), .val (.int x3), .val (.int x4), .val (.int x5), .unset, .unset, .unset, .unset, .unset, .unset, .unset, .unset, .unset, .unset, .unset, .unset, .unset, .unset, .unset, .unset] [])]
  show oG p e below _ (s₁.setTop (mkF m 0 #[.val (.int x0), .val (.int x1), .val (.int x2), .val (.int x3), .val (.int x4), .val (.int x5), .unset, .unset, .unset, .unset, .unset, .unset, .unset, .unset, .unset, .unset, .unset, .unset, .unset, .unset, .unset, .unset] []))
  refine og (fun _ hr => XS.iloadN X0.here hx rfl (hb hby at_0) rfl hr) ?_
  show oG p e below _ (s₁.setTop (mkF m 1 #[.val (.int x0), .val (.int x1), .val (.int x2), .val (.int x3), .val (.int x4), .val (.int x5), .unset, .unset, .unset, .unset, .unset, .unset, .unset, .unset, .unset, .unset, .unset, .unset, .unset, .unset, .unset, .unset] [(.int x0)]))
  refine og (X0.ldcInt hx hown (mvT hZ (hw _ (own_m 0 rfl))) rfl (hb hby at_1)) ?_
  show oG p e below _ (s₁.setTop (mkF m 3 #[.val (.int x0), .val (.int x1), .val (.int x2), .val (.int x3), .val (.int x4), .val (.int x5), .unset, .unset, .unset, .unset, .unset, .unset, .unset, .unset, .unset, .unset, .unset, .unset, .unset, .unset, .unset, .unset] [(.int (2147483647 : Int32)), (.int x0)]))
  refine og (fun _ hr => XS.iand X0.here hx rfl (hb hby at_3) rfl (XS.bipush X0.here hx rfl (hb hby at_4) hr)) ?_
  show oG p e below _ (s₁.setTop (mkF m 6 #[.val (.int x0), .val (.int x1), .val (.int x2), .val (.int x3), .val (.int x4), .val (.int x5), .unset, .unset, .unset, .unset, .unset, .unset, .unset, .unset, .unset, .unset, .unset, .unset, .unset, .unset, .unset, .unset] [(.int (6 : Int32)), (.int (x0 &&& (2147483647 : Int32)))]))
  have nz1 : (6 : Int32) ≠ (0 : Int32) := by decide
  refine og (fun _ hr => iremM X0 hx rfl (hb hby at_6) rfl nz1 hr) ?_
  show oG p e below _ (s₁.setTop (mkF m 7 #[.val (.int x0), .val (.int x1), .val (.int x2), .val (.int x3), .val (.int x4), .val (.int x5), .unset, .unset, .unset, .unset, .unset, .unset, .unset, .unset, .unset, .unset, .unset, .unset, .unset, .unset, .unset, .unset] [(.int ((x0 &&& (2147483647 : Int32)) % (6 : Int32)))]))
  refine og (fun _ hr => XS.istore X0.here hx rfl (hb hby at_7) rfl (l' := #[.val (.int x0), .val (.int x1), .val (.int x2), .val (.int x3), .val (.int x4), .val (.int x5), .val (.int ((x0 &&& (2147483647 : Int32)) % (6 : Int32))), .unset, .unset, .unset, .unset, .unset, .unset, .unset, .unset, .unset, .unset, .unset, .unset, .unset, .unset, .unset]) rfl hr) ?_
  show oG p e below _ (s₁.setTop (mkF m 9 #[.val (.int x0), .val (.int x1), .val (.int x2), .val (.int x3), .val (.int x4), .val (.int x5), .val (.int ((x0 &&& (2147483647 : Int32)) % (6 : Int32))), .unset, .unset, .unset, .unset, .unset, .unset, .unset, .unset, .unset, .unset, .unset, .unset, .unset, .unset, .unset] []))
  generalize hz_ : ((x0 &&& (2147483647 : Int32)) % (6 : Int32)) = z_
  refine og (fun _ hr => XS.iloadN X0.here hx rfl (hb hby at_9) rfl hr) ?_
  show oG p e below _ (s₁.setTop (mkF m 10 #[.val (.int x0), .val (.int x1), .val (.int x2), .val (.int x3), .val (.int x4), .val (.int x5), .val (.int z_), .unset, .unset, .unset, .unset, .unset, .unset, .unset, .unset, .unset, .unset, .unset, .unset, .unset, .unset, .unset] [(.int x1)]))
  refine own_cs X0 hx hZ hown (hw _ (own_m 1 rfl)) (hw _ (own_m 2 rfl)) (hw _ (own_m 3 rfl)) (hw _ (own_m 4 rfl)) (by decide) (rm := { frames := 0, cells := 0, slots := 0, locals := 0 }) (rm_draw l Z a0 hw [] x1 h0 n0 Z0 ) (by decide) (W := 0) (by decide) (by decide) (by decide) e0 (by rw [hml]; rfl) (argsL := [(.int x1)]) (lenOf own_pd1 rfl) (rest := []) rfl rfl (Nat.le_of_eq rfl) (hb hby at_10) ?_
  intro _ T2 L2 X2 hQ2
  obtain ⟨rfl, N2q, e2⟩ := hQ2
  have N2 := Fr.app N0 N2q
  show oG p e below _ (T2.setTop (mkF m 13 #[.val (.int x0), .val (.int x1), .val (.int x2), .val (.int x3), .val (.int x4), .val (.int x5), .val (.int z_), .unset, .unset, .unset, .unset, .unset, .unset, .unset, .unset, .unset, .unset, .unset, .unset, .unset, .unset, .unset] [(.int (own_draw x1))]))
  refine og (fun _ hr => XS.istore X2.here hx rfl (hb hby at_13) rfl (l' := #[.val (.int x0), .val (.int x1), .val (.int x2), .val (.int x3), .val (.int x4), .val (.int x5), .val (.int z_), .val (.int (own_draw x1)), .unset, .unset, .unset, .unset, .unset, .unset, .unset, .unset, .unset, .unset, .unset, .unset, .unset, .unset]) rfl hr) ?_
  show oG p e below _ (T2.setTop (mkF m 15 #[.val (.int x0), .val (.int x1), .val (.int x2), .val (.int x3), .val (.int x4), .val (.int x5), .val (.int z_), .val (.int (own_draw x1)), .unset, .unset, .unset, .unset, .unset, .unset, .unset, .unset, .unset, .unset, .unset, .unset, .unset, .unset] []))
  generalize hya_ : (own_draw x1) = ya_
  refine og (fun _ hr => XS.iloadN X2.here hx rfl (hb hby at_15) rfl hr) ?_
  show oG p e below _ (T2.setTop (mkF m 16 #[.val (.int x0), .val (.int x1), .val (.int x2), .val (.int x3), .val (.int x4), .val (.int x5), .val (.int z_), .val (.int ya_), .unset, .unset, .unset, .unset, .unset, .unset, .unset, .unset, .unset, .unset, .unset, .unset, .unset, .unset] [(.int x2)]))
  refine own_cs X2 hx hZ hown (hw _ (own_m 1 rfl)) (hw _ (own_m 2 rfl)) (hw _ (own_m 3 rfl)) (hw _ (own_m 4 rfl)) (by decide) (rm := { frames := 0, cells := 0, slots := 0, locals := 0 }) (rm_draw l Z a0 hw [] x2 h0 n0 Z0 ) (by decide) (W := 0) (by decide) (by decide) (by decide) e2 (by rw [hml]; rfl) (argsL := [(.int x2)]) (lenOf own_pd1 rfl) (rest := []) rfl rfl (Nat.le_of_eq rfl) (hb hby at_16) ?_
  intro _ T3 L3 X3 hQ3
  obtain ⟨rfl, N3q, e3⟩ := hQ3
  have N3 := Fr.app N2 N3q
  show oG p e below _ (T3.setTop (mkF m 19 #[.val (.int x0), .val (.int x1), .val (.int x2), .val (.int x3), .val (.int x4), .val (.int x5), .val (.int z_), .val (.int ya_), .unset, .unset, .unset, .unset, .unset, .unset, .unset, .unset, .unset, .unset, .unset, .unset, .unset, .unset] [(.int (own_draw x2))]))
  refine og (fun _ hr => XS.istore X3.here hx rfl (hb hby at_19) rfl (l' := #[.val (.int x0), .val (.int x1), .val (.int x2), .val (.int x3), .val (.int x4), .val (.int x5), .val (.int z_), .val (.int ya_), .val (.int (own_draw x2)), .unset, .unset, .unset, .unset, .unset, .unset, .unset, .unset, .unset, .unset, .unset, .unset, .unset]) rfl hr) ?_
  show oG p e below _ (T3.setTop (mkF m 21 #[.val (.int x0), .val (.int x1), .val (.int x2), .val (.int x3), .val (.int x4), .val (.int x5), .val (.int z_), .val (.int ya_), .val (.int (own_draw x2)), .unset, .unset, .unset, .unset, .unset, .unset, .unset, .unset, .unset, .unset, .unset, .unset, .unset] []))
  generalize hyb_ : (own_draw x2) = yb_
  refine og (fun _ hr => XS.iloadN X3.here hx rfl (hb hby at_21) rfl hr) ?_
  show oG p e below _ (T3.setTop (mkF m 22 #[.val (.int x0), .val (.int x1), .val (.int x2), .val (.int x3), .val (.int x4), .val (.int x5), .val (.int z_), .val (.int ya_), .val (.int yb_), .unset, .unset, .unset, .unset, .unset, .unset, .unset, .unset, .unset, .unset, .unset, .unset, .unset] [(.int x3)]))
  refine own_cs X3 hx hZ hown (hw _ (own_m 1 rfl)) (hw _ (own_m 2 rfl)) (hw _ (own_m 3 rfl)) (hw _ (own_m 4 rfl)) (by decide) (rm := { frames := 0, cells := 0, slots := 0, locals := 0 }) (rm_draw l Z a0 hw [] x3 h0 n0 Z0 ) (by decide) (W := 0) (by decide) (by decide) (by decide) e3 (by rw [hml]; rfl) (argsL := [(.int x3)]) (lenOf own_pd1 rfl) (rest := []) rfl rfl (Nat.le_of_eq rfl) (hb hby at_22) ?_
  intro _ T4 L4 X4 hQ4
  obtain ⟨rfl, N4q, e4⟩ := hQ4
  have N4 := Fr.app N3 N4q
  show oG p e below _ (T4.setTop (mkF m 25 #[.val (.int x0), .val (.int x1), .val (.int x2), .val (.int x3), .val (.int x4), .val (.int x5), .val (.int z_), .val (.int ya_), .val (.int yb_), .unset, .unset, .unset, .unset, .unset, .unset, .unset, .unset, .unset, .unset, .unset, .unset, .unset] [(.int (own_draw x3))]))
  refine og (fun _ hr => XS.istore X4.here hx rfl (hb hby at_25) rfl (l' := #[.val (.int x0), .val (.int x1), .val (.int x2), .val (.int x3), .val (.int x4), .val (.int x5), .val (.int z_), .val (.int ya_), .val (.int yb_), .val (.int (own_draw x3)), .unset, .unset, .unset, .unset, .unset, .unset, .unset, .unset, .unset, .unset, .unset, .unset]) rfl hr) ?_
  show oG p e below _ (T4.setTop (mkF m 27 #[.val (.int x0), .val (.int x1), .val (.int x2), .val (.int x3), .val (.int x4), .val (.int x5), .val (.int z_), .val (.int ya_), .val (.int yb_), .val (.int (own_draw x3)), .unset, .unset, .unset, .unset, .unset, .unset, .unset, .unset, .unset, .unset, .unset, .unset] []))
  generalize hyc_ : (own_draw x3) = yc_
  refine og (fun _ hr => XS.iload X4.here hx rfl (hb hby at_27) rfl hr) ?_
  show oG p e below _ (T4.setTop (mkF m 29 #[.val (.int x0), .val (.int x1), .val (.int x2), .val (.int x3), .val (.int x4), .val (.int x5), .val (.int z_), .val (.int ya_), .val (.int yb_), .val (.int yc_), .unset, .unset, .unset, .unset, .unset, .unset, .unset, .unset, .unset, .unset, .unset, .unset] [(.int x4)]))
  refine own_cs X4 hx hZ hown (hw _ (own_m 1 rfl)) (hw _ (own_m 2 rfl)) (hw _ (own_m 3 rfl)) (hw _ (own_m 4 rfl)) (by decide) (rm := { frames := 0, cells := 0, slots := 0, locals := 0 }) (rm_draw l Z a0 hw [] x4 h0 n0 Z0 ) (by decide) (W := 0) (by decide) (by decide) (by decide) e4 (by rw [hml]; rfl) (argsL := [(.int x4)]) (lenOf own_pd1 rfl) (rest := []) rfl rfl (Nat.le_of_eq rfl) (hb hby at_29) ?_
  intro _ T5 L5 X5 hQ5
  obtain ⟨rfl, N5q, e5⟩ := hQ5
  have N5 := Fr.app N4 N5q
  show oG p e below _ (T5.setTop (mkF m 32 #[.val (.int x0), .val (.int x1), .val (.int x2), .val (.int x3), .val (.int x4), .val (.int x5), .val (.int z_), .val (.int ya_), .val (.int yb_), .val (.int yc_), .unset, .unset, .unset, .unset, .unset, .unset, .unset, .unset, .unset, .unset, .unset, .unset] [(.int (own_draw x4))]))
  refine og (fun _ hr => XS.istore X5.here hx rfl (hb hby at_32) rfl (l' := #[.val (.int x0), .val (.int x1), .val (.int x2), .val (.int x3), .val (.int x4), .val (.int x5), .val (.int z_), .val (.int ya_), .val (.int yb_), .val (.int yc_), .val (.int (own_draw x4)), .unset, .unset, .unset, .unset, .unset, .unset, .unset, .unset, .unset, .unset, .unset]) rfl hr) ?_
  show oG p e below _ (T5.setTop (mkF m 34 #[.val (.int x0), .val (.int x1), .val (.int x2), .val (.int x3), .val (.int x4), .val (.int x5), .val (.int z_), .val (.int ya_), .val (.int yb_), .val (.int yc_), .val (.int (own_draw x4)), .unset, .unset, .unset, .unset, .unset, .unset, .unset, .unset, .unset, .unset, .unset] []))
  generalize hyd_ : (own_draw x4) = yd_
  refine og (fun _ hr => XS.iload X5.here hx rfl (hb hby at_34) rfl hr) ?_
  show oG p e below _ (T5.setTop (mkF m 36 #[.val (.int x0), .val (.int x1), .val (.int x2), .val (.int x3), .val (.int x4), .val (.int x5), .val (.int z_), .val (.int ya_), .val (.int yb_), .val (.int yc_), .val (.int yd_), .unset, .unset, .unset, .unset, .unset, .unset, .unset, .unset, .unset, .unset, .unset] [(.int x5)]))
  refine own_cs X5 hx hZ hown (hw _ (own_m 1 rfl)) (hw _ (own_m 2 rfl)) (hw _ (own_m 3 rfl)) (hw _ (own_m 4 rfl)) (by decide) (rm := { frames := 0, cells := 0, slots := 0, locals := 0 }) (rm_draw l Z a0 hw [] x5 h0 n0 Z0 ) (by decide) (W := 0) (by decide) (by decide) (by decide) e5 (by rw [hml]; rfl) (argsL := [(.int x5)]) (lenOf own_pd1 rfl) (rest := []) rfl rfl (Nat.le_of_eq rfl) (hb hby at_36) ?_
  intro _ T6 L6 X6 hQ6
  obtain ⟨rfl, N6q, e6⟩ := hQ6
  have N6 := Fr.app N5 N6q
  show oG p e below _ (T6.setTop (mkF m 39 #[.val (.int x0), .val (.int x1), .val (.int x2), .val (.int x3), .val (.int x4), .val (.int x5), .val (.int z_), .val (.int ya_), .val (.int yb_), .val (.int yc_), .val (.int yd_), .unset, .unset, .unset, .unset, .unset, .unset, .unset, .unset, .unset, .unset, .unset] [(.int (own_draw x5))]))
  refine og (fun _ hr => XS.istore X6.here hx rfl (hb hby at_39) rfl (l' := #[.val (.int x0), .val (.int x1), .val (.int x2), .val (.int x3), .val (.int x4), .val (.int x5), .val (.int z_), .val (.int ya_), .val (.int yb_), .val (.int yc_), .val (.int yd_), .val (.int (own_draw x5)), .unset, .unset, .unset, .unset, .unset, .unset, .unset, .unset, .unset, .unset]) rfl hr) ?_
  show oG p e below _ (T6.setTop (mkF m 41 #[.val (.int x0), .val (.int x1), .val (.int x2), .val (.int x3), .val (.int x4), .val (.int x5), .val (.int z_), .val (.int ya_), .val (.int yb_), .val (.int yc_), .val (.int yd_), .val (.int (own_draw x5)), .unset, .unset, .unset, .unset, .unset, .unset, .unset, .unset, .unset, .unset] []))
  generalize hye_ : (own_draw x5) = ye_
  refine og (fun _ hr => XS.iconst X6.here hx rfl (hb hby at_41) hr) ?_
  show oG p e below _ (T6.setTop (mkF m 42 #[.val (.int x0), .val (.int x1), .val (.int x2), .val (.int x3), .val (.int x4), .val (.int x5), .val (.int z_), .val (.int ya_), .val (.int yb_), .val (.int yc_), .val (.int yd_), .val (.int ye_), .unset, .unset, .unset, .unset, .unset, .unset, .unset, .unset, .unset, .unset] [(.int (5 : Int32))]))
  obtain ⟨T7, h7, k7, X7, e7, E7, A7, EA7, st7⟩ := newPE X6 hx hZ (hw _ (own_m 5 rfl)) e6 (g := (mkF m 42 #[.val (.int x0), .val (.int x1), .val (.int x2), .val (.int x3), .val (.int x4), .val (.int x5), .val (.int z_), .val (.int ya_), .val (.int yb_), .val (.int yc_), .val (.int yd_), .val (.int ye_), .unset, .unset, .unset, .unset, .unset, .unset, .unset, .unset, .unset, .unset] [(.int (5 : Int32))])) rfl (hb hby at_42) rfl (by decide) (cap := 5) (by decide) (by decide) (by decide) (by decide) (ad := "[C") (by decide)
  obtain ⟨b7, g7⟩ : ∃ z, z = h0.size := ⟨_, rfl⟩
  rw [← g7] at A7 EA7 st7
  have ge8 : n0 ≤ b7 := Nat.le_trans Z0 (Nat.le_of_eq g7.symm)
  have sz9 : h0.size ≤ b7 := Nat.le_trans K0.1 (Nat.le_of_eq g7.symm)
  refine og st7 ?_
  have f10 : Arv Z h7 b7 k7 .char (5 : Int32) [(.int (0 : Int32)), (.int (0 : Int32)), (.int (0 : Int32)), (.int (0 : Int32)), (.int (0 : Int32))] (.int (0 : Int32)) := (Arv.new A7 (by decide)).pad (pad_rep [] (.int (0 : Int32)) 5)
  show oG p e below _ (T7.setTop (mkF m 44 #[.val (.int x0), .val (.int x1), .val (.int x2), .val (.int x3), .val (.int x4), .val (.int x5), .val (.int z_), .val (.int ya_), .val (.int yb_), .val (.int yc_), .val (.int yd_), .val (.int ye_), .unset, .unset, .unset, .unset, .unset, .unset, .unset, .unset, .unset, .unset] [(.ref b7)]))
  refine og (fun _ hr => XS.dup X7.here hx rfl (hb hby at_44) rfl rfl (XS.iconst X7.here hx rfl (hb hby at_45) (XS.iload X7.here hx rfl (hb hby at_46) rfl hr))) ?_
  show oG p e below _ (T7.setTop (mkF m 48 #[.val (.int x0), .val (.int x1), .val (.int x2), .val (.int x3), .val (.int x4), .val (.int x5), .val (.int z_), .val (.int ya_), .val (.int yb_), .val (.int yc_), .val (.int yd_), .val (.int ye_), .unset, .unset, .unset, .unset, .unset, .unset, .unset, .unset, .unset, .unset] [(.int ya_), (.int (0 : Int32)), (.ref b7), (.ref b7)]))
  have c12 : (nar .char ya_) = ya_ := by
    have q0 := rng32 x1
    have q1 := own_draw_v x1
    have q2 := congrArg Int32.toInt hya_
    have q3 := (show ((nar .char ya_).toInt - ya_.toInt) % 65536 = 0 ∧ 0 ≤ (nar .char ya_).toInt ∧ (nar .char ya_).toInt < 65536 from c_i2c ya_)
    simp only [true_implies, Int32.lt_iff_toInt_lt, ← Int32.toInt_inj, Int32.reduceToInt, Int64.lt_iff_toInt_lt, ← Int64.toInt_inj, Int64.reduceToInt] at q0 q1 q2 q3 ⊢
    omega
  refine own_stC X7 hx hZ e7 f10 (0 : Int32) ya_ ya_ 0 ⟨by decide, by decide⟩ rfl (Nat.le_of_ble_eq_true rfl) c12 [(.int ya_), (.int (0 : Int32)), (.int (0 : Int32)), (.int (0 : Int32)), (.int (0 : Int32))] rfl N6 ge8 (hb hby at_48) ?_
  intro T11 h11 L11 X11 e11 W11 N11 f11
  show oG p e below _ (T11.setTop (mkF m 49 #[.val (.int x0), .val (.int x1), .val (.int x2), .val (.int x3), .val (.int x4), .val (.int x5), .val (.int z_), .val (.int ya_), .val (.int yb_), .val (.int yc_), .val (.int yd_), .val (.int ye_), .unset, .unset, .unset, .unset, .unset, .unset, .unset, .unset, .unset, .unset] [(.ref b7)]))
  refine og (fun _ hr => XS.dup X11.here hx rfl (hb hby at_49) rfl rfl (XS.iconst X11.here hx rfl (hb hby at_50) (XS.iload X11.here hx rfl (hb hby at_51) rfl hr))) ?_
  show oG p e below _ (T11.setTop (mkF m 53 #[.val (.int x0), .val (.int x1), .val (.int x2), .val (.int x3), .val (.int x4), .val (.int x5), .val (.int z_), .val (.int ya_), .val (.int yb_), .val (.int yc_), .val (.int yd_), .val (.int ye_), .unset, .unset, .unset, .unset, .unset, .unset, .unset, .unset, .unset, .unset] [(.int yb_), (.int (1 : Int32)), (.ref b7), (.ref b7)]))
  have c14 : (nar .char yb_) = yb_ := by
    have q0 := rng32 x2
    have q1 := own_draw_v x2
    have q2 := congrArg Int32.toInt hyb_
    have q3 := (show ((nar .char yb_).toInt - yb_.toInt) % 65536 = 0 ∧ 0 ≤ (nar .char yb_).toInt ∧ (nar .char yb_).toInt < 65536 from c_i2c yb_)
    simp only [true_implies, Int32.lt_iff_toInt_lt, ← Int32.toInt_inj, Int32.reduceToInt, Int64.lt_iff_toInt_lt, ← Int64.toInt_inj, Int64.reduceToInt] at q0 q1 q2 q3 ⊢
    omega
  refine own_stC X11 hx hZ e11 f11 (1 : Int32) yb_ yb_ 1 ⟨by decide, by decide⟩ rfl (Nat.le_of_ble_eq_true rfl) c14 [(.int ya_), (.int yb_), (.int (0 : Int32)), (.int (0 : Int32)), (.int (0 : Int32))] rfl N11 ge8 (hb hby at_53) ?_
  intro T13 h13 L13 X13 e13 W13 N13 f13
  show oG p e below _ (T13.setTop (mkF m 54 #[.val (.int x0), .val (.int x1), .val (.int x2), .val (.int x3), .val (.int x4), .val (.int x5), .val (.int z_), .val (.int ya_), .val (.int yb_), .val (.int yc_), .val (.int yd_), .val (.int ye_), .unset, .unset, .unset, .unset, .unset, .unset, .unset, .unset, .unset, .unset] [(.ref b7)]))
  refine og (fun _ hr => XS.dup X13.here hx rfl (hb hby at_54) rfl rfl (XS.iconst X13.here hx rfl (hb hby at_55) (XS.iload X13.here hx rfl (hb hby at_56) rfl hr))) ?_
  show oG p e below _ (T13.setTop (mkF m 58 #[.val (.int x0), .val (.int x1), .val (.int x2), .val (.int x3), .val (.int x4), .val (.int x5), .val (.int z_), .val (.int ya_), .val (.int yb_), .val (.int yc_), .val (.int yd_), .val (.int ye_), .unset, .unset, .unset, .unset, .unset, .unset, .unset, .unset, .unset, .unset] [(.int yc_), (.int (2 : Int32)), (.ref b7), (.ref b7)]))
  have c16 : (nar .char yc_) = yc_ := by
    have q0 := rng32 x3
    have q1 := own_draw_v x3
    have q2 := congrArg Int32.toInt hyc_
    have q3 := (show ((nar .char yc_).toInt - yc_.toInt) % 65536 = 0 ∧ 0 ≤ (nar .char yc_).toInt ∧ (nar .char yc_).toInt < 65536 from c_i2c yc_)
    simp only [true_implies, Int32.lt_iff_toInt_lt, ← Int32.toInt_inj, Int32.reduceToInt, Int64.lt_iff_toInt_lt, ← Int64.toInt_inj, Int64.reduceToInt] at q0 q1 q2 q3 ⊢
    omega
  refine own_stC X13 hx hZ e13 f13 (2 : Int32) yc_ yc_ 2 ⟨by decide, by decide⟩ rfl (Nat.le_of_ble_eq_true rfl) c16 [(.int ya_), (.int yb_), (.int yc_), (.int (0 : Int32)), (.int (0 : Int32))] rfl N13 ge8 (hb hby at_58) ?_
  intro T15 h15 L15 X15 e15 W15 N15 f15
  show oG p e below _ (T15.setTop (mkF m 59 #[.val (.int x0), .val (.int x1), .val (.int x2), .val (.int x3), .val (.int x4), .val (.int x5), .val (.int z_), .val (.int ya_), .val (.int yb_), .val (.int yc_), .val (.int yd_), .val (.int ye_), .unset, .unset, .unset, .unset, .unset, .unset, .unset, .unset, .unset, .unset] [(.ref b7)]))
  refine og (fun _ hr => XS.dup X15.here hx rfl (hb hby at_59) rfl rfl (XS.iconst X15.here hx rfl (hb hby at_60) (XS.iload X15.here hx rfl (hb hby at_61) rfl hr))) ?_
  show oG p e below _ (T15.setTop (mkF m 63 #[.val (.int x0), .val (.int x1), .val (.int x2), .val (.int x3), .val (.int x4), .val (.int x5), .val (.int z_), .val (.int ya_), .val (.int yb_), .val (.int yc_), .val (.int yd_), .val (.int ye_), .unset, .unset, .unset, .unset, .unset, .unset, .unset, .unset, .unset, .unset] [(.int yd_), (.int (3 : Int32)), (.ref b7), (.ref b7)]))
  have c18 : (nar .char yd_) = yd_ := by
    have q0 := rng32 x4
    have q1 := own_draw_v x4
    have q2 := congrArg Int32.toInt hyd_
    have q3 := (show ((nar .char yd_).toInt - yd_.toInt) % 65536 = 0 ∧ 0 ≤ (nar .char yd_).toInt ∧ (nar .char yd_).toInt < 65536 from c_i2c yd_)
    simp only [true_implies, Int32.lt_iff_toInt_lt, ← Int32.toInt_inj, Int32.reduceToInt, Int64.lt_iff_toInt_lt, ← Int64.toInt_inj, Int64.reduceToInt] at q0 q1 q2 q3 ⊢
    omega
  refine own_stC X15 hx hZ e15 f15 (3 : Int32) yd_ yd_ 3 ⟨by decide, by decide⟩ rfl (Nat.le_of_ble_eq_true rfl) c18 [(.int ya_), (.int yb_), (.int yc_), (.int yd_), (.int (0 : Int32))] rfl N15 ge8 (hb hby at_63) ?_
  intro T17 h17 L17 X17 e17 W17 N17 f17
  show oG p e below _ (T17.setTop (mkF m 64 #[.val (.int x0), .val (.int x1), .val (.int x2), .val (.int x3), .val (.int x4), .val (.int x5), .val (.int z_), .val (.int ya_), .val (.int yb_), .val (.int yc_), .val (.int yd_), .val (.int ye_), .unset, .unset, .unset, .unset, .unset, .unset, .unset, .unset, .unset, .unset] [(.ref b7)]))
  refine og (fun _ hr => XS.dup X17.here hx rfl (hb hby at_64) rfl rfl (XS.iconst X17.here hx rfl (hb hby at_65) (XS.iload X17.here hx rfl (hb hby at_66) rfl hr))) ?_
  show oG p e below _ (T17.setTop (mkF m 68 #[.val (.int x0), .val (.int x1), .val (.int x2), .val (.int x3), .val (.int x4), .val (.int x5), .val (.int z_), .val (.int ya_), .val (.int yb_), .val (.int yc_), .val (.int yd_), .val (.int ye_), .unset, .unset, .unset, .unset, .unset, .unset, .unset, .unset, .unset, .unset] [(.int ye_), (.int (4 : Int32)), (.ref b7), (.ref b7)]))
  have c20 : (nar .char ye_) = ye_ := by
    have q0 := rng32 x5
    have q1 := own_draw_v x5
    have q2 := congrArg Int32.toInt hye_
    have q3 := (show ((nar .char ye_).toInt - ye_.toInt) % 65536 = 0 ∧ 0 ≤ (nar .char ye_).toInt ∧ (nar .char ye_).toInt < 65536 from c_i2c ye_)
    simp only [true_implies, Int32.lt_iff_toInt_lt, ← Int32.toInt_inj, Int32.reduceToInt, Int64.lt_iff_toInt_lt, ← Int64.toInt_inj, Int64.reduceToInt] at q0 q1 q2 q3 ⊢
    omega
  refine own_stC X17 hx hZ e17 f17 (4 : Int32) ye_ ye_ 4 ⟨by decide, by decide⟩ rfl (Nat.le_of_ble_eq_true rfl) c20 [(.int ya_), (.int yb_), (.int yc_), (.int yd_), (.int ye_)] rfl N17 ge8 (hb hby at_68) ?_
  intro T19 h19 L19 X19 e19 W19 N19 f19
  show oG p e below _ (T19.setTop (mkF m 69 #[.val (.int x0), .val (.int x1), .val (.int x2), .val (.int x3), .val (.int x4), .val (.int x5), .val (.int z_), .val (.int ya_), .val (.int yb_), .val (.int yc_), .val (.int yd_), .val (.int ye_), .unset, .unset, .unset, .unset, .unset, .unset, .unset, .unset, .unset, .unset] [(.ref b7)]))
  refine og (fun _ hr => XS.astore X19.here hx rfl (hb hby at_69) rfl rfl (l' := #[.val (.int x0), .val (.int x1), .val (.int x2), .val (.int x3), .val (.int x4), .val (.int x5), .val (.int z_), .val (.int ya_), .val (.int yb_), .val (.int yc_), .val (.int yd_), .val (.int ye_), .val (.ref b7), .unset, .unset, .unset, .unset, .unset, .unset, .unset, .unset, .unset]) rfl (XS.iload X19.here hx rfl (hb hby at_71) rfl (XS.iload X19.here hx rfl (hb hby at_73) rfl (XS.iload X19.here hx rfl (hb hby at_75) rfl (XS.iload X19.here hx rfl (hb hby at_77) rfl (XS.iload X19.here hx rfl (hb hby at_79) rfl (XS.iload X19.here hx rfl (hb hby at_81) rfl hr))))))) ?_
  show oG p e below _ (T19.setTop (mkF m 83 #[.val (.int x0), .val (.int x1), .val (.int x2), .val (.int x3), .val (.int x4), .val (.int x5), .val (.int z_), .val (.int ya_), .val (.int yb_), .val (.int yc_), .val (.int yd_), .val (.int ye_), .val (.ref b7), .unset, .unset, .unset, .unset, .unset, .unset, .unset, .unset, .unset] [(.int ye_), (.int yd_), (.int yc_), (.int yb_), (.int ya_), (.int z_)]))
  have c21 : ¬ (z_ < (0 : Int32)) := by
    have q0 := rng32 x0
    have q1 := c_mask x0 (2147483647 : Int32) 31 (by decide) (by decide)
    have q2 := c_irem (x0 &&& (2147483647 : Int32)) (6 : Int32) 6 (by decide)
    have q3 := congrArg Int32.toInt hz_
    simp only [true_implies, Int32.lt_iff_toInt_lt, ← Int32.toInt_inj, Int32.reduceToInt, Int64.lt_iff_toInt_lt, ← Int64.toInt_inj, Int64.reduceToInt] at q0 q1 q2 q3 ⊢
    omega
  have c22 : ¬ ((5 : Int32) < z_) := by
    have q0 := rng32 x0
    have q1 := c_mask x0 (2147483647 : Int32) 31 (by decide) (by decide)
    have q2 := c_irem (x0 &&& (2147483647 : Int32)) (6 : Int32) 6 (by decide)
    have q3 := congrArg Int32.toInt hz_
    have p0 := c21
    simp only [true_implies, Int32.lt_iff_toInt_lt, ← Int32.toInt_inj, Int32.reduceToInt, Int64.lt_iff_toInt_lt, ← Int64.toInt_inj, Int64.reduceToInt] at q0 q1 q2 q3 p0 ⊢
    omega
  have c23 : ¬ (ya_ < (0 : Int32)) := by
    have q0 := rng32 x1
    have q1 := own_draw_v x1
    have q2 := congrArg Int32.toInt hya_
    have q3 := (show ((nar .char ya_).toInt - ya_.toInt) % 65536 = 0 ∧ 0 ≤ (nar .char ya_).toInt ∧ (nar .char ya_).toInt < 65536 from c_i2c ya_)
    have p0 := c12
    simp only [true_implies, Int32.lt_iff_toInt_lt, ← Int32.toInt_inj, Int32.reduceToInt, Int64.lt_iff_toInt_lt, ← Int64.toInt_inj, Int64.reduceToInt] at q0 q1 q2 q3 p0 ⊢
    omega
  have c24 : ¬ ((65535 : Int32) < ya_) := by
    have q0 := rng32 x1
    have q1 := own_draw_v x1
    have q2 := congrArg Int32.toInt hya_
    have q3 := (show ((nar .char ya_).toInt - ya_.toInt) % 65536 = 0 ∧ 0 ≤ (nar .char ya_).toInt ∧ (nar .char ya_).toInt < 65536 from c_i2c ya_)
    have p0 := c12
    have p1 := c23
    simp only [true_implies, Int32.lt_iff_toInt_lt, ← Int32.toInt_inj, Int32.reduceToInt, Int64.lt_iff_toInt_lt, ← Int64.toInt_inj, Int64.reduceToInt] at q0 q1 q2 q3 p0 p1 ⊢
    omega
  have c25 : ¬ (yb_ < (0 : Int32)) := by
    have q0 := rng32 x2
    have q1 := own_draw_v x2
    have q2 := congrArg Int32.toInt hyb_
    have q3 := (show ((nar .char yb_).toInt - yb_.toInt) % 65536 = 0 ∧ 0 ≤ (nar .char yb_).toInt ∧ (nar .char yb_).toInt < 65536 from c_i2c yb_)
    have p0 := c14
    simp only [true_implies, Int32.lt_iff_toInt_lt, ← Int32.toInt_inj, Int32.reduceToInt, Int64.lt_iff_toInt_lt, ← Int64.toInt_inj, Int64.reduceToInt] at q0 q1 q2 q3 p0 ⊢
    omega
  have c26 : ¬ ((65535 : Int32) < yb_) := by
    have q0 := rng32 x2
    have q1 := own_draw_v x2
    have q2 := congrArg Int32.toInt hyb_
    have q3 := (show ((nar .char yb_).toInt - yb_.toInt) % 65536 = 0 ∧ 0 ≤ (nar .char yb_).toInt ∧ (nar .char yb_).toInt < 65536 from c_i2c yb_)
    have p0 := c14
    have p1 := c25
    simp only [true_implies, Int32.lt_iff_toInt_lt, ← Int32.toInt_inj, Int32.reduceToInt, Int64.lt_iff_toInt_lt, ← Int64.toInt_inj, Int64.reduceToInt] at q0 q1 q2 q3 p0 p1 ⊢
    omega
  have c27 : ¬ (yc_ < (0 : Int32)) := by
    have q0 := rng32 x3
    have q1 := own_draw_v x3
    have q2 := congrArg Int32.toInt hyc_
    have q3 := (show ((nar .char yc_).toInt - yc_.toInt) % 65536 = 0 ∧ 0 ≤ (nar .char yc_).toInt ∧ (nar .char yc_).toInt < 65536 from c_i2c yc_)
    have p0 := c16
    simp only [true_implies, Int32.lt_iff_toInt_lt, ← Int32.toInt_inj, Int32.reduceToInt, Int64.lt_iff_toInt_lt, ← Int64.toInt_inj, Int64.reduceToInt] at q0 q1 q2 q3 p0 ⊢
    omega
  have c28 : ¬ ((65535 : Int32) < yc_) := by
    have q0 := rng32 x3
    have q1 := own_draw_v x3
    have q2 := congrArg Int32.toInt hyc_
    have q3 := (show ((nar .char yc_).toInt - yc_.toInt) % 65536 = 0 ∧ 0 ≤ (nar .char yc_).toInt ∧ (nar .char yc_).toInt < 65536 from c_i2c yc_)
    have p0 := c16
    have p1 := c27
    simp only [true_implies, Int32.lt_iff_toInt_lt, ← Int32.toInt_inj, Int32.reduceToInt, Int64.lt_iff_toInt_lt, ← Int64.toInt_inj, Int64.reduceToInt] at q0 q1 q2 q3 p0 p1 ⊢
    omega
  have c29 : ¬ (yd_ < (0 : Int32)) := by
    have q0 := rng32 x4
    have q1 := own_draw_v x4
    have q2 := congrArg Int32.toInt hyd_
    have q3 := (show ((nar .char yd_).toInt - yd_.toInt) % 65536 = 0 ∧ 0 ≤ (nar .char yd_).toInt ∧ (nar .char yd_).toInt < 65536 from c_i2c yd_)
    have p0 := c18
    simp only [true_implies, Int32.lt_iff_toInt_lt, ← Int32.toInt_inj, Int32.reduceToInt, Int64.lt_iff_toInt_lt, ← Int64.toInt_inj, Int64.reduceToInt] at q0 q1 q2 q3 p0 ⊢
    omega
  have c30 : ¬ ((65535 : Int32) < yd_) := by
    have q0 := rng32 x4
    have q1 := own_draw_v x4
    have q2 := congrArg Int32.toInt hyd_
    have q3 := (show ((nar .char yd_).toInt - yd_.toInt) % 65536 = 0 ∧ 0 ≤ (nar .char yd_).toInt ∧ (nar .char yd_).toInt < 65536 from c_i2c yd_)
    have p0 := c18
    have p1 := c29
    simp only [true_implies, Int32.lt_iff_toInt_lt, ← Int32.toInt_inj, Int32.reduceToInt, Int64.lt_iff_toInt_lt, ← Int64.toInt_inj, Int64.reduceToInt] at q0 q1 q2 q3 p0 p1 ⊢
    omega
  have c31 : ¬ (ye_ < (0 : Int32)) := by
    have q0 := rng32 x5
    have q1 := own_draw_v x5
    have q2 := congrArg Int32.toInt hye_
    have q3 := (show ((nar .char ye_).toInt - ye_.toInt) % 65536 = 0 ∧ 0 ≤ (nar .char ye_).toInt ∧ (nar .char ye_).toInt < 65536 from c_i2c ye_)
    have p0 := c20
    simp only [true_implies, Int32.lt_iff_toInt_lt, ← Int32.toInt_inj, Int32.reduceToInt, Int64.lt_iff_toInt_lt, ← Int64.toInt_inj, Int64.reduceToInt] at q0 q1 q2 q3 p0 ⊢
    omega
  have c32 : ¬ ((65535 : Int32) < ye_) := by
    have q0 := rng32 x5
    have q1 := own_draw_v x5
    have q2 := congrArg Int32.toInt hye_
    have q3 := (show ((nar .char ye_).toInt - ye_.toInt) % 65536 = 0 ∧ 0 ≤ (nar .char ye_).toInt ∧ (nar .char ye_).toInt < 65536 from c_i2c ye_)
    have p0 := c20
    have p1 := c31
    simp only [true_implies, Int32.lt_iff_toInt_lt, ← Int32.toInt_inj, Int32.reduceToInt, Int64.lt_iff_toInt_lt, ← Int64.toInt_inj, Int64.reduceToInt] at q0 q1 q2 q3 p0 p1 ⊢
    omega
  have K34 := ((((((K0.ext E7).wr W11 (Or.inr sz9)).wr W13 (Or.inr sz9)).wr W15 (Or.inr sz9)).wr W17 (Or.inr sz9)).wr W19 (Or.inr sz9))
  have f35 := (own_sta_keep S_COMPACT_STRINGS K34 all0)
  have f36 := (own_sta_keep S__assertionsDisabled K34 all0)
  have f37 := (own_sta_keep S_HI_BYTE_SHIFT K34 all0)
  have f38 := (own_sta_keep S_LO_BYTE_SHIFT K34 all0)
  have Z39 := (Nat.le_trans (Nat.le_trans (Nat.le_trans (Nat.le_trans (Nat.le_trans (Nat.le_trans Z0 E7.1) (Nat.le_of_eq W11.size.symm)) (Nat.le_of_eq W13.size.symm)) (Nat.le_of_eq W15.size.symm)) (Nat.le_of_eq W17.size.symm)) (Nat.le_of_eq W19.size.symm))
  have hZo40 := hZ
  have A41 := A0.trans (CHr.ext E7 A0.1)
  have sf43 := (Safe.ext E7 A0.1 (Safe.new (Nat.le_of_eq g7.symm)))
  have A42 := A41.trans (CHr.wr W11 sf43 A41.1)
  have sf45 := (Safe.wr W11 sf43 A41.1 sf43)
  have A44 := A42.trans (CHr.wr W13 sf45 A42.1)
  have sf47 := (Safe.wr W13 sf45 A42.1 sf45)
  have A46 := A44.trans (CHr.wr W15 sf47 A44.1)
  have sf49 := (Safe.wr W15 sf47 A44.1 sf47)
  have A48 := A46.trans (CHr.wr W17 sf49 A46.1)
  have sf51 := (Safe.wr W17 sf49 A46.1 sf49)
  have A50 := A48.trans (CHr.wr W19 sf51 A48.1)
  have hk52 := (Nat.le_trans (Nat.le_trans (Nat.le_trans (Nat.le_trans (Nat.le_trans (Nat.le_trans hk E7.1) (Nat.le_of_eq W11.size.symm)) (Nat.le_of_eq W13.size.symm)) (Nat.le_of_eq W15.size.symm)) (Nat.le_of_eq W17.size.symm)) (Nat.le_of_eq W19.size.symm))
  refine own_csW X19 hx hZ hown (hw _ (own_m 6 rfl)) (hw _ (own_m 7 rfl)) (hw _ (own_m 3 rfl)) (hw _ (own_m 8 rfl)) (by decide) (rm := { frames := 6, cells := 6, slots := 24, locals := 88 }) (rm_make l Z a0 hw [] z_ ya_ yb_ yc_ yd_ ye_ i_COMPACT_STRINGS h19 n0 Z39 f35 hs_COMPACT_STRINGS f36 f37 f38 c21 c22 c23 c24 c25 c26 c27 c28 c29 c30 c31 c32) (by decide) (W := 0) (by decide) (by decide) (by decide) e19 hEL A50.1 hS hk52 (by rw [hml]; rfl) (argsL := [(.int z_), (.int ya_), (.int yb_), (.int yc_), (.int yd_), (.int ye_)]) (lenOf own_pd27 rfl) (rest := []) rfl rfl (Nat.le_of_eq rfl) (hb hby at_83) ?_
  intro _ T33 L33 X33 hQ33 Ac33 hS hZ hown
  obtain ⟨b33_0, b33_1, kb33_0, w33_0, w33_1, w33_2, rfl, N33q, K33, ge33_0, sz33_0, f33_0, f33_1, f33_2, f33_3, hx33_0⟩ := hQ33
  have N33 := Fr.app N19 N33q
  have sz53 : h0.size ≤ b33_0 := Nat.le_trans K34.1 sz33_0
  show oG p e below _ (T33.setTop (mkF m 86 #[.val (.int x0), .val (.int x1), .val (.int x2), .val (.int x3), .val (.int x4), .val (.int x5), .val (.int z_), .val (.int ya_), .val (.int yb_), .val (.int yc_), .val (.int yd_), .val (.int ye_), .val (.ref b7), .unset, .unset, .unset, .unset, .unset, .unset, .unset, .unset, .unset] [(.ref b33_0)]))
  refine og (fun _ hr => XS.astore X33.here hx rfl (hb hby at_86) rfl rfl (l' := #[.val (.int x0), .val (.int x1), .val (.int x2), .val (.int x3), .val (.int x4), .val (.int x5), .val (.int z_), .val (.int ya_), .val (.int yb_), .val (.int yc_), .val (.int yd_), .val (.int ye_), .val (.ref b7), .val (.ref b33_0), .unset, .unset, .unset, .unset, .unset, .unset, .unset, .unset]) rfl (XS.aload X33.here hx rfl (hb hby at_88) rfl rfl hr)) ?_
  show oG p e below _ (T33.setTop (mkF m 90 #[.val (.int x0), .val (.int x1), .val (.int x2), .val (.int x3), .val (.int x4), .val (.int x5), .val (.int z_), .val (.int ya_), .val (.int yb_), .val (.int yc_), .val (.int yd_), .val (.int ye_), .val (.ref b7), .val (.ref b33_0), .unset, .unset, .unset, .unset, .unset, .unset, .unset, .unset] [(.ref b33_0)]))
  have f55 := (own_sta_keep f35 K33 all0)
  have f56 := (own_sta_keep f36 K33 all0)
  have f57 := (own_sta_keep f37 K33 all0)
  have f58 := (own_sta_keep f38 K33 all0)
  have K59 := (K34.trans K33 all0)
  have f60 := (own_sta_keep S_SIOOBE_FORMATTER K59 all0)
  have Z61 := (Nat.le_trans Z39 K33.1)
  have hZo62 := hZ
  have A63 := A50.trans Ac33
  refine own_csW X33 hx hZ hown (hw _ (own_m 30 rfl)) (hw _ (own_m 31 rfl)) (hw _ (own_m 32 rfl)) (hw _ (own_m 33 rfl)) (by decide) (rm := { frames := 7, cells := 3, slots := 19, locals := 119 }) (rm_trim l Z a0 hw [] b33_0 b33_1 kb33_0 w33_1 w33_2 w33_0 (own_tk z_ ya_ yb_ yc_ yd_ ye_) z_ i_COMPACT_STRINGS v_SIOOBE_FORMATTER T33.heap n0 Z61 f33_0 f33_1 f33_2 f33_3 hx33_0 (own_tkr c21 c22 ⟨c23, c24⟩ ⟨c25, c26⟩ ⟨c27, c28⟩ ⟨c29, c30⟩ ⟨c31, c32⟩) (own_tkn ya_ yb_ yc_ yd_ ye_ c21 c22).2 (own_tkn ya_ yb_ yc_ yd_ ye_ c21 c22).1 f55 hs_COMPACT_STRINGS f56 f57 f58 f60 hv_SIOOBE_FORMATTER) (by decide) (W := 0) (by decide) (by decide) (by decide) rfl hEL A63.1 hS (Nat.le_refl _) (by rw [hml]; rfl) (argsL := [(.ref b33_0)]) (lenOf own_pd28 rfl) (rest := []) rfl rfl (Nat.le_of_eq rfl) (hb hby at_90) ?_
  intro _ T54 L54 X54 hQ54 Ac54 hS hZ hown
  obtain ⟨b54_0, b54_1, kb54_0, w54_0, w54_1, w54_2, w54_3, w54_4, rfl, N54q, K54, f54_0, f54_1, f54_2, f54_3, hx54_0, hx54_1⟩ := hQ54
  have N54 := Fr.app N33 N54q
  have hl64 := (own_tkn ya_ yb_ yc_ yd_ ye_ c21 c22).2
  have hj65 := hx54_1.2.1
  have hij66 := hx54_1.1
  have h567 : (own_sub (own_tk z_ ya_ yb_ yc_ yd_ ye_) w54_3 (w54_4 - w54_3)).length ≤ 5 := by rw [own_sub_len]; omega
  show oG p e below _ (T54.setTop (mkF m 93 #[.val (.int x0), .val (.int x1), .val (.int x2), .val (.int x3), .val (.int x4), .val (.int x5), .val (.int z_), .val (.int ya_), .val (.int yb_), .val (.int yc_), .val (.int yd_), .val (.int ye_), .val (.ref b7), .val (.ref b33_0), .unset, .unset, .unset, .unset, .unset, .unset, .unset, .unset] [(.ref b54_0)]))
  refine og (fun _ hr => XS.astore X54.here hx rfl (hb hby at_93) rfl rfl (l' := #[.val (.int x0), .val (.int x1), .val (.int x2), .val (.int x3), .val (.int x4), .val (.int x5), .val (.int z_), .val (.int ya_), .val (.int yb_), .val (.int yc_), .val (.int yd_), .val (.int ye_), .val (.ref b7), .val (.ref b33_0), .val (.ref b54_0), .unset, .unset, .unset, .unset, .unset, .unset, .unset]) rfl hr) ?_
  show oG p e below _ (T54.setTop (mkF m 95 #[.val (.int x0), .val (.int x1), .val (.int x2), .val (.int x3), .val (.int x4), .val (.int x5), .val (.int z_), .val (.int ya_), .val (.int yb_), .val (.int yc_), .val (.int yd_), .val (.int ye_), .val (.ref b7), .val (.ref b33_0), .val (.ref b54_0), .unset, .unset, .unset, .unset, .unset, .unset, .unset] []))
  have jkka_ : ∀ (ka_ : Int32) (Tj : State) (Lj : List Loc), (ka_ = own_kk z_ (0 : Int32) ya_) → Stand p l e room_1 (s.setVm T54.vm) m #[(.int x0), (.int x1), (.int x2), (.int x3), (.int x4), (.int x5)] below meth c Tj Lj 10 48 → Fr n0 Lj → Tj.heap = T54.heap → oG p e below (own_KW Z own_EL s (Q_law Z h0 n0) room_1.cells room_1.slots) (Tj.setTop (mkF m 115 #[.val (.int x0), .val (.int x1), .val (.int x2), .val (.int x3), .val (.int x4), .val (.int x5), .val (.int z_), .val (.int ya_), .val (.int yb_), .val (.int yc_), .val (.int yd_), .val (.int ye_), .val (.ref b7), .val (.ref b33_0), .val (.ref b54_0), .val (.int ka_), .unset, .unset, .unset, .unset, .unset, .unset] [])) := by
    intro ka_ Tj Lj hka_ Xj Nj ej
    show oG p e below _ (Tj.setTop (mkF m 115 #[.val (.int x0), .val (.int x1), .val (.int x2), .val (.int x3), .val (.int x4), .val (.int x5), .val (.int z_), .val (.int ya_), .val (.int yb_), .val (.int yc_), .val (.int yd_), .val (.int ye_), .val (.ref b7), .val (.ref b33_0), .val (.ref b54_0), .val (.int ka_), .unset, .unset, .unset, .unset, .unset, .unset] []))
    have jkkb_ : ∀ (kb_ : Int32) (Tj : State) (Lj : List Loc), (kb_ = own_kk z_ (1 : Int32) yb_) → Stand p l e room_1 (s.setVm T54.vm) m #[(.int x0), (.int x1), (.int x2), (.int x3), (.int x4), (.int x5)] below meth c Tj Lj 10 48 → Fr n0 Lj → Tj.heap = T54.heap → oG p e below (own_KW Z own_EL s (Q_law Z h0 n0) room_1.cells room_1.slots) (Tj.setTop (mkF m 136 #[.val (.int x0), .val (.int x1), .val (.int x2), .val (.int x3), .val (.int x4), .val (.int x5), .val (.int z_), .val (.int ya_), .val (.int yb_), .val (.int yc_), .val (.int yd_), .val (.int ye_), .val (.ref b7), .val (.ref b33_0), .val (.ref b54_0), .val (.int ka_), .val (.int kb_), .unset, .unset, .unset, .unset, .unset] [])) := by
      intro kb_ Tj Lj hkb_ Xj Nj ej
      show oG p e below _ (Tj.setTop (mkF m 136 #[.val (.int x0), .val (.int x1), .val (.int x2), .val (.int x3), .val (.int x4), .val (.int x5), .val (.int z_), .val (.int ya_), .val (.int yb_), .val (.int yc_), .val (.int yd_), .val (.int ye_), .val (.ref b7), .val (.ref b33_0), .val (.ref b54_0), .val (.int ka_), .val (.int kb_), .unset, .unset, .unset, .unset, .unset] []))
      have jkkc_ : ∀ (kc_ : Int32) (Tj : State) (Lj : List Loc), (kc_ = own_kk z_ (2 : Int32) yc_) → Stand p l e room_1 (s.setVm T54.vm) m #[(.int x0), (.int x1), (.int x2), (.int x3), (.int x4), (.int x5)] below meth c Tj Lj 10 48 → Fr n0 Lj → Tj.heap = T54.heap → oG p e below (own_KW Z own_EL s (Q_law Z h0 n0) room_1.cells room_1.slots) (Tj.setTop (mkF m 157 #[.val (.int x0), .val (.int x1), .val (.int x2), .val (.int x3), .val (.int x4), .val (.int x5), .val (.int z_), .val (.int ya_), .val (.int yb_), .val (.int yc_), .val (.int yd_), .val (.int ye_), .val (.ref b7), .val (.ref b33_0), .val (.ref b54_0), .val (.int ka_), .val (.int kb_), .val (.int kc_), .unset, .unset, .unset, .unset] [])) := by
        intro kc_ Tj Lj hkc_ Xj Nj ej
        show oG p e below _ (Tj.setTop (mkF m 157 #[.val (.int x0), .val (.int x1), .val (.int x2), .val (.int x3), .val (.int x4), .val (.int x5), .val (.int z_), .val (.int ya_), .val (.int yb_), .val (.int yc_), .val (.int yd_), .val (.int ye_), .val (.ref b7), .val (.ref b33_0), .val (.ref b54_0), .val (.int ka_), .val (.int kb_), .val (.int kc_), .unset, .unset, .unset, .unset] []))
        have jkkd_ : ∀ (kd_ : Int32) (Tj : State) (Lj : List Loc), (kd_ = own_kk z_ (3 : Int32) yd_) → Stand p l e room_1 (s.setVm T54.vm) m #[(.int x0), (.int x1), (.int x2), (.int x3), (.int x4), (.int x5)] below meth c Tj Lj 10 48 → Fr n0 Lj → Tj.heap = T54.heap → oG p e below (own_KW Z own_EL s (Q_law Z h0 n0) room_1.cells room_1.slots) (Tj.setTop (mkF m 178 #[.val (.int x0), .val (.int x1), .val (.int x2), .val (.int x3), .val (.int x4), .val (.int x5), .val (.int z_), .val (.int ya_), .val (.int yb_), .val (.int yc_), .val (.int yd_), .val (.int ye_), .val (.ref b7), .val (.ref b33_0), .val (.ref b54_0), .val (.int ka_), .val (.int kb_), .val (.int kc_), .val (.int kd_), .unset, .unset, .unset] [])) := by
          intro kd_ Tj Lj hkd_ Xj Nj ej
          show oG p e below _ (Tj.setTop (mkF m 178 #[.val (.int x0), .val (.int x1), .val (.int x2), .val (.int x3), .val (.int x4), .val (.int x5), .val (.int z_), .val (.int ya_), .val (.int yb_), .val (.int yc_), .val (.int yd_), .val (.int ye_), .val (.ref b7), .val (.ref b33_0), .val (.ref b54_0), .val (.int ka_), .val (.int kb_), .val (.int kc_), .val (.int kd_), .unset, .unset, .unset] []))
          have jkke_ : ∀ (ke_ : Int32) (Tj : State) (Lj : List Loc), (ke_ = own_kk z_ (4 : Int32) ye_) → Stand p l e room_1 (s.setVm T54.vm) m #[(.int x0), (.int x1), (.int x2), (.int x3), (.int x4), (.int x5)] below meth c Tj Lj 10 48 → Fr n0 Lj → Tj.heap = T54.heap → oG p e below (own_KW Z own_EL s (Q_law Z h0 n0) room_1.cells room_1.slots) (Tj.setTop (mkF m 199 #[.val (.int x0), .val (.int x1), .val (.int x2), .val (.int x3), .val (.int x4), .val (.int x5), .val (.int z_), .val (.int ya_), .val (.int yb_), .val (.int yc_), .val (.int yd_), .val (.int ye_), .val (.ref b7), .val (.ref b33_0), .val (.ref b54_0), .val (.int ka_), .val (.int kb_), .val (.int kc_), .val (.int kd_), .val (.int ke_), .unset, .unset] [])) := by
            intro ke_ Tj Lj hke_ Xj Nj ej
            show oG p e below _ (Tj.setTop (mkF m 199 #[.val (.int x0), .val (.int x1), .val (.int x2), .val (.int x3), .val (.int x4), .val (.int x5), .val (.int z_), .val (.int ya_), .val (.int yb_), .val (.int yc_), .val (.int yd_), .val (.int ye_), .val (.ref b7), .val (.ref b33_0), .val (.ref b54_0), .val (.int ka_), .val (.int kb_), .val (.int kc_), .val (.int kd_), .val (.int ke_), .unset, .unset] []))
            refine og (fun _ hr => XS.iload Xj.here hx rfl (hb hby at_199) rfl (XS.istore Xj.here hx rfl (hb hby at_201) rfl (l' := #[.val (.int x0), .val (.int x1), .val (.int x2), .val (.int x3), .val (.int x4), .val (.int x5), .val (.int z_), .val (.int ya_), .val (.int yb_), .val (.int yc_), .val (.int yd_), .val (.int ye_), .val (.ref b7), .val (.ref b33_0), .val (.ref b54_0), .val (.int ka_), .val (.int kb_), .val (.int kc_), .val (.int kd_), .val (.int ke_), .val (.int z_), .unset]) rfl hr)) ?_
            show oG p e below _ (Tj.setTop (mkF m 203 #[.val (.int x0), .val (.int x1), .val (.int x2), .val (.int x3), .val (.int x4), .val (.int x5), .val (.int z_), .val (.int ya_), .val (.int yb_), .val (.int yc_), .val (.int yd_), .val (.int ye_), .val (.ref b7), .val (.ref b33_0), .val (.ref b54_0), .val (.int ka_), .val (.int kb_), .val (.int kc_), .val (.int kd_), .val (.int ke_), .val (.int z_), .unset] []))
            have j68 : ∀ (s4_ : Int32), (s4_ = if ke_ = (0 : Int32) then z_ else (4 : Int32)) → oG p e below (own_KW Z own_EL s (Q_law Z h0 n0) room_1.cells room_1.slots) (Tj.setTop (mkF m 211 #[.val (.int x0), .val (.int x1), .val (.int x2), .val (.int x3), .val (.int x4), .val (.int x5), .val (.int z_), .val (.int ya_), .val (.int yb_), .val (.int yc_), .val (.int yd_), .val (.int ye_), .val (.ref b7), .val (.ref b33_0), .val (.ref b54_0), .val (.int ka_), .val (.int kb_), .val (.int kc_), .val (.int kd_), .val (.int ke_), .val (.int s4_), .unset] [])) := by
              intro s4_ hj68
              show oG p e below _ (Tj.setTop (mkF m 211 #[.val (.int x0), .val (.int x1), .val (.int x2), .val (.int x3), .val (.int x4), .val (.int x5), .val (.int z_), .val (.int ya_), .val (.int yb_), .val (.int yc_), .val (.int yd_), .val (.int ye_), .val (.ref b7), .val (.ref b33_0), .val (.ref b54_0), .val (.int ka_), .val (.int kb_), .val (.int kc_), .val (.int kd_), .val (.int ke_), .val (.int s4_), .unset] []))
              have j69 : ∀ (s3_ : Int32), (s3_ = if kd_ = (0 : Int32) then s4_ else (3 : Int32)) → oG p e below (own_KW Z own_EL s (Q_law Z h0 n0) room_1.cells room_1.slots) (Tj.setTop (mkF m 219 #[.val (.int x0), .val (.int x1), .val (.int x2), .val (.int x3), .val (.int x4), .val (.int x5), .val (.int z_), .val (.int ya_), .val (.int yb_), .val (.int yc_), .val (.int yd_), .val (.int ye_), .val (.ref b7), .val (.ref b33_0), .val (.ref b54_0), .val (.int ka_), .val (.int kb_), .val (.int kc_), .val (.int kd_), .val (.int ke_), .val (.int s3_), .unset] [])) := by
                intro s3_ hj69
                show oG p e below _ (Tj.setTop (mkF m 219 #[.val (.int x0), .val (.int x1), .val (.int x2), .val (.int x3), .val (.int x4), .val (.int x5), .val (.int z_), .val (.int ya_), .val (.int yb_), .val (.int yc_), .val (.int yd_), .val (.int ye_), .val (.ref b7), .val (.ref b33_0), .val (.ref b54_0), .val (.int ka_), .val (.int kb_), .val (.int kc_), .val (.int kd_), .val (.int ke_), .val (.int s3_), .unset] []))
                have j70 : ∀ (s2_ : Int32), (s2_ = if kc_ = (0 : Int32) then s3_ else (2 : Int32)) → oG p e below (own_KW Z own_EL s (Q_law Z h0 n0) room_1.cells room_1.slots) (Tj.setTop (mkF m 227 #[.val (.int x0), .val (.int x1), .val (.int x2), .val (.int x3), .val (.int x4), .val (.int x5), .val (.int z_), .val (.int ya_), .val (.int yb_), .val (.int yc_), .val (.int yd_), .val (.int ye_), .val (.ref b7), .val (.ref b33_0), .val (.ref b54_0), .val (.int ka_), .val (.int kb_), .val (.int kc_), .val (.int kd_), .val (.int ke_), .val (.int s2_), .unset] [])) := by
                  intro s2_ hj70
                  show oG p e below _ (Tj.setTop (mkF m 227 #[.val (.int x0), .val (.int x1), .val (.int x2), .val (.int x3), .val (.int x4), .val (.int x5), .val (.int z_), .val (.int ya_), .val (.int yb_), .val (.int yc_), .val (.int yd_), .val (.int ye_), .val (.ref b7), .val (.ref b33_0), .val (.ref b54_0), .val (.int ka_), .val (.int kb_), .val (.int kc_), .val (.int kd_), .val (.int ke_), .val (.int s2_), .unset] []))
                  have j71 : ∀ (s1_ : Int32), (s1_ = if kb_ = (0 : Int32) then s2_ else (1 : Int32)) → oG p e below (own_KW Z own_EL s (Q_law Z h0 n0) room_1.cells room_1.slots) (Tj.setTop (mkF m 235 #[.val (.int x0), .val (.int x1), .val (.int x2), .val (.int x3), .val (.int x4), .val (.int x5), .val (.int z_), .val (.int ya_), .val (.int yb_), .val (.int yc_), .val (.int yd_), .val (.int ye_), .val (.ref b7), .val (.ref b33_0), .val (.ref b54_0), .val (.int ka_), .val (.int kb_), .val (.int kc_), .val (.int kd_), .val (.int ke_), .val (.int s1_), .unset] [])) := by
                    intro s1_ hj71
                    show oG p e below _ (Tj.setTop (mkF m 235 #[.val (.int x0), .val (.int x1), .val (.int x2), .val (.int x3), .val (.int x4), .val (.int x5), .val (.int z_), .val (.int ya_), .val (.int yb_), .val (.int yc_), .val (.int yd_), .val (.int ye_), .val (.ref b7), .val (.ref b33_0), .val (.ref b54_0), .val (.int ka_), .val (.int kb_), .val (.int kc_), .val (.int kd_), .val (.int ke_), .val (.int s1_), .unset] []))
                    have j72 : ∀ (s0_ : Int32), (s0_ = if ka_ = (0 : Int32) then s1_ else (0 : Int32)) → oG p e below (own_KW Z own_EL s (Q_law Z h0 n0) room_1.cells room_1.slots) (Tj.setTop (mkF m 243 #[.val (.int x0), .val (.int x1), .val (.int x2), .val (.int x3), .val (.int x4), .val (.int x5), .val (.int z_), .val (.int ya_), .val (.int yb_), .val (.int yc_), .val (.int yd_), .val (.int ye_), .val (.ref b7), .val (.ref b33_0), .val (.ref b54_0), .val (.int ka_), .val (.int kb_), .val (.int kc_), .val (.int kd_), .val (.int ke_), .val (.int s0_), .unset] [])) := by
                      intro s0_ hj72
                      show oG p e below _ (Tj.setTop (mkF m 243 #[.val (.int x0), .val (.int x1), .val (.int x2), .val (.int x3), .val (.int x4), .val (.int x5), .val (.int z_), .val (.int ya_), .val (.int yb_), .val (.int yc_), .val (.int yd_), .val (.int ye_), .val (.ref b7), .val (.ref b33_0), .val (.ref b54_0), .val (.int ka_), .val (.int kb_), .val (.int kc_), .val (.int kd_), .val (.int ke_), .val (.int s0_), .unset] []))
                      refine og (fun _ hr => XS.iload Xj.here hx rfl (hb hby at_243) rfl (XS.istore Xj.here hx rfl (hb hby at_245) rfl (l' := #[.val (.int x0), .val (.int x1), .val (.int x2), .val (.int x3), .val (.int x4), .val (.int x5), .val (.int z_), .val (.int ya_), .val (.int yb_), .val (.int yc_), .val (.int yd_), .val (.int ye_), .val (.ref b7), .val (.ref b33_0), .val (.ref b54_0), .val (.int ka_), .val (.int kb_), .val (.int kc_), .val (.int kd_), .val (.int ke_), .val (.int s0_), .val (.int s0_)]) rfl hr)) ?_
                      show oG p e below _ (Tj.setTop (mkF m 247 #[.val (.int x0), .val (.int x1), .val (.int x2), .val (.int x3), .val (.int x4), .val (.int x5), .val (.int z_), .val (.int ya_), .val (.int yb_), .val (.int yc_), .val (.int yd_), .val (.int ye_), .val (.ref b7), .val (.ref b33_0), .val (.ref b54_0), .val (.int ka_), .val (.int kb_), .val (.int kc_), .val (.int kd_), .val (.int ke_), .val (.int s0_), .val (.int s0_)] []))
                      have j73 : ∀ (e0_ : Int32), (e0_ = if ka_ = (0 : Int32) then s0_ else (1 : Int32)) → oG p e below (own_KW Z own_EL s (Q_law Z h0 n0) room_1.cells room_1.slots) (Tj.setTop (mkF m 255 #[.val (.int x0), .val (.int x1), .val (.int x2), .val (.int x3), .val (.int x4), .val (.int x5), .val (.int z_), .val (.int ya_), .val (.int yb_), .val (.int yc_), .val (.int yd_), .val (.int ye_), .val (.ref b7), .val (.ref b33_0), .val (.ref b54_0), .val (.int ka_), .val (.int kb_), .val (.int kc_), .val (.int kd_), .val (.int ke_), .val (.int s0_), .val (.int e0_)] [])) := by
                        intro e0_ hj73
                        show oG p e below _ (Tj.setTop (mkF m 255 #[.val (.int x0), .val (.int x1), .val (.int x2), .val (.int x3), .val (.int x4), .val (.int x5), .val (.int z_), .val (.int ya_), .val (.int yb_), .val (.int yc_), .val (.int yd_), .val (.int ye_), .val (.ref b7), .val (.ref b33_0), .val (.ref b54_0), .val (.int ka_), .val (.int kb_), .val (.int kc_), .val (.int kd_), .val (.int ke_), .val (.int s0_), .val (.int e0_)] []))
                        have j74 : ∀ (e1_ : Int32), (e1_ = if kb_ = (0 : Int32) then e0_ else (2 : Int32)) → oG p e below (own_KW Z own_EL s (Q_law Z h0 n0) room_1.cells room_1.slots) (Tj.setTop (mkF m 263 #[.val (.int x0), .val (.int x1), .val (.int x2), .val (.int x3), .val (.int x4), .val (.int x5), .val (.int z_), .val (.int ya_), .val (.int yb_), .val (.int yc_), .val (.int yd_), .val (.int ye_), .val (.ref b7), .val (.ref b33_0), .val (.ref b54_0), .val (.int ka_), .val (.int kb_), .val (.int kc_), .val (.int kd_), .val (.int ke_), .val (.int s0_), .val (.int e1_)] [])) := by
                          intro e1_ hj74
                          show oG p e below _ (Tj.setTop (mkF m 263 #[.val (.int x0), .val (.int x1), .val (.int x2), .val (.int x3), .val (.int x4), .val (.int x5), .val (.int z_), .val (.int ya_), .val (.int yb_), .val (.int yc_), .val (.int yd_), .val (.int ye_), .val (.ref b7), .val (.ref b33_0), .val (.ref b54_0), .val (.int ka_), .val (.int kb_), .val (.int kc_), .val (.int kd_), .val (.int ke_), .val (.int s0_), .val (.int e1_)] []))
                          have j75 : ∀ (e2_ : Int32), (e2_ = if kc_ = (0 : Int32) then e1_ else (3 : Int32)) → oG p e below (own_KW Z own_EL s (Q_law Z h0 n0) room_1.cells room_1.slots) (Tj.setTop (mkF m 271 #[.val (.int x0), .val (.int x1), .val (.int x2), .val (.int x3), .val (.int x4), .val (.int x5), .val (.int z_), .val (.int ya_), .val (.int yb_), .val (.int yc_), .val (.int yd_), .val (.int ye_), .val (.ref b7), .val (.ref b33_0), .val (.ref b54_0), .val (.int ka_), .val (.int kb_), .val (.int kc_), .val (.int kd_), .val (.int ke_), .val (.int s0_), .val (.int e2_)] [])) := by
                            intro e2_ hj75
                            show oG p e below _ (Tj.setTop (mkF m 271 #[.val (.int x0), .val (.int x1), .val (.int x2), .val (.int x3), .val (.int x4), .val (.int x5), .val (.int z_), .val (.int ya_), .val (.int yb_), .val (.int yc_), .val (.int yd_), .val (.int ye_), .val (.ref b7), .val (.ref b33_0), .val (.ref b54_0), .val (.int ka_), .val (.int kb_), .val (.int kc_), .val (.int kd_), .val (.int ke_), .val (.int s0_), .val (.int e2_)] []))
                            have j76 : ∀ (e3_ : Int32), (e3_ = if kd_ = (0 : Int32) then e2_ else (4 : Int32)) → oG p e below (own_KW Z own_EL s (Q_law Z h0 n0) room_1.cells room_1.slots) (Tj.setTop (mkF m 279 #[.val (.int x0), .val (.int x1), .val (.int x2), .val (.int x3), .val (.int x4), .val (.int x5), .val (.int z_), .val (.int ya_), .val (.int yb_), .val (.int yc_), .val (.int yd_), .val (.int ye_), .val (.ref b7), .val (.ref b33_0), .val (.ref b54_0), .val (.int ka_), .val (.int kb_), .val (.int kc_), .val (.int kd_), .val (.int ke_), .val (.int s0_), .val (.int e3_)] [])) := by
                              intro e3_ hj76
                              show oG p e below _ (Tj.setTop (mkF m 279 #[.val (.int x0), .val (.int x1), .val (.int x2), .val (.int x3), .val (.int x4), .val (.int x5), .val (.int z_), .val (.int ya_), .val (.int yb_), .val (.int yc_), .val (.int yd_), .val (.int ye_), .val (.ref b7), .val (.ref b33_0), .val (.ref b54_0), .val (.int ka_), .val (.int kb_), .val (.int kc_), .val (.int kd_), .val (.int ke_), .val (.int s0_), .val (.int e3_)] []))
                              have j77 : ∀ (e4_ : Int32), (e4_ = if ke_ = (0 : Int32) then e3_ else (5 : Int32)) → oG p e below (own_KW Z own_EL s (Q_law Z h0 n0) room_1.cells room_1.slots) (Tj.setTop (mkF m 287 #[.val (.int x0), .val (.int x1), .val (.int x2), .val (.int x3), .val (.int x4), .val (.int x5), .val (.int z_), .val (.int ya_), .val (.int yb_), .val (.int yc_), .val (.int yd_), .val (.int ye_), .val (.ref b7), .val (.ref b33_0), .val (.ref b54_0), .val (.int ka_), .val (.int kb_), .val (.int kc_), .val (.int kd_), .val (.int ke_), .val (.int s0_), .val (.int e4_)] [])) := by
                                intro e4_ hj77
                                show oG p e below _ (Tj.setTop (mkF m 287 #[.val (.int x0), .val (.int x1), .val (.int x2), .val (.int x3), .val (.int x4), .val (.int x5), .val (.int z_), .val (.int ya_), .val (.int yb_), .val (.int yc_), .val (.int yd_), .val (.int ye_), .val (.ref b7), .val (.ref b33_0), .val (.ref b54_0), .val (.int ka_), .val (.int kb_), .val (.int kc_), .val (.int kd_), .val (.int ke_), .val (.int s0_), .val (.int e4_)] []))
                                have hfin_ := own_fin c21 c22 hx54_1 (own_fin0 c21 c22 hx54_1 hka_ hkb_ hkc_ hkd_ hke_ hj68 hj69 hj70 hj71 hj72 hj73 hj74 hj75 hj76 hj77)
                                have hsub_ : (Int32.ofNat (w54_4 - w54_3)) = (e4_ - s0_) := (own_cpb hfin_.1 hfin_.2.1 (own_tkn ya_ yb_ yc_ yd_ ye_ c21 c22).1 hij66 hj65 (by omega)).2.2.2.2.1
                                refine og (fun _ hr => XS.aload Xj.here hx rfl (hb hby at_287) rfl rfl hr) ?_
                                show oG p e below _ (Tj.setTop (mkF m 289 #[.val (.int x0), .val (.int x1), .val (.int x2), .val (.int x3), .val (.int x4), .val (.int x5), .val (.int z_), .val (.int ya_), .val (.int yb_), .val (.int yc_), .val (.int yd_), .val (.int ye_), .val (.ref b7), .val (.ref b33_0), .val (.ref b54_0), .val (.int ka_), .val (.int kb_), .val (.int kc_), .val (.int kd_), .val (.int ke_), .val (.int s0_), .val (.int e4_)] [(.ref b54_0)]))
                                have f79 := (own_sta_keep f55 K54 all0)
                                refine own_lens Xj hx hZ hown hw (hw _ (own_m 59 rfl)) (hw _ (own_m 35 rfl)) (hw _ (own_m 37 rfl)) (hw _ (own_m 36 rfl)) (hw _ (own_m 10 rfl)) (own_sub (own_tk z_ ya_ yb_ yc_ yd_ ye_) w54_3 (w54_4 - w54_3)) f54_0 f54_2 f54_1 f54_3 hx54_0 (own_sub_mem (by omega) (own_tkr c21 c22 ⟨c23, c24⟩ ⟨c25, c26⟩ ⟨c27, c28⟩ ⟨c29, c30⟩ ⟨c31, c32⟩)) (Nat.le_trans h567 (by decide)) f79 hs_COMPACT_STRINGS (by decide) (W := 0) (by decide) (by decide) (by decide) ej (by rw [hml]; rfl) (Nat.le_of_eq rfl) (hb hby at_289) ?_
                                intro T78 X78 e78
                                rw [(congrArg Int32.ofNat (own_sub_len _ _ _))]
                                show oG p e below _ (T78.setTop (mkF m 292 #[.val (.int x0), .val (.int x1), .val (.int x2), .val (.int x3), .val (.int x4), .val (.int x5), .val (.int z_), .val (.int ya_), .val (.int yb_), .val (.int yc_), .val (.int yd_), .val (.int ye_), .val (.ref b7), .val (.ref b33_0), .val (.ref b54_0), .val (.int ka_), .val (.int kb_), .val (.int kc_), .val (.int kd_), .val (.int ke_), .val (.int s0_), .val (.int e4_)] [(.int (Int32.ofNat (w54_4 - w54_3)))]))
                                refine og (fun _ hr => XS.iload X78.here hx rfl (hb hby at_292) rfl (XS.iload X78.here hx rfl (hb hby at_294) rfl (XS.isub X78.here hx rfl (hb hby at_296) rfl hr))) ?_
                                show oG p e below _ (T78.setTop (mkF m 297 #[.val (.int x0), .val (.int x1), .val (.int x2), .val (.int x3), .val (.int x4), .val (.int x5), .val (.int z_), .val (.int ya_), .val (.int yb_), .val (.int yc_), .val (.int yd_), .val (.int ye_), .val (.ref b7), .val (.ref b33_0), .val (.ref b54_0), .val (.int ka_), .val (.int kb_), .val (.int kc_), .val (.int kd_), .val (.int ke_), .val (.int s0_), .val (.int e4_)] [(.int (e4_ - s0_)), (.int (Int32.ofNat (w54_4 - w54_3)))]))
                                refine og (fun _ hr => XS.icmpYes X78.here hx rfl (pc0 := 297) (pc' := 302) rfl (hb hby at_297) rfl (teq hsub_).1 (by decide) (by decide) hr) ?_
                                show oG p e below _ (T78.setTop (mkF m 302 #[.val (.int x0), .val (.int x1), .val (.int x2), .val (.int x3), .val (.int x4), .val (.int x5), .val (.int z_), .val (.int ya_), .val (.int yb_), .val (.int yc_), .val (.int yd_), .val (.int ye_), .val (.ref b7), .val (.ref b33_0), .val (.ref b54_0), .val (.int ka_), .val (.int kb_), .val (.int kc_), .val (.int kd_), .val (.int ke_), .val (.int s0_), .val (.int e4_)] []))
                                refine og (fun _ hr => XS.aload X78.here hx rfl (hb hby at_302) rfl rfl (XS.iconst X78.here hx rfl (hb hby at_304) (XS.aload X78.here hx rfl (hb hby at_305) rfl rfl (XS.iload X78.here hx rfl (hb hby at_307) rfl hr)))) ?_
                                show oG p e below _ (T78.setTop (mkF m 309 #[.val (.int x0), .val (.int x1), .val (.int x2), .val (.int x3), .val (.int x4), .val (.int x5), .val (.int z_), .val (.int ya_), .val (.int yb_), .val (.int yc_), .val (.int yd_), .val (.int ye_), .val (.ref b7), .val (.ref b33_0), .val (.ref b54_0), .val (.int ka_), .val (.int kb_), .val (.int kc_), .val (.int kd_), .val (.int ke_), .val (.int s0_), .val (.int e4_)] [(.int s0_), (.ref b7), (.int (0 : Int32)), (.ref b54_0)]))
                                have f81 := ((f19.keep K33 nin0).keep K54 nin0)
                                have f82 := (own_sta_keep f56 K54 all0)
                                have f83 := (own_sta_keep f57 K54 all0)
                                have f84 := (own_sta_keep f58 K54 all0)
                                have f85 := (own_sta_keep f60 K54 all0)
                                have Z86 := (Nat.le_trans Z61 K54.1)
                                refine own_cs X78 hx hZ hown (hw _ (own_m 60 rfl)) (hw _ (own_m 61 rfl)) (hw _ (own_m 3 rfl)) (hw _ (own_m 62 rfl)) (by decide) (rm := { frames := 5, cells := 0, slots := 0, locals := 66 }) (rm_at l Z a0 hw [] b54_0 b54_1 kb54_0 w54_1 w54_2 w54_0 (own_sub (own_tk z_ ya_ yb_ yc_ yd_ ye_) w54_3 (w54_4 - w54_3)) (Int32.ofNat (w54_4 - w54_3)) (0 : Int32) b7 k7 s0_ 0 w54_3 ya_ yb_ yc_ yd_ ye_ i_COMPACT_STRINGS v_SIOOBE_FORMATTER T54.heap n0 Z86 f54_0 f54_1 f54_2 f54_3 hx54_0 (own_sub_mem (by omega) (own_tkr c21 c22 ⟨c23, c24⟩ ⟨c25, c26⟩ ⟨c27, c28⟩ ⟨c29, c30⟩ ⟨c31, c32⟩)) h567 (congrArg Int32.ofNat (own_sub_len _ _ _)) f81 rfl hfin_.1 (by decide) (fun r => hfin_.2.2 0 (by rw [own_sub_len] at r; exact r)) f79 hs_COMPACT_STRINGS f82 f83 f84 f85 hv_SIOOBE_FORMATTER) (by decide) (W := 0) (by decide) (by decide) (by decide) e78 (by rw [hml]; rfl) (argsL := [(.ref b54_0), (.int (0 : Int32)), (.ref b7), (.int s0_)]) (lenOf own_pd29 rfl) (rest := []) rfl rfl (Nat.le_of_eq rfl) (hb hby at_309) ?_
                                intro _ T80 L80 X80 hQ80
                                obtain ⟨rfl, N80q, e80⟩ := hQ80
                                have N80 := Fr.app Nj N80q
                                show oG p e below _ (T80.setTop (mkF m 312 #[.val (.int x0), .val (.int x1), .val (.int x2), .val (.int x3), .val (.int x4), .val (.int x5), .val (.int z_), .val (.int ya_), .val (.int yb_), .val (.int yc_), .val (.int yd_), .val (.int ye_), .val (.ref b7), .val (.ref b33_0), .val (.ref b54_0), .val (.int ka_), .val (.int kb_), .val (.int kc_), .val (.int kd_), .val (.int ke_), .val (.int s0_), .val (.int e4_)] [(.int (1 : Int32))]))
                                refine og (fun _ hr => XS.ifNo X80.here hx rfl (hb hby at_312) rfl ((if0 _ _).trans (feq (by decide)).1) (XS.aload X80.here hx rfl (hb hby at_315) rfl rfl (XS.iconst X80.here hx rfl (hb hby at_317) (XS.aload X80.here hx rfl (hb hby at_318) rfl rfl (XS.iload X80.here hx rfl (hb hby at_320) rfl hr))))) ?_
                                show oG p e below _ (T80.setTop (mkF m 322 #[.val (.int x0), .val (.int x1), .val (.int x2), .val (.int x3), .val (.int x4), .val (.int x5), .val (.int z_), .val (.int ya_), .val (.int yb_), .val (.int yc_), .val (.int yd_), .val (.int ye_), .val (.ref b7), .val (.ref b33_0), .val (.ref b54_0), .val (.int ka_), .val (.int kb_), .val (.int kc_), .val (.int kd_), .val (.int ke_), .val (.int s0_), .val (.int e4_)] [(.int s0_), (.ref b7), (.int (1 : Int32)), (.ref b54_0)]))
                                refine own_cs X80 hx hZ hown (hw _ (own_m 60 rfl)) (hw _ (own_m 61 rfl)) (hw _ (own_m 3 rfl)) (hw _ (own_m 62 rfl)) (by decide) (rm := { frames := 5, cells := 0, slots := 0, locals := 66 }) (rm_at l Z a0 hw [] b54_0 b54_1 kb54_0 w54_1 w54_2 w54_0 (own_sub (own_tk z_ ya_ yb_ yc_ yd_ ye_) w54_3 (w54_4 - w54_3)) (Int32.ofNat (w54_4 - w54_3)) (1 : Int32) b7 k7 s0_ 1 w54_3 ya_ yb_ yc_ yd_ ye_ i_COMPACT_STRINGS v_SIOOBE_FORMATTER T54.heap n0 Z86 f54_0 f54_1 f54_2 f54_3 hx54_0 (own_sub_mem (by omega) (own_tkr c21 c22 ⟨c23, c24⟩ ⟨c25, c26⟩ ⟨c27, c28⟩ ⟨c29, c30⟩ ⟨c31, c32⟩)) h567 (congrArg Int32.ofNat (own_sub_len _ _ _)) f81 rfl hfin_.1 (by decide) (fun r => hfin_.2.2 1 (by rw [own_sub_len] at r; exact r)) f79 hs_COMPACT_STRINGS f82 f83 f84 f85 hv_SIOOBE_FORMATTER) (by decide) (W := 0) (by decide) (by decide) (by decide) e80 (by rw [hml]; rfl) (argsL := [(.ref b54_0), (.int (1 : Int32)), (.ref b7), (.int s0_)]) (lenOf own_pd29 rfl) (rest := []) rfl rfl (Nat.le_of_eq rfl) (hb hby at_322) ?_
                                intro _ T87 L87 X87 hQ87
                                obtain ⟨rfl, N87q, e87⟩ := hQ87
                                have N87 := Fr.app N80 N87q
                                show oG p e below _ (T87.setTop (mkF m 325 #[.val (.int x0), .val (.int x1), .val (.int x2), .val (.int x3), .val (.int x4), .val (.int x5), .val (.int z_), .val (.int ya_), .val (.int yb_), .val (.int yc_), .val (.int yd_), .val (.int ye_), .val (.ref b7), .val (.ref b33_0), .val (.ref b54_0), .val (.int ka_), .val (.int kb_), .val (.int kc_), .val (.int kd_), .val (.int ke_), .val (.int s0_), .val (.int e4_)] [(.int (1 : Int32))]))
                                refine og (fun _ hr => XS.ifNo X87.here hx rfl (hb hby at_325) rfl ((if0 _ _).trans (feq (by decide)).1) (XS.aload X87.here hx rfl (hb hby at_328) rfl rfl (XS.iconst X87.here hx rfl (hb hby at_330) (XS.aload X87.here hx rfl (hb hby at_331) rfl rfl (XS.iload X87.here hx rfl (hb hby at_333) rfl hr))))) ?_
                                show oG p e below _ (T87.setTop (mkF m 335 #[.val (.int x0), .val (.int x1), .val (.int x2), .val (.int x3), .val (.int x4), .val (.int x5), .val (.int z_), .val (.int ya_), .val (.int yb_), .val (.int yc_), .val (.int yd_), .val (.int ye_), .val (.ref b7), .val (.ref b33_0), .val (.ref b54_0), .val (.int ka_), .val (.int kb_), .val (.int kc_), .val (.int kd_), .val (.int ke_), .val (.int s0_), .val (.int e4_)] [(.int s0_), (.ref b7), (.int (2 : Int32)), (.ref b54_0)]))
                                refine own_cs X87 hx hZ hown (hw _ (own_m 60 rfl)) (hw _ (own_m 61 rfl)) (hw _ (own_m 3 rfl)) (hw _ (own_m 62 rfl)) (by decide) (rm := { frames := 5, cells := 0, slots := 0, locals := 66 }) (rm_at l Z a0 hw [] b54_0 b54_1 kb54_0 w54_1 w54_2 w54_0 (own_sub (own_tk z_ ya_ yb_ yc_ yd_ ye_) w54_3 (w54_4 - w54_3)) (Int32.ofNat (w54_4 - w54_3)) (2 : Int32) b7 k7 s0_ 2 w54_3 ya_ yb_ yc_ yd_ ye_ i_COMPACT_STRINGS v_SIOOBE_FORMATTER T54.heap n0 Z86 f54_0 f54_1 f54_2 f54_3 hx54_0 (own_sub_mem (by omega) (own_tkr c21 c22 ⟨c23, c24⟩ ⟨c25, c26⟩ ⟨c27, c28⟩ ⟨c29, c30⟩ ⟨c31, c32⟩)) h567 (congrArg Int32.ofNat (own_sub_len _ _ _)) f81 rfl hfin_.1 (by decide) (fun r => hfin_.2.2 2 (by rw [own_sub_len] at r; exact r)) f79 hs_COMPACT_STRINGS f82 f83 f84 f85 hv_SIOOBE_FORMATTER) (by decide) (W := 0) (by decide) (by decide) (by decide) e87 (by rw [hml]; rfl) (argsL := [(.ref b54_0), (.int (2 : Int32)), (.ref b7), (.int s0_)]) (lenOf own_pd29 rfl) (rest := []) rfl rfl (Nat.le_of_eq rfl) (hb hby at_335) ?_
                                intro _ T88 L88 X88 hQ88
                                obtain ⟨rfl, N88q, e88⟩ := hQ88
                                have N88 := Fr.app N87 N88q
                                show oG p e below _ (T88.setTop (mkF m 338 #[.val (.int x0), .val (.int x1), .val (.int x2), .val (.int x3), .val (.int x4), .val (.int x5), .val (.int z_), .val (.int ya_), .val (.int yb_), .val (.int yc_), .val (.int yd_), .val (.int ye_), .val (.ref b7), .val (.ref b33_0), .val (.ref b54_0), .val (.int ka_), .val (.int kb_), .val (.int kc_), .val (.int kd_), .val (.int ke_), .val (.int s0_), .val (.int e4_)] [(.int (1 : Int32))]))
                                refine og (fun _ hr => XS.ifNo X88.here hx rfl (hb hby at_338) rfl ((if0 _ _).trans (feq (by decide)).1) (XS.aload X88.here hx rfl (hb hby at_341) rfl rfl (XS.iconst X88.here hx rfl (hb hby at_343) (XS.aload X88.here hx rfl (hb hby at_344) rfl rfl (XS.iload X88.here hx rfl (hb hby at_346) rfl hr))))) ?_
                                show oG p e below _ (T88.setTop (mkF m 348 #[.val (.int x0), .val (.int x1), .val (.int x2), .val (.int x3), .val (.int x4), .val (.int x5), .val (.int z_), .val (.int ya_), .val (.int yb_), .val (.int yc_), .val (.int yd_), .val (.int ye_), .val (.ref b7), .val (.ref b33_0), .val (.ref b54_0), .val (.int ka_), .val (.int kb_), .val (.int kc_), .val (.int kd_), .val (.int ke_), .val (.int s0_), .val (.int e4_)] [(.int s0_), (.ref b7), (.int (3 : Int32)), (.ref b54_0)]))
                                refine own_cs X88 hx hZ hown (hw _ (own_m 60 rfl)) (hw _ (own_m 61 rfl)) (hw _ (own_m 3 rfl)) (hw _ (own_m 62 rfl)) (by decide) (rm := { frames := 5, cells := 0, slots := 0, locals := 66 }) (rm_at l Z a0 hw [] b54_0 b54_1 kb54_0 w54_1 w54_2 w54_0 (own_sub (own_tk z_ ya_ yb_ yc_ yd_ ye_) w54_3 (w54_4 - w54_3)) (Int32.ofNat (w54_4 - w54_3)) (3 : Int32) b7 k7 s0_ 3 w54_3 ya_ yb_ yc_ yd_ ye_ i_COMPACT_STRINGS v_SIOOBE_FORMATTER T54.heap n0 Z86 f54_0 f54_1 f54_2 f54_3 hx54_0 (own_sub_mem (by omega) (own_tkr c21 c22 ⟨c23, c24⟩ ⟨c25, c26⟩ ⟨c27, c28⟩ ⟨c29, c30⟩ ⟨c31, c32⟩)) h567 (congrArg Int32.ofNat (own_sub_len _ _ _)) f81 rfl hfin_.1 (by decide) (fun r => hfin_.2.2 3 (by rw [own_sub_len] at r; exact r)) f79 hs_COMPACT_STRINGS f82 f83 f84 f85 hv_SIOOBE_FORMATTER) (by decide) (W := 0) (by decide) (by decide) (by decide) e88 (by rw [hml]; rfl) (argsL := [(.ref b54_0), (.int (3 : Int32)), (.ref b7), (.int s0_)]) (lenOf own_pd29 rfl) (rest := []) rfl rfl (Nat.le_of_eq rfl) (hb hby at_348) ?_
                                intro _ T89 L89 X89 hQ89
                                obtain ⟨rfl, N89q, e89⟩ := hQ89
                                have N89 := Fr.app N88 N89q
                                show oG p e below _ (T89.setTop (mkF m 351 #[.val (.int x0), .val (.int x1), .val (.int x2), .val (.int x3), .val (.int x4), .val (.int x5), .val (.int z_), .val (.int ya_), .val (.int yb_), .val (.int yc_), .val (.int yd_), .val (.int ye_), .val (.ref b7), .val (.ref b33_0), .val (.ref b54_0), .val (.int ka_), .val (.int kb_), .val (.int kc_), .val (.int kd_), .val (.int ke_), .val (.int s0_), .val (.int e4_)] [(.int (1 : Int32))]))
                                refine og (fun _ hr => XS.ifNo X89.here hx rfl (hb hby at_351) rfl ((if0 _ _).trans (feq (by decide)).1) (XS.aload X89.here hx rfl (hb hby at_354) rfl rfl (XS.iconst X89.here hx rfl (hb hby at_356) (XS.aload X89.here hx rfl (hb hby at_357) rfl rfl (XS.iload X89.here hx rfl (hb hby at_359) rfl hr))))) ?_
                                show oG p e below _ (T89.setTop (mkF m 361 #[.val (.int x0), .val (.int x1), .val (.int x2), .val (.int x3), .val (.int x4), .val (.int x5), .val (.int z_), .val (.int ya_), .val (.int yb_), .val (.int yc_), .val (.int yd_), .val (.int ye_), .val (.ref b7), .val (.ref b33_0), .val (.ref b54_0), .val (.int ka_), .val (.int kb_), .val (.int kc_), .val (.int kd_), .val (.int ke_), .val (.int s0_), .val (.int e4_)] [(.int s0_), (.ref b7), (.int (4 : Int32)), (.ref b54_0)]))
                                refine own_cs X89 hx hZ hown (hw _ (own_m 60 rfl)) (hw _ (own_m 61 rfl)) (hw _ (own_m 3 rfl)) (hw _ (own_m 62 rfl)) (by decide) (rm := { frames := 5, cells := 0, slots := 0, locals := 66 }) (rm_at l Z a0 hw [] b54_0 b54_1 kb54_0 w54_1 w54_2 w54_0 (own_sub (own_tk z_ ya_ yb_ yc_ yd_ ye_) w54_3 (w54_4 - w54_3)) (Int32.ofNat (w54_4 - w54_3)) (4 : Int32) b7 k7 s0_ 4 w54_3 ya_ yb_ yc_ yd_ ye_ i_COMPACT_STRINGS v_SIOOBE_FORMATTER T54.heap n0 Z86 f54_0 f54_1 f54_2 f54_3 hx54_0 (own_sub_mem (by omega) (own_tkr c21 c22 ⟨c23, c24⟩ ⟨c25, c26⟩ ⟨c27, c28⟩ ⟨c29, c30⟩ ⟨c31, c32⟩)) h567 (congrArg Int32.ofNat (own_sub_len _ _ _)) f81 rfl hfin_.1 (by decide) (fun r => hfin_.2.2 4 (by rw [own_sub_len] at r; exact r)) f79 hs_COMPACT_STRINGS f82 f83 f84 f85 hv_SIOOBE_FORMATTER) (by decide) (W := 0) (by decide) (by decide) (by decide) e89 (by rw [hml]; rfl) (argsL := [(.ref b54_0), (.int (4 : Int32)), (.ref b7), (.int s0_)]) (lenOf own_pd29 rfl) (rest := []) rfl rfl (Nat.le_of_eq rfl) (hb hby at_361) ?_
                                intro _ T90 L90 X90 hQ90
                                obtain ⟨rfl, N90q, e90⟩ := hQ90
                                have N90 := Fr.app N89 N90q
                                show oG p e below _ (T90.setTop (mkF m 364 #[.val (.int x0), .val (.int x1), .val (.int x2), .val (.int x3), .val (.int x4), .val (.int x5), .val (.int z_), .val (.int ya_), .val (.int yb_), .val (.int yc_), .val (.int yd_), .val (.int ye_), .val (.ref b7), .val (.ref b33_0), .val (.ref b54_0), .val (.int ka_), .val (.int kb_), .val (.int kc_), .val (.int kd_), .val (.int ke_), .val (.int s0_), .val (.int e4_)] [(.int (1 : Int32))]))
                                refine og (fun _ hr => XS.ifNo X90.here hx rfl (hb hby at_364) rfl ((if0 _ _).trans (feq (by decide)).1) (XS.iconst X90.here hx rfl (hb hby at_367) (XS.goto X90.here hx rfl (pc0 := 368) (pc' := 372) rfl (hb hby at_368) (by decide) (by decide) hr))) ?_
                                show oG p e below _ (T90.setTop (mkF m 372 #[.val (.int x0), .val (.int x1), .val (.int x2), .val (.int x3), .val (.int x4), .val (.int x5), .val (.int z_), .val (.int ya_), .val (.int yb_), .val (.int yc_), .val (.int yd_), .val (.int ye_), .val (.ref b7), .val (.ref b33_0), .val (.ref b54_0), .val (.int ka_), .val (.int kb_), .val (.int kc_), .val (.int kd_), .val (.int ke_), .val (.int s0_), .val (.int e4_)] [(.int (1 : Int32))]))
                                have A91 := A63.trans Ac54
                                exact own_retNW X90 hx hlk Bd.returns hS (Nat.le_refl _) hZ hEL hh e90 A91 (t := .boolean) (by simp) (hb hby at_372) (by decide) (by decide) ⟨rfl, N90⟩
                              refine og (fun _ hr => XS.iload Xj.here hx rfl (hb hby at_279) rfl hr) ?_
                              show oG p e below _ (Tj.setTop (mkF m 281 #[.val (.int x0), .val (.int x1), .val (.int x2), .val (.int x3), .val (.int x4), .val (.int x5), .val (.int z_), .val (.int ya_), .val (.int yb_), .val (.int yc_), .val (.int yd_), .val (.int ye_), .val (.ref b7), .val (.ref b33_0), .val (.ref b54_0), .val (.int ka_), .val (.int kb_), .val (.int kc_), .val (.int kd_), .val (.int ke_), .val (.int s0_), .val (.int e3_)] [(.int ke_)]))
                              rcases Classical.em (ke_ = (0 : Int32)) with c92 | c92
                              · skip
                                refine og (fun _ hr => XS.ifYes Xj.here hx rfl (pc0 := 281) (pc' := 287) rfl (hb hby at_281) rfl ((if0 _ _).trans (teq c92).1) (by decide) (by decide) hr) ?_
                                show oG p e below _ (Tj.setTop (mkF m 287 #[.val (.int x0), .val (.int x1), .val (.int x2), .val (.int x3), .val (.int x4), .val (.int x5), .val (.int z_), .val (.int ya_), .val (.int yb_), .val (.int yc_), .val (.int yd_), .val (.int ye_), .val (.ref b7), .val (.ref b33_0), .val (.ref b54_0), .val (.int ka_), .val (.int kb_), .val (.int kc_), .val (.int kd_), .val (.int ke_), .val (.int s0_), .val (.int e3_)] []))
                                exact j77 e3_ (by exact (if_pos c92).symm)
                              refine og (fun _ hr => XS.ifNo Xj.here hx rfl (hb hby at_281) rfl ((if0 _ _).trans (feq c92).1) hr) ?_
                              show oG p e below _ (Tj.setTop (mkF m 284 #[.val (.int x0), .val (.int x1), .val (.int x2), .val (.int x3), .val (.int x4), .val (.int x5), .val (.int z_), .val (.int ya_), .val (.int yb_), .val (.int yc_), .val (.int yd_), .val (.int ye_), .val (.ref b7), .val (.ref b33_0), .val (.ref b54_0), .val (.int ka_), .val (.int kb_), .val (.int kc_), .val (.int kd_), .val (.int ke_), .val (.int s0_), .val (.int e3_)] []))
                              refine og (fun _ hr => XS.iconst Xj.here hx rfl (hb hby at_284) (XS.istore Xj.here hx rfl (hb hby at_285) rfl (l' := #[.val (.int x0), .val (.int x1), .val (.int x2), .val (.int x3), .val (.int x4), .val (.int x5), .val (.int z_), .val (.int ya_), .val (.int yb_), .val (.int yc_), .val (.int yd_), .val (.int ye_), .val (.ref b7), .val (.ref b33_0), .val (.ref b54_0), .val (.int ka_), .val (.int kb_), .val (.int kc_), .val (.int kd_), .val (.int ke_), .val (.int s0_), .val (.int (5 : Int32))]) rfl hr)) ?_
                              show oG p e below _ (Tj.setTop (mkF m 287 #[.val (.int x0), .val (.int x1), .val (.int x2), .val (.int x3), .val (.int x4), .val (.int x5), .val (.int z_), .val (.int ya_), .val (.int yb_), .val (.int yc_), .val (.int yd_), .val (.int ye_), .val (.ref b7), .val (.ref b33_0), .val (.ref b54_0), .val (.int ka_), .val (.int kb_), .val (.int kc_), .val (.int kd_), .val (.int ke_), .val (.int s0_), .val (.int (5 : Int32))] []))
                              exact j77 (5 : Int32) (by exact (if_neg c92).symm)
                            refine og (fun _ hr => XS.iload Xj.here hx rfl (hb hby at_271) rfl hr) ?_
                            show oG p e below _ (Tj.setTop (mkF m 273 #[.val (.int x0), .val (.int x1), .val (.int x2), .val (.int x3), .val (.int x4), .val (.int x5), .val (.int z_), .val (.int ya_), .val (.int yb_), .val (.int yc_), .val (.int yd_), .val (.int ye_), .val (.ref b7), .val (.ref b33_0), .val (.ref b54_0), .val (.int ka_), .val (.int kb_), .val (.int kc_), .val (.int kd_), .val (.int ke_), .val (.int s0_), .val (.int e2_)] [(.int kd_)]))
                            rcases Classical.em (kd_ = (0 : Int32)) with c93 | c93
                            · skip
                              refine og (fun _ hr => XS.ifYes Xj.here hx rfl (pc0 := 273) (pc' := 279) rfl (hb hby at_273) rfl ((if0 _ _).trans (teq c93).1) (by decide) (by decide) hr) ?_
                              show oG p e below _ (Tj.setTop (mkF m 279 #[.val (.int x0), .val (.int x1), .val (.int x2), .val (.int x3), .val (.int x4), .val (.int x5), .val (.int z_), .val (.int ya_), .val (.int yb_), .val (.int yc_), .val (.int yd_), .val (.int ye_), .val (.ref b7), .val (.ref b33_0), .val (.ref b54_0), .val (.int ka_), .val (.int kb_), .val (.int kc_), .val (.int kd_), .val (.int ke_), .val (.int s0_), .val (.int e2_)] []))
                              exact j76 e2_ (by exact (if_pos c93).symm)
                            refine og (fun _ hr => XS.ifNo Xj.here hx rfl (hb hby at_273) rfl ((if0 _ _).trans (feq c93).1) hr) ?_
                            show oG p e below _ (Tj.setTop (mkF m 276 #[.val (.int x0), .val (.int x1), .val (.int x2), .val (.int x3), .val (.int x4), .val (.int x5), .val (.int z_), .val (.int ya_), .val (.int yb_), .val (.int yc_), .val (.int yd_), .val (.int ye_), .val (.ref b7), .val (.ref b33_0), .val (.ref b54_0), .val (.int ka_), .val (.int kb_), .val (.int kc_), .val (.int kd_), .val (.int ke_), .val (.int s0_), .val (.int e2_)] []))
                            refine og (fun _ hr => XS.iconst Xj.here hx rfl (hb hby at_276) (XS.istore Xj.here hx rfl (hb hby at_277) rfl (l' := #[.val (.int x0), .val (.int x1), .val (.int x2), .val (.int x3), .val (.int x4), .val (.int x5), .val (.int z_), .val (.int ya_), .val (.int yb_), .val (.int yc_), .val (.int yd_), .val (.int ye_), .val (.ref b7), .val (.ref b33_0), .val (.ref b54_0), .val (.int ka_), .val (.int kb_), .val (.int kc_), .val (.int kd_), .val (.int ke_), .val (.int s0_), .val (.int (4 : Int32))]) rfl hr)) ?_
                            show oG p e below _ (Tj.setTop (mkF m 279 #[.val (.int x0), .val (.int x1), .val (.int x2), .val (.int x3), .val (.int x4), .val (.int x5), .val (.int z_), .val (.int ya_), .val (.int yb_), .val (.int yc_), .val (.int yd_), .val (.int ye_), .val (.ref b7), .val (.ref b33_0), .val (.ref b54_0), .val (.int ka_), .val (.int kb_), .val (.int kc_), .val (.int kd_), .val (.int ke_), .val (.int s0_), .val (.int (4 : Int32))] []))
                            exact j76 (4 : Int32) (by exact (if_neg c93).symm)
                          refine og (fun _ hr => XS.iload Xj.here hx rfl (hb hby at_263) rfl hr) ?_
                          show oG p e below _ (Tj.setTop (mkF m 265 #[.val (.int x0), .val (.int x1), .val (.int x2), .val (.int x3), .val (.int x4), .val (.int x5), .val (.int z_), .val (.int ya_), .val (.int yb_), .val (.int yc_), .val (.int yd_), .val (.int ye_), .val (.ref b7), .val (.ref b33_0), .val (.ref b54_0), .val (.int ka_), .val (.int kb_), .val (.int kc_), .val (.int kd_), .val (.int ke_), .val (.int s0_), .val (.int e1_)] [(.int kc_)]))
                          rcases Classical.em (kc_ = (0 : Int32)) with c94 | c94
                          · skip
                            refine og (fun _ hr => XS.ifYes Xj.here hx rfl (pc0 := 265) (pc' := 271) rfl (hb hby at_265) rfl ((if0 _ _).trans (teq c94).1) (by decide) (by decide) hr) ?_
                            show oG p e below _ (Tj.setTop (mkF m 271 #[.val (.int x0), .val (.int x1), .val (.int x2), .val (.int x3), .val (.int x4), .val (.int x5), .val (.int z_), .val (.int ya_), .val (.int yb_), .val (.int yc_), .val (.int yd_), .val (.int ye_), .val (.ref b7), .val (.ref b33_0), .val (.ref b54_0), .val (.int ka_), .val (.int kb_), .val (.int kc_), .val (.int kd_), .val (.int ke_), .val (.int s0_), .val (.int e1_)] []))
                            exact j75 e1_ (by exact (if_pos c94).symm)
                          refine og (fun _ hr => XS.ifNo Xj.here hx rfl (hb hby at_265) rfl ((if0 _ _).trans (feq c94).1) hr) ?_
                          show oG p e below _ (Tj.setTop (mkF m 268 #[.val (.int x0), .val (.int x1), .val (.int x2), .val (.int x3), .val (.int x4), .val (.int x5), .val (.int z_), .val (.int ya_), .val (.int yb_), .val (.int yc_), .val (.int yd_), .val (.int ye_), .val (.ref b7), .val (.ref b33_0), .val (.ref b54_0), .val (.int ka_), .val (.int kb_), .val (.int kc_), .val (.int kd_), .val (.int ke_), .val (.int s0_), .val (.int e1_)] []))
                          refine og (fun _ hr => XS.iconst Xj.here hx rfl (hb hby at_268) (XS.istore Xj.here hx rfl (hb hby at_269) rfl (l' := #[.val (.int x0), .val (.int x1), .val (.int x2), .val (.int x3), .val (.int x4), .val (.int x5), .val (.int z_), .val (.int ya_), .val (.int yb_), .val (.int yc_), .val (.int yd_), .val (.int ye_), .val (.ref b7), .val (.ref b33_0), .val (.ref b54_0), .val (.int ka_), .val (.int kb_), .val (.int kc_), .val (.int kd_), .val (.int ke_), .val (.int s0_), .val (.int (3 : Int32))]) rfl hr)) ?_
                          show oG p e below _ (Tj.setTop (mkF m 271 #[.val (.int x0), .val (.int x1), .val (.int x2), .val (.int x3), .val (.int x4), .val (.int x5), .val (.int z_), .val (.int ya_), .val (.int yb_), .val (.int yc_), .val (.int yd_), .val (.int ye_), .val (.ref b7), .val (.ref b33_0), .val (.ref b54_0), .val (.int ka_), .val (.int kb_), .val (.int kc_), .val (.int kd_), .val (.int ke_), .val (.int s0_), .val (.int (3 : Int32))] []))
                          exact j75 (3 : Int32) (by exact (if_neg c94).symm)
                        refine og (fun _ hr => XS.iload Xj.here hx rfl (hb hby at_255) rfl hr) ?_
                        show oG p e below _ (Tj.setTop (mkF m 257 #[.val (.int x0), .val (.int x1), .val (.int x2), .val (.int x3), .val (.int x4), .val (.int x5), .val (.int z_), .val (.int ya_), .val (.int yb_), .val (.int yc_), .val (.int yd_), .val (.int ye_), .val (.ref b7), .val (.ref b33_0), .val (.ref b54_0), .val (.int ka_), .val (.int kb_), .val (.int kc_), .val (.int kd_), .val (.int ke_), .val (.int s0_), .val (.int e0_)] [(.int kb_)]))
                        rcases Classical.em (kb_ = (0 : Int32)) with c95 | c95
                        · skip
                          refine og (fun _ hr => XS.ifYes Xj.here hx rfl (pc0 := 257) (pc' := 263) rfl (hb hby at_257) rfl ((if0 _ _).trans (teq c95).1) (by decide) (by decide) hr) ?_
                          show oG p e below _ (Tj.setTop (mkF m 263 #[.val (.int x0), .val (.int x1), .val (.int x2), .val (.int x3), .val (.int x4), .val (.int x5), .val (.int z_), .val (.int ya_), .val (.int yb_), .val (.int yc_), .val (.int yd_), .val (.int ye_), .val (.ref b7), .val (.ref b33_0), .val (.ref b54_0), .val (.int ka_), .val (.int kb_), .val (.int kc_), .val (.int kd_), .val (.int ke_), .val (.int s0_), .val (.int e0_)] []))
                          exact j74 e0_ (by exact (if_pos c95).symm)
                        refine og (fun _ hr => XS.ifNo Xj.here hx rfl (hb hby at_257) rfl ((if0 _ _).trans (feq c95).1) hr) ?_
                        show oG p e below _ (Tj.setTop (mkF m 260 #[.val (.int x0), .val (.int x1), .val (.int x2), .val (.int x3), .val (.int x4), .val (.int x5), .val (.int z_), .val (.int ya_), .val (.int yb_), .val (.int yc_), .val (.int yd_), .val (.int ye_), .val (.ref b7), .val (.ref b33_0), .val (.ref b54_0), .val (.int ka_), .val (.int kb_), .val (.int kc_), .val (.int kd_), .val (.int ke_), .val (.int s0_), .val (.int e0_)] []))
                        refine og (fun _ hr => XS.iconst Xj.here hx rfl (hb hby at_260) (XS.istore Xj.here hx rfl (hb hby at_261) rfl (l' := #[.val (.int x0), .val (.int x1), .val (.int x2), .val (.int x3), .val (.int x4), .val (.int x5), .val (.int z_), .val (.int ya_), .val (.int yb_), .val (.int yc_), .val (.int yd_), .val (.int ye_), .val (.ref b7), .val (.ref b33_0), .val (.ref b54_0), .val (.int ka_), .val (.int kb_), .val (.int kc_), .val (.int kd_), .val (.int ke_), .val (.int s0_), .val (.int (2 : Int32))]) rfl hr)) ?_
                        show oG p e below _ (Tj.setTop (mkF m 263 #[.val (.int x0), .val (.int x1), .val (.int x2), .val (.int x3), .val (.int x4), .val (.int x5), .val (.int z_), .val (.int ya_), .val (.int yb_), .val (.int yc_), .val (.int yd_), .val (.int ye_), .val (.ref b7), .val (.ref b33_0), .val (.ref b54_0), .val (.int ka_), .val (.int kb_), .val (.int kc_), .val (.int kd_), .val (.int ke_), .val (.int s0_), .val (.int (2 : Int32))] []))
                        exact j74 (2 : Int32) (by exact (if_neg c95).symm)
                      refine og (fun _ hr => XS.iload Xj.here hx rfl (hb hby at_247) rfl hr) ?_
                      show oG p e below _ (Tj.setTop (mkF m 249 #[.val (.int x0), .val (.int x1), .val (.int x2), .val (.int x3), .val (.int x4), .val (.int x5), .val (.int z_), .val (.int ya_), .val (.int yb_), .val (.int yc_), .val (.int yd_), .val (.int ye_), .val (.ref b7), .val (.ref b33_0), .val (.ref b54_0), .val (.int ka_), .val (.int kb_), .val (.int kc_), .val (.int kd_), .val (.int ke_), .val (.int s0_), .val (.int s0_)] [(.int ka_)]))
                      rcases Classical.em (ka_ = (0 : Int32)) with c96 | c96
                      · skip
                        refine og (fun _ hr => XS.ifYes Xj.here hx rfl (pc0 := 249) (pc' := 255) rfl (hb hby at_249) rfl ((if0 _ _).trans (teq c96).1) (by decide) (by decide) hr) ?_
                        show oG p e below _ (Tj.setTop (mkF m 255 #[.val (.int x0), .val (.int x1), .val (.int x2), .val (.int x3), .val (.int x4), .val (.int x5), .val (.int z_), .val (.int ya_), .val (.int yb_), .val (.int yc_), .val (.int yd_), .val (.int ye_), .val (.ref b7), .val (.ref b33_0), .val (.ref b54_0), .val (.int ka_), .val (.int kb_), .val (.int kc_), .val (.int kd_), .val (.int ke_), .val (.int s0_), .val (.int s0_)] []))
                        exact j73 s0_ (by exact (if_pos c96).symm)
                      refine og (fun _ hr => XS.ifNo Xj.here hx rfl (hb hby at_249) rfl ((if0 _ _).trans (feq c96).1) hr) ?_
                      show oG p e below _ (Tj.setTop (mkF m 252 #[.val (.int x0), .val (.int x1), .val (.int x2), .val (.int x3), .val (.int x4), .val (.int x5), .val (.int z_), .val (.int ya_), .val (.int yb_), .val (.int yc_), .val (.int yd_), .val (.int ye_), .val (.ref b7), .val (.ref b33_0), .val (.ref b54_0), .val (.int ka_), .val (.int kb_), .val (.int kc_), .val (.int kd_), .val (.int ke_), .val (.int s0_), .val (.int s0_)] []))
                      refine og (fun _ hr => XS.iconst Xj.here hx rfl (hb hby at_252) (XS.istore Xj.here hx rfl (hb hby at_253) rfl (l' := #[.val (.int x0), .val (.int x1), .val (.int x2), .val (.int x3), .val (.int x4), .val (.int x5), .val (.int z_), .val (.int ya_), .val (.int yb_), .val (.int yc_), .val (.int yd_), .val (.int ye_), .val (.ref b7), .val (.ref b33_0), .val (.ref b54_0), .val (.int ka_), .val (.int kb_), .val (.int kc_), .val (.int kd_), .val (.int ke_), .val (.int s0_), .val (.int (1 : Int32))]) rfl hr)) ?_
                      show oG p e below _ (Tj.setTop (mkF m 255 #[.val (.int x0), .val (.int x1), .val (.int x2), .val (.int x3), .val (.int x4), .val (.int x5), .val (.int z_), .val (.int ya_), .val (.int yb_), .val (.int yc_), .val (.int yd_), .val (.int ye_), .val (.ref b7), .val (.ref b33_0), .val (.ref b54_0), .val (.int ka_), .val (.int kb_), .val (.int kc_), .val (.int kd_), .val (.int ke_), .val (.int s0_), .val (.int (1 : Int32))] []))
                      exact j73 (1 : Int32) (by exact (if_neg c96).symm)
                    refine og (fun _ hr => XS.iload Xj.here hx rfl (hb hby at_235) rfl hr) ?_
                    show oG p e below _ (Tj.setTop (mkF m 237 #[.val (.int x0), .val (.int x1), .val (.int x2), .val (.int x3), .val (.int x4), .val (.int x5), .val (.int z_), .val (.int ya_), .val (.int yb_), .val (.int yc_), .val (.int yd_), .val (.int ye_), .val (.ref b7), .val (.ref b33_0), .val (.ref b54_0), .val (.int ka_), .val (.int kb_), .val (.int kc_), .val (.int kd_), .val (.int ke_), .val (.int s1_), .unset] [(.int ka_)]))
                    rcases Classical.em (ka_ = (0 : Int32)) with c97 | c97
                    · skip
                      refine og (fun _ hr => XS.ifYes Xj.here hx rfl (pc0 := 237) (pc' := 243) rfl (hb hby at_237) rfl ((if0 _ _).trans (teq c97).1) (by decide) (by decide) hr) ?_
                      show oG p e below _ (Tj.setTop (mkF m 243 #[.val (.int x0), .val (.int x1), .val (.int x2), .val (.int x3), .val (.int x4), .val (.int x5), .val (.int z_), .val (.int ya_), .val (.int yb_), .val (.int yc_), .val (.int yd_), .val (.int ye_), .val (.ref b7), .val (.ref b33_0), .val (.ref b54_0), .val (.int ka_), .val (.int kb_), .val (.int kc_), .val (.int kd_), .val (.int ke_), .val (.int s1_), .unset] []))
                      exact j72 s1_ (by exact (if_pos c97).symm)
                    refine og (fun _ hr => XS.ifNo Xj.here hx rfl (hb hby at_237) rfl ((if0 _ _).trans (feq c97).1) hr) ?_
                    show oG p e below _ (Tj.setTop (mkF m 240 #[.val (.int x0), .val (.int x1), .val (.int x2), .val (.int x3), .val (.int x4), .val (.int x5), .val (.int z_), .val (.int ya_), .val (.int yb_), .val (.int yc_), .val (.int yd_), .val (.int ye_), .val (.ref b7), .val (.ref b33_0), .val (.ref b54_0), .val (.int ka_), .val (.int kb_), .val (.int kc_), .val (.int kd_), .val (.int ke_), .val (.int s1_), .unset] []))
                    refine og (fun _ hr => XS.iconst Xj.here hx rfl (hb hby at_240) (XS.istore Xj.here hx rfl (hb hby at_241) rfl (l' := #[.val (.int x0), .val (.int x1), .val (.int x2), .val (.int x3), .val (.int x4), .val (.int x5), .val (.int z_), .val (.int ya_), .val (.int yb_), .val (.int yc_), .val (.int yd_), .val (.int ye_), .val (.ref b7), .val (.ref b33_0), .val (.ref b54_0), .val (.int ka_), .val (.int kb_), .val (.int kc_), .val (.int kd_), .val (.int ke_), .val (.int (0 : Int32)), .unset]) rfl hr)) ?_
                    show oG p e below _ (Tj.setTop (mkF m 243 #[.val (.int x0), .val (.int x1), .val (.int x2), .val (.int x3), .val (.int x4), .val (.int x5), .val (.int z_), .val (.int ya_), .val (.int yb_), .val (.int yc_), .val (.int yd_), .val (.int ye_), .val (.ref b7), .val (.ref b33_0), .val (.ref b54_0), .val (.int ka_), .val (.int kb_), .val (.int kc_), .val (.int kd_), .val (.int ke_), .val (.int (0 : Int32)), .unset] []))
                    exact j72 (0 : Int32) (by exact (if_neg c97).symm)
                  refine og (fun _ hr => XS.iload Xj.here hx rfl (hb hby at_227) rfl hr) ?_
                  show oG p e below _ (Tj.setTop (mkF m 229 #[.val (.int x0), .val (.int x1), .val (.int x2), .val (.int x3), .val (.int x4), .val (.int x5), .val (.int z_), .val (.int ya_), .val (.int yb_), .val (.int yc_), .val (.int yd_), .val (.int ye_), .val (.ref b7), .val (.ref b33_0), .val (.ref b54_0), .val (.int ka_), .val (.int kb_), .val (.int kc_), .val (.int kd_), .val (.int ke_), .val (.int s2_), .unset] [(.int kb_)]))
                  rcases Classical.em (kb_ = (0 : Int32)) with c98 | c98
                  · skip
                    refine og (fun _ hr => XS.ifYes Xj.here hx rfl (pc0 := 229) (pc' := 235) rfl (hb hby at_229) rfl ((if0 _ _).trans (teq c98).1) (by decide) (by decide) hr) ?_
                    show oG p e below _ (Tj.setTop (mkF m 235 #[.val (.int x0), .val (.int x1), .val (.int x2), .val (.int x3), .val (.int x4), .val (.int x5), .val (.int z_), .val (.int ya_), .val (.int yb_), .val (.int yc_), .val (.int yd_), .val (.int ye_), .val (.ref b7), .val (.ref b33_0), .val (.ref b54_0), .val (.int ka_), .val (.int kb_), .val (.int kc_), .val (.int kd_), .val (.int ke_), .val (.int s2_), .unset] []))
                    exact j71 s2_ (by exact (if_pos c98).symm)
                  refine og (fun _ hr => XS.ifNo Xj.here hx rfl (hb hby at_229) rfl ((if0 _ _).trans (feq c98).1) hr) ?_
                  show oG p e below _ (Tj.setTop (mkF m 232 #[.val (.int x0), .val (.int x1), .val (.int x2), .val (.int x3), .val (.int x4), .val (.int x5), .val (.int z_), .val (.int ya_), .val (.int yb_), .val (.int yc_), .val (.int yd_), .val (.int ye_), .val (.ref b7), .val (.ref b33_0), .val (.ref b54_0), .val (.int ka_), .val (.int kb_), .val (.int kc_), .val (.int kd_), .val (.int ke_), .val (.int s2_), .unset] []))
                  refine og (fun _ hr => XS.iconst Xj.here hx rfl (hb hby at_232) (XS.istore Xj.here hx rfl (hb hby at_233) rfl (l' := #[.val (.int x0), .val (.int x1), .val (.int x2), .val (.int x3), .val (.int x4), .val (.int x5), .val (.int z_), .val (.int ya_), .val (.int yb_), .val (.int yc_), .val (.int yd_), .val (.int ye_), .val (.ref b7), .val (.ref b33_0), .val (.ref b54_0), .val (.int ka_), .val (.int kb_), .val (.int kc_), .val (.int kd_), .val (.int ke_), .val (.int (1 : Int32)), .unset]) rfl hr)) ?_
                  show oG p e below _ (Tj.setTop (mkF m 235 #[.val (.int x0), .val (.int x1), .val (.int x2), .val (.int x3), .val (.int x4), .val (.int x5), .val (.int z_), .val (.int ya_), .val (.int yb_), .val (.int yc_), .val (.int yd_), .val (.int ye_), .val (.ref b7), .val (.ref b33_0), .val (.ref b54_0), .val (.int ka_), .val (.int kb_), .val (.int kc_), .val (.int kd_), .val (.int ke_), .val (.int (1 : Int32)), .unset] []))
                  exact j71 (1 : Int32) (by exact (if_neg c98).symm)
                refine og (fun _ hr => XS.iload Xj.here hx rfl (hb hby at_219) rfl hr) ?_
                show oG p e below _ (Tj.setTop (mkF m 221 #[.val (.int x0), .val (.int x1), .val (.int x2), .val (.int x3), .val (.int x4), .val (.int x5), .val (.int z_), .val (.int ya_), .val (.int yb_), .val (.int yc_), .val (.int yd_), .val (.int ye_), .val (.ref b7), .val (.ref b33_0), .val (.ref b54_0), .val (.int ka_), .val (.int kb_), .val (.int kc_), .val (.int kd_), .val (.int ke_), .val (.int s3_), .unset] [(.int kc_)]))
                rcases Classical.em (kc_ = (0 : Int32)) with c99 | c99
                · skip
                  refine og (fun _ hr => XS.ifYes Xj.here hx rfl (pc0 := 221) (pc' := 227) rfl (hb hby at_221) rfl ((if0 _ _).trans (teq c99).1) (by decide) (by decide) hr) ?_
                  show oG p e below _ (Tj.setTop (mkF m 227 #[.val (.int x0), .val (.int x1), .val (.int x2), .val (.int x3), .val (.int x4), .val (.int x5), .val (.int z_), .val (.int ya_), .val (.int yb_), .val (.int yc_), .val (.int yd_), .val (.int ye_), .val (.ref b7), .val (.ref b33_0), .val (.ref b54_0), .val (.int ka_), .val (.int kb_), .val (.int kc_), .val (.int kd_), .val (.int ke_), .val (.int s3_), .unset] []))
                  exact j70 s3_ (by exact (if_pos c99).symm)
                refine og (fun _ hr => XS.ifNo Xj.here hx rfl (hb hby at_221) rfl ((if0 _ _).trans (feq c99).1) hr) ?_
                show oG p e below _ (Tj.setTop (mkF m 224 #[.val (.int x0), .val (.int x1), .val (.int x2), .val (.int x3), .val (.int x4), .val (.int x5), .val (.int z_), .val (.int ya_), .val (.int yb_), .val (.int yc_), .val (.int yd_), .val (.int ye_), .val (.ref b7), .val (.ref b33_0), .val (.ref b54_0), .val (.int ka_), .val (.int kb_), .val (.int kc_), .val (.int kd_), .val (.int ke_), .val (.int s3_), .unset] []))
                refine og (fun _ hr => XS.iconst Xj.here hx rfl (hb hby at_224) (XS.istore Xj.here hx rfl (hb hby at_225) rfl (l' := #[.val (.int x0), .val (.int x1), .val (.int x2), .val (.int x3), .val (.int x4), .val (.int x5), .val (.int z_), .val (.int ya_), .val (.int yb_), .val (.int yc_), .val (.int yd_), .val (.int ye_), .val (.ref b7), .val (.ref b33_0), .val (.ref b54_0), .val (.int ka_), .val (.int kb_), .val (.int kc_), .val (.int kd_), .val (.int ke_), .val (.int (2 : Int32)), .unset]) rfl hr)) ?_
                show oG p e below _ (Tj.setTop (mkF m 227 #[.val (.int x0), .val (.int x1), .val (.int x2), .val (.int x3), .val (.int x4), .val (.int x5), .val (.int z_), .val (.int ya_), .val (.int yb_), .val (.int yc_), .val (.int yd_), .val (.int ye_), .val (.ref b7), .val (.ref b33_0), .val (.ref b54_0), .val (.int ka_), .val (.int kb_), .val (.int kc_), .val (.int kd_), .val (.int ke_), .val (.int (2 : Int32)), .unset] []))
                exact j70 (2 : Int32) (by exact (if_neg c99).symm)
              refine og (fun _ hr => XS.iload Xj.here hx rfl (hb hby at_211) rfl hr) ?_
              show oG p e below _ (Tj.setTop (mkF m 213 #[.val (.int x0), .val (.int x1), .val (.int x2), .val (.int x3), .val (.int x4), .val (.int x5), .val (.int z_), .val (.int ya_), .val (.int yb_), .val (.int yc_), .val (.int yd_), .val (.int ye_), .val (.ref b7), .val (.ref b33_0), .val (.ref b54_0), .val (.int ka_), .val (.int kb_), .val (.int kc_), .val (.int kd_), .val (.int ke_), .val (.int s4_), .unset] [(.int kd_)]))
              rcases Classical.em (kd_ = (0 : Int32)) with c100 | c100
              · skip
                refine og (fun _ hr => XS.ifYes Xj.here hx rfl (pc0 := 213) (pc' := 219) rfl (hb hby at_213) rfl ((if0 _ _).trans (teq c100).1) (by decide) (by decide) hr) ?_
                show oG p e below _ (Tj.setTop (mkF m 219 #[.val (.int x0), .val (.int x1), .val (.int x2), .val (.int x3), .val (.int x4), .val (.int x5), .val (.int z_), .val (.int ya_), .val (.int yb_), .val (.int yc_), .val (.int yd_), .val (.int ye_), .val (.ref b7), .val (.ref b33_0), .val (.ref b54_0), .val (.int ka_), .val (.int kb_), .val (.int kc_), .val (.int kd_), .val (.int ke_), .val (.int s4_), .unset] []))
                exact j69 s4_ (by exact (if_pos c100).symm)
              refine og (fun _ hr => XS.ifNo Xj.here hx rfl (hb hby at_213) rfl ((if0 _ _).trans (feq c100).1) hr) ?_
              show oG p e below _ (Tj.setTop (mkF m 216 #[.val (.int x0), .val (.int x1), .val (.int x2), .val (.int x3), .val (.int x4), .val (.int x5), .val (.int z_), .val (.int ya_), .val (.int yb_), .val (.int yc_), .val (.int yd_), .val (.int ye_), .val (.ref b7), .val (.ref b33_0), .val (.ref b54_0), .val (.int ka_), .val (.int kb_), .val (.int kc_), .val (.int kd_), .val (.int ke_), .val (.int s4_), .unset] []))
              refine og (fun _ hr => XS.iconst Xj.here hx rfl (hb hby at_216) (XS.istore Xj.here hx rfl (hb hby at_217) rfl (l' := #[.val (.int x0), .val (.int x1), .val (.int x2), .val (.int x3), .val (.int x4), .val (.int x5), .val (.int z_), .val (.int ya_), .val (.int yb_), .val (.int yc_), .val (.int yd_), .val (.int ye_), .val (.ref b7), .val (.ref b33_0), .val (.ref b54_0), .val (.int ka_), .val (.int kb_), .val (.int kc_), .val (.int kd_), .val (.int ke_), .val (.int (3 : Int32)), .unset]) rfl hr)) ?_
              show oG p e below _ (Tj.setTop (mkF m 219 #[.val (.int x0), .val (.int x1), .val (.int x2), .val (.int x3), .val (.int x4), .val (.int x5), .val (.int z_), .val (.int ya_), .val (.int yb_), .val (.int yc_), .val (.int yd_), .val (.int ye_), .val (.ref b7), .val (.ref b33_0), .val (.ref b54_0), .val (.int ka_), .val (.int kb_), .val (.int kc_), .val (.int kd_), .val (.int ke_), .val (.int (3 : Int32)), .unset] []))
              exact j69 (3 : Int32) (by exact (if_neg c100).symm)
            refine og (fun _ hr => XS.iload Xj.here hx rfl (hb hby at_203) rfl hr) ?_
            show oG p e below _ (Tj.setTop (mkF m 205 #[.val (.int x0), .val (.int x1), .val (.int x2), .val (.int x3), .val (.int x4), .val (.int x5), .val (.int z_), .val (.int ya_), .val (.int yb_), .val (.int yc_), .val (.int yd_), .val (.int ye_), .val (.ref b7), .val (.ref b33_0), .val (.ref b54_0), .val (.int ka_), .val (.int kb_), .val (.int kc_), .val (.int kd_), .val (.int ke_), .val (.int z_), .unset] [(.int ke_)]))
            rcases Classical.em (ke_ = (0 : Int32)) with c101 | c101
            · skip
              refine og (fun _ hr => XS.ifYes Xj.here hx rfl (pc0 := 205) (pc' := 211) rfl (hb hby at_205) rfl ((if0 _ _).trans (teq c101).1) (by decide) (by decide) hr) ?_
              show oG p e below _ (Tj.setTop (mkF m 211 #[.val (.int x0), .val (.int x1), .val (.int x2), .val (.int x3), .val (.int x4), .val (.int x5), .val (.int z_), .val (.int ya_), .val (.int yb_), .val (.int yc_), .val (.int yd_), .val (.int ye_), .val (.ref b7), .val (.ref b33_0), .val (.ref b54_0), .val (.int ka_), .val (.int kb_), .val (.int kc_), .val (.int kd_), .val (.int ke_), .val (.int z_), .unset] []))
              exact j68 z_ (by exact (if_pos c101).symm)
            refine og (fun _ hr => XS.ifNo Xj.here hx rfl (hb hby at_205) rfl ((if0 _ _).trans (feq c101).1) hr) ?_
            show oG p e below _ (Tj.setTop (mkF m 208 #[.val (.int x0), .val (.int x1), .val (.int x2), .val (.int x3), .val (.int x4), .val (.int x5), .val (.int z_), .val (.int ya_), .val (.int yb_), .val (.int yc_), .val (.int yd_), .val (.int ye_), .val (.ref b7), .val (.ref b33_0), .val (.ref b54_0), .val (.int ka_), .val (.int kb_), .val (.int kc_), .val (.int kd_), .val (.int ke_), .val (.int z_), .unset] []))
            refine og (fun _ hr => XS.iconst Xj.here hx rfl (hb hby at_208) (XS.istore Xj.here hx rfl (hb hby at_209) rfl (l' := #[.val (.int x0), .val (.int x1), .val (.int x2), .val (.int x3), .val (.int x4), .val (.int x5), .val (.int z_), .val (.int ya_), .val (.int yb_), .val (.int yc_), .val (.int yd_), .val (.int ye_), .val (.ref b7), .val (.ref b33_0), .val (.ref b54_0), .val (.int ka_), .val (.int kb_), .val (.int kc_), .val (.int kd_), .val (.int ke_), .val (.int (4 : Int32)), .unset]) rfl hr)) ?_
            show oG p e below _ (Tj.setTop (mkF m 211 #[.val (.int x0), .val (.int x1), .val (.int x2), .val (.int x3), .val (.int x4), .val (.int x5), .val (.int z_), .val (.int ya_), .val (.int yb_), .val (.int yc_), .val (.int yd_), .val (.int ye_), .val (.ref b7), .val (.ref b33_0), .val (.ref b54_0), .val (.int ka_), .val (.int kb_), .val (.int kc_), .val (.int kd_), .val (.int ke_), .val (.int (4 : Int32)), .unset] []))
            exact j68 (4 : Int32) (by exact (if_neg c101).symm)
          refine og (fun _ hr => XS.iload Xj.here hx rfl (hb hby at_178) rfl (XS.iconst Xj.here hx rfl (hb hby at_180) hr)) ?_
          show oG p e below _ (Tj.setTop (mkF m 181 #[.val (.int x0), .val (.int x1), .val (.int x2), .val (.int x3), .val (.int x4), .val (.int x5), .val (.int z_), .val (.int ya_), .val (.int yb_), .val (.int yc_), .val (.int yd_), .val (.int ye_), .val (.ref b7), .val (.ref b33_0), .val (.ref b54_0), .val (.int ka_), .val (.int kb_), .val (.int kc_), .val (.int kd_), .unset, .unset, .unset] [(.int (4 : Int32)), (.int z_)]))
          rcases Classical.em ((4 : Int32) < z_) with c102 | c102
          · skip
            refine og (fun _ hr => XS.icmpNo Xj.here hx rfl (hb hby at_181) rfl (tlt c102).2.2.2 hr) ?_
            show oG p e below _ (Tj.setTop (mkF m 184 #[.val (.int x0), .val (.int x1), .val (.int x2), .val (.int x3), .val (.int x4), .val (.int x5), .val (.int z_), .val (.int ya_), .val (.int yb_), .val (.int yc_), .val (.int yd_), .val (.int ye_), .val (.ref b7), .val (.ref b33_0), .val (.ref b54_0), .val (.int ka_), .val (.int kb_), .val (.int kc_), .val (.int kd_), .unset, .unset, .unset] []))
            refine og (fun _ hr => XS.iload Xj.here hx rfl (hb hby at_184) rfl hr) ?_
            show oG p e below _ (Tj.setTop (mkF m 186 #[.val (.int x0), .val (.int x1), .val (.int x2), .val (.int x3), .val (.int x4), .val (.int x5), .val (.int z_), .val (.int ya_), .val (.int yb_), .val (.int yc_), .val (.int yd_), .val (.int ye_), .val (.ref b7), .val (.ref b33_0), .val (.ref b54_0), .val (.int ka_), .val (.int kb_), .val (.int kc_), .val (.int kd_), .unset, .unset, .unset] [(.int ye_)]))
            have Z104 := (Nat.le_trans Z61 K54.1)
            refine own_cs Xj hx hZ hown (hw _ (own_m 122 rfl)) (hw _ (own_m 123 rfl)) (hw _ (own_m 3 rfl)) (hw _ (own_m 124 rfl)) (by decide) (rm := { frames := 0, cells := 0, slots := 0, locals := 0 }) (rm_wh l Z a0 hw [] ye_ T54.heap n0 Z104 ) (by decide) (W := 0) (by decide) (by decide) (by decide) ej (by rw [hml]; rfl) (argsL := [(.int ye_)]) (lenOf own_pd26 rfl) (rest := []) rfl rfl (Nat.le_of_eq rfl) (hb hby at_186) ?_
            intro _ T103 L103 X103 hQ103
            obtain ⟨rfl, N103q, e103⟩ := hQ103
            have N103 := Fr.app Nj N103q
            show oG p e below _ (T103.setTop (mkF m 189 #[.val (.int x0), .val (.int x1), .val (.int x2), .val (.int x3), .val (.int x4), .val (.int x5), .val (.int z_), .val (.int ya_), .val (.int yb_), .val (.int yc_), .val (.int yd_), .val (.int ye_), .val (.ref b7), .val (.ref b33_0), .val (.ref b54_0), .val (.int ka_), .val (.int kb_), .val (.int kc_), .val (.int kd_), .unset, .unset, .unset] [(.int (own_wh ye_))]))
            rcases Classical.em ((own_wh ye_) = (0 : Int32)) with c105 | c105
            · skip
              refine og (fun _ hr => XS.ifNo X103.here hx rfl (hb hby at_189) rfl ((if0 _ _).trans (teq c105).2) hr) ?_
              show oG p e below _ (T103.setTop (mkF m 192 #[.val (.int x0), .val (.int x1), .val (.int x2), .val (.int x3), .val (.int x4), .val (.int x5), .val (.int z_), .val (.int ya_), .val (.int yb_), .val (.int yc_), .val (.int yd_), .val (.int ye_), .val (.ref b7), .val (.ref b33_0), .val (.ref b54_0), .val (.int ka_), .val (.int kb_), .val (.int kc_), .val (.int kd_), .unset, .unset, .unset] []))
              refine og (fun _ hr => XS.iconst X103.here hx rfl (hb hby at_192) (XS.goto X103.here hx rfl (pc0 := 193) (pc' := 197) rfl (hb hby at_193) (by decide) (by decide) (XS.istore X103.here hx rfl (hb hby at_197) rfl (l' := #[.val (.int x0), .val (.int x1), .val (.int x2), .val (.int x3), .val (.int x4), .val (.int x5), .val (.int z_), .val (.int ya_), .val (.int yb_), .val (.int yc_), .val (.int yd_), .val (.int ye_), .val (.ref b7), .val (.ref b33_0), .val (.ref b54_0), .val (.int ka_), .val (.int kb_), .val (.int kc_), .val (.int kd_), .val (.int (1 : Int32)), .unset, .unset]) rfl hr))) ?_
              show oG p e below _ (T103.setTop (mkF m 199 #[.val (.int x0), .val (.int x1), .val (.int x2), .val (.int x3), .val (.int x4), .val (.int x5), .val (.int z_), .val (.int ya_), .val (.int yb_), .val (.int yc_), .val (.int yd_), .val (.int ye_), .val (.ref b7), .val (.ref b33_0), .val (.ref b54_0), .val (.int ka_), .val (.int kb_), .val (.int kc_), .val (.int kd_), .val (.int (1 : Int32)), .unset, .unset] []))
              exact jkke_ (1 : Int32) T103 _ ((by unfold own_kk; rw [if_pos c102, if_pos c105])) X103 N103 e103
            refine og (fun _ hr => XS.ifYes X103.here hx rfl (pc0 := 189) (pc' := 196) rfl (hb hby at_189) rfl ((if0 _ _).trans (feq c105).2) (by decide) (by decide) hr) ?_
            show oG p e below _ (T103.setTop (mkF m 196 #[.val (.int x0), .val (.int x1), .val (.int x2), .val (.int x3), .val (.int x4), .val (.int x5), .val (.int z_), .val (.int ya_), .val (.int yb_), .val (.int yc_), .val (.int yd_), .val (.int ye_), .val (.ref b7), .val (.ref b33_0), .val (.ref b54_0), .val (.int ka_), .val (.int kb_), .val (.int kc_), .val (.int kd_), .unset, .unset, .unset] []))
            refine og (fun _ hr => XS.iconst X103.here hx rfl (hb hby at_196) (XS.istore X103.here hx rfl (hb hby at_197) rfl (l' := #[.val (.int x0), .val (.int x1), .val (.int x2), .val (.int x3), .val (.int x4), .val (.int x5), .val (.int z_), .val (.int ya_), .val (.int yb_), .val (.int yc_), .val (.int yd_), .val (.int ye_), .val (.ref b7), .val (.ref b33_0), .val (.ref b54_0), .val (.int ka_), .val (.int kb_), .val (.int kc_), .val (.int kd_), .val (.int (0 : Int32)), .unset, .unset]) rfl hr)) ?_
            show oG p e below _ (T103.setTop (mkF m 199 #[.val (.int x0), .val (.int x1), .val (.int x2), .val (.int x3), .val (.int x4), .val (.int x5), .val (.int z_), .val (.int ya_), .val (.int yb_), .val (.int yc_), .val (.int yd_), .val (.int ye_), .val (.ref b7), .val (.ref b33_0), .val (.ref b54_0), .val (.int ka_), .val (.int kb_), .val (.int kc_), .val (.int kd_), .val (.int (0 : Int32)), .unset, .unset] []))
            exact jkke_ (0 : Int32) T103 _ ((by unfold own_kk; rw [if_pos c102, if_neg c105])) X103 N103 e103
          refine og (fun _ hr => XS.icmpYes Xj.here hx rfl (pc0 := 181) (pc' := 196) rfl (hb hby at_181) rfl (flt c102).2.2.2 (by decide) (by decide) hr) ?_
          show oG p e below _ (Tj.setTop (mkF m 196 #[.val (.int x0), .val (.int x1), .val (.int x2), .val (.int x3), .val (.int x4), .val (.int x5), .val (.int z_), .val (.int ya_), .val (.int yb_), .val (.int yc_), .val (.int yd_), .val (.int ye_), .val (.ref b7), .val (.ref b33_0), .val (.ref b54_0), .val (.int ka_), .val (.int kb_), .val (.int kc_), .val (.int kd_), .unset, .unset, .unset] []))
          refine og (fun _ hr => XS.iconst Xj.here hx rfl (hb hby at_196) (XS.istore Xj.here hx rfl (hb hby at_197) rfl (l' := #[.val (.int x0), .val (.int x1), .val (.int x2), .val (.int x3), .val (.int x4), .val (.int x5), .val (.int z_), .val (.int ya_), .val (.int yb_), .val (.int yc_), .val (.int yd_), .val (.int ye_), .val (.ref b7), .val (.ref b33_0), .val (.ref b54_0), .val (.int ka_), .val (.int kb_), .val (.int kc_), .val (.int kd_), .val (.int (0 : Int32)), .unset, .unset]) rfl hr)) ?_
          show oG p e below _ (Tj.setTop (mkF m 199 #[.val (.int x0), .val (.int x1), .val (.int x2), .val (.int x3), .val (.int x4), .val (.int x5), .val (.int z_), .val (.int ya_), .val (.int yb_), .val (.int yc_), .val (.int yd_), .val (.int ye_), .val (.ref b7), .val (.ref b33_0), .val (.ref b54_0), .val (.int ka_), .val (.int kb_), .val (.int kc_), .val (.int kd_), .val (.int (0 : Int32)), .unset, .unset] []))
          exact jkke_ (0 : Int32) Tj _ ((by unfold own_kk; rw [if_neg c102])) Xj Nj ej
        refine og (fun _ hr => XS.iload Xj.here hx rfl (hb hby at_157) rfl (XS.iconst Xj.here hx rfl (hb hby at_159) hr)) ?_
        show oG p e below _ (Tj.setTop (mkF m 160 #[.val (.int x0), .val (.int x1), .val (.int x2), .val (.int x3), .val (.int x4), .val (.int x5), .val (.int z_), .val (.int ya_), .val (.int yb_), .val (.int yc_), .val (.int yd_), .val (.int ye_), .val (.ref b7), .val (.ref b33_0), .val (.ref b54_0), .val (.int ka_), .val (.int kb_), .val (.int kc_), .unset, .unset, .unset, .unset] [(.int (3 : Int32)), (.int z_)]))
        rcases Classical.em ((3 : Int32) < z_) with c106 | c106
        · skip
          refine og (fun _ hr => XS.icmpNo Xj.here hx rfl (hb hby at_160) rfl (tlt c106).2.2.2 hr) ?_
          show oG p e below _ (Tj.setTop (mkF m 163 #[.val (.int x0), .val (.int x1), .val (.int x2), .val (.int x3), .val (.int x4), .val (.int x5), .val (.int z_), .val (.int ya_), .val (.int yb_), .val (.int yc_), .val (.int yd_), .val (.int ye_), .val (.ref b7), .val (.ref b33_0), .val (.ref b54_0), .val (.int ka_), .val (.int kb_), .val (.int kc_), .unset, .unset, .unset, .unset] []))
          refine og (fun _ hr => XS.iload Xj.here hx rfl (hb hby at_163) rfl hr) ?_
          show oG p e below _ (Tj.setTop (mkF m 165 #[.val (.int x0), .val (.int x1), .val (.int x2), .val (.int x3), .val (.int x4), .val (.int x5), .val (.int z_), .val (.int ya_), .val (.int yb_), .val (.int yc_), .val (.int yd_), .val (.int ye_), .val (.ref b7), .val (.ref b33_0), .val (.ref b54_0), .val (.int ka_), .val (.int kb_), .val (.int kc_), .unset, .unset, .unset, .unset] [(.int yd_)]))
          have Z108 := (Nat.le_trans Z61 K54.1)
          refine own_cs Xj hx hZ hown (hw _ (own_m 122 rfl)) (hw _ (own_m 123 rfl)) (hw _ (own_m 3 rfl)) (hw _ (own_m 124 rfl)) (by decide) (rm := { frames := 0, cells := 0, slots := 0, locals := 0 }) (rm_wh l Z a0 hw [] yd_ T54.heap n0 Z108 ) (by decide) (W := 0) (by decide) (by decide) (by decide) ej (by rw [hml]; rfl) (argsL := [(.int yd_)]) (lenOf own_pd26 rfl) (rest := []) rfl rfl (Nat.le_of_eq rfl) (hb hby at_165) ?_
          intro _ T107 L107 X107 hQ107
          obtain ⟨rfl, N107q, e107⟩ := hQ107
          have N107 := Fr.app Nj N107q
          show oG p e below _ (T107.setTop (mkF m 168 #[.val (.int x0), .val (.int x1), .val (.int x2), .val (.int x3), .val (.int x4), .val (.int x5), .val (.int z_), .val (.int ya_), .val (.int yb_), .val (.int yc_), .val (.int yd_), .val (.int ye_), .val (.ref b7), .val (.ref b33_0), .val (.ref b54_0), .val (.int ka_), .val (.int kb_), .val (.int kc_), .unset, .unset, .unset, .unset] [(.int (own_wh yd_))]))
          rcases Classical.em ((own_wh yd_) = (0 : Int32)) with c109 | c109
          · skip
            refine og (fun _ hr => XS.ifNo X107.here hx rfl (hb hby at_168) rfl ((if0 _ _).trans (teq c109).2) hr) ?_
            show oG p e below _ (T107.setTop (mkF m 171 #[.val (.int x0), .val (.int x1), .val (.int x2), .val (.int x3), .val (.int x4), .val (.int x5), .val (.int z_), .val (.int ya_), .val (.int yb_), .val (.int yc_), .val (.int yd_), .val (.int ye_), .val (.ref b7), .val (.ref b33_0), .val (.ref b54_0), .val (.int ka_), .val (.int kb_), .val (.int kc_), .unset, .unset, .unset, .unset] []))
            refine og (fun _ hr => XS.iconst X107.here hx rfl (hb hby at_171) (XS.goto X107.here hx rfl (pc0 := 172) (pc' := 176) rfl (hb hby at_172) (by decide) (by decide) (XS.istore X107.here hx rfl (hb hby at_176) rfl (l' := #[.val (.int x0), .val (.int x1), .val (.int x2), .val (.int x3), .val (.int x4), .val (.int x5), .val (.int z_), .val (.int ya_), .val (.int yb_), .val (.int yc_), .val (.int yd_), .val (.int ye_), .val (.ref b7), .val (.ref b33_0), .val (.ref b54_0), .val (.int ka_), .val (.int kb_), .val (.int kc_), .val (.int (1 : Int32)), .unset, .unset, .unset]) rfl hr))) ?_
            show oG p e below _ (T107.setTop (mkF m 178 #[.val (.int x0), .val (.int x1), .val (.int x2), .val (.int x3), .val (.int x4), .val (.int x5), .val (.int z_), .val (.int ya_), .val (.int yb_), .val (.int yc_), .val (.int yd_), .val (.int ye_), .val (.ref b7), .val (.ref b33_0), .val (.ref b54_0), .val (.int ka_), .val (.int kb_), .val (.int kc_), .val (.int (1 : Int32)), .unset, .unset, .unset] []))
            exact jkkd_ (1 : Int32) T107 _ ((by unfold own_kk; rw [if_pos c106, if_pos c109])) X107 N107 e107
          refine og (fun _ hr => XS.ifYes X107.here hx rfl (pc0 := 168) (pc' := 175) rfl (hb hby at_168) rfl ((if0 _ _).trans (feq c109).2) (by decide) (by decide) hr) ?_
          show oG p e below _ (T107.setTop (mkF m 175 #[.val (.int x0), .val (.int x1), .val (.int x2), .val (.int x3), .val (.int x4), .val (.int x5), .val (.int z_), .val (.int ya_), .val (.int yb_), .val (.int yc_), .val (.int yd_), .val (.int ye_), .val (.ref b7), .val (.ref b33_0), .val (.ref b54_0), .val (.int ka_), .val (.int kb_), .val (.int kc_), .unset, .unset, .unset, .unset] []))
          refine og (fun _ hr => XS.iconst X107.here hx rfl (hb hby at_175) (XS.istore X107.here hx rfl (hb hby at_176) rfl (l' := #[.val (.int x0), .val (.int x1), .val (.int x2), .val (.int x3), .val (.int x4), .val (.int x5), .val (.int z_), .val (.int ya_), .val (.int yb_), .val (.int yc_), .val (.int yd_), .val (.int ye_), .val (.ref b7), .val (.ref b33_0), .val (.ref b54_0), .val (.int ka_), .val (.int kb_), .val (.int kc_), .val (.int (0 : Int32)), .unset, .unset, .unset]) rfl hr)) ?_
          show oG p e below _ (T107.setTop (mkF m 178 #[.val (.int x0), .val (.int x1), .val (.int x2), .val (.int x3), .val (.int x4), .val (.int x5), .val (.int z_), .val (.int ya_), .val (.int yb_), .val (.int yc_), .val (.int yd_), .val (.int ye_), .val (.ref b7), .val (.ref b33_0), .val (.ref b54_0), .val (.int ka_), .val (.int kb_), .val (.int kc_), .val (.int (0 : Int32)), .unset, .unset, .unset] []))
          exact jkkd_ (0 : Int32) T107 _ ((by unfold own_kk; rw [if_pos c106, if_neg c109])) X107 N107 e107
        refine og (fun _ hr => XS.icmpYes Xj.here hx rfl (pc0 := 160) (pc' := 175) rfl (hb hby at_160) rfl (flt c106).2.2.2 (by decide) (by decide) hr) ?_
        show oG p e below _ (Tj.setTop (mkF m 175 #[.val (.int x0), .val (.int x1), .val (.int x2), .val (.int x3), .val (.int x4), .val (.int x5), .val (.int z_), .val (.int ya_), .val (.int yb_), .val (.int yc_), .val (.int yd_), .val (.int ye_), .val (.ref b7), .val (.ref b33_0), .val (.ref b54_0), .val (.int ka_), .val (.int kb_), .val (.int kc_), .unset, .unset, .unset, .unset] []))
        refine og (fun _ hr => XS.iconst Xj.here hx rfl (hb hby at_175) (XS.istore Xj.here hx rfl (hb hby at_176) rfl (l' := #[.val (.int x0), .val (.int x1), .val (.int x2), .val (.int x3), .val (.int x4), .val (.int x5), .val (.int z_), .val (.int ya_), .val (.int yb_), .val (.int yc_), .val (.int yd_), .val (.int ye_), .val (.ref b7), .val (.ref b33_0), .val (.ref b54_0), .val (.int ka_), .val (.int kb_), .val (.int kc_), .val (.int (0 : Int32)), .unset, .unset, .unset]) rfl hr)) ?_
        show oG p e below _ (Tj.setTop (mkF m 178 #[.val (.int x0), .val (.int x1), .val (.int x2), .val (.int x3), .val (.int x4), .val (.int x5), .val (.int z_), .val (.int ya_), .val (.int yb_), .val (.int yc_), .val (.int yd_), .val (.int ye_), .val (.ref b7), .val (.ref b33_0), .val (.ref b54_0), .val (.int ka_), .val (.int kb_), .val (.int kc_), .val (.int (0 : Int32)), .unset, .unset, .unset] []))
        exact jkkd_ (0 : Int32) Tj _ ((by unfold own_kk; rw [if_neg c106])) Xj Nj ej
      refine og (fun _ hr => XS.iload Xj.here hx rfl (hb hby at_136) rfl (XS.iconst Xj.here hx rfl (hb hby at_138) hr)) ?_
      show oG p e below _ (Tj.setTop (mkF m 139 #[.val (.int x0), .val (.int x1), .val (.int x2), .val (.int x3), .val (.int x4), .val (.int x5), .val (.int z_), .val (.int ya_), .val (.int yb_), .val (.int yc_), .val (.int yd_), .val (.int ye_), .val (.ref b7), .val (.ref b33_0), .val (.ref b54_0), .val (.int ka_), .val (.int kb_), .unset, .unset, .unset, .unset, .unset] [(.int (2 : Int32)), (.int z_)]))
      rcases Classical.em ((2 : Int32) < z_) with c110 | c110
      · skip
        refine og (fun _ hr => XS.icmpNo Xj.here hx rfl (hb hby at_139) rfl (tlt c110).2.2.2 hr) ?_
        show oG p e below _ (Tj.setTop (mkF m 142 #[.val (.int x0), .val (.int x1), .val (.int x2), .val (.int x3), .val (.int x4), .val (.int x5), .val (.int z_), .val (.int ya_), .val (.int yb_), .val (.int yc_), .val (.int yd_), .val (.int ye_), .val (.ref b7), .val (.ref b33_0), .val (.ref b54_0), .val (.int ka_), .val (.int kb_), .unset, .unset, .unset, .unset, .unset] []))
        refine og (fun _ hr => XS.iload Xj.here hx rfl (hb hby at_142) rfl hr) ?_
        show oG p e below _ (Tj.setTop (mkF m 144 #[.val (.int x0), .val (.int x1), .val (.int x2), .val (.int x3), .val (.int x4), .val (.int x5), .val (.int z_), .val (.int ya_), .val (.int yb_), .val (.int yc_), .val (.int yd_), .val (.int ye_), .val (.ref b7), .val (.ref b33_0), .val (.ref b54_0), .val (.int ka_), .val (.int kb_), .unset, .unset, .unset, .unset, .unset] [(.int yc_)]))
        have Z112 := (Nat.le_trans Z61 K54.1)
        refine own_cs Xj hx hZ hown (hw _ (own_m 122 rfl)) (hw _ (own_m 123 rfl)) (hw _ (own_m 3 rfl)) (hw _ (own_m 124 rfl)) (by decide) (rm := { frames := 0, cells := 0, slots := 0, locals := 0 }) (rm_wh l Z a0 hw [] yc_ T54.heap n0 Z112 ) (by decide) (W := 0) (by decide) (by decide) (by decide) ej (by rw [hml]; rfl) (argsL := [(.int yc_)]) (lenOf own_pd26 rfl) (rest := []) rfl rfl (Nat.le_of_eq rfl) (hb hby at_144) ?_
        intro _ T111 L111 X111 hQ111
        obtain ⟨rfl, N111q, e111⟩ := hQ111
        have N111 := Fr.app Nj N111q
        show oG p e below _ (T111.setTop (mkF m 147 #[.val (.int x0), .val (.int x1), .val (.int x2), .val (.int x3), .val (.int x4), .val (.int x5), .val (.int z_), .val (.int ya_), .val (.int yb_), .val (.int yc_), .val (.int yd_), .val (.int ye_), .val (.ref b7), .val (.ref b33_0), .val (.ref b54_0), .val (.int ka_), .val (.int kb_), .unset, .unset, .unset, .unset, .unset] [(.int (own_wh yc_))]))
        rcases Classical.em ((own_wh yc_) = (0 : Int32)) with c113 | c113
        · skip
          refine og (fun _ hr => XS.ifNo X111.here hx rfl (hb hby at_147) rfl ((if0 _ _).trans (teq c113).2) hr) ?_
          show oG p e below _ (T111.setTop (mkF m 150 #[.val (.int x0), .val (.int x1), .val (.int x2), .val (.int x3), .val (.int x4), .val (.int x5), .val (.int z_), .val (.int ya_), .val (.int yb_), .val (.int yc_), .val (.int yd_), .val (.int ye_), .val (.ref b7), .val (.ref b33_0), .val (.ref b54_0), .val (.int ka_), .val (.int kb_), .unset, .unset, .unset, .unset, .unset] []))
          refine og (fun _ hr => XS.iconst X111.here hx rfl (hb hby at_150) (XS.goto X111.here hx rfl (pc0 := 151) (pc' := 155) rfl (hb hby at_151) (by decide) (by decide) (XS.istore X111.here hx rfl (hb hby at_155) rfl (l' := #[.val (.int x0), .val (.int x1), .val (.int x2), .val (.int x3), .val (.int x4), .val (.int x5), .val (.int z_), .val (.int ya_), .val (.int yb_), .val (.int yc_), .val (.int yd_), .val (.int ye_), .val (.ref b7), .val (.ref b33_0), .val (.ref b54_0), .val (.int ka_), .val (.int kb_), .val (.int (1 : Int32)), .unset, .unset, .unset, .unset]) rfl hr))) ?_
          show oG p e below _ (T111.setTop (mkF m 157 #[.val (.int x0), .val (.int x1), .val (.int x2), .val (.int x3), .val (.int x4), .val (.int x5), .val (.int z_), .val (.int ya_), .val (.int yb_), .val (.int yc_), .val (.int yd_), .val (.int ye_), .val (.ref b7), .val (.ref b33_0), .val (.ref b54_0), .val (.int ka_), .val (.int kb_), .val (.int (1 : Int32)), .unset, .unset, .unset, .unset] []))
          exact jkkc_ (1 : Int32) T111 _ ((by unfold own_kk; rw [if_pos c110, if_pos c113])) X111 N111 e111
        refine og (fun _ hr => XS.ifYes X111.here hx rfl (pc0 := 147) (pc' := 154) rfl (hb hby at_147) rfl ((if0 _ _).trans (feq c113).2) (by decide) (by decide) hr) ?_
        show oG p e below _ (T111.setTop (mkF m 154 #[.val (.int x0), .val (.int x1), .val (.int x2), .val (.int x3), .val (.int x4), .val (.int x5), .val (.int z_), .val (.int ya_), .val (.int yb_), .val (.int yc_), .val (.int yd_), .val (.int ye_), .val (.ref b7), .val (.ref b33_0), .val (.ref b54_0), .val (.int ka_), .val (.int kb_), .unset, .unset, .unset, .unset, .unset] []))
        refine og (fun _ hr => XS.iconst X111.here hx rfl (hb hby at_154) (XS.istore X111.here hx rfl (hb hby at_155) rfl (l' := #[.val (.int x0), .val (.int x1), .val (.int x2), .val (.int x3), .val (.int x4), .val (.int x5), .val (.int z_), .val (.int ya_), .val (.int yb_), .val (.int yc_), .val (.int yd_), .val (.int ye_), .val (.ref b7), .val (.ref b33_0), .val (.ref b54_0), .val (.int ka_), .val (.int kb_), .val (.int (0 : Int32)), .unset, .unset, .unset, .unset]) rfl hr)) ?_
        show oG p e below _ (T111.setTop (mkF m 157 #[.val (.int x0), .val (.int x1), .val (.int x2), .val (.int x3), .val (.int x4), .val (.int x5), .val (.int z_), .val (.int ya_), .val (.int yb_), .val (.int yc_), .val (.int yd_), .val (.int ye_), .val (.ref b7), .val (.ref b33_0), .val (.ref b54_0), .val (.int ka_), .val (.int kb_), .val (.int (0 : Int32)), .unset, .unset, .unset, .unset] []))
        exact jkkc_ (0 : Int32) T111 _ ((by unfold own_kk; rw [if_pos c110, if_neg c113])) X111 N111 e111
      refine og (fun _ hr => XS.icmpYes Xj.here hx rfl (pc0 := 139) (pc' := 154) rfl (hb hby at_139) rfl (flt c110).2.2.2 (by decide) (by decide) hr) ?_
      show oG p e below _ (Tj.setTop (mkF m 154 #[.val (.int x0), .val (.int x1), .val (.int x2), .val (.int x3), .val (.int x4), .val (.int x5), .val (.int z_), .val (.int ya_), .val (.int yb_), .val (.int yc_), .val (.int yd_), .val (.int ye_), .val (.ref b7), .val (.ref b33_0), .val (.ref b54_0), .val (.int ka_), .val (.int kb_), .unset, .unset, .unset, .unset, .unset] []))
      refine og (fun _ hr => XS.iconst Xj.here hx rfl (hb hby at_154) (XS.istore Xj.here hx rfl (hb hby at_155) rfl (l' := #[.val (.int x0), .val (.int x1), .val (.int x2), .val (.int x3), .val (.int x4), .val (.int x5), .val (.int z_), .val (.int ya_), .val (.int yb_), .val (.int yc_), .val (.int yd_), .val (.int ye_), .val (.ref b7), .val (.ref b33_0), .val (.ref b54_0), .val (.int ka_), .val (.int kb_), .val (.int (0 : Int32)), .unset, .unset, .unset, .unset]) rfl hr)) ?_
      show oG p e below _ (Tj.setTop (mkF m 157 #[.val (.int x0), .val (.int x1), .val (.int x2), .val (.int x3), .val (.int x4), .val (.int x5), .val (.int z_), .val (.int ya_), .val (.int yb_), .val (.int yc_), .val (.int yd_), .val (.int ye_), .val (.ref b7), .val (.ref b33_0), .val (.ref b54_0), .val (.int ka_), .val (.int kb_), .val (.int (0 : Int32)), .unset, .unset, .unset, .unset] []))
      exact jkkc_ (0 : Int32) Tj _ ((by unfold own_kk; rw [if_neg c110])) Xj Nj ej
    refine og (fun _ hr => XS.iload Xj.here hx rfl (hb hby at_115) rfl (XS.iconst Xj.here hx rfl (hb hby at_117) hr)) ?_
    show oG p e below _ (Tj.setTop (mkF m 118 #[.val (.int x0), .val (.int x1), .val (.int x2), .val (.int x3), .val (.int x4), .val (.int x5), .val (.int z_), .val (.int ya_), .val (.int yb_), .val (.int yc_), .val (.int yd_), .val (.int ye_), .val (.ref b7), .val (.ref b33_0), .val (.ref b54_0), .val (.int ka_), .unset, .unset, .unset, .unset, .unset, .unset] [(.int (1 : Int32)), (.int z_)]))
    rcases Classical.em ((1 : Int32) < z_) with c114 | c114
    · skip
      refine og (fun _ hr => XS.icmpNo Xj.here hx rfl (hb hby at_118) rfl (tlt c114).2.2.2 hr) ?_
      show oG p e below _ (Tj.setTop (mkF m 121 #[.val (.int x0), .val (.int x1), .val (.int x2), .val (.int x3), .val (.int x4), .val (.int x5), .val (.int z_), .val (.int ya_), .val (.int yb_), .val (.int yc_), .val (.int yd_), .val (.int ye_), .val (.ref b7), .val (.ref b33_0), .val (.ref b54_0), .val (.int ka_), .unset, .unset, .unset, .unset, .unset, .unset] []))
      refine og (fun _ hr => XS.iload Xj.here hx rfl (hb hby at_121) rfl hr) ?_
      show oG p e below _ (Tj.setTop (mkF m 123 #[.val (.int x0), .val (.int x1), .val (.int x2), .val (.int x3), .val (.int x4), .val (.int x5), .val (.int z_), .val (.int ya_), .val (.int yb_), .val (.int yc_), .val (.int yd_), .val (.int ye_), .val (.ref b7), .val (.ref b33_0), .val (.ref b54_0), .val (.int ka_), .unset, .unset, .unset, .unset, .unset, .unset] [(.int yb_)]))
      have Z116 := (Nat.le_trans Z61 K54.1)
      refine own_cs Xj hx hZ hown (hw _ (own_m 122 rfl)) (hw _ (own_m 123 rfl)) (hw _ (own_m 3 rfl)) (hw _ (own_m 124 rfl)) (by decide) (rm := { frames := 0, cells := 0, slots := 0, locals := 0 }) (rm_wh l Z a0 hw [] yb_ T54.heap n0 Z116 ) (by decide) (W := 0) (by decide) (by decide) (by decide) ej (by rw [hml]; rfl) (argsL := [(.int yb_)]) (lenOf own_pd26 rfl) (rest := []) rfl rfl (Nat.le_of_eq rfl) (hb hby at_123) ?_
      intro _ T115 L115 X115 hQ115
      obtain ⟨rfl, N115q, e115⟩ := hQ115
      have N115 := Fr.app Nj N115q
      show oG p e below _ (T115.setTop (mkF m 126 #[.val (.int x0), .val (.int x1), .val (.int x2), .val (.int x3), .val (.int x4), .val (.int x5), .val (.int z_), .val (.int ya_), .val (.int yb_), .val (.int yc_), .val (.int yd_), .val (.int ye_), .val (.ref b7), .val (.ref b33_0), .val (.ref b54_0), .val (.int ka_), .unset, .unset, .unset, .unset, .unset, .unset] [(.int (own_wh yb_))]))
      rcases Classical.em ((own_wh yb_) = (0 : Int32)) with c117 | c117
      · skip
        refine og (fun _ hr => XS.ifNo X115.here hx rfl (hb hby at_126) rfl ((if0 _ _).trans (teq c117).2) hr) ?_
        show oG p e below _ (T115.setTop (mkF m 129 #[.val (.int x0), .val (.int x1), .val (.int x2), .val (.int x3), .val (.int x4), .val (.int x5), .val (.int z_), .val (.int ya_), .val (.int yb_), .val (.int yc_), .val (.int yd_), .val (.int ye_), .val (.ref b7), .val (.ref b33_0), .val (.ref b54_0), .val (.int ka_), .unset, .unset, .unset, .unset, .unset, .unset] []))
        refine og (fun _ hr => XS.iconst X115.here hx rfl (hb hby at_129) (XS.goto X115.here hx rfl (pc0 := 130) (pc' := 134) rfl (hb hby at_130) (by decide) (by decide) (XS.istore X115.here hx rfl (hb hby at_134) rfl (l' := #[.val (.int x0), .val (.int x1), .val (.int x2), .val (.int x3), .val (.int x4), .val (.int x5), .val (.int z_), .val (.int ya_), .val (.int yb_), .val (.int yc_), .val (.int yd_), .val (.int ye_), .val (.ref b7), .val (.ref b33_0), .val (.ref b54_0), .val (.int ka_), .val (.int (1 : Int32)), .unset, .unset, .unset, .unset, .unset]) rfl hr))) ?_
        show oG p e below _ (T115.setTop (mkF m 136 #[.val (.int x0), .val (.int x1), .val (.int x2), .val (.int x3), .val (.int x4), .val (.int x5), .val (.int z_), .val (.int ya_), .val (.int yb_), .val (.int yc_), .val (.int yd_), .val (.int ye_), .val (.ref b7), .val (.ref b33_0), .val (.ref b54_0), .val (.int ka_), .val (.int (1 : Int32)), .unset, .unset, .unset, .unset, .unset] []))
        exact jkkb_ (1 : Int32) T115 _ ((by unfold own_kk; rw [if_pos c114, if_pos c117])) X115 N115 e115
      refine og (fun _ hr => XS.ifYes X115.here hx rfl (pc0 := 126) (pc' := 133) rfl (hb hby at_126) rfl ((if0 _ _).trans (feq c117).2) (by decide) (by decide) hr) ?_
      show oG p e below _ (T115.setTop (mkF m 133 #[.val (.int x0), .val (.int x1), .val (.int x2), .val (.int x3), .val (.int x4), .val (.int x5), .val (.int z_), .val (.int ya_), .val (.int yb_), .val (.int yc_), .val (.int yd_), .val (.int ye_), .val (.ref b7), .val (.ref b33_0), .val (.ref b54_0), .val (.int ka_), .unset, .unset, .unset, .unset, .unset, .unset] []))
      refine og (fun _ hr => XS.iconst X115.here hx rfl (hb hby at_133) (XS.istore X115.here hx rfl (hb hby at_134) rfl (l' := #[.val (.int x0), .val (.int x1), .val (.int x2), .val (.int x3), .val (.int x4), .val (.int x5), .val (.int z_), .val (.int ya_), .val (.int yb_), .val (.int yc_), .val (.int yd_), .val (.int ye_), .val (.ref b7), .val (.ref b33_0), .val (.ref b54_0), .val (.int ka_), .val (.int (0 : Int32)), .unset, .unset, .unset, .unset, .unset]) rfl hr)) ?_
      show oG p e below _ (T115.setTop (mkF m 136 #[.val (.int x0), .val (.int x1), .val (.int x2), .val (.int x3), .val (.int x4), .val (.int x5), .val (.int z_), .val (.int ya_), .val (.int yb_), .val (.int yc_), .val (.int yd_), .val (.int ye_), .val (.ref b7), .val (.ref b33_0), .val (.ref b54_0), .val (.int ka_), .val (.int (0 : Int32)), .unset, .unset, .unset, .unset, .unset] []))
      exact jkkb_ (0 : Int32) T115 _ ((by unfold own_kk; rw [if_pos c114, if_neg c117])) X115 N115 e115
    refine og (fun _ hr => XS.icmpYes Xj.here hx rfl (pc0 := 118) (pc' := 133) rfl (hb hby at_118) rfl (flt c114).2.2.2 (by decide) (by decide) hr) ?_
    show oG p e below _ (Tj.setTop (mkF m 133 #[.val (.int x0), .val (.int x1), .val (.int x2), .val (.int x3), .val (.int x4), .val (.int x5), .val (.int z_), .val (.int ya_), .val (.int yb_), .val (.int yc_), .val (.int yd_), .val (.int ye_), .val (.ref b7), .val (.ref b33_0), .val (.ref b54_0), .val (.int ka_), .unset, .unset, .unset, .unset, .unset, .unset] []))
    refine og (fun _ hr => XS.iconst Xj.here hx rfl (hb hby at_133) (XS.istore Xj.here hx rfl (hb hby at_134) rfl (l' := #[.val (.int x0), .val (.int x1), .val (.int x2), .val (.int x3), .val (.int x4), .val (.int x5), .val (.int z_), .val (.int ya_), .val (.int yb_), .val (.int yc_), .val (.int yd_), .val (.int ye_), .val (.ref b7), .val (.ref b33_0), .val (.ref b54_0), .val (.int ka_), .val (.int (0 : Int32)), .unset, .unset, .unset, .unset, .unset]) rfl hr)) ?_
    show oG p e below _ (Tj.setTop (mkF m 136 #[.val (.int x0), .val (.int x1), .val (.int x2), .val (.int x3), .val (.int x4), .val (.int x5), .val (.int z_), .val (.int ya_), .val (.int yb_), .val (.int yc_), .val (.int yd_), .val (.int ye_), .val (.ref b7), .val (.ref b33_0), .val (.ref b54_0), .val (.int ka_), .val (.int (0 : Int32)), .unset, .unset, .unset, .unset, .unset] []))
    exact jkkb_ (0 : Int32) Tj _ ((by unfold own_kk; rw [if_neg c114])) Xj Nj ej
  refine og (fun _ hr => XS.iload X54.here hx rfl (hb hby at_95) rfl hr) ?_
  show oG p e below _ (T54.setTop (mkF m 97 #[.val (.int x0), .val (.int x1), .val (.int x2), .val (.int x3), .val (.int x4), .val (.int x5), .val (.int z_), .val (.int ya_), .val (.int yb_), .val (.int yc_), .val (.int yd_), .val (.int ye_), .val (.ref b7), .val (.ref b33_0), .val (.ref b54_0), .unset, .unset, .unset, .unset, .unset, .unset, .unset] [(.int z_)]))
  rcases Classical.em ((0 : Int32) < z_) with c118 | c118
  · skip
    refine og (fun _ hr => XS.ifNo X54.here hx rfl (hb hby at_97) rfl ((if0 _ _).trans (tlt c118).2.2.2) hr) ?_
    show oG p e below _ (T54.setTop (mkF m 100 #[.val (.int x0), .val (.int x1), .val (.int x2), .val (.int x3), .val (.int x4), .val (.int x5), .val (.int z_), .val (.int ya_), .val (.int yb_), .val (.int yc_), .val (.int yd_), .val (.int ye_), .val (.ref b7), .val (.ref b33_0), .val (.ref b54_0), .unset, .unset, .unset, .unset, .unset, .unset, .unset] []))
    refine og (fun _ hr => XS.iload X54.here hx rfl (hb hby at_100) rfl hr) ?_
    show oG p e below _ (T54.setTop (mkF m 102 #[.val (.int x0), .val (.int x1), .val (.int x2), .val (.int x3), .val (.int x4), .val (.int x5), .val (.int z_), .val (.int ya_), .val (.int yb_), .val (.int yc_), .val (.int yd_), .val (.int ye_), .val (.ref b7), .val (.ref b33_0), .val (.ref b54_0), .unset, .unset, .unset, .unset, .unset, .unset, .unset] [(.int ya_)]))
    have Z120 := (Nat.le_trans Z61 K54.1)
    refine own_cs X54 hx hZ hown (hw _ (own_m 122 rfl)) (hw _ (own_m 123 rfl)) (hw _ (own_m 3 rfl)) (hw _ (own_m 124 rfl)) (by decide) (rm := { frames := 0, cells := 0, slots := 0, locals := 0 }) (rm_wh l Z a0 hw [] ya_ T54.heap n0 Z120 ) (by decide) (W := 0) (by decide) (by decide) (by decide) rfl (by rw [hml]; rfl) (argsL := [(.int ya_)]) (lenOf own_pd26 rfl) (rest := []) rfl rfl (Nat.le_of_eq rfl) (hb hby at_102) ?_
    intro _ T119 L119 X119 hQ119
    obtain ⟨rfl, N119q, e119⟩ := hQ119
    have N119 := Fr.app N54 N119q
    show oG p e below _ (T119.setTop (mkF m 105 #[.val (.int x0), .val (.int x1), .val (.int x2), .val (.int x3), .val (.int x4), .val (.int x5), .val (.int z_), .val (.int ya_), .val (.int yb_), .val (.int yc_), .val (.int yd_), .val (.int ye_), .val (.ref b7), .val (.ref b33_0), .val (.ref b54_0), .unset, .unset, .unset, .unset, .unset, .unset, .unset] [(.int (own_wh ya_))]))
    rcases Classical.em ((own_wh ya_) = (0 : Int32)) with c121 | c121
    · skip
      refine og (fun _ hr => XS.ifNo X119.here hx rfl (hb hby at_105) rfl ((if0 _ _).trans (teq c121).2) hr) ?_
      show oG p e below _ (T119.setTop (mkF m 108 #[.val (.int x0), .val (.int x1), .val (.int x2), .val (.int x3), .val (.int x4), .val (.int x5), .val (.int z_), .val (.int ya_), .val (.int yb_), .val (.int yc_), .val (.int yd_), .val (.int ye_), .val (.ref b7), .val (.ref b33_0), .val (.ref b54_0), .unset, .unset, .unset, .unset, .unset, .unset, .unset] []))
      refine og (fun _ hr => XS.iconst X119.here hx rfl (hb hby at_108) (XS.goto X119.here hx rfl (pc0 := 109) (pc' := 113) rfl (hb hby at_109) (by decide) (by decide) (XS.istore X119.here hx rfl (hb hby at_113) rfl (l' := #[.val (.int x0), .val (.int x1), .val (.int x2), .val (.int x3), .val (.int x4), .val (.int x5), .val (.int z_), .val (.int ya_), .val (.int yb_), .val (.int yc_), .val (.int yd_), .val (.int ye_), .val (.ref b7), .val (.ref b33_0), .val (.ref b54_0), .val (.int (1 : Int32)), .unset, .unset, .unset, .unset, .unset, .unset]) rfl hr))) ?_
      show oG p e below _ (T119.setTop (mkF m 115 #[.val (.int x0), .val (.int x1), .val (.int x2), .val (.int x3), .val (.int x4), .val (.int x5), .val (.int z_), .val (.int ya_), .val (.int yb_), .val (.int yc_), .val (.int yd_), .val (.int ye_), .val (.ref b7), .val (.ref b33_0), .val (.ref b54_0), .val (.int (1 : Int32)), .unset, .unset, .unset, .unset, .unset, .unset] []))
      exact jkka_ (1 : Int32) T119 _ ((by unfold own_kk; rw [if_pos c118, if_pos c121])) X119 N119 e119
    refine og (fun _ hr => XS.ifYes X119.here hx rfl (pc0 := 105) (pc' := 112) rfl (hb hby at_105) rfl ((if0 _ _).trans (feq c121).2) (by decide) (by decide) hr) ?_
    show oG p e below _ (T119.setTop (mkF m 112 #[.val (.int x0), .val (.int x1), .val (.int x2), .val (.int x3), .val (.int x4), .val (.int x5), .val (.int z_), .val (.int ya_), .val (.int yb_), .val (.int yc_), .val (.int yd_), .val (.int ye_), .val (.ref b7), .val (.ref b33_0), .val (.ref b54_0), .unset, .unset, .unset, .unset, .unset, .unset, .unset] []))
    refine og (fun _ hr => XS.iconst X119.here hx rfl (hb hby at_112) (XS.istore X119.here hx rfl (hb hby at_113) rfl (l' := #[.val (.int x0), .val (.int x1), .val (.int x2), .val (.int x3), .val (.int x4), .val (.int x5), .val (.int z_), .val (.int ya_), .val (.int yb_), .val (.int yc_), .val (.int yd_), .val (.int ye_), .val (.ref b7), .val (.ref b33_0), .val (.ref b54_0), .val (.int (0 : Int32)), .unset, .unset, .unset, .unset, .unset, .unset]) rfl hr)) ?_
    show oG p e below _ (T119.setTop (mkF m 115 #[.val (.int x0), .val (.int x1), .val (.int x2), .val (.int x3), .val (.int x4), .val (.int x5), .val (.int z_), .val (.int ya_), .val (.int yb_), .val (.int yc_), .val (.int yd_), .val (.int ye_), .val (.ref b7), .val (.ref b33_0), .val (.ref b54_0), .val (.int (0 : Int32)), .unset, .unset, .unset, .unset, .unset, .unset] []))
    exact jkka_ (0 : Int32) T119 _ ((by unfold own_kk; rw [if_pos c118, if_neg c121])) X119 N119 e119
  refine og (fun _ hr => XS.ifYes X54.here hx rfl (pc0 := 97) (pc' := 112) rfl (hb hby at_97) rfl ((if0 _ _).trans (flt c118).2.2.2) (by decide) (by decide) hr) ?_
  show oG p e below _ (T54.setTop (mkF m 112 #[.val (.int x0), .val (.int x1), .val (.int x2), .val (.int x3), .val (.int x4), .val (.int x5), .val (.int z_), .val (.int ya_), .val (.int yb_), .val (.int yc_), .val (.int yd_), .val (.int ye_), .val (.ref b7), .val (.ref b33_0), .val (.ref b54_0), .unset, .unset, .unset, .unset, .unset, .unset, .unset] []))
  refine og (fun _ hr => XS.iconst X54.here hx rfl (hb hby at_112) (XS.istore X54.here hx rfl (hb hby at_113) rfl (l' := #[.val (.int x0), .val (.int x1), .val (.int x2), .val (.int x3), .val (.int x4), .val (.int x5), .val (.int z_), .val (.int ya_), .val (.int yb_), .val (.int yc_), .val (.int yd_), .val (.int ye_), .val (.ref b7), .val (.ref b33_0), .val (.ref b54_0), .val (.int (0 : Int32)), .unset, .unset, .unset, .unset, .unset, .unset]) rfl hr)) ?_
  show oG p e below _ (T54.setTop (mkF m 115 #[.val (.int x0), .val (.int x1), .val (.int x2), .val (.int x3), .val (.int x4), .val (.int x5), .val (.int z_), .val (.int ya_), .val (.int yb_), .val (.int yc_), .val (.int yd_), .val (.int ye_), .val (.ref b7), .val (.ref b33_0), .val (.ref b54_0), .val (.int (0 : Int32)), .unset, .unset, .unset, .unset, .unset, .unset] []))
  exact jkka_ (0 : Int32) T54 _ ((by unfold own_kk; rw [if_neg c118])) X54 N54 rfl
theorem own_elsub : ∀ p ∈ own_EL, p ∈ consts_1 := by simp [own_EL, consts_1]
set_option maxRecDepth 65536 in
set_option maxHeartbeats 40000000 in
theorem comes_1 {Post : Tables → Env → Array Value → State → Outcome → State → Prop} (hpost : ∀ tb e args s v u, (limb_1_1.after args s (.returned v) u = true ∧ limb_1_2.after args s (.returned v) u = true ∧ True) → FramedW s (.returned v) u (Jvm.fieldLocs frame_1_writes args s ++ Jvm.arrayLocs frame_1_arrays args s ++ Jvm.staticLocs frame_1_statics s) 32 2240 → Post tb e args s (.returned v) u) :
    ArmFor flags0 classFile x code maxLocals ret World_1 tables_1 room_1 Calls_1 rest_1 Pre_1 Post := by
  intro l hfl _ _ p e ha hc hk s m args below hf hA hF happ hP
  obtain ⟨hcalls, hrest, hpre⟩ := hP
  obtain ⟨-, -, -, hnamed, -, -, -, hat⟩ := (Spec.applies_iff hf).mp happ
  obtain ⟨hg, hn⟩ := and_e (Cond.before_iff.mp (show (Jvm.Cond.and given_1 narrow_1).before args s = true from hpre))
  obtain ⟨g1, g2⟩ := and_e hg
  obtain ⟨g3, g4⟩ := and_e g2
  obtain ⟨g5, g6⟩ := and_e g4
  obtain ⟨g7, g8⟩ := and_e g6
  obtain ⟨g9, g10⟩ := and_e g8
  obtain ⟨g11, g12⟩ := and_e g10
  obtain ⟨w0, w1, w2, w3, w4, w5, rfl⟩ : ∃ w0 w1 w2 w3 w4 w5 : Value, args = #[w0, w1, w2, w3, w4, w5] := by
    have hs : args.size = 6 := by simpa [Cond.value, given_1] using g1
    obtain ⟨L⟩ := args
    match L, hs with
    | [w0, w1, w2, w3, w4, w5], _ => exact ⟨w0, w1, w2, w3, w4, w5, rfl⟩
  have hw := fun d (hd : d ∈ tables_1) => atoms_spec (ws := Jvm.Cond.code x code maxLocals ret :: tables_1) hat d (List.mem_cons_of_mem _ hd)
  have hfit : Fit s := fun {y c} hc i hi => by
    obtain ⟨ha, rfl⟩ := Array.getElem?_eq_some_iff.mp hc
    have q := List.all_eq_true.mp ((Array.all_eq_true_iff_forall_mem.mp hF) _ (Array.getElem_mem ha)) i (List.mem_range.mpr hi)
    simpa [Array.getElem?_eq_getElem hi] using q
  obtain ⟨hsets, hown0⟩ := atoms_of _ (rest_1_c_eq ▸ (show rest_1_c.before _ s = true from hrest))
  have hr0 := Cond.before_iff.mp hown0
  obtain ⟨i0, ei0⟩ := is_v g3
  obtain rfl : w0 = (.int i0) := Option.some.inj ei0
  obtain ⟨i1, ei1⟩ := is_v g5
  obtain rfl : w1 = (.int i1) := Option.some.inj ei1
  obtain ⟨i2, ei2⟩ := is_v g7
  obtain rfl : w2 = (.int i2) := Option.some.inj ei2
  obtain ⟨i3, ei3⟩ := is_v g9
  obtain rfl : w3 = (.int i3) := Option.some.inj ei3
  obtain ⟨i4, ei4⟩ := is_v g11
  obtain rfl : w4 = (.int i4) := Option.some.inj ei4
  obtain ⟨i5, ei5⟩ := is_v g12
  obtain rfl : w5 = (.int i5) := Option.some.inj ei5
  obtain ⟨i_COMPACT_STRINGS, ei_COMPACT_STRINGS⟩ := is_v (Cond.before_iff.mp (hsets _ (List.mem_of_getElem? (i := 1) rfl)))
  have S_COMPACT_STRINGS := Sta.start ei_COMPACT_STRINGS (Or.inl (hsets _ (List.mem_of_getElem? (i := 0) rfl)))
  have hs_COMPACT_STRINGS : ¬ (i_COMPACT_STRINGS = (0 : Int32)) := gotF (Cond.eq_ints ei_COMPACT_STRINGS (Term.int_eval _)) (not_v (Cond.before_iff.mp (hsets _ (List.mem_of_getElem? (i := 2) rfl))))
  obtain ⟨v_SIOOBE_FORMATTER, ev_SIOOBE_FORMATTER, hv_SIOOBE_FORMATTER⟩ := isR_v (Cond.before_iff.mp (hsets _ (List.mem_of_getElem? (i := 8) rfl)))
  have S_SIOOBE_FORMATTER := Sta.start ev_SIOOBE_FORMATTER (Or.inl (hsets _ (List.mem_of_getElem? (i := 7) rfl)))
  have S__assertionsDisabled := Sta.start (own_eq_int (Cond.before_iff.mp (hsets _ (List.mem_of_getElem? (i := 12) rfl)))) (Or.inl (hsets _ (List.mem_of_getElem? (i := 11) rfl)))
  have S_HI_BYTE_SHIFT := Sta.start (own_eq_int (Cond.before_iff.mp (hsets _ (List.mem_of_getElem? (i := 15) rfl)))) (Or.inl (hsets _ (List.mem_of_getElem? (i := 14) rfl)))
  have S_LO_BYTE_SHIFT := Sta.start (own_eq_int (Cond.before_iff.mp (hsets _ (List.mem_of_getElem? (i := 18) rfl)))) (Or.inl (hsets _ (List.mem_of_getElem? (i := 17) rfl)))
  obtain ⟨n, o, h1, h2, h3, _, L, rfl, ⟨rfl, N⟩, -, hq⟩ := rm_law l s _ hw tables_1 i0 i1 i2 i3 i4 i5 i_COMPACT_STRINGS v_SIOOBE_FORMATTER s.heap s.heap.size (Nat.le_refl _) S_COMPACT_STRINGS S_SIOOBE_FORMATTER S__assertionsDisabled S_HI_BYTE_SHIFT S_LO_BYTE_SHIFT hs_COMPACT_STRINGS hv_SIOOBE_FORMATTER p e ha hc hk s m _ below hf ((Spec.applies_iff_loose hf).mp happ).1 ⟨rfl, State.Warmed39.refl s, rfl, CHv.start (own_ew hw) (fun p hp => hcalls.1 p (own_elsub p hp)) (hsets _ (List.mem_of_getElem? (i := 2) rfl)) (hw _ (own_m 23 rfl)) (hw _ (own_m 10 rfl))⟩ trivial
  refine ⟨n, _, h1, h2, h3, hpost _ _ _ _ _ _ ⟨Cond.after_iff.mpr rfl, Cond.after_iff.mpr (eq_i res_at (Term.int_eval (1)) rfl), trivial⟩ ⟨hq.1, hq.2.1, hq.2.2.1, (hq.2.2.2.sift fun y hy => Or.inr (N y hy)).mono (by decide) (by decide)⟩⟩
theorem main_1_1 : Claimed_1_1 := comes_1 fun _ _ _ _ _ _ h hF => ⟨h.1, hF⟩
theorem main_1_2 : Claimed_1_2 := comes_1 fun _ _ _ _ _ _ h hF => ⟨h.2.1, hF⟩
end Jvm.Pilot.@@N@@
namespace Jvm.Pilot.@@N@@
open Jvm Jvm.ClassFile Sem Op Lib Jvm.Free Jvm.Stand Jvm.Pilot.@@N@@.Jvm.D
/-! MADE BY PROGRAM (witnessworld.py) out of the Statement's table words and the real class files: 23 classes; the members and pool entries that the words name. The judged class is class 1, her method 1. -/
namespace start1
open Jvm.ClassFile
def u (s : String) : CpInfo := .utf8 (stringToUtf16 s)
/-- a pool by its gaps: so many unusable entries, then the entry; so many at the end -/
def gap : Nat → List CpInfo → List CpInfo
  | 0, r => r
  | n + 1, r => .unusable :: gap n r
def poolList (es : List (Nat × CpInfo)) (last : Nat) : List CpInfo := es.foldr (fun e r => gap e.1 (e.2 :: r)) (gap last [])
def pool (es : List (Nat × CpInfo)) (last : Nat) : Array CpInfo := ⟨poolList es last⟩
def fileOf (pool : Array CpInfo) (this : Nat) (attrs : Array Attribute := #[]) (ms : Array MethodInfo := #[]) (fl : Nat := 33) (sup : Nat := 0) (ifs : Array Nat := #[]) (fds : Array FieldInfo := #[]) : ClassFile where
  minorVersion := 0
  majorVersion := 65
  constantPool := pool
  accessFlags := fl
  thisClass := this
  superClass := sup
  interfaces := ifs
  fields := fds
  methods := ms
  attributes := attrs
def plain (name : String) (sup : Option ClassId) : Class where
  name := name
  kind := .ordinary
  loader := none
  accessFlags := 33
  super := sup
  interfaces := #[]
  cf := none
  fields := #[]
  methods := #[]
  instanceTypes := #[]
  staticTypes := #[]
  resolved := #[]
  callSites := []
  init := .initialized
  statics := none
  mirror := none

def pool0 : Array CpInfo := pool [(5, u "<init>"), (0, u "()V"), (1, .class_ 10), (1, u "java/lang/Object")] 113

def k0c0 : Code := { maxStack := 0, maxLocals := 1, code := object_method_1_code, exceptionTable := #[], attributes := #[] }
def k0m0 : Method := { name := "<init>", desc := "()V", sig := { parameters := [], returnType := none }, accessFlags := 1, code := some k0c0 }
/-- java/lang/Object -/
def k0 : Class := { plain "java/lang/Object" none with
  accessFlags := 33
  interfaces := #[]
  cf := some (fileOf pool0 8 #[] #[{ accessFlags := 1, nameIndex := 5, descriptorIndex := 6, attributes := #[] }] 33 0 #[] #[])
  fields := #[]
  methods := #[k0m0]
  instanceTypes := #[]
  staticTypes := #[]
  resolved := Array.replicate 124 none
  statics := none }

def pool1 : Array CpInfo := pool [(2, .class_ 4), (1, u "java/lang/Object"), (0, u "<init>"), (0, u "()V"), (0, .integer 2147483647), (0, .methodref 9 10), (0, .class_ 11), (0, .nameAndType 12 13), (0, u "com/example/ruleweave/ruleweave/XmlDocumentsTrimPinLaw"), (0, u "draw"), (0, u "(I)C"), (0, .methodref 9 15), (0, .nameAndType 16 17), (0, u "make"), (0, u "(ICCCCC)Ljava/lang/String;"), (0, .methodref 19 20), (0, .class_ 21), (0, .nameAndType 22 23), (0, u "com/example/ruleweave/ruleweave/XmlDocuments"), (0, u "trim"), (0, u "(Ljava/lang/String;)Ljava/lang/String;"), (0, .methodref 9 25), (0, .nameAndType 26 27), (0, u "white"), (0, u "(C)Z"), (0, .methodref 29 30), (0, .class_ 31), (0, .nameAndType 32 33), (0, u "java/lang/String"), (0, u "length"), (0, u "()I"), (0, .methodref 9 35), (0, .nameAndType 36 37), (0, u "at"), (0, u "(Ljava/lang/String;I[CI)Z"), (0, .methodref 29 39), (0, .nameAndType 40 13), (0, u "charAt"), (0, .integer 65535), (0, .methodref 29 43), (0, .nameAndType 5 44), (0, u "([C)V"), (2, u "law"), (0, u "(IIIIII)Z")] 5

def k1m0 : Method := { name := "<init>", desc := "()V", sig := { parameters := [], returnType := none }, accessFlags := 2, code := none }
def k1c1 : Code := { maxStack := 6, maxLocals := 22, code := code, exceptionTable := #[], attributes := #[] }
def k1m1 : Method := { name := "law", desc := "(IIIIII)Z", sig := { parameters := [.int, .int, .int, .int, .int, .int], returnType := some .boolean }, accessFlags := 9, code := some k1c1 }
def k1c2 : Code := { maxStack := 4, maxLocals := 4, code := method_3_code, exceptionTable := #[], attributes := #[] }
def k1m2 : Method := { name := "at", desc := "(Ljava/lang/String;I[CI)Z", sig := { parameters := [(.object "java/lang/String"), .int, (.array .char), .int], returnType := some .boolean }, accessFlags := 10, code := some k1c2 }
def k1c3 : Code := { maxStack := 2, maxLocals := 1, code := method_4_code, exceptionTable := #[], attributes := #[] }
def k1m3 : Method := { name := "white", desc := "(C)Z", sig := { parameters := [.char], returnType := some .boolean }, accessFlags := 10, code := some k1c3 }
def k1c4 : Code := { maxStack := 2, maxLocals := 4, code := method_5_code, exceptionTable := #[], attributes := #[] }
def k1m4 : Method := { name := "draw", desc := "(I)C", sig := { parameters := [.int], returnType := some .char }, accessFlags := 10, code := some k1c4 }
def k1c5 : Code := { maxStack := 6, maxLocals := 6, code := method_6_code, exceptionTable := #[], attributes := #[] }
def k1m5 : Method := { name := "make", desc := "(ICCCCC)Ljava/lang/String;", sig := { parameters := [.int, .char, .char, .char, .char, .char], returnType := some (.object "java/lang/String") }, accessFlags := 10, code := some k1c5 }
/-- com/example/ruleweave/ruleweave/XmlDocumentsTrimPinLaw -/
def k1 : Class := { plain "com/example/ruleweave/ruleweave/XmlDocumentsTrimPinLaw" (some 0) with
  accessFlags := 49
  interfaces := #[]
  cf := some (fileOf pool1 9 #[] #[{ accessFlags := 2, nameIndex := 5, descriptorIndex := 6, attributes := #[] }, { accessFlags := 9, nameIndex := 47, descriptorIndex := 48, attributes := #[] }, { accessFlags := 10, nameIndex := 36, descriptorIndex := 37, attributes := #[] }, { accessFlags := 10, nameIndex := 26, descriptorIndex := 27, attributes := #[] }, { accessFlags := 10, nameIndex := 12, descriptorIndex := 13, attributes := #[] }, { accessFlags := 10, nameIndex := 16, descriptorIndex := 17, attributes := #[] }] 49 2 #[] #[])
  fields := #[]
  methods := #[k1m0, k1m1, k1m2, k1m3, k1m4, k1m5]
  instanceTypes := #[]
  staticTypes := #[]
  resolved := Array.replicate 54 none
  statics := none }

def pool2 : Array CpInfo := pool [(1, .class_ 2), (0, u "java/io/Serializable"), (0, .class_ 4), (0, u "java/lang/Object")] 2

/-- java/io/Serializable -/
def k2 : Class := { plain "java/io/Serializable" (some 0) with
  accessFlags := 1537
  interfaces := #[]
  cf := some (fileOf pool2 1 #[] #[] 1537 3 #[] #[])
  fields := #[]
  methods := #[]
  instanceTypes := #[]
  staticTypes := #[]
  resolved := Array.replicate 7 none
  statics := none }

def pool3 : Array CpInfo := pool [(1, .class_ 2), (0, u "java/lang/Comparable"), (0, .class_ 4), (0, u "java/lang/Object")] 7

/-- java/lang/Comparable -/
def k3 : Class := { plain "java/lang/Comparable" (some 0) with
  accessFlags := 1537
  interfaces := #[]
  cf := some (fileOf pool3 1 #[] #[] 1537 3 #[] #[])
  fields := #[]
  methods := #[]
  instanceTypes := #[]
  staticTypes := #[]
  resolved := Array.replicate 12 none
  statics := none }

def pool4 : Array CpInfo := pool [(2, .class_ 4), (1, u "java/lang/CharSequence"), (42, .class_ 48), (0, u "java/lang/CharSequence$1CodePointIterator"), (10, .class_ 60), (0, u "java/lang/CharSequence$1CharIterator"), (5, .class_ 67), (0, u "java/lang/Object")] 63

/-- java/lang/CharSequence -/
def k4 : Class := { plain "java/lang/CharSequence" (some 0) with
  accessFlags := 1537
  interfaces := #[]
  cf := some (fileOf pool4 2 #[.nestMembers #[47, 59]] #[] 1537 66 #[] #[])
  fields := #[]
  methods := #[]
  instanceTypes := #[]
  staticTypes := #[]
  resolved := Array.replicate 131 none
  statics := none }

def pool5 : Array CpInfo := pool [(1, .class_ 2), (0, u "java/lang/constant/Constable"), (0, .class_ 4), (0, u "java/lang/Object")] 6

/-- java/lang/constant/Constable -/
def k5 : Class := { plain "java/lang/constant/Constable" (some 0) with
  accessFlags := 1537
  interfaces := #[]
  cf := some (fileOf pool5 1 #[] #[] 1537 3 #[] #[])
  fields := #[]
  methods := #[]
  instanceTypes := #[]
  staticTypes := #[]
  resolved := Array.replicate 11 none
  statics := none }

def pool6 : Array CpInfo := pool [(1, .class_ 2), (0, u "java/lang/constant/ConstantDesc"), (0, .class_ 4), (0, u "java/lang/Object")] 32

/-- java/lang/constant/ConstantDesc -/
def k6 : Class := { plain "java/lang/constant/ConstantDesc" (some 0) with
  accessFlags := 1537
  interfaces := #[]
  cf := some (fileOf pool6 1 #[] #[] 1537 3 #[] #[])
  fields := #[]
  methods := #[]
  instanceTypes := #[]
  staticTypes := #[]
  resolved := Array.replicate 37 none
  statics := none }

def pool7 : Array CpInfo := pool [(1, .methodref 2 3), (0, .class_ 4), (0, .nameAndType 5 6), (0, u "java/lang/Object"), (0, u "<init>"), (0, u "()V"), (0, .string 8), (0, u ""), (0, .fieldref 10 11), (0, .class_ 12), (0, .nameAndType 13 14), (0, u "java/lang/String"), (0, u "value"), (0, u "[B"), (0, .fieldref 10 16), (0, .nameAndType 17 18), (0, u "coder"), (0, u "B"), (2, u "hash"), (0, u "I"), (2, u "hashIsZero"), (0, u "Z"), (0, .methodref 10 28), (0, .nameAndType 5 29), (0, u "([CIILjava/lang/Void;)V"), (6, u "checkBoundsOffCount"), (0, u "(III)I"), (0, .fieldref 10 39), (0, .nameAndType 40 26), (0, u "COMPACT_STRINGS"), (1, .class_ 44), (1, u "java/lang/StringUTF16"), (0, u "compress"), (1, .methodref 42 48), (0, .nameAndType 49 50), (0, u "coderFromArrayLen"), (0, u "([BI)B"), (56, .class_ 109), (1, u "java/lang/StringLatin1"), (32, u "()Z"), (34, .methodref 42 178), (0, .nameAndType 45 179), (0, u "([CII)[B"), (31, u "([BB)V"), (122, u "()I"), (0, .methodref 10 336), (0, .nameAndType 17 337), (0, u "()B"), (25, u "([BI)C"), (27, u "(II)V"), (35, u "(I)C"), (64, .methodref 10 493), (0, .nameAndType 494 142), (0, u "isLatin1"), (0, .methodref 107 496), (0, .nameAndType 497 363), (0, u "charAt"), (0, .methodref 42 496), (2, u "checkIndex"), (3, .methodref 10 506), (0, .nameAndType 507 334), (0, u "length"), (5, u "checkFromToIndex"), (7, .methodref 10 522), (0, .nameAndType 523 524), (0, u "checkBoundsBeginEnd"), (0, u "(III)V"), (50, .class_ 576), (0, u "java/lang/CharSequence"), (22, u "CASE_INSENSITIVE_ORDER"), (0, u "Ljava/util/Comparator;"), (82, u "substring"), (0, u "(II)Ljava/lang/String;"), (0, .methodref 107 686), (0, .nameAndType 687 688), (0, u "newString"), (0, u "([BII)Ljava/lang/String;"), (0, .methodref 42 686), (320, u "([C)V"), (42, .fieldref 1054 1055), (0, .class_ 1056), (0, .nameAndType 1057 1058), (0, u "jdk/internal/util/Preconditions"), (0, u "SIOOBE_FORMATTER"), (0, u "Ljava/util/function/BiFunction;"), (0, .methodref 1054 1060), (0, .nameAndType 501 1061), (0, u "(IILjava/util/function/BiFunction;)I"), (0, .methodref 1054 1063), (0, .nameAndType 513 1064), (0, u "(IIILjava/util/function/BiFunction;)I"), (0, .methodref 1054 1066), (0, .nameAndType 1067 1064), (0, u "checkFromIndexSize"), (33, u "serialPersistentFields"), (0, u "[Ljava/io/ObjectStreamField;"), (0, .class_ 1104), (0, u "java/lang/String$CaseInsensitiveComparator"), (1, .class_ 1107), (0, u "java/io/Serializable"), (0, .class_ 1109), (0, u "java/lang/Comparable"), (0, .class_ 1111), (0, u "java/lang/constant/Constable"), (0, .class_ 1113), (0, u "java/lang/constant/ConstantDesc"), (2, u "serialVersionUID"), (0, u "J"), (3, u "REPL"), (0, u "C"), (2, u "LATIN1"), (1, u "UTF16")] 323

def k7m0 : Method := { name := "<init>", desc := "()V", sig := { parameters := [], returnType := none }, accessFlags := 1, code := none }
def k7c1 : Code := { maxStack := 5, maxLocals := 2, code := jdk_42_method_3_code, exceptionTable := #[], attributes := #[] }
def k7m1 : Method := { name := "<init>", desc := "([C)V", sig := { parameters := [(.array .char)], returnType := none }, accessFlags := 1, code := some k7c1 }
def k7c2 : Code := { maxStack := 2, maxLocals := 1, code := jdk_42_method_54_code, exceptionTable := #[], attributes := #[] }
def k7m2 : Method := { name := "length", desc := "()I", sig := { parameters := [], returnType := some .int }, accessFlags := 1, code := some k7c2 }
def k7c3 : Code := { maxStack := 2, maxLocals := 2, code := jdk_42_method_56_code, exceptionTable := #[], attributes := #[] }
def k7m3 : Method := { name := "charAt", desc := "(I)C", sig := { parameters := [.int], returnType := some .char }, accessFlags := 1, code := some k7c3 }
def k7c4 : Code := { maxStack := 3, maxLocals := 5, code := jdk_42_method_92_code, exceptionTable := #[], attributes := #[] }
def k7m4 : Method := { name := "substring", desc := "(II)Ljava/lang/String;", sig := { parameters := [.int, .int], returnType := some (.object "java/lang/String") }, accessFlags := 1, code := some k7c4 }
def k7c5 : Code := { maxStack := 4, maxLocals := 6, code := jdk_42_method_149_code, exceptionTable := #[], attributes := #[] }
def k7m5 : Method := { name := "<init>", desc := "([CIILjava/lang/Void;)V", sig := { parameters := [(.array .char), .int, .int, (.object "java/lang/Void")], returnType := none }, accessFlags := 2, code := some k7c5 }
def k7c6 : Code := { maxStack := 2, maxLocals := 3, code := jdk_42_method_151_code, exceptionTable := #[], attributes := #[] }
def k7m6 : Method := { name := "<init>", desc := "([BB)V", sig := { parameters := [(.array .byte), .byte], returnType := none }, accessFlags := 0, code := some k7c6 }
def k7c7 : Code := { maxStack := 1, maxLocals := 1, code := jdk_42_method_152_code, exceptionTable := #[], attributes := #[] }
def k7m7 : Method := { name := "coder", desc := "()B", sig := { parameters := [], returnType := some .byte }, accessFlags := 0, code := some k7c7 }
def k7c8 : Code := { maxStack := 1, maxLocals := 1, code := jdk_42_method_154_code, exceptionTable := #[], attributes := #[] }
def k7m8 : Method := { name := "isLatin1", desc := "()Z", sig := { parameters := [], returnType := some .boolean }, accessFlags := 0, code := some k7c8 }
def k7c9 : Code := { maxStack := 3, maxLocals := 2, code := jdk_42_method_155_code, exceptionTable := #[], attributes := #[] }
def k7m9 : Method := { name := "checkIndex", desc := "(II)V", sig := { parameters := [.int, .int], returnType := none }, accessFlags := 8, code := some k7c9 }
def k7c10 : Code := { maxStack := 4, maxLocals := 3, code := jdk_42_method_157_code, exceptionTable := #[], attributes := #[] }
def k7m10 : Method := { name := "checkBoundsOffCount", desc := "(III)I", sig := { parameters := [.int, .int, .int], returnType := some .int }, accessFlags := 8, code := some k7c10 }
def k7c11 : Code := { maxStack := 4, maxLocals := 3, code := jdk_42_method_158_code, exceptionTable := #[], attributes := #[] }
def k7m11 : Method := { name := "checkBoundsBeginEnd", desc := "(III)V", sig := { parameters := [.int, .int, .int], returnType := none }, accessFlags := 8, code := some k7c11 }
/-- java/lang/String -/
def k7 : Class := { plain "java/lang/String" (some 0) with
  accessFlags := 49
  interfaces := #[2, 3, 4, 5, 6]
  cf := some (fileOf pool7 10 #[.nestMembers #[1103]] #[{ accessFlags := 1, nameIndex := 5, descriptorIndex := 6, attributes := #[] }, { accessFlags := 1, nameIndex := 5, descriptorIndex := 1010, attributes := #[] }, { accessFlags := 1, nameIndex := 507, descriptorIndex := 334, attributes := #[] }, { accessFlags := 1, nameIndex := 497, descriptorIndex := 427, attributes := #[] }, { accessFlags := 1, nameIndex := 683, descriptorIndex := 684, attributes := #[] }, { accessFlags := 2, nameIndex := 5, descriptorIndex := 29, attributes := #[] }, { accessFlags := 0, nameIndex := 5, descriptorIndex := 211, attributes := #[] }, { accessFlags := 0, nameIndex := 17, descriptorIndex := 337, attributes := #[] }, { accessFlags := 0, nameIndex := 494, descriptorIndex := 142, attributes := #[] }, { accessFlags := 8, nameIndex := 501, descriptorIndex := 391, attributes := #[] }, { accessFlags := 8, nameIndex := 36, descriptorIndex := 37, attributes := #[] }, { accessFlags := 8, nameIndex := 523, descriptorIndex := 524, attributes := #[] }] 49 2 #[1106, 1108, 575, 1110, 1112] #[{ accessFlags := 18, nameIndex := 13, descriptorIndex := 14, attributes := #[] }, { accessFlags := 18, nameIndex := 17, descriptorIndex := 18, attributes := #[] }, { accessFlags := 2, nameIndex := 21, descriptorIndex := 22, attributes := #[] }, { accessFlags := 2, nameIndex := 25, descriptorIndex := 26, attributes := #[] }, { accessFlags := 26, nameIndex := 1116, descriptorIndex := 1117, attributes := #[] }, { accessFlags := 24, nameIndex := 40, descriptorIndex := 26, attributes := #[] }, { accessFlags := 26, nameIndex := 1101, descriptorIndex := 1102, attributes := #[] }, { accessFlags := 26, nameIndex := 1121, descriptorIndex := 1122, attributes := #[] }, { accessFlags := 25, nameIndex := 599, descriptorIndex := 600, attributes := #[] }, { accessFlags := 24, nameIndex := 1125, descriptorIndex := 18, attributes := #[] }, { accessFlags := 24, nameIndex := 1127, descriptorIndex := 18, attributes := #[] }])
  fields := #[{ name := "value", type := (.array .byte), accessFlags := 18, slot := 0, constantValue := 0 }, { name := "coder", type := .byte, accessFlags := 18, slot := 1, constantValue := 0 }, { name := "hash", type := .int, accessFlags := 2, slot := 2, constantValue := 0 }, { name := "hashIsZero", type := .boolean, accessFlags := 2, slot := 3, constantValue := 0 }, { name := "serialVersionUID", type := .long, accessFlags := 26, slot := 0, constantValue := 0 }, { name := "COMPACT_STRINGS", type := .boolean, accessFlags := 24, slot := 1, constantValue := 0 }, { name := "serialPersistentFields", type := (.array (.object "java/io/ObjectStreamField")), accessFlags := 26, slot := 2, constantValue := 0 }, { name := "REPL", type := .char, accessFlags := 26, slot := 3, constantValue := 0 }, { name := "CASE_INSENSITIVE_ORDER", type := (.object "java/util/Comparator"), accessFlags := 25, slot := 4, constantValue := 0 }, { name := "LATIN1", type := .byte, accessFlags := 24, slot := 5, constantValue := 0 }, { name := "UTF16", type := .byte, accessFlags := 24, slot := 6, constantValue := 0 }]
  methods := #[k7m0, k7m1, k7m2, k7m3, k7m4, k7m5, k7m6, k7m7, k7m8, k7m9, k7m10, k7m11]
  instanceTypes := #[(.array .byte), .byte, .int, .boolean]
  staticTypes := #[.long, .boolean, (.array (.object "java/io/ObjectStreamField")), .char, (.object "java/util/Comparator"), .byte, .byte]
  resolved := Array.replicate 1451 none
  statics := some 0 }

def pool8 : Array CpInfo := pool [(4, .class_ 6), (1, u "java/lang/Object"), (0, u "<init>"), (0, u "()V"), (0, .class_ 10), (0, u "com/example/ruleweave/ruleweave/XmlDocuments$Reader"), (5, .class_ 17), (0, u "com/example/ruleweave/ruleweave/XmlDocuments$TreeBuilder"), (13, .class_ 32), (0, u "com/example/ruleweave/ruleweave/XmlDocuments"), (11, u "(Ljava/lang/String;)Ljava/lang/String;"), (54, .class_ 101), (1, u "com/example/ruleweave/ruleweave/XmlDocuments$AsRead"), (13, u "()I"), (11, .class_ 129), (1, u "java/lang/String"), (167, .methodref 127 298), (0, .nameAndType 299 115), (0, u "length"), (0, .methodref 127 301), (0, .nameAndType 302 303), (0, u "charAt"), (0, u "(I)C"), (0, .methodref 31 305), (0, .nameAndType 306 307), (0, u "isXmlSpace"), (0, u "(C)Z"), (0, .methodref 127 309), (0, .nameAndType 310 311), (0, u "substring"), (0, u "(II)Ljava/lang/String;"), (30, u "UNTRUSTED_FEATURES"), (0, u "Ljava/util/List;"), (22, u "NO_EXTERNAL_ACCESS"), (16, u "EVERY_ERROR_THROWS"), (0, u "Lorg/xml/sax/ErrorHandler;"), (18, u "AS_READ"), (0, u "Ljava/lang/String;"), (72, .class_ 478), (0, u "com/example/ruleweave/ruleweave/XmlDocuments$1"), (5, u "XSD_NAMESPACE"), (6, u "LEXICAL_HANDLER"), (2, u "CANNOT_HARDEN"), (28, u "trim")] 55

def k8m0 : Method := { name := "<init>", desc := "()V", sig := { parameters := [], returnType := none }, accessFlags := 2, code := none }
def k8c1 : Code := { maxStack := 3, maxLocals := 3, code := prog_64_method_21_code, exceptionTable := #[], attributes := #[] }
def k8m1 : Method := { name := "trim", desc := "(Ljava/lang/String;)Ljava/lang/String;", sig := { parameters := [(.object "java/lang/String")], returnType := some (.object "java/lang/String") }, accessFlags := 8, code := some k8c1 }
def k8c2 : Code := { maxStack := 2, maxLocals := 1, code := prog_64_method_23_code, exceptionTable := #[], attributes := #[] }
def k8m2 : Method := { name := "isXmlSpace", desc := "(C)Z", sig := { parameters := [.char], returnType := some .boolean }, accessFlags := 8, code := some k8c2 }
/-- com/example/ruleweave/ruleweave/XmlDocuments -/
def k8 : Class := { plain "com/example/ruleweave/ruleweave/XmlDocuments" (some 0) with
  accessFlags := 48
  interfaces := #[]
  cf := some (fileOf pool8 31 #[.nestMembers #[99, 16, 9, 477]] #[{ accessFlags := 2, nameIndex := 7, descriptorIndex := 8, attributes := #[] }, { accessFlags := 8, nameIndex := 523, descriptorIndex := 44, attributes := #[] }, { accessFlags := 8, nameIndex := 306, descriptorIndex := 307, attributes := #[] }] 48 4 #[] #[{ accessFlags := 24, nameIndex := 484, descriptorIndex := 404, attributes := #[] }, { accessFlags := 26, nameIndex := 342, descriptorIndex := 343, attributes := #[] }, { accessFlags := 26, nameIndex := 366, descriptorIndex := 343, attributes := #[] }, { accessFlags := 26, nameIndex := 383, descriptorIndex := 384, attributes := #[] }, { accessFlags := 26, nameIndex := 491, descriptorIndex := 404, attributes := #[] }, { accessFlags := 26, nameIndex := 403, descriptorIndex := 404, attributes := #[] }, { accessFlags := 26, nameIndex := 494, descriptorIndex := 404, attributes := #[] }])
  fields := #[{ name := "XSD_NAMESPACE", type := (.object "java/lang/String"), accessFlags := 24, slot := 0, constantValue := 0 }, { name := "UNTRUSTED_FEATURES", type := (.object "java/util/List"), accessFlags := 26, slot := 1, constantValue := 0 }, { name := "NO_EXTERNAL_ACCESS", type := (.object "java/util/List"), accessFlags := 26, slot := 2, constantValue := 0 }, { name := "EVERY_ERROR_THROWS", type := (.object "org/xml/sax/ErrorHandler"), accessFlags := 26, slot := 3, constantValue := 0 }, { name := "LEXICAL_HANDLER", type := (.object "java/lang/String"), accessFlags := 26, slot := 4, constantValue := 0 }, { name := "AS_READ", type := (.object "java/lang/String"), accessFlags := 26, slot := 5, constantValue := 0 }, { name := "CANNOT_HARDEN", type := (.object "java/lang/String"), accessFlags := 26, slot := 6, constantValue := 0 }]
  methods := #[k8m0, k8m1, k8m2]
  instanceTypes := #[]
  staticTypes := #[(.object "java/lang/String"), (.object "java/util/List"), (.object "java/util/List"), (.object "org/xml/sax/ErrorHandler"), (.object "java/lang/String"), (.object "java/lang/String"), (.object "java/lang/String")]
  resolved := Array.replicate 579 none
  statics := none }

def pool9 : Array CpInfo := pool [(2, .class_ 4), (1, u "java/lang/Object"), (0, u "<init>"), (0, u "()V"), (17, .class_ 26), (1, u "jdk/internal/util/Preconditions"), (6, u "checkIndex"), (13, u "checkFromToIndex"), (1, u "checkFromIndexSize"), (5, .class_ 56), (0, u "jdk/internal/util/Preconditions$4"), (57, .class_ 115), (0, u "jdk/internal/util/Preconditions$1"), (7, u "SIOOBE_FORMATTER"), (0, u "Ljava/util/function/BiFunction;"), (0, .class_ 126), (0, u "jdk/internal/util/Preconditions$2"), (3, u "AIOOBE_FORMATTER"), (0, .class_ 132), (0, u "jdk/internal/util/Preconditions$3"), (3, u "IOOBE_FORMATTER"), (41, u "(IILjava/util/function/BiFunction;)I"), (4, u "(IIILjava/util/function/BiFunction;)I")] 10

def k9m0 : Method := { name := "<init>", desc := "()V", sig := { parameters := [], returnType := none }, accessFlags := 1, code := none }
def k9c1 : Code := { maxStack := 3, maxLocals := 3, code := jdk_41_method_11_code, exceptionTable := #[], attributes := #[] }
def k9m1 : Method := { name := "checkIndex", desc := "(IILjava/util/function/BiFunction;)I", sig := { parameters := [.int, .int, (.object "java/util/function/BiFunction")], returnType := some .int }, accessFlags := 9, code := some k9c1 }
def k9c2 : Code := { maxStack := 4, maxLocals := 4, code := jdk_41_method_12_code, exceptionTable := #[], attributes := #[] }
def k9m2 : Method := { name := "checkFromToIndex", desc := "(IIILjava/util/function/BiFunction;)I", sig := { parameters := [.int, .int, .int, (.object "java/util/function/BiFunction")], returnType := some .int }, accessFlags := 9, code := some k9c2 }
def k9c3 : Code := { maxStack := 4, maxLocals := 4, code := jdk_41_method_13_code, exceptionTable := #[], attributes := #[] }
def k9m3 : Method := { name := "checkFromIndexSize", desc := "(IIILjava/util/function/BiFunction;)I", sig := { parameters := [.int, .int, .int, (.object "java/util/function/BiFunction")], returnType := some .int }, accessFlags := 9, code := some k9c3 }
/-- jdk/internal/util/Preconditions -/
def k9 : Class := { plain "jdk/internal/util/Preconditions" (some 0) with
  accessFlags := 33
  interfaces := #[]
  cf := some (fileOf pool9 24 #[.nestMembers #[55, 131, 125, 114]] #[{ accessFlags := 1, nameIndex := 5, descriptorIndex := 6, attributes := #[] }, { accessFlags := 9, nameIndex := 33, descriptorIndex := 178, attributes := #[] }, { accessFlags := 9, nameIndex := 47, descriptorIndex := 183, attributes := #[] }, { accessFlags := 9, nameIndex := 49, descriptorIndex := 183, attributes := #[] }] 33 2 #[] #[{ accessFlags := 25, nameIndex := 123, descriptorIndex := 124, attributes := #[] }, { accessFlags := 25, nameIndex := 130, descriptorIndex := 124, attributes := #[] }, { accessFlags := 25, nameIndex := 136, descriptorIndex := 124, attributes := #[] }])
  fields := #[{ name := "SIOOBE_FORMATTER", type := (.object "java/util/function/BiFunction"), accessFlags := 25, slot := 0, constantValue := 0 }, { name := "AIOOBE_FORMATTER", type := (.object "java/util/function/BiFunction"), accessFlags := 25, slot := 1, constantValue := 0 }, { name := "IOOBE_FORMATTER", type := (.object "java/util/function/BiFunction"), accessFlags := 25, slot := 2, constantValue := 0 }]
  methods := #[k9m0, k9m1, k9m2, k9m3]
  instanceTypes := #[]
  staticTypes := #[(.object "java/util/function/BiFunction"), (.object "java/util/function/BiFunction"), (.object "java/util/function/BiFunction")]
  resolved := Array.replicate 194 none
  statics := some 1 }

def pool10 : Array CpInfo := pool [(3, .class_ 4), (0, u "java/lang/String"), (1, .class_ 8), (1, u "java/lang/Object"), (0, u "<init>"), (0, u "()V"), (0, .methodref 12 13), (0, .class_ 14), (0, .nameAndType 15 16), (0, u "java/lang/StringUTF16"), (0, u "newBytesLength"), (0, u "(I)I"), (3, .integer 1073741823), (23, .fieldref 12 45), (0, .nameAndType 46 47), (0, u "$assertionsDisabled"), (0, u "Z"), (0, .methodref 12 49), (0, .nameAndType 50 51), (0, u "length"), (0, u "([B)I"), (7, .fieldref 12 60), (0, .nameAndType 61 62), (0, u "HI_BYTE_SHIFT"), (0, u "I"), (0, .fieldref 12 64), (0, .nameAndType 65 62), (0, u "LO_BYTE_SHIFT"), (1, .methodref 12 68), (0, .nameAndType 69 70), (0, u "checkIndex"), (0, u "(I[B)V"), (0, .methodref 12 72), (0, .nameAndType 73 74), (0, u "getChar"), (0, u "([BI)C"), (24, u "(II[B)V"), (7, .methodref 12 108), (0, .nameAndType 109 110), (0, u "newBytesFor"), (0, u "(I)[B"), (0, .methodref 12 112), (0, .nameAndType 113 114), (0, u "putChar"), (0, u "([BII)V"), (0, .methodref 12 116), (0, .nameAndType 117 118), (0, u "compress"), (0, u "([CI[BII)I"), (0, .methodref 12 120), (0, .nameAndType 121 122), (0, u "toBytes"), (0, u "([CII)[B"), (0, .methodref 12 124), (0, .nameAndType 117 125), (0, u "([BI[BII)I"), (0, .methodref 127 128), (0, .class_ 129), (0, .nameAndType 130 131), (0, u "java/util/Arrays"), (0, u "copyOfRange"), (0, u "([BII)[B"), (41, .methodref 12 174), (0, .nameAndType 175 99), (0, u "checkBoundsOffCount"), (75, .fieldref 3 252), (0, .nameAndType 253 47), (0, u "COMPACT_STRINGS"), (3, .methodref 12 258), (0, .nameAndType 117 131), (0, .methodref 12 260), (0, .nameAndType 261 262), (0, u "coderFromArrayLen"), (0, u "([BI)B"), (0, .methodref 3 264), (0, .nameAndType 9 265), (0, u "([BB)V"), (15, u "(III)I"), (45, u "newString"), (0, u "([BII)Ljava/lang/String;"), (40, .class_ 371), (1, u "java/lang/StringUTF16$LinesSpliterator"), (20, u "charAt"), (21, .methodref 3 415), (0, .nameAndType 69 416), (0, u "(II)V"), (2, .methodref 3 420), (0, .nameAndType 175 281), (9, u "MAX_LENGTH"), (196, .class_ 628), (0, u "java/lang/StringUTF16$CodePointsSpliterator"), (0, .class_ 630), (0, u "java/lang/StringUTF16$CharsSpliterator")] 4

def k10m0 : Method := { name := "<init>", desc := "()V", sig := { parameters := [], returnType := none }, accessFlags := 0, code := none }
def k10c1 : Code := { maxStack := 1, maxLocals := 1, code := jdk_52_method_2_code, exceptionTable := #[], attributes := #[] }
def k10m1 : Method := { name := "newBytesFor", desc := "(I)[B", sig := { parameters := [.int], returnType := some (.array .byte) }, accessFlags := 9, code := some k10c1 }
def k10c2 : Code := { maxStack := 4, maxLocals := 1, code := jdk_52_method_3_code, exceptionTable := #[], attributes := #[] }
def k10m2 : Method := { name := "newBytesLength", desc := "(I)I", sig := { parameters := [.int], returnType := some .int }, accessFlags := 9, code := some k10c2 }
def k10c3 : Code := { maxStack := 4, maxLocals := 3, code := jdk_52_method_4_code, exceptionTable := #[], attributes := #[] }
def k10m3 : Method := { name := "putChar", desc := "([BII)V", sig := { parameters := [(.array .byte), .int, .int], returnType := none }, accessFlags := 8, code := some k10c3 }
def k10c4 : Code := { maxStack := 3, maxLocals := 2, code := jdk_52_method_5_code, exceptionTable := #[], attributes := #[] }
def k10m4 : Method := { name := "getChar", desc := "([BI)C", sig := { parameters := [(.array .byte), .int], returnType := some .char }, accessFlags := 8, code := some k10c4 }
def k10c5 : Code := { maxStack := 2, maxLocals := 1, code := jdk_52_method_6_code, exceptionTable := #[], attributes := #[] }
def k10m5 : Method := { name := "length", desc := "([B)I", sig := { parameters := [(.array .byte)], returnType := some .int }, accessFlags := 9, code := some k10c5 }
def k10c6 : Code := { maxStack := 4, maxLocals := 5, code := jdk_52_method_14_code, exceptionTable := #[], attributes := #[] }
def k10m6 : Method := { name := "toBytes", desc := "([CII)[B", sig := { parameters := [(.array .char), .int, .int], returnType := some (.array .byte) }, accessFlags := 9, code := some k10c6 }
def k10c7 : Code := { maxStack := 2, maxLocals := 2, code := jdk_52_method_15_code, exceptionTable := #[], attributes := #[] }
def k10m7 : Method := { name := "coderFromArrayLen", desc := "([BI)B", sig := { parameters := [(.array .byte), .int], returnType := some .byte }, accessFlags := 8, code := some k10c7 }
def k10c8 : Code := { maxStack := 5, maxLocals := 6, code := jdk_52_method_16_code, exceptionTable := #[], attributes := #[] }
def k10m8 : Method := { name := "compress", desc := "([CII)[B", sig := { parameters := [(.array .char), .int, .int], returnType := some (.array .byte) }, accessFlags := 9, code := some k10c8 }
def k10c9 : Code := { maxStack := 5, maxLocals := 6, code := jdk_52_method_17_code, exceptionTable := #[], attributes := #[] }
def k10m9 : Method := { name := "compress", desc := "([BII)[B", sig := { parameters := [(.array .byte), .int, .int], returnType := some (.array .byte) }, accessFlags := 9, code := some k10c9 }
def k10c10 : Code := { maxStack := 3, maxLocals := 7, code := jdk_52_method_21_code, exceptionTable := #[], attributes := #[] }
def k10m10 : Method := { name := "compress", desc := "([CI[BII)I", sig := { parameters := [(.array .char), .int, (.array .byte), .int, .int], returnType := some .int }, accessFlags := 9, code := some k10c10 }
def k10c11 : Code := { maxStack := 3, maxLocals := 7, code := jdk_52_method_22_code, exceptionTable := #[], attributes := #[] }
def k10m11 : Method := { name := "compress", desc := "([BI[BII)I", sig := { parameters := [(.array .byte), .int, (.array .byte), .int, .int], returnType := some .int }, accessFlags := 9, code := some k10c11 }
def k10c12 : Code := { maxStack := 6, maxLocals := 5, code := jdk_52_method_69_code, exceptionTable := #[], attributes := #[] }
def k10m12 : Method := { name := "newString", desc := "([BII)Ljava/lang/String;", sig := { parameters := [(.array .byte), .int, .int], returnType := some (.object "java/lang/String") }, accessFlags := 9, code := some k10c12 }
def k10c13 : Code := { maxStack := 2, maxLocals := 2, code := jdk_52_method_83_code, exceptionTable := #[], attributes := #[] }
def k10m13 : Method := { name := "charAt", desc := "([BI)C", sig := { parameters := [(.array .byte), .int], returnType := some .char }, accessFlags := 9, code := some k10c13 }
def k10c14 : Code := { maxStack := 2, maxLocals := 2, code := jdk_52_method_91_code, exceptionTable := #[], attributes := #[] }
def k10m14 : Method := { name := "checkIndex", desc := "(I[B)V", sig := { parameters := [.int, (.array .byte)], returnType := none }, accessFlags := 9, code := some k10c14 }
def k10c15 : Code := { maxStack := 3, maxLocals := 3, code := jdk_52_method_94_code, exceptionTable := #[], attributes := #[] }
def k10m15 : Method := { name := "checkBoundsOffCount", desc := "(II[B)V", sig := { parameters := [.int, .int, (.array .byte)], returnType := none }, accessFlags := 9, code := some k10c15 }
/-- java/lang/StringUTF16 -/
def k10 : Class := { plain "java/lang/StringUTF16" (some 0) with
  accessFlags := 48
  interfaces := #[]
  cf := some (fileOf pool10 12 #[.nestMembers #[627, 629, 369]] #[{ accessFlags := 0, nameIndex := 9, descriptorIndex := 10, attributes := #[] }, { accessFlags := 9, nameIndex := 109, descriptorIndex := 110, attributes := #[] }, { accessFlags := 9, nameIndex := 15, descriptorIndex := 16, attributes := #[] }, { accessFlags := 8, nameIndex := 113, descriptorIndex := 114, attributes := #[] }, { accessFlags := 8, nameIndex := 73, descriptorIndex := 74, attributes := #[] }, { accessFlags := 9, nameIndex := 50, descriptorIndex := 51, attributes := #[] }, { accessFlags := 9, nameIndex := 121, descriptorIndex := 122, attributes := #[] }, { accessFlags := 8, nameIndex := 261, descriptorIndex := 262, attributes := #[] }, { accessFlags := 9, nameIndex := 117, descriptorIndex := 122, attributes := #[] }, { accessFlags := 9, nameIndex := 117, descriptorIndex := 131, attributes := #[] }, { accessFlags := 9, nameIndex := 117, descriptorIndex := 118, attributes := #[] }, { accessFlags := 9, nameIndex := 117, descriptorIndex := 125, attributes := #[] }, { accessFlags := 9, nameIndex := 327, descriptorIndex := 328, attributes := #[] }, { accessFlags := 9, nameIndex := 392, descriptorIndex := 74, attributes := #[] }, { accessFlags := 9, nameIndex := 69, descriptorIndex := 70, attributes := #[] }, { accessFlags := 9, nameIndex := 175, descriptorIndex := 99, attributes := #[] }] 48 6 #[] #[{ accessFlags := 26, nameIndex := 61, descriptorIndex := 62, attributes := #[] }, { accessFlags := 26, nameIndex := 65, descriptorIndex := 62, attributes := #[] }, { accessFlags := 24, nameIndex := 430, descriptorIndex := 62, attributes := #[] }, { accessFlags := 4120, nameIndex := 46, descriptorIndex := 47, attributes := #[] }])
  fields := #[{ name := "HI_BYTE_SHIFT", type := .int, accessFlags := 26, slot := 0, constantValue := 0 }, { name := "LO_BYTE_SHIFT", type := .int, accessFlags := 26, slot := 1, constantValue := 0 }, { name := "MAX_LENGTH", type := .int, accessFlags := 24, slot := 2, constantValue := 0 }, { name := "$assertionsDisabled", type := .boolean, accessFlags := 4120, slot := 3, constantValue := 0 }]
  methods := #[k10m0, k10m1, k10m2, k10m3, k10m4, k10m5, k10m6, k10m7, k10m8, k10m9, k10m10, k10m11, k10m12, k10m13, k10m14, k10m15]
  instanceTypes := #[]
  staticTypes := #[.int, .int, .int, .boolean]
  resolved := Array.replicate 635 none
  statics := some 2 }

def pool11 : Array CpInfo := pool [(1, .class_ 2), (0, u "java/lang/String"), (1, .class_ 6), (1, u "java/lang/Object"), (0, u "<init>"), (0, u "()V"), (0, .methodref 1 10), (0, .nameAndType 11 12), (0, u "checkIndex"), (0, u "(II)V"), (1, .class_ 16), (1, u "java/lang/StringLatin1"), (36, u "([BI)C"), (58, .methodref 1 113), (0, .nameAndType 7 114), (0, u "([BB)V"), (6, u "$assertionsDisabled"), (0, u "Z"), (8, .class_ 133), (1, u "java/util/Arrays"), (17, .string 152), (0, u ""), (43, u "newString"), (0, u "([BII)Ljava/lang/String;"), (23, .class_ 223), (1, u "java/lang/StringLatin1$LinesSpliterator"), (8, .methodref 131 233), (0, .nameAndType 234 235), (0, u "copyOfRange"), (0, u "([BII)[B"), (16, u "charAt"), (137, .class_ 391), (0, u "java/lang/StringLatin1$CharsSpliterator")] 3

def k11m0 : Method := { name := "<init>", desc := "()V", sig := { parameters := [], returnType := none }, accessFlags := 0, code := none }
def k11c1 : Code := { maxStack := 2, maxLocals := 2, code := jdk_43_method_2_code, exceptionTable := #[], attributes := #[] }
def k11m1 : Method := { name := "charAt", desc := "([BI)C", sig := { parameters := [(.array .byte), .int], returnType := some .char }, accessFlags := 9, code := some k11c1 }
def k11c2 : Code := { maxStack := 6, maxLocals := 3, code := jdk_43_method_47_code, exceptionTable := #[], attributes := #[] }
def k11m2 : Method := { name := "newString", desc := "([BII)Ljava/lang/String;", sig := { parameters := [(.array .byte), .int, .int], returnType := some (.object "java/lang/String") }, accessFlags := 9, code := some k11c2 }
/-- java/lang/StringLatin1 -/
def k11 : Class := { plain "java/lang/StringLatin1" (some 0) with
  accessFlags := 48
  interfaces := #[]
  cf := some (fileOf pool11 14 #[.nestMembers #[390, 221]] #[{ accessFlags := 0, nameIndex := 7, descriptorIndex := 8, attributes := #[] }, { accessFlags := 9, nameIndex := 252, descriptorIndex := 53, attributes := #[] }, { accessFlags := 9, nameIndex := 196, descriptorIndex := 197, attributes := #[] }] 48 4 #[] #[{ accessFlags := 4120, nameIndex := 121, descriptorIndex := 122, attributes := #[] }])
  fields := #[{ name := "$assertionsDisabled", type := .boolean, accessFlags := 4120, slot := 0, constantValue := 0 }]
  methods := #[k11m0, k11m1, k11m2]
  instanceTypes := #[]
  staticTypes := #[.boolean]
  resolved := Array.replicate 395 none
  statics := none }

def pool12 : Array CpInfo := pool [(2, .class_ 4), (1, u "java/lang/Object"), (0, u "<init>"), (0, u "()V"), (7, .class_ 16), (1, u "java/util/Arrays"), (57, .class_ 76), (1, u "java/util/Arrays$NaturalOrder"), (36, .class_ 115), (1, u "java/util/Arrays$LegacyMergeSort"), (1, u "Z"), (21, u "copyOfRange"), (10, .methodref 151 152), (0, .class_ 153), (0, .nameAndType 154 155), (0, u "java/lang/System"), (0, u "arraycopy"), (0, u "(Ljava/lang/Object;ILjava/lang/Object;II)V"), (148, .methodref 305 306), (0, .class_ 307), (0, .nameAndType 308 309), (0, u "java/lang/Math"), (0, u "min"), (0, u "(II)I"), (29, .methodref 14 340), (0, .nameAndType 341 342), (0, u "copyOfRangeByte"), (0, u "([BII)[B"), (0, .methodref 14 344), (0, .nameAndType 345 346), (0, u "checkLength"), (0, u "(II)V"), (28, .class_ 376), (0, u "java/util/Arrays$ArrayList"), (68, u "$assertionsDisabled"), (269, u "MIN_ARRAY_SORT_GRAN"), (0, u "I"), (2, u "INSERTIONSORT_THRESHOLD"), (255, .class_ 976), (0, u "java/util/Arrays$ArrayItr")] 52

def k12m0 : Method := { name := "<init>", desc := "()V", sig := { parameters := [], returnType := none }, accessFlags := 2, code := none }
def k12c1 : Code := { maxStack := 4, maxLocals := 2, code := jdk_65_method_131_code, exceptionTable := #[], attributes := #[] }
def k12m1 : Method := { name := "checkLength", desc := "(II)V", sig := { parameters := [.int, .int], returnType := none }, accessFlags := 10, code := some k12c1 }
def k12c2 : Code := { maxStack := 3, maxLocals := 3, code := jdk_65_method_132_code, exceptionTable := #[], attributes := #[] }
def k12m2 : Method := { name := "copyOfRange", desc := "([BII)[B", sig := { parameters := [(.array .byte), .int, .int], returnType := some (.array .byte) }, accessFlags := 9, code := some k12c2 }
def k12c3 : Code := { maxStack := 6, maxLocals := 5, code := jdk_65_method_133_code, exceptionTable := #[], attributes := #[] }
def k12m3 : Method := { name := "copyOfRangeByte", desc := "([BII)[B", sig := { parameters := [(.array .byte), .int, .int], returnType := some (.array .byte) }, accessFlags := 10, code := some k12c3 }
/-- java/util/Arrays -/
def k12 : Class := { plain "java/util/Arrays" (some 0) with
  accessFlags := 49
  interfaces := #[]
  cf := some (fileOf pool12 14 #[.nestMembers #[975, 375, 113, 74]] #[{ accessFlags := 2, nameIndex := 5, descriptorIndex := 6, attributes := #[] }, { accessFlags := 10, nameIndex := 345, descriptorIndex := 346, attributes := #[] }, { accessFlags := 9, nameIndex := 139, descriptorIndex := 342, attributes := #[] }, { accessFlags := 10, nameIndex := 341, descriptorIndex := 342, attributes := #[] }] 49 2 #[] #[{ accessFlags := 26, nameIndex := 715, descriptorIndex := 716, attributes := #[] }, { accessFlags := 26, nameIndex := 719, descriptorIndex := 716, attributes := #[] }, { accessFlags := 4120, nameIndex := 445, descriptorIndex := 117, attributes := #[] }])
  fields := #[{ name := "MIN_ARRAY_SORT_GRAN", type := .int, accessFlags := 26, slot := 0, constantValue := 0 }, { name := "INSERTIONSORT_THRESHOLD", type := .int, accessFlags := 26, slot := 1, constantValue := 0 }, { name := "$assertionsDisabled", type := .boolean, accessFlags := 4120, slot := 2, constantValue := 0 }]
  methods := #[k12m0, k12m1, k12m2, k12m3]
  instanceTypes := #[]
  staticTypes := #[.int, .int, .boolean]
  resolved := Array.replicate 1029 none
  statics := none }

def pool13 : Array CpInfo := pool [(1, .class_ 2), (0, u "java/lang/Math"), (1, .class_ 6), (1, u "java/lang/Object"), (0, u "<init>"), (0, u "()V"), (89, .class_ 100), (1, u "java/lang/Math$RandomNumberGeneratorHolder"), (71, u "negativeZeroFloatBits"), (0, u "J"), (2, u "negativeZeroDoubleBits"), (24, u "min"), (43, u "$assertionsDisabled"), (0, u "Z"), (88, u "(II)I"), (2, u "twoToTheDoubleScaleDown"), (0, u "D"), (4, u "twoToTheDoubleScaleUp"), (9, u "E"), (3, u "PI"), (2, u "TAU"), (2, u "DEGREES_TO_RADIANS"), (0, u "RADIANS_TO_DEGREES")] 94

def k13m0 : Method := { name := "<init>", desc := "()V", sig := { parameters := [], returnType := none }, accessFlags := 2, code := none }
def k13c1 : Code := { maxStack := 2, maxLocals := 2, code := jdk_29_method_69_code, exceptionTable := #[], attributes := #[] }
def k13m1 : Method := { name := "min", desc := "(II)I", sig := { parameters := [.int, .int], returnType := some .int }, accessFlags := 9, code := some k13c1 }
/-- java/lang/Math -/
def k13 : Class := { plain "java/lang/Math" (some 0) with
  accessFlags := 49
  interfaces := #[]
  cf := some (fileOf pool13 1 #[.nestMembers #[98]] #[{ accessFlags := 2, nameIndex := 7, descriptorIndex := 8, attributes := #[] }, { accessFlags := 9, nameIndex := 201, descriptorIndex := 335, attributes := #[] }] 49 4 #[] #[{ accessFlags := 25, nameIndex := 354, descriptorIndex := 339, attributes := #[] }, { accessFlags := 25, nameIndex := 358, descriptorIndex := 339, attributes := #[] }, { accessFlags := 25, nameIndex := 361, descriptorIndex := 339, attributes := #[] }, { accessFlags := 26, nameIndex := 364, descriptorIndex := 339, attributes := #[] }, { accessFlags := 26, nameIndex := 365, descriptorIndex := 339, attributes := #[] }, { accessFlags := 26, nameIndex := 172, descriptorIndex := 173, attributes := #[] }, { accessFlags := 26, nameIndex := 176, descriptorIndex := 173, attributes := #[] }, { accessFlags := 8, nameIndex := 344, descriptorIndex := 339, attributes := #[] }, { accessFlags := 8, nameIndex := 338, descriptorIndex := 339, attributes := #[] }, { accessFlags := 4120, nameIndex := 245, descriptorIndex := 246, attributes := #[] }])
  fields := #[{ name := "E", type := .double, accessFlags := 25, slot := 0, constantValue := 0 }, { name := "PI", type := .double, accessFlags := 25, slot := 1, constantValue := 0 }, { name := "TAU", type := .double, accessFlags := 25, slot := 2, constantValue := 0 }, { name := "DEGREES_TO_RADIANS", type := .double, accessFlags := 26, slot := 3, constantValue := 0 }, { name := "RADIANS_TO_DEGREES", type := .double, accessFlags := 26, slot := 4, constantValue := 0 }, { name := "negativeZeroFloatBits", type := .long, accessFlags := 26, slot := 5, constantValue := 0 }, { name := "negativeZeroDoubleBits", type := .long, accessFlags := 26, slot := 6, constantValue := 0 }, { name := "twoToTheDoubleScaleUp", type := .double, accessFlags := 8, slot := 7, constantValue := 0 }, { name := "twoToTheDoubleScaleDown", type := .double, accessFlags := 8, slot := 8, constantValue := 0 }, { name := "$assertionsDisabled", type := .boolean, accessFlags := 4120, slot := 9, constantValue := 0 }]
  methods := #[k13m0, k13m1]
  instanceTypes := #[]
  staticTypes := #[.double, .double, .double, .double, .double, .long, .long, .double, .double, .boolean]
  resolved := Array.replicate 460 none
  statics := none }

def pool14 : Array CpInfo := pool [(2, .class_ 4), (1, u "java/lang/Object"), (0, u "<init>"), (0, u "()V"), (1, .class_ 10), (1, u "java/lang/System"), (0, u "allowSecurityManager"), (0, u "I"), (16, u "cons"), (0, u "Ljava/io/Console;"), (77, .class_ 110), (1, u "java/lang/System$CallersHolder"), (43, u "initialErrStream"), (0, u "Ljava/io/PrintStream;"), (19, u "security"), (0, u "Ljava/lang/SecurityManager;"), (31, .class_ 209), (0, u "java/lang/System$1"), (7, u "props"), (0, u "Ljava/util/Properties;"), (2, u "lineSeparator"), (0, u "Ljava/lang/String;"), (96, .class_ 321), (1, u "java/lang/System$LoggerFinder"), (5, .class_ 328), (0, u "java/lang/System$Logger"), (67, u "err"), (2, u "out"), (91, u "notSupportedJnuEncoding"), (15, u "in"), (17, u "initialIn"), (0, u "Ljava/io/InputStream;"), (35, u "bootLayer"), (0, u "Ljava/lang/ModuleLayer;"), (99, .class_ 664), (0, u "java/lang/System$2"), (9, u "NEVER"), (2, u "MAYBE"), (49, u "arraycopy"), (0, u "(Ljava/lang/Object;ILjava/lang/Object;II)V"), (72, .class_ 802), (0, u "java/lang/System$Logger$Level")] 31

def k14m0 : Method := { name := "<init>", desc := "()V", sig := { parameters := [], returnType := none }, accessFlags := 2, code := none }
def k14m1 : Method := { name := "arraycopy", desc := "(Ljava/lang/Object;ILjava/lang/Object;II)V", sig := { parameters := [(.object "java/lang/Object"), .int, (.object "java/lang/Object"), .int, .int], returnType := none }, accessFlags := 265, code := none }
/-- java/lang/System -/
def k14 : Class := { plain "java/lang/System" (some 0) with
  accessFlags := 49
  interfaces := #[]
  cf := some (fileOf pool14 8 #[.nestMembers #[319, 327, 801, 108, 663, 208]] #[{ accessFlags := 2, nameIndex := 5, descriptorIndex := 6, attributes := #[] }, { accessFlags := 265, nameIndex := 727, descriptorIndex := 728, attributes := #[] }] 49 2 #[] #[{ accessFlags := 25, nameIndex := 507, descriptorIndex := 526, attributes := #[] }, { accessFlags := 25, nameIndex := 399, descriptorIndex := 155, attributes := #[] }, { accessFlags := 25, nameIndex := 396, descriptorIndex := 155, attributes := #[] }, { accessFlags := 10, nameIndex := 525, descriptorIndex := 526, attributes := #[] }, { accessFlags := 26, nameIndex := 674, descriptorIndex := 12, attributes := #[] }, { accessFlags := 26, nameIndex := 677, descriptorIndex := 12, attributes := #[] }, { accessFlags := 10, nameIndex := 11, descriptorIndex := 12, attributes := #[] }, { accessFlags := 74, nameIndex := 175, descriptorIndex := 176, attributes := #[] }, { accessFlags := 10, nameIndex := 491, descriptorIndex := 222, attributes := #[] }, { accessFlags := 74, nameIndex := 29, descriptorIndex := 30, attributes := #[] }, { accessFlags := 74, nameIndex := 154, descriptorIndex := 155, attributes := #[] }, { accessFlags := 10, nameIndex := 217, descriptorIndex := 218, attributes := #[] }, { accessFlags := 10, nameIndex := 221, descriptorIndex := 222, attributes := #[] }, { accessFlags := 8, nameIndex := 562, descriptorIndex := 563, attributes := #[] }])
  fields := #[{ name := "in", type := (.object "java/io/InputStream"), accessFlags := 25, slot := 0, constantValue := 0 }, { name := "out", type := (.object "java/io/PrintStream"), accessFlags := 25, slot := 1, constantValue := 0 }, { name := "err", type := (.object "java/io/PrintStream"), accessFlags := 25, slot := 2, constantValue := 0 }, { name := "initialIn", type := (.object "java/io/InputStream"), accessFlags := 10, slot := 3, constantValue := 0 }, { name := "NEVER", type := .int, accessFlags := 26, slot := 4, constantValue := 0 }, { name := "MAYBE", type := .int, accessFlags := 26, slot := 5, constantValue := 0 }, { name := "allowSecurityManager", type := .int, accessFlags := 10, slot := 6, constantValue := 0 }, { name := "security", type := (.object "java/lang/SecurityManager"), accessFlags := 74, slot := 7, constantValue := 0 }, { name := "notSupportedJnuEncoding", type := (.object "java/lang/String"), accessFlags := 10, slot := 8, constantValue := 0 }, { name := "cons", type := (.object "java/io/Console"), accessFlags := 74, slot := 9, constantValue := 0 }, { name := "initialErrStream", type := (.object "java/io/PrintStream"), accessFlags := 74, slot := 10, constantValue := 0 }, { name := "props", type := (.object "java/util/Properties"), accessFlags := 10, slot := 11, constantValue := 0 }, { name := "lineSeparator", type := (.object "java/lang/String"), accessFlags := 10, slot := 12, constantValue := 0 }, { name := "bootLayer", type := (.object "java/lang/ModuleLayer"), accessFlags := 8, slot := 13, constantValue := 0 }]
  methods := #[k14m0, k14m1]
  instanceTypes := #[]
  staticTypes := #[(.object "java/io/InputStream"), (.object "java/io/PrintStream"), (.object "java/io/PrintStream"), (.object "java/io/InputStream"), .int, .int, .int, (.object "java/lang/SecurityManager"), (.object "java/lang/String"), (.object "java/io/Console"), (.object "java/io/PrintStream"), (.object "java/util/Properties"), (.object "java/lang/String"), (.object "java/lang/ModuleLayer")]
  resolved := Array.replicate 834 none
  statics := none }

def pool15 : Array CpInfo := pool [(9, u "<init>"), (6, .class_ 18), (1, u "java/lang/Object"), (0, u "()V"), (1, .class_ 23), (1, u "jdk/internal/util/ArraysSupport"), (0, u "LOG2_ARRAY_LONG_INDEX_SCALE"), (0, u "I"), (2, u "U"), (0, u "Ljdk/internal/misc/Unsafe;"), (8, u "BIG_ENDIAN"), (0, u "Z"), (8, u "LOG2_BYTE_BIT_SIZE"), (4, u "LOG2_ARRAY_INT_INDEX_SCALE"), (54, u "JLA"), (0, u "Ljdk/internal/access/JavaLangAccess;"), (11, u "LOG2_ARRAY_BOOLEAN_INDEX_SCALE"), (9, u "LOG2_ARRAY_BYTE_INDEX_SCALE"), (5, u "LOG2_ARRAY_CHAR_INDEX_SCALE"), (5, u "LOG2_ARRAY_SHORT_INDEX_SCALE"), (18, u "LOG2_ARRAY_FLOAT_INDEX_SCALE"), (24, u "LOG2_ARRAY_DOUBLE_INDEX_SCALE"), (89, u "T_BOOLEAN"), (2, u "T_CHAR"), (1, u "T_FLOAT"), (1, u "T_DOUBLE"), (1, u "T_BYTE"), (1, u "T_SHORT"), (1, u "T_INT"), (1, u "T_LONG"), (1, u "SOFT_MAX_ARRAY_LENGTH")] 83

def k15m0 : Method := { name := "<init>", desc := "()V", sig := { parameters := [], returnType := none }, accessFlags := 2, code := none }
/-- jdk/internal/util/ArraysSupport -/
def k15 : Class := { plain "jdk/internal/util/ArraysSupport" (some 0) with
  accessFlags := 33
  interfaces := #[]
  cf := some (fileOf pool15 21 #[] #[{ accessFlags := 2, nameIndex := 9, descriptorIndex := 19, attributes := #[] }] 33 16 #[] #[{ accessFlags := 24, nameIndex := 28, descriptorIndex := 29, attributes := #[] }, { accessFlags := 26, nameIndex := 38, descriptorIndex := 39, attributes := #[] }, { accessFlags := 25, nameIndex := 121, descriptorIndex := 25, attributes := #[] }, { accessFlags := 25, nameIndex := 131, descriptorIndex := 25, attributes := #[] }, { accessFlags := 25, nameIndex := 137, descriptorIndex := 25, attributes := #[] }, { accessFlags := 25, nameIndex := 143, descriptorIndex := 25, attributes := #[] }, { accessFlags := 25, nameIndex := 53, descriptorIndex := 25, attributes := #[] }, { accessFlags := 25, nameIndex := 24, descriptorIndex := 25, attributes := #[] }, { accessFlags := 25, nameIndex := 162, descriptorIndex := 25, attributes := #[] }, { accessFlags := 25, nameIndex := 187, descriptorIndex := 25, attributes := #[] }, { accessFlags := 26, nameIndex := 48, descriptorIndex := 25, attributes := #[] }, { accessFlags := 25, nameIndex := 277, descriptorIndex := 25, attributes := #[] }, { accessFlags := 25, nameIndex := 280, descriptorIndex := 25, attributes := #[] }, { accessFlags := 25, nameIndex := 282, descriptorIndex := 25, attributes := #[] }, { accessFlags := 25, nameIndex := 284, descriptorIndex := 25, attributes := #[] }, { accessFlags := 25, nameIndex := 286, descriptorIndex := 25, attributes := #[] }, { accessFlags := 25, nameIndex := 288, descriptorIndex := 25, attributes := #[] }, { accessFlags := 25, nameIndex := 290, descriptorIndex := 25, attributes := #[] }, { accessFlags := 25, nameIndex := 292, descriptorIndex := 25, attributes := #[] }, { accessFlags := 26, nameIndex := 108, descriptorIndex := 109, attributes := #[] }, { accessFlags := 25, nameIndex := 294, descriptorIndex := 25, attributes := #[] }])
  fields := #[{ name := "U", type := (.object "jdk/internal/misc/Unsafe"), accessFlags := 24, slot := 0, constantValue := 0 }, { name := "BIG_ENDIAN", type := .boolean, accessFlags := 26, slot := 1, constantValue := 0 }, { name := "LOG2_ARRAY_BOOLEAN_INDEX_SCALE", type := .int, accessFlags := 25, slot := 2, constantValue := 0 }, { name := "LOG2_ARRAY_BYTE_INDEX_SCALE", type := .int, accessFlags := 25, slot := 3, constantValue := 0 }, { name := "LOG2_ARRAY_CHAR_INDEX_SCALE", type := .int, accessFlags := 25, slot := 4, constantValue := 0 }, { name := "LOG2_ARRAY_SHORT_INDEX_SCALE", type := .int, accessFlags := 25, slot := 5, constantValue := 0 }, { name := "LOG2_ARRAY_INT_INDEX_SCALE", type := .int, accessFlags := 25, slot := 6, constantValue := 0 }, { name := "LOG2_ARRAY_LONG_INDEX_SCALE", type := .int, accessFlags := 25, slot := 7, constantValue := 0 }, { name := "LOG2_ARRAY_FLOAT_INDEX_SCALE", type := .int, accessFlags := 25, slot := 8, constantValue := 0 }, { name := "LOG2_ARRAY_DOUBLE_INDEX_SCALE", type := .int, accessFlags := 25, slot := 9, constantValue := 0 }, { name := "LOG2_BYTE_BIT_SIZE", type := .int, accessFlags := 26, slot := 10, constantValue := 0 }, { name := "T_BOOLEAN", type := .int, accessFlags := 25, slot := 11, constantValue := 0 }, { name := "T_CHAR", type := .int, accessFlags := 25, slot := 12, constantValue := 0 }, { name := "T_FLOAT", type := .int, accessFlags := 25, slot := 13, constantValue := 0 }, { name := "T_DOUBLE", type := .int, accessFlags := 25, slot := 14, constantValue := 0 }, { name := "T_BYTE", type := .int, accessFlags := 25, slot := 15, constantValue := 0 }, { name := "T_SHORT", type := .int, accessFlags := 25, slot := 16, constantValue := 0 }, { name := "T_INT", type := .int, accessFlags := 25, slot := 17, constantValue := 0 }, { name := "T_LONG", type := .int, accessFlags := 25, slot := 18, constantValue := 0 }, { name := "JLA", type := (.object "jdk/internal/access/JavaLangAccess"), accessFlags := 26, slot := 19, constantValue := 0 }, { name := "SOFT_MAX_ARRAY_LENGTH", type := .int, accessFlags := 25, slot := 20, constantValue := 0 }]
  methods := #[k15m0]
  instanceTypes := #[]
  staticTypes := #[(.object "jdk/internal/misc/Unsafe"), .boolean, .int, .int, .int, .int, .int, .int, .int, .int, .int, .int, .int, .int, .int, .int, .int, .int, .int, (.object "jdk/internal/access/JavaLangAccess"), .int]
  resolved := Array.replicate 378 none
  statics := none }

def pool16 : Array CpInfo := pool [(1, u "java/lang/Cloneable"), (0, .class_ 1), (0, u "java/lang/Object"), (0, .class_ 3)] 3

/-- java/lang/Cloneable -/
def k16 : Class := { plain "java/lang/Cloneable" (some 0) with
  accessFlags := 1537
  interfaces := #[]
  cf := some (fileOf pool16 2 #[] #[] 1537 4 #[] #[])
  fields := #[]
  methods := #[]
  instanceTypes := #[]
  staticTypes := #[]
  resolved := Array.replicate 8 none
  statics := none }

/-- the primitive byte -/
def k17 : Class := { plain "byte" none with kind := .primitive 'B', accessFlags := 0x411 }
/-- [B -/
def k18 : Class := { plain "[B" (some 0) with kind := .array 17 .byte, interfaces := #[16, 2], accessFlags := 1041 }

/-- the primitive char -/
def k19 : Class := { plain "char" none with kind := .primitive 'C', accessFlags := 0x411 }
/-- [C -/
def k20 : Class := { plain "[C" (some 0) with kind := .array 19 .char, interfaces := #[16, 2], accessFlags := 1041 }

/-- the primitive int -/
def k21 : Class := { plain "int" none with kind := .primitive 'I', accessFlags := 0x411 }
/-- [I -/
def k22 : Class := { plain "[I" (some 0) with kind := .array 21 .int, interfaces := #[16, 2], accessFlags := 1041 }

def heap : Heap := #[{ cls := 7, slots := #[.long 0, .int 1, .null, .int 0, .null, .int 0, .int 0], vm := .statics 7 },
  { cls := 9, slots := #[.null, .null, .null], vm := .statics 9 },
  { cls := 10, slots := #[.int 0, .int 8, .int 0, .int 1], vm := .statics 10 }]
def classes : Array Class := #[k0, k1, k2, k3, k4, k5, k6, k7, k8, k9, k10, k11, k12, k13, k14, k15, k16, k17, k18, k19, k20, k21, k22]
def interned : List (Array UInt16 × Addr) := []
def slotsUsed : Nat := 14
def theMethod : MethodId := ⟨1, 1⟩
def args0 : Array Value := #[.int 5, .int 5, .int 5, .int 5, .int 5, .int 5]
def aboutOver (below : List Frame) : State where
  vm := { classes := classes, interned := interned.toArray }
  heap := heap
  slotsUsed := slotsUsed
  threads := #[{ frames := .invoking theMethod args0 :: below }]
def below0 : List Frame := [.native { method := ⟨0, 0⟩, args := #[] }]
def about1 : State := aboutOver below0
def p0 : Program := .bare "" "" ""
def e0 : Env := launch0.env 0 0 0
theorem w_frames : about1.frames = Frame.invoking theMethod args0 :: below0 := rfl
set_option maxRecDepth 65536 in
theorem w_args : argsFit about1.vm theMethod args0 = true := by decide +kernel
set_option maxRecDepth 65536 in
theorem w_heap : heapFits about1 = true := by decide +kernel
set_option maxRecDepth 65536 in
theorem w_runnable : about1.curStatus? = some .runnable := by decide +kernel
set_option maxRecDepth 65536 in
theorem w_alone : about1.alone = true := by decide +kernel
set_option maxRecDepth 65536 in
theorem w_named : about1.methodNamed? x = some theMethod := by decide +kernel
set_option maxRecDepth 65536 in
theorem w_hears : about1.hears theMethod below0 = true := by decide +kernel
set_option maxRecDepth 65536 in
theorem w_ripe : about1.ripe theMethod args0 below0 = true := by decide +kernel
theorem w_running : about1.status = .running := rfl
set_option maxRecDepth 65536 in
theorem w_room : about1.hasRoom e0.platform room_1 = true :=
  launch0.hasRoom_least _ room_1 (by decide +kernel) (by decide +kernel) (by decide +kernel) (by decide +kernel) (by decide +kernel) (by decide +kernel)
theorem allAtoms_all (ts : List Jvm.Cond) (a : Array Jvm.Value) (st : Jvm.State) : (allAtoms ts).before a st = ts.all (fun c => c.before a st) := by
  induction ts with
  | nil => rfl
  | cons c t ih =>
    show (Jvm.Cond.and c (allAtoms t)).before a st = _
    rw [Jvm.Cond.before_and, ih, List.all_cons]
def words1 : List Jvm.Cond := Jvm.Cond.code x code maxLocals ret :: tables_1
/-- a 'code' word, met by the world's own term for the bytes: nothing is compared byte by byte -/
theorem code_word {y : MethodName} {bytes : ByteArray} {mx : Nat} {rt : Option FieldType} {a : Array Value} {s : State} {m : MethodId} {meth : Method} {c : Code} (h1 : s.methodNamed? y = some m) (h2 : s.vm.method? m = some meth) (h3 : meth.code = some c) (h4 : c.code = bytes)
    (h5 : (c.maxLocals == mx && c.exceptionTable.isEmpty && decide (c.maxStack ≤ mostOperands) && decide (meth.sig.returnType = rt) && !meth.locks && decide (parseMethodDescriptor y.desc = some meth.sig)) = true) : (Jvm.Cond.code y bytes mx rt).before a s = true := by
  simp only [Bool.and_eq_true, beq_iff_eq, Bool.not_eq_true', decide_eq_true_eq] at h5
  obtain ⟨⟨⟨⟨⟨g1, g2⟩, g3⟩, g4⟩, g5⟩, g6⟩ := h5
  simp [Cond.before, Cond.holds, Cond.value, h1, h2, h3, h4, g1, g2, g3, g4, g5, g6]
def isCode : Jvm.Cond → Bool
  | .code _ _ _ _ => true
  | _ => false
theorem all_split {L : List Jvm.Cond} {P : Jvm.Cond → Bool} (h1 : L.all (fun c => isCode c || P c) = true) (h2 : ∀ c ∈ L.filter isCode, P c = true) : L.all P = true := by
  refine List.all_eq_true.mpr fun c hc => ?_
  have h := List.all_eq_true.mp h1 c hc
  rcases Bool.eq_false_or_eq_true (isCode c) with hi | hi
  · exact h2 c (List.mem_filter.mpr ⟨hc, hi⟩)
  · simpa [hi] using h
set_option maxRecDepth 65536 in
theorem w_c0 : (Jvm.Cond.code x code maxLocals ret).before args0 about1 = true := code_word (m := ⟨1, 1⟩) (meth := k1m1) (c := k1c1) (by decide +kernel) rfl rfl rfl (by decide +kernel)
set_option maxRecDepth 65536 in
theorem w_c1 : (Jvm.Cond.code ({ cls := "com/example/ruleweave/ruleweave/XmlDocumentsTrimPinLaw", name := "draw", desc := "(I)C" } : Jvm.MethodName) method_5_code (4 : Nat) (Option.some Jvm.ClassFile.FieldType.char)).before args0 about1 = true := code_word (m := ⟨1, 4⟩) (meth := k1m4) (c := k1c4) (by decide +kernel) rfl rfl rfl (by decide +kernel)
set_option maxRecDepth 65536 in
theorem w_c2 : (Jvm.Cond.code ({ cls := "com/example/ruleweave/ruleweave/XmlDocumentsTrimPinLaw", name := "make", desc := "(ICCCCC)Ljava/lang/String;" } : Jvm.MethodName) method_6_code (6 : Nat) (Option.some (Jvm.ClassFile.FieldType.object "java/lang/String"))).before args0 about1 = true := code_word (m := ⟨1, 5⟩) (meth := k1m5) (c := k1c5) (by decide +kernel) rfl rfl rfl (by decide +kernel)
set_option maxRecDepth 65536 in
theorem w_c3 : (Jvm.Cond.code ({ cls := "java/lang/String", name := "<init>", desc := "([C)V" } : Jvm.MethodName) jdk_42_method_3_code (2 : Nat) (Option.none : Option Jvm.ClassFile.FieldType)).before args0 about1 = true := code_word (m := ⟨7, 1⟩) (meth := k7m1) (c := k7c1) (by decide +kernel) rfl rfl rfl (by decide +kernel)
set_option maxRecDepth 65536 in
theorem w_c4 : (Jvm.Cond.code ({ cls := "java/lang/String", name := "<init>", desc := "([CIILjava/lang/Void;)V" } : Jvm.MethodName) jdk_42_method_149_code (6 : Nat) (Option.none : Option Jvm.ClassFile.FieldType)).before args0 about1 = true := code_word (m := ⟨7, 5⟩) (meth := k7m5) (c := k7c5) (by decide +kernel) rfl rfl rfl (by decide +kernel)
set_option maxRecDepth 65536 in
theorem w_c5 : (Jvm.Cond.code ({ cls := "java/lang/Object", name := "<init>", desc := "()V" } : Jvm.MethodName) object_method_1_code (1 : Nat) (Option.none : Option Jvm.ClassFile.FieldType)).before args0 about1 = true := code_word (m := ⟨0, 0⟩) (meth := k0m0) (c := k0c0) (by decide +kernel) rfl rfl rfl (by decide +kernel)
set_option maxRecDepth 65536 in
theorem w_c6 : (Jvm.Cond.code ({ cls := "com/example/ruleweave/ruleweave/XmlDocuments", name := "trim", desc := "(Ljava/lang/String;)Ljava/lang/String;" } : Jvm.MethodName) prog_64_method_21_code (3 : Nat) (Option.some (Jvm.ClassFile.FieldType.object "java/lang/String"))).before args0 about1 = true := code_word (m := ⟨8, 1⟩) (meth := k8m1) (c := k8c1) (by decide +kernel) rfl rfl rfl (by decide +kernel)
set_option maxRecDepth 65536 in
theorem w_c7 : (Jvm.Cond.code ({ cls := "java/lang/String", name := "length", desc := "()I" } : Jvm.MethodName) jdk_42_method_54_code (1 : Nat) (Option.some Jvm.ClassFile.FieldType.int)).before args0 about1 = true := code_word (m := ⟨7, 2⟩) (meth := k7m2) (c := k7c2) (by decide +kernel) rfl rfl rfl (by decide +kernel)
set_option maxRecDepth 65536 in
theorem w_c8 : (Jvm.Cond.code ({ cls := "java/lang/String", name := "coder", desc := "()B" } : Jvm.MethodName) jdk_42_method_152_code (1 : Nat) (Option.some Jvm.ClassFile.FieldType.byte)).before args0 about1 = true := code_word (m := ⟨7, 7⟩) (meth := k7m7) (c := k7c7) (by decide +kernel) rfl rfl rfl (by decide +kernel)
set_option maxRecDepth 65536 in
theorem w_c9 : (Jvm.Cond.code ({ cls := "java/lang/String", name := "substring", desc := "(II)Ljava/lang/String;" } : Jvm.MethodName) jdk_42_method_92_code (5 : Nat) (Option.some (Jvm.ClassFile.FieldType.object "java/lang/String"))).before args0 about1 = true := code_word (m := ⟨7, 4⟩) (meth := k7m4) (c := k7c4) (by decide +kernel) rfl rfl rfl (by decide +kernel)
set_option maxRecDepth 65536 in
theorem w_c10 : (Jvm.Cond.code ({ cls := "java/lang/String", name := "checkBoundsBeginEnd", desc := "(III)V" } : Jvm.MethodName) jdk_42_method_158_code (3 : Nat) (Option.none : Option Jvm.ClassFile.FieldType)).before args0 about1 = true := code_word (m := ⟨7, 11⟩) (meth := k7m11) (c := k7c11) (by decide +kernel) rfl rfl rfl (by decide +kernel)
set_option maxRecDepth 65536 in
theorem w_c11 : (Jvm.Cond.code ({ cls := "jdk/internal/util/Preconditions", name := "checkFromToIndex", desc := "(IIILjava/util/function/BiFunction;)I" } : Jvm.MethodName) jdk_41_method_12_code (4 : Nat) (Option.some Jvm.ClassFile.FieldType.int)).before args0 about1 = true := code_word (m := ⟨9, 2⟩) (meth := k9m2) (c := k9c2) (by decide +kernel) rfl rfl rfl (by decide +kernel)
set_option maxRecDepth 65536 in
theorem w_c12 : (Jvm.Cond.code ({ cls := "com/example/ruleweave/ruleweave/XmlDocumentsTrimPinLaw", name := "at", desc := "(Ljava/lang/String;I[CI)Z" } : Jvm.MethodName) method_3_code (4 : Nat) (Option.some Jvm.ClassFile.FieldType.boolean)).before args0 about1 = true := code_word (m := ⟨1, 2⟩) (meth := k1m2) (c := k1c2) (by decide +kernel) rfl rfl rfl (by decide +kernel)
set_option maxRecDepth 65536 in
theorem w_c13 : (Jvm.Cond.code ({ cls := "java/lang/StringUTF16", name := "compress", desc := "([CII)[B" } : Jvm.MethodName) jdk_52_method_16_code (6 : Nat) (Option.some (Jvm.ClassFile.FieldType.array Jvm.ClassFile.FieldType.byte))).before args0 about1 = true := code_word (m := ⟨10, 8⟩) (meth := k10m8) (c := k10c8) (by decide +kernel) rfl rfl rfl (by decide +kernel)
set_option maxRecDepth 65536 in
theorem w_c14 : (Jvm.Cond.code ({ cls := "java/lang/StringUTF16", name := "compress", desc := "([CI[BII)I" } : Jvm.MethodName) jdk_52_method_21_code (7 : Nat) (Option.some Jvm.ClassFile.FieldType.int)).before args0 about1 = true := code_word (m := ⟨10, 10⟩) (meth := k10m10) (c := k10c10) (by decide +kernel) rfl rfl rfl (by decide +kernel)
set_option maxRecDepth 65536 in
theorem w_c15 : (Jvm.Cond.code ({ cls := "java/lang/StringUTF16", name := "coderFromArrayLen", desc := "([BI)B" } : Jvm.MethodName) jdk_52_method_15_code (2 : Nat) (Option.some Jvm.ClassFile.FieldType.byte)).before args0 about1 = true := code_word (m := ⟨10, 7⟩) (meth := k10m7) (c := k10c7) (by decide +kernel) rfl rfl rfl (by decide +kernel)
set_option maxRecDepth 65536 in
theorem w_c16 : (Jvm.Cond.code ({ cls := "java/lang/String", name := "charAt", desc := "(I)C" } : Jvm.MethodName) jdk_42_method_56_code (2 : Nat) (Option.some Jvm.ClassFile.FieldType.char)).before args0 about1 = true := code_word (m := ⟨7, 3⟩) (meth := k7m3) (c := k7c3) (by decide +kernel) rfl rfl rfl (by decide +kernel)
set_option maxRecDepth 65536 in
theorem w_c17 : (Jvm.Cond.code ({ cls := "java/lang/String", name := "isLatin1", desc := "()Z" } : Jvm.MethodName) jdk_42_method_154_code (1 : Nat) (Option.some Jvm.ClassFile.FieldType.boolean)).before args0 about1 = true := code_word (m := ⟨7, 8⟩) (meth := k7m8) (c := k7c8) (by decide +kernel) rfl rfl rfl (by decide +kernel)
set_option maxRecDepth 65536 in
theorem w_c18 : (Jvm.Cond.code ({ cls := "java/lang/StringLatin1", name := "charAt", desc := "([BI)C" } : Jvm.MethodName) jdk_43_method_2_code (2 : Nat) (Option.some Jvm.ClassFile.FieldType.char)).before args0 about1 = true := code_word (m := ⟨11, 1⟩) (meth := k11m1) (c := k11c1) (by decide +kernel) rfl rfl rfl (by decide +kernel)
set_option maxRecDepth 65536 in
theorem w_c19 : (Jvm.Cond.code ({ cls := "java/lang/String", name := "checkIndex", desc := "(II)V" } : Jvm.MethodName) jdk_42_method_155_code (2 : Nat) (Option.none : Option Jvm.ClassFile.FieldType)).before args0 about1 = true := code_word (m := ⟨7, 9⟩) (meth := k7m9) (c := k7c9) (by decide +kernel) rfl rfl rfl (by decide +kernel)
set_option maxRecDepth 65536 in
theorem w_c20 : (Jvm.Cond.code ({ cls := "jdk/internal/util/Preconditions", name := "checkIndex", desc := "(IILjava/util/function/BiFunction;)I" } : Jvm.MethodName) jdk_41_method_11_code (3 : Nat) (Option.some Jvm.ClassFile.FieldType.int)).before args0 about1 = true := code_word (m := ⟨9, 1⟩) (meth := k9m1) (c := k9c1) (by decide +kernel) rfl rfl rfl (by decide +kernel)
set_option maxRecDepth 65536 in
theorem w_c21 : (Jvm.Cond.code ({ cls := "com/example/ruleweave/ruleweave/XmlDocuments", name := "isXmlSpace", desc := "(C)Z" } : Jvm.MethodName) prog_64_method_23_code (1 : Nat) (Option.some Jvm.ClassFile.FieldType.boolean)).before args0 about1 = true := code_word (m := ⟨8, 2⟩) (meth := k8m2) (c := k8c2) (by decide +kernel) rfl rfl rfl (by decide +kernel)
set_option maxRecDepth 65536 in
theorem w_c22 : (Jvm.Cond.code ({ cls := "java/lang/StringLatin1", name := "newString", desc := "([BII)Ljava/lang/String;" } : Jvm.MethodName) jdk_43_method_47_code (3 : Nat) (Option.some (Jvm.ClassFile.FieldType.object "java/lang/String"))).before args0 about1 = true := code_word (m := ⟨11, 2⟩) (meth := k11m2) (c := k11c2) (by decide +kernel) rfl rfl rfl (by decide +kernel)
set_option maxRecDepth 65536 in
theorem w_c23 : (Jvm.Cond.code ({ cls := "java/util/Arrays", name := "copyOfRange", desc := "([BII)[B" } : Jvm.MethodName) jdk_65_method_132_code (3 : Nat) (Option.some (Jvm.ClassFile.FieldType.array Jvm.ClassFile.FieldType.byte))).before args0 about1 = true := code_word (m := ⟨12, 2⟩) (meth := k12m2) (c := k12c2) (by decide +kernel) rfl rfl rfl (by decide +kernel)
set_option maxRecDepth 65536 in
theorem w_c24 : (Jvm.Cond.code ({ cls := "java/util/Arrays", name := "copyOfRangeByte", desc := "([BII)[B" } : Jvm.MethodName) jdk_65_method_133_code (5 : Nat) (Option.some (Jvm.ClassFile.FieldType.array Jvm.ClassFile.FieldType.byte))).before args0 about1 = true := code_word (m := ⟨12, 3⟩) (meth := k12m3) (c := k12c3) (by decide +kernel) rfl rfl rfl (by decide +kernel)
set_option maxRecDepth 65536 in
theorem w_c25 : (Jvm.Cond.code ({ cls := "java/util/Arrays", name := "checkLength", desc := "(II)V" } : Jvm.MethodName) jdk_65_method_131_code (2 : Nat) (Option.none : Option Jvm.ClassFile.FieldType)).before args0 about1 = true := code_word (m := ⟨12, 1⟩) (meth := k12m1) (c := k12c1) (by decide +kernel) rfl rfl rfl (by decide +kernel)
set_option maxRecDepth 65536 in
theorem w_c26 : (Jvm.Cond.code ({ cls := "java/lang/Math", name := "min", desc := "(II)I" } : Jvm.MethodName) jdk_29_method_69_code (2 : Nat) (Option.some Jvm.ClassFile.FieldType.int)).before args0 about1 = true := code_word (m := ⟨13, 1⟩) (meth := k13m1) (c := k13c1) (by decide +kernel) rfl rfl rfl (by decide +kernel)
set_option maxRecDepth 65536 in
theorem w_c27 : (Jvm.Cond.code ({ cls := "java/lang/String", name := "<init>", desc := "([BB)V" } : Jvm.MethodName) jdk_42_method_151_code (3 : Nat) (Option.none : Option Jvm.ClassFile.FieldType)).before args0 about1 = true := code_word (m := ⟨7, 6⟩) (meth := k7m6) (c := k7c6) (by decide +kernel) rfl rfl rfl (by decide +kernel)
set_option maxRecDepth 65536 in
theorem w_c28 : (Jvm.Cond.code ({ cls := "com/example/ruleweave/ruleweave/XmlDocumentsTrimPinLaw", name := "white", desc := "(C)Z" } : Jvm.MethodName) method_4_code (1 : Nat) (Option.some Jvm.ClassFile.FieldType.boolean)).before args0 about1 = true := code_word (m := ⟨1, 3⟩) (meth := k1m3) (c := k1c3) (by decide +kernel) rfl rfl rfl (by decide +kernel)
set_option maxRecDepth 65536 in
theorem w_c29 : (Jvm.Cond.code ({ cls := "java/lang/StringUTF16", name := "toBytes", desc := "([CII)[B" } : Jvm.MethodName) jdk_52_method_14_code (5 : Nat) (Option.some (Jvm.ClassFile.FieldType.array Jvm.ClassFile.FieldType.byte))).before args0 about1 = true := code_word (m := ⟨10, 6⟩) (meth := k10m6) (c := k10c6) (by decide +kernel) rfl rfl rfl (by decide +kernel)
set_option maxRecDepth 65536 in
theorem w_c30 : (Jvm.Cond.code ({ cls := "java/lang/StringUTF16", name := "newBytesFor", desc := "(I)[B" } : Jvm.MethodName) jdk_52_method_2_code (1 : Nat) (Option.some (Jvm.ClassFile.FieldType.array Jvm.ClassFile.FieldType.byte))).before args0 about1 = true := code_word (m := ⟨10, 1⟩) (meth := k10m1) (c := k10c1) (by decide +kernel) rfl rfl rfl (by decide +kernel)
set_option maxRecDepth 65536 in
theorem w_c31 : (Jvm.Cond.code ({ cls := "java/lang/StringUTF16", name := "newBytesLength", desc := "(I)I" } : Jvm.MethodName) jdk_52_method_3_code (1 : Nat) (Option.some Jvm.ClassFile.FieldType.int)).before args0 about1 = true := code_word (m := ⟨10, 2⟩) (meth := k10m2) (c := k10c2) (by decide +kernel) rfl rfl rfl (by decide +kernel)
set_option maxRecDepth 65536 in
theorem w_c32 : (Jvm.Cond.code ({ cls := "java/lang/StringUTF16", name := "putChar", desc := "([BII)V" } : Jvm.MethodName) jdk_52_method_4_code (3 : Nat) (Option.none : Option Jvm.ClassFile.FieldType)).before args0 about1 = true := code_word (m := ⟨10, 3⟩) (meth := k10m3) (c := k10c3) (by decide +kernel) rfl rfl rfl (by decide +kernel)
set_option maxRecDepth 65536 in
theorem w_c33 : (Jvm.Cond.code ({ cls := "java/lang/StringUTF16", name := "getChar", desc := "([BI)C" } : Jvm.MethodName) jdk_52_method_5_code (2 : Nat) (Option.some Jvm.ClassFile.FieldType.char)).before args0 about1 = true := code_word (m := ⟨10, 4⟩) (meth := k10m4) (c := k10c4) (by decide +kernel) rfl rfl rfl (by decide +kernel)
set_option maxRecDepth 65536 in
theorem w_c34 : (Jvm.Cond.code ({ cls := "java/lang/StringUTF16", name := "charAt", desc := "([BI)C" } : Jvm.MethodName) jdk_52_method_83_code (2 : Nat) (Option.some Jvm.ClassFile.FieldType.char)).before args0 about1 = true := code_word (m := ⟨10, 13⟩) (meth := k10m13) (c := k10c13) (by decide +kernel) rfl rfl rfl (by decide +kernel)
set_option maxRecDepth 65536 in
theorem w_c35 : (Jvm.Cond.code ({ cls := "java/lang/StringUTF16", name := "checkIndex", desc := "(I[B)V" } : Jvm.MethodName) jdk_52_method_91_code (2 : Nat) (Option.none : Option Jvm.ClassFile.FieldType)).before args0 about1 = true := code_word (m := ⟨10, 14⟩) (meth := k10m14) (c := k10c14) (by decide +kernel) rfl rfl rfl (by decide +kernel)
set_option maxRecDepth 65536 in
theorem w_c36 : (Jvm.Cond.code ({ cls := "java/lang/StringUTF16", name := "length", desc := "([B)I" } : Jvm.MethodName) jdk_52_method_6_code (1 : Nat) (Option.some Jvm.ClassFile.FieldType.int)).before args0 about1 = true := code_word (m := ⟨10, 5⟩) (meth := k10m5) (c := k10c5) (by decide +kernel) rfl rfl rfl (by decide +kernel)
set_option maxRecDepth 65536 in
theorem w_c37 : (Jvm.Cond.code ({ cls := "java/lang/StringUTF16", name := "newString", desc := "([BII)Ljava/lang/String;" } : Jvm.MethodName) jdk_52_method_69_code (5 : Nat) (Option.some (Jvm.ClassFile.FieldType.object "java/lang/String"))).before args0 about1 = true := code_word (m := ⟨10, 12⟩) (meth := k10m12) (c := k10c12) (by decide +kernel) rfl rfl rfl (by decide +kernel)
set_option maxRecDepth 65536 in
theorem w_c38 : (Jvm.Cond.code ({ cls := "java/lang/StringUTF16", name := "compress", desc := "([BII)[B" } : Jvm.MethodName) jdk_52_method_17_code (6 : Nat) (Option.some (Jvm.ClassFile.FieldType.array Jvm.ClassFile.FieldType.byte))).before args0 about1 = true := code_word (m := ⟨10, 9⟩) (meth := k10m9) (c := k10c9) (by decide +kernel) rfl rfl rfl (by decide +kernel)
set_option maxRecDepth 65536 in
theorem w_c39 : (Jvm.Cond.code ({ cls := "java/lang/StringUTF16", name := "compress", desc := "([BI[BII)I" } : Jvm.MethodName) jdk_52_method_22_code (7 : Nat) (Option.some Jvm.ClassFile.FieldType.int)).before args0 about1 = true := code_word (m := ⟨10, 11⟩) (meth := k10m11) (c := k10c11) (by decide +kernel) rfl rfl rfl (by decide +kernel)
set_option maxRecDepth 65536 in
theorem w_c40 : (Jvm.Cond.code ({ cls := "java/lang/StringUTF16", name := "checkBoundsOffCount", desc := "(II[B)V" } : Jvm.MethodName) jdk_52_method_94_code (3 : Nat) (Option.none : Option Jvm.ClassFile.FieldType)).before args0 about1 = true := code_word (m := ⟨10, 15⟩) (meth := k10m15) (c := k10c15) (by decide +kernel) rfl rfl rfl (by decide +kernel)
set_option maxRecDepth 65536 in
theorem w_c41 : (Jvm.Cond.code ({ cls := "java/lang/String", name := "checkBoundsOffCount", desc := "(III)I" } : Jvm.MethodName) jdk_42_method_157_code (3 : Nat) (Option.some Jvm.ClassFile.FieldType.int)).before args0 about1 = true := code_word (m := ⟨7, 10⟩) (meth := k7m10) (c := k7c10) (by decide +kernel) rfl rfl rfl (by decide +kernel)
set_option maxRecDepth 65536 in
theorem w_c42 : (Jvm.Cond.code ({ cls := "jdk/internal/util/Preconditions", name := "checkFromIndexSize", desc := "(IIILjava/util/function/BiFunction;)I" } : Jvm.MethodName) jdk_41_method_13_code (4 : Nat) (Option.some Jvm.ClassFile.FieldType.int)).before args0 about1 = true := code_word (m := ⟨9, 3⟩) (meth := k9m3) (c := k9c3) (by decide +kernel) rfl rfl rfl (by decide +kernel)
def codes1 : List Jvm.Cond := [Jvm.Cond.code x code maxLocals ret, Jvm.Cond.code ({ cls := "com/example/ruleweave/ruleweave/XmlDocumentsTrimPinLaw", name := "draw", desc := "(I)C" } : Jvm.MethodName) method_5_code (4 : Nat) (Option.some Jvm.ClassFile.FieldType.char), Jvm.Cond.code ({ cls := "com/example/ruleweave/ruleweave/XmlDocumentsTrimPinLaw", name := "make", desc := "(ICCCCC)Ljava/lang/String;" } : Jvm.MethodName) method_6_code (6 : Nat) (Option.some (Jvm.ClassFile.FieldType.object "java/lang/String")), Jvm.Cond.code ({ cls := "java/lang/String", name := "<init>", desc := "([C)V" } : Jvm.MethodName) jdk_42_method_3_code (2 : Nat) (Option.none : Option Jvm.ClassFile.FieldType), Jvm.Cond.code ({ cls := "java/lang/String", name := "<init>", desc := "([CIILjava/lang/Void;)V" } : Jvm.MethodName) jdk_42_method_149_code (6 : Nat) (Option.none : Option Jvm.ClassFile.FieldType), Jvm.Cond.code ({ cls := "java/lang/Object", name := "<init>", desc := "()V" } : Jvm.MethodName) object_method_1_code (1 : Nat) (Option.none : Option Jvm.ClassFile.FieldType), Jvm.Cond.code ({ cls := "com/example/ruleweave/ruleweave/XmlDocuments", name := "trim", desc := "(Ljava/lang/String;)Ljava/lang/String;" } : Jvm.MethodName) prog_64_method_21_code (3 : Nat) (Option.some (Jvm.ClassFile.FieldType.object "java/lang/String")), Jvm.Cond.code ({ cls := "java/lang/String", name := "length", desc := "()I" } : Jvm.MethodName) jdk_42_method_54_code (1 : Nat) (Option.some Jvm.ClassFile.FieldType.int), Jvm.Cond.code ({ cls := "java/lang/String", name := "coder", desc := "()B" } : Jvm.MethodName) jdk_42_method_152_code (1 : Nat) (Option.some Jvm.ClassFile.FieldType.byte), Jvm.Cond.code ({ cls := "java/lang/String", name := "substring", desc := "(II)Ljava/lang/String;" } : Jvm.MethodName) jdk_42_method_92_code (5 : Nat) (Option.some (Jvm.ClassFile.FieldType.object "java/lang/String")), Jvm.Cond.code ({ cls := "java/lang/String", name := "checkBoundsBeginEnd", desc := "(III)V" } : Jvm.MethodName) jdk_42_method_158_code (3 : Nat) (Option.none : Option Jvm.ClassFile.FieldType), Jvm.Cond.code ({ cls := "jdk/internal/util/Preconditions", name := "checkFromToIndex", desc := "(IIILjava/util/function/BiFunction;)I" } : Jvm.MethodName) jdk_41_method_12_code (4 : Nat) (Option.some Jvm.ClassFile.FieldType.int), Jvm.Cond.code ({ cls := "com/example/ruleweave/ruleweave/XmlDocumentsTrimPinLaw", name := "at", desc := "(Ljava/lang/String;I[CI)Z" } : Jvm.MethodName) method_3_code (4 : Nat) (Option.some Jvm.ClassFile.FieldType.boolean), Jvm.Cond.code ({ cls := "java/lang/StringUTF16", name := "compress", desc := "([CII)[B" } : Jvm.MethodName) jdk_52_method_16_code (6 : Nat) (Option.some (Jvm.ClassFile.FieldType.array Jvm.ClassFile.FieldType.byte)), Jvm.Cond.code ({ cls := "java/lang/StringUTF16", name := "compress", desc := "([CI[BII)I" } : Jvm.MethodName) jdk_52_method_21_code (7 : Nat) (Option.some Jvm.ClassFile.FieldType.int), Jvm.Cond.code ({ cls := "java/lang/StringUTF16", name := "coderFromArrayLen", desc := "([BI)B" } : Jvm.MethodName) jdk_52_method_15_code (2 : Nat) (Option.some Jvm.ClassFile.FieldType.byte), Jvm.Cond.code ({ cls := "java/lang/String", name := "charAt", desc := "(I)C" } : Jvm.MethodName) jdk_42_method_56_code (2 : Nat) (Option.some Jvm.ClassFile.FieldType.char), Jvm.Cond.code ({ cls := "java/lang/String", name := "isLatin1", desc := "()Z" } : Jvm.MethodName) jdk_42_method_154_code (1 : Nat) (Option.some Jvm.ClassFile.FieldType.boolean), Jvm.Cond.code ({ cls := "java/lang/StringLatin1", name := "charAt", desc := "([BI)C" } : Jvm.MethodName) jdk_43_method_2_code (2 : Nat) (Option.some Jvm.ClassFile.FieldType.char), Jvm.Cond.code ({ cls := "java/lang/String", name := "checkIndex", desc := "(II)V" } : Jvm.MethodName) jdk_42_method_155_code (2 : Nat) (Option.none : Option Jvm.ClassFile.FieldType), Jvm.Cond.code ({ cls := "jdk/internal/util/Preconditions", name := "checkIndex", desc := "(IILjava/util/function/BiFunction;)I" } : Jvm.MethodName) jdk_41_method_11_code (3 : Nat) (Option.some Jvm.ClassFile.FieldType.int), Jvm.Cond.code ({ cls := "com/example/ruleweave/ruleweave/XmlDocuments", name := "isXmlSpace", desc := "(C)Z" } : Jvm.MethodName) prog_64_method_23_code (1 : Nat) (Option.some Jvm.ClassFile.FieldType.boolean), Jvm.Cond.code ({ cls := "java/lang/StringLatin1", name := "newString", desc := "([BII)Ljava/lang/String;" } : Jvm.MethodName) jdk_43_method_47_code (3 : Nat) (Option.some (Jvm.ClassFile.FieldType.object "java/lang/String")), Jvm.Cond.code ({ cls := "java/util/Arrays", name := "copyOfRange", desc := "([BII)[B" } : Jvm.MethodName) jdk_65_method_132_code (3 : Nat) (Option.some (Jvm.ClassFile.FieldType.array Jvm.ClassFile.FieldType.byte)), Jvm.Cond.code ({ cls := "java/util/Arrays", name := "copyOfRangeByte", desc := "([BII)[B" } : Jvm.MethodName) jdk_65_method_133_code (5 : Nat) (Option.some (Jvm.ClassFile.FieldType.array Jvm.ClassFile.FieldType.byte)), Jvm.Cond.code ({ cls := "java/util/Arrays", name := "checkLength", desc := "(II)V" } : Jvm.MethodName) jdk_65_method_131_code (2 : Nat) (Option.none : Option Jvm.ClassFile.FieldType), Jvm.Cond.code ({ cls := "java/lang/Math", name := "min", desc := "(II)I" } : Jvm.MethodName) jdk_29_method_69_code (2 : Nat) (Option.some Jvm.ClassFile.FieldType.int), Jvm.Cond.code ({ cls := "java/lang/String", name := "<init>", desc := "([BB)V" } : Jvm.MethodName) jdk_42_method_151_code (3 : Nat) (Option.none : Option Jvm.ClassFile.FieldType), Jvm.Cond.code ({ cls := "com/example/ruleweave/ruleweave/XmlDocumentsTrimPinLaw", name := "white", desc := "(C)Z" } : Jvm.MethodName) method_4_code (1 : Nat) (Option.some Jvm.ClassFile.FieldType.boolean), Jvm.Cond.code ({ cls := "java/lang/StringUTF16", name := "toBytes", desc := "([CII)[B" } : Jvm.MethodName) jdk_52_method_14_code (5 : Nat) (Option.some (Jvm.ClassFile.FieldType.array Jvm.ClassFile.FieldType.byte)), Jvm.Cond.code ({ cls := "java/lang/StringUTF16", name := "newBytesFor", desc := "(I)[B" } : Jvm.MethodName) jdk_52_method_2_code (1 : Nat) (Option.some (Jvm.ClassFile.FieldType.array Jvm.ClassFile.FieldType.byte)), Jvm.Cond.code ({ cls := "java/lang/StringUTF16", name := "newBytesLength", desc := "(I)I" } : Jvm.MethodName) jdk_52_method_3_code (1 : Nat) (Option.some Jvm.ClassFile.FieldType.int), Jvm.Cond.code ({ cls := "java/lang/StringUTF16", name := "putChar", desc := "([BII)V" } : Jvm.MethodName) jdk_52_method_4_code (3 : Nat) (Option.none : Option Jvm.ClassFile.FieldType), Jvm.Cond.code ({ cls := "java/lang/StringUTF16", name := "getChar", desc := "([BI)C" } : Jvm.MethodName) jdk_52_method_5_code (2 : Nat) (Option.some Jvm.ClassFile.FieldType.char), Jvm.Cond.code ({ cls := "java/lang/StringUTF16", name := "charAt", desc := "([BI)C" } : Jvm.MethodName) jdk_52_method_83_code (2 : Nat) (Option.some Jvm.ClassFile.FieldType.char), Jvm.Cond.code ({ cls := "java/lang/StringUTF16", name := "checkIndex", desc := "(I[B)V" } : Jvm.MethodName) jdk_52_method_91_code (2 : Nat) (Option.none : Option Jvm.ClassFile.FieldType), Jvm.Cond.code ({ cls := "java/lang/StringUTF16", name := "length", desc := "([B)I" } : Jvm.MethodName) jdk_52_method_6_code (1 : Nat) (Option.some Jvm.ClassFile.FieldType.int), Jvm.Cond.code ({ cls := "java/lang/StringUTF16", name := "newString", desc := "([BII)Ljava/lang/String;" } : Jvm.MethodName) jdk_52_method_69_code (5 : Nat) (Option.some (Jvm.ClassFile.FieldType.object "java/lang/String")), Jvm.Cond.code ({ cls := "java/lang/StringUTF16", name := "compress", desc := "([BII)[B" } : Jvm.MethodName) jdk_52_method_17_code (6 : Nat) (Option.some (Jvm.ClassFile.FieldType.array Jvm.ClassFile.FieldType.byte)), Jvm.Cond.code ({ cls := "java/lang/StringUTF16", name := "compress", desc := "([BI[BII)I" } : Jvm.MethodName) jdk_52_method_22_code (7 : Nat) (Option.some Jvm.ClassFile.FieldType.int), Jvm.Cond.code ({ cls := "java/lang/StringUTF16", name := "checkBoundsOffCount", desc := "(II[B)V" } : Jvm.MethodName) jdk_52_method_94_code (3 : Nat) (Option.none : Option Jvm.ClassFile.FieldType), Jvm.Cond.code ({ cls := "java/lang/String", name := "checkBoundsOffCount", desc := "(III)I" } : Jvm.MethodName) jdk_42_method_157_code (3 : Nat) (Option.some Jvm.ClassFile.FieldType.int), Jvm.Cond.code ({ cls := "jdk/internal/util/Preconditions", name := "checkFromIndexSize", desc := "(IIILjava/util/function/BiFunction;)I" } : Jvm.MethodName) jdk_41_method_13_code (4 : Nat) (Option.some Jvm.ClassFile.FieldType.int)]
set_option maxRecDepth 65536 in
theorem codes_eq : words1.filter isCode = codes1 := rfl
theorem w_codes : ∀ c ∈ words1.filter isCode, c.before args0 about1 = true := by
  rw [codes_eq]
  intro c hc
  simp only [codes1, List.mem_cons, List.not_mem_nil, or_false] at hc
  rcases hc with rfl | rfl | rfl | rfl | rfl | rfl | rfl | rfl | rfl | rfl | rfl | rfl | rfl | rfl | rfl | rfl | rfl | rfl | rfl | rfl | rfl | rfl | rfl | rfl | rfl | rfl | rfl | rfl | rfl | rfl | rfl | rfl | rfl | rfl | rfl | rfl | rfl | rfl | rfl | rfl | rfl | rfl | rfl
  · exact w_c0
  · exact w_c1
  · exact w_c2
  · exact w_c3
  · exact w_c4
  · exact w_c5
  · exact w_c6
  · exact w_c7
  · exact w_c8
  · exact w_c9
  · exact w_c10
  · exact w_c11
  · exact w_c12
  · exact w_c13
  · exact w_c14
  · exact w_c15
  · exact w_c16
  · exact w_c17
  · exact w_c18
  · exact w_c19
  · exact w_c20
  · exact w_c21
  · exact w_c22
  · exact w_c23
  · exact w_c24
  · exact w_c25
  · exact w_c26
  · exact w_c27
  · exact w_c28
  · exact w_c29
  · exact w_c30
  · exact w_c31
  · exact w_c32
  · exact w_c33
  · exact w_c34
  · exact w_c35
  · exact w_c36
  · exact w_c37
  · exact w_c38
  · exact w_c39
  · exact w_c40
  · exact w_c41
  · exact w_c42
set_option maxRecDepth 65536 in
theorem w_t1 : (words1.take 24).all (fun c => isCode c || c.before args0 about1) = true := by decide +kernel
set_option maxRecDepth 65536 in
theorem w_t2 : ((words1.drop 24).take 24).all (fun c => isCode c || c.before args0 about1) = true := by decide +kernel
set_option maxRecDepth 65536 in
theorem w_t3 : (((words1.drop 24).drop 24).take 24).all (fun c => isCode c || c.before args0 about1) = true := by decide +kernel
set_option maxRecDepth 65536 in
theorem w_t4 : ((((words1.drop 24).drop 24).drop 24).take 24).all (fun c => isCode c || c.before args0 about1) = true := by decide +kernel
set_option maxRecDepth 65536 in
theorem w_t5 : (((((words1.drop 24).drop 24).drop 24).drop 24).take 24).all (fun c => isCode c || c.before args0 about1) = true := by decide +kernel
set_option maxRecDepth 65536 in
theorem w_t6 : ((((((words1.drop 24).drop 24).drop 24).drop 24).drop 24).take 24).all (fun c => isCode c || c.before args0 about1) = true := by decide +kernel
set_option maxRecDepth 65536 in
theorem w_t7 : (((((((words1.drop 24).drop 24).drop 24).drop 24).drop 24).drop 24).take 24).all (fun c => isCode c || c.before args0 about1) = true := by decide +kernel
set_option maxRecDepth 65536 in
theorem w_t8 : (((((((words1.drop 24).drop 24).drop 24).drop 24).drop 24).drop 24).drop 24).all (fun c => isCode c || c.before args0 about1) = true := by decide +kernel
theorem w_tables : (allAtoms (Jvm.Cond.code x code maxLocals ret :: tables_1)).before args0 about1 = true := by
  rw [allAtoms_all]
  show words1.all (fun c => c.before args0 about1) = true
  refine all_split ?_ w_codes
  rw [← List.take_append_drop 24 words1, List.all_append, w_t1, ← List.take_append_drop 24 (words1.drop 24), List.all_append, w_t2, ← List.take_append_drop 24 ((words1.drop 24).drop 24), List.all_append, w_t3, ← List.take_append_drop 24 (((words1.drop 24).drop 24).drop 24), List.all_append, w_t4, ← List.take_append_drop 24 ((((words1.drop 24).drop 24).drop 24).drop 24), List.all_append, w_t5, ← List.take_append_drop 24 (((((words1.drop 24).drop 24).drop 24).drop 24).drop 24), List.all_append, w_t6, ← List.take_append_drop 24 ((((((words1.drop 24).drop 24).drop 24).drop 24).drop 24).drop 24), List.all_append, w_t7, w_t8]
  rfl
set_option maxRecDepth 65536 in
theorem w_rest : rest_1_c.before args0 about1 = true := by decide +kernel
set_option maxRecDepth 65536 in
theorem w_case : (Jvm.Cond.and given_1 narrow_1).before args0 about1 = true := by decide +kernel
set_option maxRecDepth 65536 in
theorem w_consts : constsHeld consts_1 about1 := Jvm.Lit.constsHeldB_iff.mp (by decide +kernel)
theorem w_applies : (headSpec (Jvm.Cond.code x code maxLocals ret :: tables_1) room_1).applies x e0.platform about1 = true :=
  (Spec.applies_iff w_frames).mpr ⟨w_running, w_runnable, w_alone, w_named, w_hears, w_ripe, w_room, w_tables⟩
theorem atStart : AtStart classFile x code maxLocals ret World_1 tables_1 room_1 Calls_1 rest_1 Pre_1 launch0 p0 e0 about1 theMethod args0 below0 :=
  ⟨lists_1, trivial, launch0.admits_env _ _ _, launch0.least_env, fairChoices_fair.cas, fairChoices_fair.clock, w_frames, w_args, w_heap, w_applies, ⟨w_consts, trivial⟩, w_rest, w_case⟩
end start1
theorem witness_1 : WitnessClaimed_1 := ⟨start1.p0, start1.e0, start1.about1, start1.theMethod, start1.args0, start1.below0, start1.atStart⟩
end Jvm.Pilot.@@N@@
